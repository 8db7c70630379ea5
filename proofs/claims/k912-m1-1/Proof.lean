import JvmDerived
import JvmDerived.Pilot.@@N@@Statement
import JvmDerived.Pilot.@@N@@Code
set_option linter.unusedVariables false
set_option linter.unusedSimpArgs false
namespace Jvm.Pilot.@@N@@
open Jvm Jvm.ClassFile Sem Op Lib Jvm.Free Jvm.Stand Jvm.LawKit Jvm.RoadKit Bundle Jvm.Pilot.@@N@@.Jvm.D
section OwnKit
variable {p : Program} {l : Launch} {e : Env} {R : Room} {s : State} {m : MethodId} {args : Array Value} {below : List Frame} {meth : Method} {c : Code} {T T' : State} {locs : List Loc} {cells slots : Nat} {Z : State} {a0 : Array Value} {h : Heap}
def own_Fin (p : Program) (e : Env) (below : List Frame) (P : Outcome → State → Prop) (T : State) (g : JFrame) : Prop :=
  ∃ s₂ o, Steps p.tables e below (T.setTop g) s₂ ∧ s₂.status = .running ∧ Ended s₂ below o ∧ P o s₂
def own_P (s : State) (Q : Option Value → Heap → List Loc → Prop) (k n : Nat) (o : Outcome) (t : State) : Prop := ∃ v L, o = .returned v ∧ Q v t.heap L ∧ FrameEnd s o t L k n
theorem own_by {P : Outcome → State → Prop} {g g' : JFrame} (st : ∀ t, Steps p.tables e below (T'.setTop g') t → Steps p.tables e below (T.setTop g) t) (k : own_Fin p e below P T' g') : own_Fin p e below P T g := by
  obtain ⟨s₂, o, h1, h2⟩ := k
  exact ⟨s₂, o, st _ h1, h2⟩
theorem own_start {s₁ : State} {Q : Option Value → Heap → List Loc → Prop} {k n : Nat} {ml : Nat} {g : JFrame} (hef : entryFrame m args ml = g) (hk : own_Fin p e below (own_P s Q k n) s₁ g) :
    ∃ s₂ o, Steps p.tables e below (s₁.setTop (entryFrame m args ml)) s₂ ∧ s₂.status = .running ∧ Ended s₂ below o ∧ ∃ v L, o = .returned v ∧ Q v s₂.heap L ∧ FrameEnd s o s₂ L k n := by
  rw [hef]; exact hk
theorem own_end (X : Stand p l e R s m args below meth c T locs cells slots) {v : Option Value} (hv : meth.sig.returnType = none → v = none) (hlocks : meth.locks = false) {g : JFrame}
    (hret : ∀ {fs : List Frame}, (∀ (f : JFrame) (acts : List Action), f.method = m → f.locked = none → f.entered = [] → (doReturn e (T.setTop f) acts v).1 = T.setFrames fs) → Steps p.tables e below (T.setTop g) (T.setFrames fs))
    {Q : Option Value → Heap → List Loc → Prop} {k n : Nat} (hQ : Q v T.heap locs) (hk : cells ≤ k) (hn : slots ≤ n) : own_Fin p e below (own_P s Q k n) T g := by
  obtain ⟨fs, hr, hrun, hended, hW, hsame⟩ := X.leave hv hlocks
  exact ⟨_, _, hret hr, hrun, hended, _, _, rfl, hQ, ⟨_, rfl⟩, hW, hsame.mono hk hn⟩
theorem own_nf {C : String} {y : MethodName} (w : (Jvm.Cond.selects C y y).before a0 Z = true) : ∀ {s : State}, Z.Warmed39 s.vm → NotFace s y := fun hZ => notFace_of_selects (args := #[]) (mvT hZ w)
theorem own_callSB (X : Stand p l e R s m args below meth c T locs cells slots) (hx : p.tables.exec = Jvm.exec) (hZ : Z.Warmed39 s.vm) {own : String} {index : Nat} {y : MethodName} {bytes : ByteArray} {maxL W : Nat} {ret : Option FieldType} {kc ks : Nat} {as' : Array Value} {Q : Option Value → Heap → List Loc → Prop}
    (hown : s.vm.findClass own = some m.cls) (w1 : (Jvm.Cond.methodLink own index y).before a0 Z = true) (w2 : (Jvm.Cond.static y).before a0 Z = true) (w3 : (Jvm.Cond.initialized y.cls).before a0 Z = true) (w4 : (Jvm.Cond.code y bytes maxL ret).before a0 Z = true) (hy : y.cls ≠ "java/lang/invoke/MethodHandle" ∧ y.cls ≠ "java/lang/invoke/VarHandle")
    (hK : Back l R p e below s args y 3 W (fun A a => a = as' ∧ A.U.heap = h ∧ A.cells + kc ≤ R.cells ∧ A.slots + ks ≤ R.slots) (fun A _ v B => ∃ L, Q v B.U.heap L ∧ B.locs = A.locs ++ L ∧ B.cells = A.cells + kc ∧ B.slots = A.slots + ks))
    (eT : T.heap = h) {g : JFrame} (hg : g.method = m) (hsize : g.locals.size = c.maxLocals) {argsL rest : List Value} (hlen : ∀ sig, parseMethodDescriptor y.desc = some sig → argsL.length = sig.parameters.length)
    (hstack : g.stack = argsL.reverse ++ rest) (hW : 2 * g.monitorRoom + (rest.map fun v => v.category).sum ≤ W) (hdg : decode c.code g.pc = .ok (.invokestatic index, 3)) (has : argsL.toArray = as') (hc : cells + kc ≤ R.cells) (hs : slots + ks ≤ R.slots) {P : Outcome → State → Prop}
    (k : ∀ (v : Option Value) (T' : State) (L : List Loc), Stand p l e R s m args below meth c T' (locs ++ L) (cells + kc) (slots + ks) → Q v T'.heap L → own_Fin p e below P T' { g with pc := g.pc + 3, stack := v.toList ++ rest }) : own_Fin p e below P T g := by
  obtain ⟨v, _, ⟨U', L', k', n'⟩, -, X', ⟨Lc, hQ, l1, l2, l3⟩, st⟩ := Jvm.LawKit.callS X hx (y := y) hown (mvT hZ w1) (mvT hZ w2) (mvT hZ w3) (mvT hZ w4) hy hK hg hsize hlen hstack hW hdg (fun _ _ => ⟨has, eT, hc, hs⟩)
  dsimp only [Pt.U, Pt.locs, Pt.cells, Pt.slots] at X' l1 l2 l3 st hQ
  subst l1 l2 l3
  exact own_by st (k v U' Lc X' hQ)
theorem own_callS (X : Stand p l e R s m args below meth c T locs cells slots) (hx : p.tables.exec = Jvm.exec) (hZ : Z.Warmed39 s.vm) {own : String} {index : Nat} {y : MethodName} {bytes : ByteArray} {maxL W : Nat} {ret : Option FieldType} {rm : Room} {as' : Array Value} {Q : Option Value → Heap → List Loc → Prop}
    (hown : s.vm.findClass own = some m.cls) (w1 : (Jvm.Cond.methodLink own index y).before a0 Z = true) (w2 : (Jvm.Cond.static y).before a0 Z = true) (w3 : (Jvm.Cond.initialized y.cls).before a0 Z = true) (w4 : (Jvm.Cond.code y bytes maxL ret).before a0 Z = true) (hy : y.cls ≠ "java/lang/invoke/MethodHandle" ∧ y.cls ≠ "java/lang/invoke/VarHandle")
    (hM : MetFree l y (head1 [Jvm.Cond.code y bytes maxL ret] rm) (fun a U => a = as' ∧ Z.Warmed39 U.vm ∧ U.heap = h) (fun _ _ _ _ _ => True) (fun _ U o U' => ∃ v L, o = .returned v ∧ Q v U'.heap L ∧ FrameEnd U o U' L rm.cells rm.slots))
    (hf : rm.frames + 1 ≤ R.frames) (hl : W + (maxL + 11) + rm.locals ≤ R.locals) (eT : T.heap = h) {g : JFrame} (hg : g.method = m) (hsize : g.locals.size = c.maxLocals) {argsL rest : List Value} (hlen : ∀ sig, parseMethodDescriptor y.desc = some sig → argsL.length = sig.parameters.length)
    (hstack : g.stack = argsL.reverse ++ rest) (hW : 2 * g.monitorRoom + (rest.map fun v => v.category).sum ≤ W) (hdg : decode c.code g.pc = .ok (.invokestatic index, 3)) (has : argsL.toArray = as') (hc : cells + rm.cells ≤ R.cells) (hs : slots + rm.slots ≤ R.slots) {P : Outcome → State → Prop}
    (k : ∀ (v : Option Value) (T' : State) (L : List Loc), Stand p l e R s m args below meth c T' (locs ++ L) (cells + rm.cells) (slots + rm.slots) → Q v T'.heap L → own_Fin p e below P T' { g with pc := g.pc + 3, stack := v.toList ++ rest }) : own_Fin p e below P T g :=
  own_callSB X hx hZ hown w1 w2 w3 w4 hy (backOf (W := W) hM hZ w4 w3 hf hl) eT hg hsize hlen hstack hW hdg has hc hs k
theorem own_callIB (X : Stand p l e R s m args below meth c T locs cells slots) (hx : p.tables.exec = Jvm.exec) (hZ : Z.Warmed39 s.vm) {own : String} {index : Nat} {y : MethodName} {bytes : ByteArray} {maxL W : Nat} {kc ks : Nat} {as' : Array Value} {Q : Option Value → Heap → List Loc → Prop} (hin : y.name = "<init>")
    (hown : s.vm.findClass own = some m.cls) (w1 : (Jvm.Cond.methodLink own index y).before a0 Z = true) (w2 : (Jvm.Cond.instanceMethod y).before a0 Z = true) (w4 : (Jvm.Cond.code y bytes maxL none).before a0 Z = true) (hy : y.cls ≠ "java/lang/invoke/MethodHandle" ∧ y.cls ≠ "java/lang/invoke/VarHandle")
    (hK : Back l R p e below s args y 3 W (fun A a => a = as' ∧ A.U.heap = h ∧ A.cells + kc ≤ R.cells ∧ A.slots + ks ≤ R.slots) (fun A _ v B => ∃ L, Q v B.U.heap L ∧ B.locs = A.locs ++ L ∧ B.cells = A.cells + kc ∧ B.slots = A.slots + ks))
    (eT : T.heap = h) {g : JFrame} (hg : g.method = m) (hsize : g.locals.size = c.maxLocals) {a : Addr} {argsL rest : List Value} (hlen : ∀ sig, parseMethodDescriptor y.desc = some sig → argsL.length = sig.parameters.length)
    (hstack : g.stack = argsL.reverse ++ .ref a :: rest) (hW : 2 * g.monitorRoom + (rest.map fun v => v.category).sum ≤ W) (hdg : decode c.code g.pc = .ok (.invokespecial index, 3)) (has : (.ref a :: argsL).toArray = as') (hc : cells + kc ≤ R.cells) (hs : slots + ks ≤ R.slots) {P : Outcome → State → Prop}
    (k : ∀ (v : Option Value) (T' : State) (L : List Loc), Stand p l e R s m args below meth c T' (locs ++ L) (cells + kc) (slots + ks) → Q v T'.heap L → own_Fin p e below P T' { g with pc := g.pc + 3, stack := v.toList ++ rest }) : own_Fin p e below P T g := by
  obtain ⟨v, _, ⟨U', L', k', n'⟩, -, X', ⟨Lc, hQ, l1, l2, l3⟩, st⟩ := X.specialBack hx (y := y) hin hown (mvT hZ w1) (mvT hZ w2) (mvT hZ w4) hy hK hg hsize (Steps.refl _) (a := a) hlen hstack hW hdg (fun _ _ => ⟨has, eT, hc, hs⟩)
  dsimp only [Pt.U, Pt.locs, Pt.cells, Pt.slots] at X' l1 l2 l3 st hQ
  subst l1 l2 l3
  exact own_by (fun _ q => st.trans q) (k v U' Lc X' hQ)
theorem own_callI (X : Stand p l e R s m args below meth c T locs cells slots) (hx : p.tables.exec = Jvm.exec) (hZ : Z.Warmed39 s.vm) {own : String} {index : Nat} {y : MethodName} {bytes : ByteArray} {maxL W : Nat} {rm : Room} {as' : Array Value} {Q : Option Value → Heap → List Loc → Prop} (hin : y.name = "<init>")
    (hown : s.vm.findClass own = some m.cls) (w1 : (Jvm.Cond.methodLink own index y).before a0 Z = true) (w2 : (Jvm.Cond.instanceMethod y).before a0 Z = true) (w4 : (Jvm.Cond.code y bytes maxL none).before a0 Z = true) (w3 : (Jvm.Cond.initialized y.cls).before a0 Z = true) (hy : y.cls ≠ "java/lang/invoke/MethodHandle" ∧ y.cls ≠ "java/lang/invoke/VarHandle")
    (hM : MetFree l y (head1 [Jvm.Cond.code y bytes maxL none] rm) (fun a U => a = as' ∧ Z.Warmed39 U.vm ∧ U.heap = h) (fun _ _ _ _ _ => True) (fun _ U o U' => ∃ v L, o = .returned v ∧ Q v U'.heap L ∧ FrameEnd U o U' L rm.cells rm.slots))
    (hf : rm.frames + 1 ≤ R.frames) (hl : W + (maxL + 11) + rm.locals ≤ R.locals) (eT : T.heap = h) {g : JFrame} (hg : g.method = m) (hsize : g.locals.size = c.maxLocals) {a : Addr} {argsL rest : List Value} (hlen : ∀ sig, parseMethodDescriptor y.desc = some sig → argsL.length = sig.parameters.length)
    (hstack : g.stack = argsL.reverse ++ .ref a :: rest) (hW : 2 * g.monitorRoom + (rest.map fun v => v.category).sum ≤ W) (hdg : decode c.code g.pc = .ok (.invokespecial index, 3)) (has : (.ref a :: argsL).toArray = as') (hc : cells + rm.cells ≤ R.cells) (hs : slots + rm.slots ≤ R.slots) {P : Outcome → State → Prop}
    (k : ∀ (v : Option Value) (T' : State) (L : List Loc), Stand p l e R s m args below meth c T' (locs ++ L) (cells + rm.cells) (slots + rm.slots) → Q v T'.heap L → own_Fin p e below P T' { g with pc := g.pc + 3, stack := v.toList ++ rest }) : own_Fin p e below P T g :=
  own_callIB X hx hZ hin hown w1 w2 w4 hy (backOf (W := W) hM hZ w4 w3 hf hl) eT hg hsize hlen hstack hW hdg has hc hs k
theorem own_callVB (X : Stand p l e R s m args below meth c T locs cells slots) (hx : p.tables.exec = Jvm.exec) (hZ : Z.Warmed39 s.vm) {own C : String} {index : Nat} {y z : MethodName} {W : Nat} {kc ks : Nat} {as' : Array Value} {Q : Option Value → Heap → List Loc → Prop}
    (hown : s.vm.findClass own = some m.cls) (w1 : (Jvm.Cond.methodLink own index y).before a0 Z = true) (w2 : (Jvm.Cond.declares y).before a0 Z = true) (nf : ∀ {s : State}, Z.Warmed39 s.vm → NotFace s y) (w5 : (Jvm.Cond.selects C y z).before a0 Z = true) (w6 : (Jvm.Cond.instanceMethod z).before a0 Z = true) (hy : y.cls ≠ "java/lang/invoke/MethodHandle" ∧ y.cls ≠ "java/lang/invoke/VarHandle")
    {b : Addr} (E : Exa Z h b C)
    (hK : Back l R p e below s args z 3 W (fun A a => a = as' ∧ A.U.heap = h ∧ A.cells + kc ≤ R.cells ∧ A.slots + ks ≤ R.slots) (fun A _ v B => ∃ L, Q v B.U.heap L ∧ B.locs = A.locs ++ L ∧ B.cells = A.cells + kc ∧ B.slots = A.slots + ks))
    (eT : T.heap = h) {g : JFrame} (hg : g.method = m) (hsize : g.locals.size = c.maxLocals) {argsL rest : List Value} (hlen : ∀ sig, parseMethodDescriptor y.desc = some sig → argsL.length = sig.parameters.length)
    (hstack : g.stack = argsL.reverse ++ .ref b :: rest) (hW : 2 * g.monitorRoom + (rest.map fun v => v.category).sum ≤ W) (hdg : decode c.code g.pc = .ok (.invokevirtual index, 3)) (has : (.ref b :: argsL).toArray = as') (hc : cells + kc ≤ R.cells) (hs : slots + ks ≤ R.slots) {P : Outcome → State → Prop}
    (k : ∀ (v : Option Value) (T' : State) (L : List Loc), Stand p l e R s m args below meth c T' (locs ++ L) (cells + kc) (slots + ks) → Q v T'.heap L → own_Fin p e below P T' { g with pc := g.pc + 3, stack := v.toList ++ rest }) : own_Fin p e below P T g := by
  obtain ⟨cq, kq, qa, qb, qc⟩ := isOf hZ eT E
  obtain ⟨v, _, ⟨U', L', k', n'⟩, -, X', ⟨Lc, hQ, l1, l2, l3⟩, st⟩ := X.virtualBack hx (y := y) (z := z) hown (mvT hZ w1) (mvT hZ w2) (nf hZ) (mvT hZ w5) (mvT hZ w6) hy hK qa qc hg hsize (Steps.refl _) hlen hstack hW hdg (fun _ _ => ⟨has, eT, hc, hs⟩)
  dsimp only [Pt.U, Pt.locs, Pt.cells, Pt.slots] at X' l1 l2 l3 st hQ
  subst l1 l2 l3
  exact own_by (fun _ q => st.trans q) (k v U' Lc X' hQ)
theorem own_callV (X : Stand p l e R s m args below meth c T locs cells slots) (hx : p.tables.exec = Jvm.exec) (hZ : Z.Warmed39 s.vm) {own C : String} {index : Nat} {y z : MethodName} {bytes : ByteArray} {maxL W : Nat} {ret : Option FieldType} {rm : Room} {as' : Array Value} {Q : Option Value → Heap → List Loc → Prop}
    (hown : s.vm.findClass own = some m.cls) (w1 : (Jvm.Cond.methodLink own index y).before a0 Z = true) (w2 : (Jvm.Cond.declares y).before a0 Z = true) (nf : ∀ {s : State}, Z.Warmed39 s.vm → NotFace s y) (w5 : (Jvm.Cond.selects C y z).before a0 Z = true) (w6 : (Jvm.Cond.instanceMethod z).before a0 Z = true) (w4 : (Jvm.Cond.code z bytes maxL ret).before a0 Z = true) (w3 : (Jvm.Cond.initialized z.cls).before a0 Z = true) (hy : y.cls ≠ "java/lang/invoke/MethodHandle" ∧ y.cls ≠ "java/lang/invoke/VarHandle")
    {b : Addr} (E : Exa Z h b C)
    (hM : MetFree l z (head1 [Jvm.Cond.code z bytes maxL ret] rm) (fun a U => a = as' ∧ Z.Warmed39 U.vm ∧ U.heap = h) (fun _ _ _ _ _ => True) (fun _ U o U' => ∃ v L, o = .returned v ∧ Q v U'.heap L ∧ FrameEnd U o U' L rm.cells rm.slots))
    (hf : rm.frames + 1 ≤ R.frames) (hl : W + (maxL + 11) + rm.locals ≤ R.locals) (eT : T.heap = h) {g : JFrame} (hg : g.method = m) (hsize : g.locals.size = c.maxLocals) {argsL rest : List Value} (hlen : ∀ sig, parseMethodDescriptor y.desc = some sig → argsL.length = sig.parameters.length)
    (hstack : g.stack = argsL.reverse ++ .ref b :: rest) (hW : 2 * g.monitorRoom + (rest.map fun v => v.category).sum ≤ W) (hdg : decode c.code g.pc = .ok (.invokevirtual index, 3)) (has : (.ref b :: argsL).toArray = as') (hc : cells + rm.cells ≤ R.cells) (hs : slots + rm.slots ≤ R.slots) {P : Outcome → State → Prop}
    (k : ∀ (v : Option Value) (T' : State) (L : List Loc), Stand p l e R s m args below meth c T' (locs ++ L) (cells + rm.cells) (slots + rm.slots) → Q v T'.heap L → own_Fin p e below P T' { g with pc := g.pc + 3, stack := v.toList ++ rest }) : own_Fin p e below P T g :=
  own_callVB X hx hZ hown w1 w2 nf w5 w6 hy E (backOf (W := W) hM hZ w4 w3 hf hl) eT hg hsize hlen hstack hW hdg has hc hs k
theorem own_narR {t : FieldType} {w : Value} (ht : t.isReference = true) : narrow t w = w := by cases t <;> first | rfl | (cases ht)
theorem own_fldI {t : Term} {C n d : String} {k : Int32} {a : Addr} (hv : (Jvm.Cond.eq (.field t C n d) (.int k)).value args s none s [] = some true) (ht : t.eval args s none [] s = some (.ref a)) : Fld s s.heap a C n d (.int k) := by
  obtain ⟨x, y, e1, e2, k1, k2⟩ := cmp_v (Or.inl hv)
  rw [Term.int_eval] at e2
  cases e2
  obtain ⟨z, rfl⟩ := k2
  have q : z = k := by simpa [Jvm.Cond.value, e1, Term.int_eval] using hv
  rw [fld_at ht] at e1
  exact Fld.start (q ▸ e1)
theorem own_clash {x y z : Int32} (h : x = y) (n : ¬ y = z) : ¬ x = z := fun q => n (h.symm.trans q)
theorem own_rem (x y : Int32) (n : Int) (hy : y.toInt = n) (hn : 0 < n) : 0 ≤ ((x &&& (2147483647 : Int32)) % y).toInt ∧ ((x &&& (2147483647 : Int32)) % y).toInt < n := by
  have h0 := c_and x 2147483647 (by decide)
  have h1 := (c_irem (x &&& 2147483647) y n hy).1 h0.1
  rw [h1]
  exact ⟨Int.emod_nonneg _ (by omega), Int.emod_lt_of_pos _ hn⟩
theorem own_eqI {x y : Int32} (h : x.toInt = y.toInt) : x = y := Int32.toInt_inj.mp h
theorem own_neI {x y : Int32} (h : ¬ x = y) : x.toInt ≠ y.toInt := fun q => h (Int32.toInt_inj.mp q)
theorem own_fitsR {t : FieldType} {v : Value} (ht : t.isReference = true) (hv : v.isRef = true) : fits t v = true := by
  rcases ref_cases hv with rfl | ⟨a, rfl⟩ <;> cases t <;> first | rfl | (cases ht)
theorem own_cat {v : Value} (hv : v.isRef = true) : v.category = 1 := by
  rcases ref_cases hv with rfl | ⟨a, rfl⟩ <;> rfl
theorem own_store1 {L : Array Slot} {i : Nat} {v : Value} {o : Slot} {L' : Array Slot} (hold : L[i]? = some o) (ho : One o) (hv : v.category = 1) (e : L.setIfInBounds i (.val v) = L') : storeLocals L i v = some L' := by
  rw [← e]; exact XS.store1 hold ho hv
end OwnKit
theorem own_d1_0 : decode method_2_code 0 = .ok (.iload_n 0, 1) := by decide +kernel
theorem own_d1_1 : decode method_2_code 1 = .ok (.ifCond .ne 7, 3) := by decide +kernel
theorem own_d1_4 : decode method_2_code 4 = .ok (.getstatic 7, 3) := by decide +kernel
theorem own_d1_7 : decode method_2_code 7 = .ok (.areturn, 1) := by decide +kernel
theorem own_d1_8 : decode method_2_code 8 = .ok (.iload_n 0, 1) := by decide +kernel
theorem own_d1_9 : decode method_2_code 9 = .ok (.iconst 1, 1) := by decide +kernel
theorem own_d1_10 : decode method_2_code 10 = .ok (.if_icmp .ne 7, 3) := by decide +kernel
theorem own_d1_13 : decode method_2_code 13 = .ok (.getstatic 13, 3) := by decide +kernel
theorem own_d1_16 : decode method_2_code 16 = .ok (.areturn, 1) := by decide +kernel
theorem own_d1_17 : decode method_2_code 17 = .ok (.iload_n 0, 1) := by decide +kernel
theorem own_d1_18 : decode method_2_code 18 = .ok (.iconst 2, 1) := by decide +kernel
theorem own_d1_19 : decode method_2_code 19 = .ok (.if_icmp .ne 7, 3) := by decide +kernel
theorem own_d1_22 : decode method_2_code 22 = .ok (.getstatic 16, 3) := by decide +kernel
theorem own_d1_25 : decode method_2_code 25 = .ok (.areturn, 1) := by decide +kernel
theorem own_d1_26 : decode method_2_code 26 = .ok (.iload_n 0, 1) := by decide +kernel
theorem own_d1_27 : decode method_2_code 27 = .ok (.iconst 3, 1) := by decide +kernel
theorem own_d1_28 : decode method_2_code 28 = .ok (.if_icmp .ne 7, 3) := by decide +kernel
theorem own_d1_31 : decode method_2_code 31 = .ok (.getstatic 19, 3) := by decide +kernel
theorem own_d1_34 : decode method_2_code 34 = .ok (.areturn, 1) := by decide +kernel
theorem own_d1_35 : decode method_2_code 35 = .ok (.iload_n 0, 1) := by decide +kernel
theorem own_d1_36 : decode method_2_code 36 = .ok (.iconst 4, 1) := by decide +kernel
theorem own_d1_37 : decode method_2_code 37 = .ok (.if_icmp .ne 7, 3) := by decide +kernel
theorem own_d1_40 : decode method_2_code 40 = .ok (.getstatic 22, 3) := by decide +kernel
theorem own_d1_43 : decode method_2_code 43 = .ok (.areturn, 1) := by decide +kernel
theorem own_d1_44 : decode method_2_code 44 = .ok (.iload_n 0, 1) := by decide +kernel
theorem own_d1_45 : decode method_2_code 45 = .ok (.iconst 5, 1) := by decide +kernel
theorem own_d1_46 : decode method_2_code 46 = .ok (.if_icmp .ne 7, 3) := by decide +kernel
theorem own_d1_49 : decode method_2_code 49 = .ok (.getstatic 25, 3) := by decide +kernel
theorem own_d1_52 : decode method_2_code 52 = .ok (.areturn, 1) := by decide +kernel
theorem own_d1_53 : decode method_2_code 53 = .ok (.iload_n 0, 1) := by decide +kernel
theorem own_d1_54 : decode method_2_code 54 = .ok (.bipush 6, 2) := by decide +kernel
theorem own_d1_56 : decode method_2_code 56 = .ok (.if_icmp .ne 7, 3) := by decide +kernel
theorem own_d1_59 : decode method_2_code 59 = .ok (.getstatic 28, 3) := by decide +kernel
theorem own_d1_62 : decode method_2_code 62 = .ok (.areturn, 1) := by decide +kernel
theorem own_d1_63 : decode method_2_code 63 = .ok (.getstatic 31, 3) := by decide +kernel
theorem own_d1_66 : decode method_2_code 66 = .ok (.areturn, 1) := by decide +kernel
theorem own_rm1_ef (m : MethodId) (k : Int32) : entryFrame m #[(.int k)] 1 = mkF m 0 #[.val (.int k)] [] := by  first | (simp [entryFrame, mkF, argsToLocals, Value.category]; done) | rfl
def own_rm1_Q (Z : State) (k : Int32) (aAUTHORIZING : Addr) (aOPEN : Addr) (aCOMPLETED : Addr) (aDECLINED : Addr) (aREFUSED : Addr) (aCANCELLED : Addr) (aFAILED : Addr) (aEXPIRED : Addr) (h0 : Heap) (n0 : Nat) (v : Option Value) (h : Heap) (L : List Loc) : Prop := v = some (.ref (if k = (0 : Int32) then aAUTHORIZING else if k = (1 : Int32) then aOPEN else if k = (2 : Int32) then aCOMPLETED else if k = (3 : Int32) then aDECLINED else if k = (4 : Int32) then aREFUSED else if k = (5 : Int32) then aCANCELLED else if k = (6 : Int32) then aFAILED else aEXPIRED)) ∧ Fr n0 L ∧ h = h0
theorem own_pn_com_example_stepgate_stepgate_AuthorizationStatusNotifiedPinLaw : plainName "com/example/stepgate/stepgate/AuthorizationStatusNotifiedPinLaw" = true := by first | (simp [plainName, overriddenIn]; done) | decide +kernel
set_option maxRecDepth 65536 in
set_option maxHeartbeats 40000000 in
theorem own_rm1 (l : Launch) (Z : State) (a0 : Array Value) (hw : ∀ d ∈ tables_1, d.before a0 Z = true) (ws : List Jvm.Cond) (k : Int32) (aAUTHORIZING : Addr) (aOPEN : Addr) (aCOMPLETED : Addr) (aDECLINED : Addr) (aREFUSED : Addr) (aCANCELLED : Addr) (aFAILED : Addr) (aEXPIRED : Addr) (h0 : Heap) (n0 : Nat) (Z0 : n0 ≤ h0.size) (S_AUTHORIZING : Sta Z h0 "com/example/stepgate/stepgate/AuthorizationStatus" "AUTHORIZING" "Lcom/example/stepgate/stepgate/AuthorizationStatus;" (.ref aAUTHORIZING)) (S_OPEN : Sta Z h0 "com/example/stepgate/stepgate/AuthorizationStatus" "OPEN" "Lcom/example/stepgate/stepgate/AuthorizationStatus;" (.ref aOPEN)) (S_COMPLETED : Sta Z h0 "com/example/stepgate/stepgate/AuthorizationStatus" "COMPLETED" "Lcom/example/stepgate/stepgate/AuthorizationStatus;" (.ref aCOMPLETED)) (S_DECLINED : Sta Z h0 "com/example/stepgate/stepgate/AuthorizationStatus" "DECLINED" "Lcom/example/stepgate/stepgate/AuthorizationStatus;" (.ref aDECLINED)) (S_REFUSED : Sta Z h0 "com/example/stepgate/stepgate/AuthorizationStatus" "REFUSED" "Lcom/example/stepgate/stepgate/AuthorizationStatus;" (.ref aREFUSED)) (S_CANCELLED : Sta Z h0 "com/example/stepgate/stepgate/AuthorizationStatus" "CANCELLED" "Lcom/example/stepgate/stepgate/AuthorizationStatus;" (.ref aCANCELLED)) (S_FAILED : Sta Z h0 "com/example/stepgate/stepgate/AuthorizationStatus" "FAILED" "Lcom/example/stepgate/stepgate/AuthorizationStatus;" (.ref aFAILED)) (S_EXPIRED : Sta Z h0 "com/example/stepgate/stepgate/AuthorizationStatus" "EXPIRED" "Lcom/example/stepgate/stepgate/AuthorizationStatus;" (.ref aEXPIRED)) :
    MetFree l (⟨"com/example/stepgate/stepgate/AuthorizationStatusNotifiedPinLaw", "pick", "(I)Lcom/example/stepgate/stepgate/AuthorizationStatus;"⟩ : MethodName) (head1 (Jvm.Cond.code (⟨"com/example/stepgate/stepgate/AuthorizationStatusNotifiedPinLaw", "pick", "(I)Lcom/example/stepgate/stepgate/AuthorizationStatus;"⟩ : MethodName) method_2_code 1 (some (.object "com/example/stepgate/stepgate/AuthorizationStatus")) :: ws) ({ frames := 0, cells := 0, slots := 0, locals := 0 } : Room)) (fun aa U => aa = #[(.int k)] ∧ Z.Warmed39 U.vm ∧ U.heap = h0) (fun _ _ _ _ _ => True) (fun _ U o U' => ∃ v L, o = .returned v ∧ own_rm1_Q Z k aAUTHORIZING aOPEN aCOMPLETED aDECLINED aREFUSED aCANCELLED aFAILED aEXPIRED h0 n0 v U'.heap L ∧ FrameEnd U o U' L ({ frames := 0, cells := 0, slots := 0, locals := 0 } : Room).cells ({ frames := 0, cells := 0, slots := 0, locals := 0 } : Room).slots) := by
  refine MetFree.of_bodySF (plainFor_of_name own_pn_com_example_stepgate_stepgate_AuthorizationStatusNotifiedPinLaw) hisR ?_
  intro p e s m args below meth c s₁ Bd hml0 hP hK
  obtain ⟨rfl, hZ, hh⟩ := hP
  have hx := Bd.exec
  have hby := Bd.bytes
  have hml : c.maxLocals = 1 := hml0
  have hown : s.vm.findClass "com/example/stepgate/stepgate/AuthorizationStatusNotifiedPinLaw" = some m.cls := findClass_of_methodNamed Bd.named
  have hnm := (name_of_methodNamed Bd.named Bd.method).1
  have hlk := Bd.notSynchronized
  have X0 : Stand p l e ({ frames := 0, cells := 0, slots := 0, locals := 0 } : Room) s m #[(.int k)] below meth c s₁ [] 0 0 := Stand.of_body Bd
  have e0 : s₁.heap = h0 := by rw [← hh, Bd.state]; rfl
  have N0 := Fr.nil n0
  refine own_start (Q := own_rm1_Q Z k aAUTHORIZING aOPEN aCOMPLETED aDECLINED aREFUSED aCANCELLED aFAILED aEXPIRED h0 n0) (own_rm1_ef m k) ?_
  refine own_by (T' := s₁) (g' := (mkF m 1 #[.val (.int k)] [(.int k)])) (fun _ kq => XS.iloadN X0.here hx rfl (hb hby own_d1_0) rfl kq) ?_
  by_cases hc1 : k = (0 : Int32)
  · refine own_by (T' := s₁) (g' := (mkF m 4 #[.val (.int k)] [])) (fun _ kq => XS.ifNo X0.here hx rfl (hb hby own_d1_1) rfl ((if0 _ _).trans (teq hc1).2) kq) ?_
    obtain ⟨T2, X2, e2, st2⟩ := getS2 X0 hx hZ hown (host := "") (Or.inl (hw _ (List.mem_of_getElem? (i := 4) rfl))) Via.refl e0 S_AUTHORIZING (g := (mkF m 4 #[.val (.int k)] [])) rfl (hb hby own_d1_4)
    refine own_by (T' := T2) (g' := (mkF m 7 #[.val (.int k)] [(.ref aAUTHORIZING)])) st2 ?_
    exact own_end X2 (v := some (.ref aAUTHORIZING)) (fun h => by rw [Bd.returns] at h; cases h) hlk (fun hr => retOut X2 hx Bd.returns (own_narR rfl) (Or.inr (Or.inr (Or.inr (Or.inr ⟨rfl, rfl, rfl⟩)))) (hb hby own_d1_7) hr) (by rw [e2]; exact ⟨by rw [if_pos hc1], N0, rfl⟩) (by decide) (by decide)
  · refine own_by (T' := s₁) (g' := (mkF m 8 #[.val (.int k)] [])) (fun _ kq => XS.ifYes X0.here hx rfl (pc0 := 1) (pc' := 8) rfl (hb hby own_d1_1) rfl ((if0 _ _).trans (feq hc1).2) (by decide) (by decide) kq) ?_
    refine own_by (T' := s₁) (g' := (mkF m 9 #[.val (.int k)] [(.int k)])) (fun _ kq => XS.iloadN X0.here hx rfl (hb hby own_d1_8) rfl kq) ?_
    refine own_by (T' := s₁) (g' := (mkF m 10 #[.val (.int k)] [(.int (1 : Int32)), (.int k)])) (fun _ kq => XS.iconst X0.here hx rfl (hb hby own_d1_9) kq) ?_
    by_cases hc3 : k = (1 : Int32)
    · refine own_by (T' := s₁) (g' := (mkF m 13 #[.val (.int k)] [])) (fun _ kq => XS.icmpNo X0.here hx rfl (hb hby own_d1_10) rfl (teq hc3).2 kq) ?_
      obtain ⟨T4, X4, e4, st4⟩ := getS2 X0 hx hZ hown (host := "") (Or.inl (hw _ (List.mem_of_getElem? (i := 26) rfl))) Via.refl e0 S_OPEN (g := (mkF m 13 #[.val (.int k)] [])) rfl (hb hby own_d1_13)
      refine own_by (T' := T4) (g' := (mkF m 16 #[.val (.int k)] [(.ref aOPEN)])) st4 ?_
      exact own_end X4 (v := some (.ref aOPEN)) (fun h => by rw [Bd.returns] at h; cases h) hlk (fun hr => retOut X4 hx Bd.returns (own_narR rfl) (Or.inr (Or.inr (Or.inr (Or.inr ⟨rfl, rfl, rfl⟩)))) (hb hby own_d1_16) hr) (by rw [e4]; exact ⟨by rw [if_neg hc1, if_pos hc3], N0, rfl⟩) (by decide) (by decide)
    · refine own_by (T' := s₁) (g' := (mkF m 17 #[.val (.int k)] [])) (fun _ kq => XS.icmpYes X0.here hx rfl (pc0 := 10) (pc' := 17) rfl (hb hby own_d1_10) rfl (feq hc3).2 (by decide) (by decide) kq) ?_
      refine own_by (T' := s₁) (g' := (mkF m 18 #[.val (.int k)] [(.int k)])) (fun _ kq => XS.iloadN X0.here hx rfl (hb hby own_d1_17) rfl kq) ?_
      refine own_by (T' := s₁) (g' := (mkF m 19 #[.val (.int k)] [(.int (2 : Int32)), (.int k)])) (fun _ kq => XS.iconst X0.here hx rfl (hb hby own_d1_18) kq) ?_
      by_cases hc5 : k = (2 : Int32)
      · refine own_by (T' := s₁) (g' := (mkF m 22 #[.val (.int k)] [])) (fun _ kq => XS.icmpNo X0.here hx rfl (hb hby own_d1_19) rfl (teq hc5).2 kq) ?_
        obtain ⟨T6, X6, e6, st6⟩ := getS2 X0 hx hZ hown (host := "") (Or.inl (hw _ (List.mem_of_getElem? (i := 24) rfl))) Via.refl e0 S_COMPLETED (g := (mkF m 22 #[.val (.int k)] [])) rfl (hb hby own_d1_22)
        refine own_by (T' := T6) (g' := (mkF m 25 #[.val (.int k)] [(.ref aCOMPLETED)])) st6 ?_
        exact own_end X6 (v := some (.ref aCOMPLETED)) (fun h => by rw [Bd.returns] at h; cases h) hlk (fun hr => retOut X6 hx Bd.returns (own_narR rfl) (Or.inr (Or.inr (Or.inr (Or.inr ⟨rfl, rfl, rfl⟩)))) (hb hby own_d1_25) hr) (by rw [e6]; exact ⟨by rw [if_neg hc1, if_neg hc3, if_pos hc5], N0, rfl⟩) (by decide) (by decide)
      · refine own_by (T' := s₁) (g' := (mkF m 26 #[.val (.int k)] [])) (fun _ kq => XS.icmpYes X0.here hx rfl (pc0 := 19) (pc' := 26) rfl (hb hby own_d1_19) rfl (feq hc5).2 (by decide) (by decide) kq) ?_
        refine own_by (T' := s₁) (g' := (mkF m 27 #[.val (.int k)] [(.int k)])) (fun _ kq => XS.iloadN X0.here hx rfl (hb hby own_d1_26) rfl kq) ?_
        refine own_by (T' := s₁) (g' := (mkF m 28 #[.val (.int k)] [(.int (3 : Int32)), (.int k)])) (fun _ kq => XS.iconst X0.here hx rfl (hb hby own_d1_27) kq) ?_
        by_cases hc7 : k = (3 : Int32)
        · refine own_by (T' := s₁) (g' := (mkF m 31 #[.val (.int k)] [])) (fun _ kq => XS.icmpNo X0.here hx rfl (hb hby own_d1_28) rfl (teq hc7).2 kq) ?_
          obtain ⟨T8, X8, e8, st8⟩ := getS2 X0 hx hZ hown (host := "") (Or.inl (hw _ (List.mem_of_getElem? (i := 16) rfl))) Via.refl e0 S_DECLINED (g := (mkF m 31 #[.val (.int k)] [])) rfl (hb hby own_d1_31)
          refine own_by (T' := T8) (g' := (mkF m 34 #[.val (.int k)] [(.ref aDECLINED)])) st8 ?_
          exact own_end X8 (v := some (.ref aDECLINED)) (fun h => by rw [Bd.returns] at h; cases h) hlk (fun hr => retOut X8 hx Bd.returns (own_narR rfl) (Or.inr (Or.inr (Or.inr (Or.inr ⟨rfl, rfl, rfl⟩)))) (hb hby own_d1_34) hr) (by rw [e8]; exact ⟨by rw [if_neg hc1, if_neg hc3, if_neg hc5, if_pos hc7], N0, rfl⟩) (by decide) (by decide)
        · refine own_by (T' := s₁) (g' := (mkF m 35 #[.val (.int k)] [])) (fun _ kq => XS.icmpYes X0.here hx rfl (pc0 := 28) (pc' := 35) rfl (hb hby own_d1_28) rfl (feq hc7).2 (by decide) (by decide) kq) ?_
          refine own_by (T' := s₁) (g' := (mkF m 36 #[.val (.int k)] [(.int k)])) (fun _ kq => XS.iloadN X0.here hx rfl (hb hby own_d1_35) rfl kq) ?_
          refine own_by (T' := s₁) (g' := (mkF m 37 #[.val (.int k)] [(.int (4 : Int32)), (.int k)])) (fun _ kq => XS.iconst X0.here hx rfl (hb hby own_d1_36) kq) ?_
          by_cases hc9 : k = (4 : Int32)
          · refine own_by (T' := s₁) (g' := (mkF m 40 #[.val (.int k)] [])) (fun _ kq => XS.icmpNo X0.here hx rfl (hb hby own_d1_37) rfl (teq hc9).2 kq) ?_
            obtain ⟨T10, X10, e10, st10⟩ := getS2 X0 hx hZ hown (host := "") (Or.inl (hw _ (List.mem_of_getElem? (i := 27) rfl))) Via.refl e0 S_REFUSED (g := (mkF m 40 #[.val (.int k)] [])) rfl (hb hby own_d1_40)
            refine own_by (T' := T10) (g' := (mkF m 43 #[.val (.int k)] [(.ref aREFUSED)])) st10 ?_
            exact own_end X10 (v := some (.ref aREFUSED)) (fun h => by rw [Bd.returns] at h; cases h) hlk (fun hr => retOut X10 hx Bd.returns (own_narR rfl) (Or.inr (Or.inr (Or.inr (Or.inr ⟨rfl, rfl, rfl⟩)))) (hb hby own_d1_43) hr) (by rw [e10]; exact ⟨by rw [if_neg hc1, if_neg hc3, if_neg hc5, if_neg hc7, if_pos hc9], N0, rfl⟩) (by decide) (by decide)
          · refine own_by (T' := s₁) (g' := (mkF m 44 #[.val (.int k)] [])) (fun _ kq => XS.icmpYes X0.here hx rfl (pc0 := 37) (pc' := 44) rfl (hb hby own_d1_37) rfl (feq hc9).2 (by decide) (by decide) kq) ?_
            refine own_by (T' := s₁) (g' := (mkF m 45 #[.val (.int k)] [(.int k)])) (fun _ kq => XS.iloadN X0.here hx rfl (hb hby own_d1_44) rfl kq) ?_
            refine own_by (T' := s₁) (g' := (mkF m 46 #[.val (.int k)] [(.int (5 : Int32)), (.int k)])) (fun _ kq => XS.iconst X0.here hx rfl (hb hby own_d1_45) kq) ?_
            by_cases hc11 : k = (5 : Int32)
            · refine own_by (T' := s₁) (g' := (mkF m 49 #[.val (.int k)] [])) (fun _ kq => XS.icmpNo X0.here hx rfl (hb hby own_d1_46) rfl (teq hc11).2 kq) ?_
              obtain ⟨T12, X12, e12, st12⟩ := getS2 X0 hx hZ hown (host := "") (Or.inl (hw _ (List.mem_of_getElem? (i := 29) rfl))) Via.refl e0 S_CANCELLED (g := (mkF m 49 #[.val (.int k)] [])) rfl (hb hby own_d1_49)
              refine own_by (T' := T12) (g' := (mkF m 52 #[.val (.int k)] [(.ref aCANCELLED)])) st12 ?_
              exact own_end X12 (v := some (.ref aCANCELLED)) (fun h => by rw [Bd.returns] at h; cases h) hlk (fun hr => retOut X12 hx Bd.returns (own_narR rfl) (Or.inr (Or.inr (Or.inr (Or.inr ⟨rfl, rfl, rfl⟩)))) (hb hby own_d1_52) hr) (by rw [e12]; exact ⟨by rw [if_neg hc1, if_neg hc3, if_neg hc5, if_neg hc7, if_neg hc9, if_pos hc11], N0, rfl⟩) (by decide) (by decide)
            · refine own_by (T' := s₁) (g' := (mkF m 53 #[.val (.int k)] [])) (fun _ kq => XS.icmpYes X0.here hx rfl (pc0 := 46) (pc' := 53) rfl (hb hby own_d1_46) rfl (feq hc11).2 (by decide) (by decide) kq) ?_
              refine own_by (T' := s₁) (g' := (mkF m 54 #[.val (.int k)] [(.int k)])) (fun _ kq => XS.iloadN X0.here hx rfl (hb hby own_d1_53) rfl kq) ?_
              refine own_by (T' := s₁) (g' := (mkF m 56 #[.val (.int k)] [(.int (6 : Int32)), (.int k)])) (fun _ kq => XS.bipush X0.here hx rfl (hb hby own_d1_54) kq) ?_
              by_cases hc13 : k = (6 : Int32)
              · refine own_by (T' := s₁) (g' := (mkF m 59 #[.val (.int k)] [])) (fun _ kq => XS.icmpNo X0.here hx rfl (hb hby own_d1_56) rfl (teq hc13).2 kq) ?_
                obtain ⟨T14, X14, e14, st14⟩ := getS2 X0 hx hZ hown (host := "") (Or.inl (hw _ (List.mem_of_getElem? (i := 20) rfl))) Via.refl e0 S_FAILED (g := (mkF m 59 #[.val (.int k)] [])) rfl (hb hby own_d1_59)
                refine own_by (T' := T14) (g' := (mkF m 62 #[.val (.int k)] [(.ref aFAILED)])) st14 ?_
                exact own_end X14 (v := some (.ref aFAILED)) (fun h => by rw [Bd.returns] at h; cases h) hlk (fun hr => retOut X14 hx Bd.returns (own_narR rfl) (Or.inr (Or.inr (Or.inr (Or.inr ⟨rfl, rfl, rfl⟩)))) (hb hby own_d1_62) hr) (by rw [e14]; exact ⟨by rw [if_neg hc1, if_neg hc3, if_neg hc5, if_neg hc7, if_neg hc9, if_neg hc11, if_pos hc13], N0, rfl⟩) (by decide) (by decide)
              · refine own_by (T' := s₁) (g' := (mkF m 63 #[.val (.int k)] [])) (fun _ kq => XS.icmpYes X0.here hx rfl (pc0 := 56) (pc' := 63) rfl (hb hby own_d1_56) rfl (feq hc13).2 (by decide) (by decide) kq) ?_
                obtain ⟨T15, X15, e15, st15⟩ := getS2 X0 hx hZ hown (host := "") (Or.inl (hw _ (List.mem_of_getElem? (i := 22) rfl))) Via.refl e0 S_EXPIRED (g := (mkF m 63 #[.val (.int k)] [])) rfl (hb hby own_d1_63)
                refine own_by (T' := T15) (g' := (mkF m 66 #[.val (.int k)] [(.ref aEXPIRED)])) st15 ?_
                exact own_end X15 (v := some (.ref aEXPIRED)) (fun h => by rw [Bd.returns] at h; cases h) hlk (fun hr => retOut X15 hx Bd.returns (own_narR rfl) (Or.inr (Or.inr (Or.inr (Or.inr ⟨rfl, rfl, rfl⟩)))) (hb hby own_d1_66) hr) (by rw [e15]; exact ⟨by rw [if_neg hc1, if_neg hc3, if_neg hc5, if_neg hc7, if_neg hc9, if_neg hc11, if_neg hc13], N0, rfl⟩) (by decide) (by decide)
theorem own_d2_0 : decode prog_5_method_5_code 0 = .ok (.aload_n 0, 1) := by decide +kernel
theorem own_d2_1 : decode prog_5_method_5_code 1 = .ok (.getstatic 3, 3) := by decide +kernel
theorem own_d2_4 : decode prog_5_method_5_code 4 = .ok (.if_acmp .eq 14, 3) := by decide +kernel
theorem own_d2_18 : decode prog_5_method_5_code 18 = .ok (.iconst 0, 1) := by decide +kernel
theorem own_d2_19 : decode prog_5_method_5_code 19 = .ok (.ireturn, 1) := by decide +kernel
theorem own_d2_7 : decode prog_5_method_5_code 7 = .ok (.aload_n 0, 1) := by decide +kernel
theorem own_d2_8 : decode prog_5_method_5_code 8 = .ok (.getstatic 7, 3) := by decide +kernel
theorem own_d2_11 : decode prog_5_method_5_code 11 = .ok (.if_acmp .eq 7, 3) := by decide +kernel
theorem own_d2_14 : decode prog_5_method_5_code 14 = .ok (.iconst 1, 1) := by decide +kernel
theorem own_d2_15 : decode prog_5_method_5_code 15 = .ok (.goto 4, 3) := by decide +kernel
theorem own_rm2_ef (m : MethodId) (a : Addr) : entryFrame m #[(.ref a)] 1 = mkF m 0 #[.val (.ref a)] [] := by  first | (simp [entryFrame, mkF, argsToLocals, Value.category]; done) | rfl
def own_rm2_Q (Z : State) (a : Addr) (aAUTHORIZING : Addr) (aOPEN : Addr) (h0 : Heap) (n0 : Nat) (v : Option Value) (h : Heap) (L : List Loc) : Prop := v = some (.int (if a = aAUTHORIZING then 0 else if a = aOPEN then 0 else 1)) ∧ Fr n0 L ∧ h = h0
theorem own_pn_com_example_stepgate_stepgate_AuthorizationStatus : plainName "com/example/stepgate/stepgate/AuthorizationStatus" = true := by first | (simp [plainName, overriddenIn]; done) | decide +kernel
set_option maxRecDepth 65536 in
set_option maxHeartbeats 40000000 in
theorem own_rm2 (l : Launch) (Z : State) (a0 : Array Value) (hw : ∀ d ∈ tables_1, d.before a0 Z = true) (ws : List Jvm.Cond) (a : Addr) (aAUTHORIZING : Addr) (aOPEN : Addr) (h0 : Heap) (n0 : Nat) (Z0 : n0 ≤ h0.size) (S_AUTHORIZING : Sta Z h0 "com/example/stepgate/stepgate/AuthorizationStatus" "AUTHORIZING" "Lcom/example/stepgate/stepgate/AuthorizationStatus;" (.ref aAUTHORIZING)) (S_OPEN : Sta Z h0 "com/example/stepgate/stepgate/AuthorizationStatus" "OPEN" "Lcom/example/stepgate/stepgate/AuthorizationStatus;" (.ref aOPEN)) :
    MetFree l (⟨"com/example/stepgate/stepgate/AuthorizationStatus", "notified", "()Z"⟩ : MethodName) (head1 (Jvm.Cond.code (⟨"com/example/stepgate/stepgate/AuthorizationStatus", "notified", "()Z"⟩ : MethodName) prog_5_method_5_code 1 (some .boolean) :: ws) ({ frames := 0, cells := 0, slots := 0, locals := 0 } : Room)) (fun aa U => aa = #[(.ref a)] ∧ Z.Warmed39 U.vm ∧ U.heap = h0) (fun _ _ _ _ _ => True) (fun _ U o U' => ∃ v L, o = .returned v ∧ own_rm2_Q Z a aAUTHORIZING aOPEN h0 n0 v U'.heap L ∧ FrameEnd U o U' L ({ frames := 0, cells := 0, slots := 0, locals := 0 } : Room).cells ({ frames := 0, cells := 0, slots := 0, locals := 0 } : Room).slots) := by
  refine MetFree.of_bodySF (plainFor_of_name own_pn_com_example_stepgate_stepgate_AuthorizationStatus) hisR ?_
  intro p e s m args below meth c s₁ Bd hml0 hP hK
  obtain ⟨rfl, hZ, hh⟩ := hP
  have hx := Bd.exec
  have hby := Bd.bytes
  have hml : c.maxLocals = 1 := hml0
  have hown : s.vm.findClass "com/example/stepgate/stepgate/AuthorizationStatus" = some m.cls := findClass_of_methodNamed Bd.named
  have hnm := (name_of_methodNamed Bd.named Bd.method).1
  have hlk := Bd.notSynchronized
  have X0 : Stand p l e ({ frames := 0, cells := 0, slots := 0, locals := 0 } : Room) s m #[(.ref a)] below meth c s₁ [] 0 0 := Stand.of_body Bd
  have e0 : s₁.heap = h0 := by rw [← hh, Bd.state]; rfl
  have N0 := Fr.nil n0
  refine own_start (Q := own_rm2_Q Z a aAUTHORIZING aOPEN h0 n0) (own_rm2_ef m a) ?_
  refine own_by (T' := s₁) (g' := (mkF m 1 #[.val (.ref a)] [(.ref a)])) (fun _ kq => XS.aloadN X0.here hx rfl (hb hby own_d2_0) rfl rfl kq) ?_
  obtain ⟨T1, X1, e1, st1⟩ := getS2 X0 hx hZ hown (host := "") (Or.inl (hw _ (List.mem_of_getElem? (i := 12) rfl))) Via.refl e0 S_AUTHORIZING (g := (mkF m 1 #[.val (.ref a)] [(.ref a)])) rfl (hb hby own_d2_1)
  refine own_by (T' := T1) (g' := (mkF m 4 #[.val (.ref a)] [(.ref aAUTHORIZING), (.ref a)])) st1 ?_
  by_cases hc2 : a = aAUTHORIZING
  · refine own_by (T' := T1) (g' := (mkF m 18 #[.val (.ref a)] [])) (fun _ kq => Jvm.RoadKit.acmp (g := (mkF m 4 #[.val (.ref a)] [(.ref aAUTHORIZING), (.ref a)])) X1 hx rfl rfl rfl (pc0 := 4) (pc' := 18) (same := true) rfl (hb hby own_d2_4) rfl (decide_eq_true (congrArg Value.ref hc2)) (by decide) (by decide) kq) ?_
    refine own_by (T' := T1) (g' := (mkF m 19 #[.val (.ref a)] [(.int (0 : Int32))])) (fun _ kq => XS.iconst X1.here hx rfl (hb hby own_d2_18) kq) ?_
    exact own_end X1 (v := some (.int (nar .boolean (0 : Int32)))) (fun h => by rw [Bd.returns] at h; cases h) hlk (fun hr => retN X1 hx (t := .boolean) Bd.returns (by simp) (hb hby own_d2_19) hr) (by rw [e1]; exact ⟨by rw [if_pos hc2]; rfl, N0, rfl⟩) (by decide) (by decide)
  · refine own_by (T' := T1) (g' := (mkF m 7 #[.val (.ref a)] [])) (fun _ kq => Jvm.RoadKit.acmp (g := (mkF m 4 #[.val (.ref a)] [(.ref aAUTHORIZING), (.ref a)])) X1 hx rfl rfl rfl (pc0 := 4) (pc' := 7) (same := false) rfl (hb hby own_d2_4) rfl (decide_eq_false fun q => hc2 (Value.ref.inj q)) (by decide) (by decide) kq) ?_
    refine own_by (T' := T1) (g' := (mkF m 8 #[.val (.ref a)] [(.ref a)])) (fun _ kq => XS.aloadN X1.here hx rfl (hb hby own_d2_7) rfl rfl kq) ?_
    obtain ⟨T3, X3, e3, st3⟩ := getS2 X1 hx hZ hown (host := "") (Or.inl (hw _ (List.mem_of_getElem? (i := 18) rfl))) Via.refl e1 S_OPEN (g := (mkF m 8 #[.val (.ref a)] [(.ref a)])) rfl (hb hby own_d2_8)
    refine own_by (T' := T3) (g' := (mkF m 11 #[.val (.ref a)] [(.ref aOPEN), (.ref a)])) st3 ?_
    by_cases hc4 : a = aOPEN
    · refine own_by (T' := T3) (g' := (mkF m 18 #[.val (.ref a)] [])) (fun _ kq => Jvm.RoadKit.acmp (g := (mkF m 11 #[.val (.ref a)] [(.ref aOPEN), (.ref a)])) X3 hx rfl rfl rfl (pc0 := 11) (pc' := 18) (same := true) rfl (hb hby own_d2_11) rfl (decide_eq_true (congrArg Value.ref hc4)) (by decide) (by decide) kq) ?_
      refine own_by (T' := T3) (g' := (mkF m 19 #[.val (.ref a)] [(.int (0 : Int32))])) (fun _ kq => XS.iconst X3.here hx rfl (hb hby own_d2_18) kq) ?_
      exact own_end X3 (v := some (.int (nar .boolean (0 : Int32)))) (fun h => by rw [Bd.returns] at h; cases h) hlk (fun hr => retN X3 hx (t := .boolean) Bd.returns (by simp) (hb hby own_d2_19) hr) (by rw [e3]; exact ⟨by rw [if_neg hc2, if_pos hc4]; rfl, N0, rfl⟩) (by decide) (by decide)
    · refine own_by (T' := T3) (g' := (mkF m 14 #[.val (.ref a)] [])) (fun _ kq => Jvm.RoadKit.acmp (g := (mkF m 11 #[.val (.ref a)] [(.ref aOPEN), (.ref a)])) X3 hx rfl rfl rfl (pc0 := 11) (pc' := 14) (same := false) rfl (hb hby own_d2_11) rfl (decide_eq_false fun q => hc4 (Value.ref.inj q)) (by decide) (by decide) kq) ?_
      refine own_by (T' := T3) (g' := (mkF m 15 #[.val (.ref a)] [(.int (1 : Int32))])) (fun _ kq => XS.iconst X3.here hx rfl (hb hby own_d2_14) kq) ?_
      refine own_by (T' := T3) (g' := (mkF m 19 #[.val (.ref a)] [(.int (1 : Int32))])) (fun _ kq => XS.goto X3.here hx rfl (pc0 := 15) (pc' := 19) rfl (hb hby own_d2_15) (by decide) (by decide) kq) ?_
      exact own_end X3 (v := some (.int (nar .boolean (1 : Int32)))) (fun h => by rw [Bd.returns] at h; cases h) hlk (fun hr => retN X3 hx (t := .boolean) Bd.returns (by simp) (hb hby own_d2_19) hr) (by rw [e3]; exact ⟨by rw [if_neg hc2, if_neg hc4]; rfl, N0, rfl⟩) (by decide) (by decide)
theorem own_d3_0 : decode method_3_code 0 = .ok (.iload_n 0, 1) := by decide +kernel
theorem own_d3_1 : decode method_3_code 1 = .ok (.ifCond .ne 5, 3) := by decide +kernel
theorem own_d3_4 : decode method_3_code 4 = .ok (.iconst 0, 1) := by decide +kernel
theorem own_d3_5 : decode method_3_code 5 = .ok (.ireturn, 1) := by decide +kernel
theorem own_d3_6 : decode method_3_code 6 = .ok (.iload_n 0, 1) := by decide +kernel
theorem own_d3_7 : decode method_3_code 7 = .ok (.iconst 1, 1) := by decide +kernel
theorem own_d3_8 : decode method_3_code 8 = .ok (.if_icmp .ne 5, 3) := by decide +kernel
theorem own_d3_11 : decode method_3_code 11 = .ok (.iconst 0, 1) := by decide +kernel
theorem own_d3_12 : decode method_3_code 12 = .ok (.ireturn, 1) := by decide +kernel
theorem own_d3_13 : decode method_3_code 13 = .ok (.iconst 1, 1) := by decide +kernel
theorem own_d3_14 : decode method_3_code 14 = .ok (.ireturn, 1) := by decide +kernel
theorem own_rm3_ef (m : MethodId) (k : Int32) : entryFrame m #[(.int k)] 1 = mkF m 0 #[.val (.int k)] [] := by  first | (simp [entryFrame, mkF, argsToLocals, Value.category]; done) | rfl
def own_rm3_Q (Z : State) (k : Int32) (h0 : Heap) (n0 : Nat) (v : Option Value) (h : Heap) (L : List Loc) : Prop := v = some (.int (if k = (0 : Int32) then 0 else if k = (1 : Int32) then 0 else 1)) ∧ Fr n0 L ∧ h = h0
set_option maxRecDepth 65536 in
set_option maxHeartbeats 40000000 in
theorem own_rm3 (l : Launch) (Z : State) (a0 : Array Value) (hw : ∀ d ∈ tables_1, d.before a0 Z = true) (ws : List Jvm.Cond) (k : Int32) (h0 : Heap) (n0 : Nat) (Z0 : n0 ≤ h0.size)  :
    MetFree l (⟨"com/example/stepgate/stepgate/AuthorizationStatusNotifiedPinLaw", "expected", "(I)Z"⟩ : MethodName) (head1 (Jvm.Cond.code (⟨"com/example/stepgate/stepgate/AuthorizationStatusNotifiedPinLaw", "expected", "(I)Z"⟩ : MethodName) method_3_code 1 (some .boolean) :: ws) ({ frames := 0, cells := 0, slots := 0, locals := 0 } : Room)) (fun aa U => aa = #[(.int k)] ∧ Z.Warmed39 U.vm ∧ U.heap = h0) (fun _ _ _ _ _ => True) (fun _ U o U' => ∃ v L, o = .returned v ∧ own_rm3_Q Z k h0 n0 v U'.heap L ∧ FrameEnd U o U' L ({ frames := 0, cells := 0, slots := 0, locals := 0 } : Room).cells ({ frames := 0, cells := 0, slots := 0, locals := 0 } : Room).slots) := by
  refine MetFree.of_bodySF (plainFor_of_name own_pn_com_example_stepgate_stepgate_AuthorizationStatusNotifiedPinLaw) hisR ?_
  intro p e s m args below meth c s₁ Bd hml0 hP hK
  obtain ⟨rfl, hZ, hh⟩ := hP
  have hx := Bd.exec
  have hby := Bd.bytes
  have hml : c.maxLocals = 1 := hml0
  have hown : s.vm.findClass "com/example/stepgate/stepgate/AuthorizationStatusNotifiedPinLaw" = some m.cls := findClass_of_methodNamed Bd.named
  have hnm := (name_of_methodNamed Bd.named Bd.method).1
  have hlk := Bd.notSynchronized
  have X0 : Stand p l e ({ frames := 0, cells := 0, slots := 0, locals := 0 } : Room) s m #[(.int k)] below meth c s₁ [] 0 0 := Stand.of_body Bd
  have e0 : s₁.heap = h0 := by rw [← hh, Bd.state]; rfl
  have N0 := Fr.nil n0
  refine own_start (Q := own_rm3_Q Z k h0 n0) (own_rm3_ef m k) ?_
  refine own_by (T' := s₁) (g' := (mkF m 1 #[.val (.int k)] [(.int k)])) (fun _ kq => XS.iloadN X0.here hx rfl (hb hby own_d3_0) rfl kq) ?_
  by_cases hc1 : k = (0 : Int32)
  · refine own_by (T' := s₁) (g' := (mkF m 4 #[.val (.int k)] [])) (fun _ kq => XS.ifNo X0.here hx rfl (hb hby own_d3_1) rfl ((if0 _ _).trans (teq hc1).2) kq) ?_
    refine own_by (T' := s₁) (g' := (mkF m 5 #[.val (.int k)] [(.int (0 : Int32))])) (fun _ kq => XS.iconst X0.here hx rfl (hb hby own_d3_4) kq) ?_
    exact own_end X0 (v := some (.int (nar .boolean (0 : Int32)))) (fun h => by rw [Bd.returns] at h; cases h) hlk (fun hr => retN X0 hx (t := .boolean) Bd.returns (by simp) (hb hby own_d3_5) hr) (by rw [e0]; exact ⟨by rw [if_pos hc1]; rfl, N0, rfl⟩) (by decide) (by decide)
  · refine own_by (T' := s₁) (g' := (mkF m 6 #[.val (.int k)] [])) (fun _ kq => XS.ifYes X0.here hx rfl (pc0 := 1) (pc' := 6) rfl (hb hby own_d3_1) rfl ((if0 _ _).trans (feq hc1).2) (by decide) (by decide) kq) ?_
    refine own_by (T' := s₁) (g' := (mkF m 7 #[.val (.int k)] [(.int k)])) (fun _ kq => XS.iloadN X0.here hx rfl (hb hby own_d3_6) rfl kq) ?_
    refine own_by (T' := s₁) (g' := (mkF m 8 #[.val (.int k)] [(.int (1 : Int32)), (.int k)])) (fun _ kq => XS.iconst X0.here hx rfl (hb hby own_d3_7) kq) ?_
    by_cases hc2 : k = (1 : Int32)
    · refine own_by (T' := s₁) (g' := (mkF m 11 #[.val (.int k)] [])) (fun _ kq => XS.icmpNo X0.here hx rfl (hb hby own_d3_8) rfl (teq hc2).2 kq) ?_
      refine own_by (T' := s₁) (g' := (mkF m 12 #[.val (.int k)] [(.int (0 : Int32))])) (fun _ kq => XS.iconst X0.here hx rfl (hb hby own_d3_11) kq) ?_
      exact own_end X0 (v := some (.int (nar .boolean (0 : Int32)))) (fun h => by rw [Bd.returns] at h; cases h) hlk (fun hr => retN X0 hx (t := .boolean) Bd.returns (by simp) (hb hby own_d3_12) hr) (by rw [e0]; exact ⟨by rw [if_neg hc1, if_pos hc2]; rfl, N0, rfl⟩) (by decide) (by decide)
    · refine own_by (T' := s₁) (g' := (mkF m 13 #[.val (.int k)] [])) (fun _ kq => XS.icmpYes X0.here hx rfl (pc0 := 8) (pc' := 13) rfl (hb hby own_d3_8) rfl (feq hc2).2 (by decide) (by decide) kq) ?_
      refine own_by (T' := s₁) (g' := (mkF m 14 #[.val (.int k)] [(.int (1 : Int32))])) (fun _ kq => XS.iconst X0.here hx rfl (hb hby own_d3_13) kq) ?_
      exact own_end X0 (v := some (.int (nar .boolean (1 : Int32)))) (fun h => by rw [Bd.returns] at h; cases h) hlk (fun hr => retN X0 hx (t := .boolean) Bd.returns (by simp) (hb hby own_d3_14) hr) (by rw [e0]; exact ⟨by rw [if_neg hc1, if_neg hc2]; rfl, N0, rfl⟩) (by decide) (by decide)
theorem own_pd__28I_29Lcom_2fexample_2fstepgate_2fstepgate_2fAuthorizationStatus_3b : parseMethodDescriptor "(I)Lcom/example/stepgate/stepgate/AuthorizationStatus;" = some ⟨[.int], some (.object "com/example/stepgate/stepgate/AuthorizationStatus")⟩ := by decide +kernel
theorem own_pd__28_29Z : parseMethodDescriptor "()Z" = some ⟨[], some .boolean⟩ := by decide +kernel
theorem own_pd__28I_29Z : parseMethodDescriptor "(I)Z" = some ⟨[.int], some .boolean⟩ := by decide +kernel
theorem own_rm0_ef (m : MethodId) (p0 : Int32) : entryFrame m #[(.int p0)] maxLocals = mkF m 0 #[.val (.int p0), .unset, .unset, .unset] [] := by  first | (simp [entryFrame, mkF, argsToLocals, Value.category, maxLocals]; done) | rfl
def own_rm0_Q (Z : State) (p0 : Int32) (aAUTHORIZING : Addr) (aOPEN : Addr) (aCOMPLETED : Addr) (aDECLINED : Addr) (aREFUSED : Addr) (aCANCELLED : Addr) (aFAILED : Addr) (aEXPIRED : Addr) (h0 : Heap) (n0 : Nat) (v : Option Value) (h : Heap) (L : List Loc) : Prop := v = some (.int 1) ∧ Fr n0 L
set_option maxRecDepth 65536 in
set_option maxHeartbeats 40000000 in
theorem own_rm0 (l : Launch) (Z : State) (a0 : Array Value) (hw : ∀ d ∈ tables_1, d.before a0 Z = true) (ws : List Jvm.Cond) (p0 : Int32) (aAUTHORIZING : Addr) (aOPEN : Addr) (aCOMPLETED : Addr) (aDECLINED : Addr) (aREFUSED : Addr) (aCANCELLED : Addr) (aFAILED : Addr) (aEXPIRED : Addr) (h0 : Heap) (n0 : Nat) (Z0 : n0 ≤ h0.size) (S_AUTHORIZING : Sta Z h0 "com/example/stepgate/stepgate/AuthorizationStatus" "AUTHORIZING" "Lcom/example/stepgate/stepgate/AuthorizationStatus;" (.ref aAUTHORIZING)) (S_OPEN : Sta Z h0 "com/example/stepgate/stepgate/AuthorizationStatus" "OPEN" "Lcom/example/stepgate/stepgate/AuthorizationStatus;" (.ref aOPEN)) (S_COMPLETED : Sta Z h0 "com/example/stepgate/stepgate/AuthorizationStatus" "COMPLETED" "Lcom/example/stepgate/stepgate/AuthorizationStatus;" (.ref aCOMPLETED)) (S_DECLINED : Sta Z h0 "com/example/stepgate/stepgate/AuthorizationStatus" "DECLINED" "Lcom/example/stepgate/stepgate/AuthorizationStatus;" (.ref aDECLINED)) (S_REFUSED : Sta Z h0 "com/example/stepgate/stepgate/AuthorizationStatus" "REFUSED" "Lcom/example/stepgate/stepgate/AuthorizationStatus;" (.ref aREFUSED)) (S_CANCELLED : Sta Z h0 "com/example/stepgate/stepgate/AuthorizationStatus" "CANCELLED" "Lcom/example/stepgate/stepgate/AuthorizationStatus;" (.ref aCANCELLED)) (S_FAILED : Sta Z h0 "com/example/stepgate/stepgate/AuthorizationStatus" "FAILED" "Lcom/example/stepgate/stepgate/AuthorizationStatus;" (.ref aFAILED)) (S_EXPIRED : Sta Z h0 "com/example/stepgate/stepgate/AuthorizationStatus" "EXPIRED" "Lcom/example/stepgate/stepgate/AuthorizationStatus;" (.ref aEXPIRED)) (E_AUTHORIZING : Exa Z h0 aAUTHORIZING "com/example/stepgate/stepgate/AuthorizationStatus") (E_OPEN : Exa Z h0 aOPEN "com/example/stepgate/stepgate/AuthorizationStatus") (E_COMPLETED : Exa Z h0 aCOMPLETED "com/example/stepgate/stepgate/AuthorizationStatus") (E_DECLINED : Exa Z h0 aDECLINED "com/example/stepgate/stepgate/AuthorizationStatus") (E_REFUSED : Exa Z h0 aREFUSED "com/example/stepgate/stepgate/AuthorizationStatus") (E_CANCELLED : Exa Z h0 aCANCELLED "com/example/stepgate/stepgate/AuthorizationStatus") (E_FAILED : Exa Z h0 aFAILED "com/example/stepgate/stepgate/AuthorizationStatus") (E_EXPIRED : Exa Z h0 aEXPIRED "com/example/stepgate/stepgate/AuthorizationStatus") (n_OPEN_AUTHORIZING : ¬ aOPEN = aAUTHORIZING) (n_COMPLETED_AUTHORIZING : ¬ aCOMPLETED = aAUTHORIZING) (n_DECLINED_AUTHORIZING : ¬ aDECLINED = aAUTHORIZING) (n_REFUSED_AUTHORIZING : ¬ aREFUSED = aAUTHORIZING) (n_CANCELLED_AUTHORIZING : ¬ aCANCELLED = aAUTHORIZING) (n_FAILED_AUTHORIZING : ¬ aFAILED = aAUTHORIZING) (n_EXPIRED_AUTHORIZING : ¬ aEXPIRED = aAUTHORIZING) (n_COMPLETED_OPEN : ¬ aCOMPLETED = aOPEN) (n_DECLINED_OPEN : ¬ aDECLINED = aOPEN) (n_REFUSED_OPEN : ¬ aREFUSED = aOPEN) (n_CANCELLED_OPEN : ¬ aCANCELLED = aOPEN) (n_FAILED_OPEN : ¬ aFAILED = aOPEN) (n_EXPIRED_OPEN : ¬ aEXPIRED = aOPEN) :
    MetFree l x (head1 (Jvm.Cond.code x code maxLocals ret :: ws) room_1) (fun aa U => aa = #[(.int p0)] ∧ Z.Warmed39 U.vm ∧ U.heap = h0) (fun _ _ _ _ _ => True) (fun _ U o U' => ∃ v L, o = .returned v ∧ own_rm0_Q Z p0 aAUTHORIZING aOPEN aCOMPLETED aDECLINED aREFUSED aCANCELLED aFAILED aEXPIRED h0 n0 v U'.heap L ∧ FrameEnd U o U' L room_1.cells room_1.slots) := by
  refine MetFree.of_bodySF (plainFor_of_name own_pn_com_example_stepgate_stepgate_AuthorizationStatusNotifiedPinLaw) hisR ?_
  intro p e s m args below meth c s₁ Bd hml0 hP hK
  obtain ⟨rfl, hZ, hh⟩ := hP
  have hx := Bd.exec
  have hby := Bd.bytes
  have hml : c.maxLocals = 4 := hml0
  have hown : s.vm.findClass "com/example/stepgate/stepgate/AuthorizationStatusNotifiedPinLaw" = some m.cls := findClass_of_methodNamed Bd.named
  have hnm := (name_of_methodNamed Bd.named Bd.method).1
  have hlk := Bd.notSynchronized
  have X0 : Stand p l e room_1 s m #[(.int p0)] below meth c s₁ [] 0 0 := Stand.of_body Bd
  have e0 : s₁.heap = h0 := by rw [← hh, Bd.state]; rfl
  have N0 := Fr.nil n0
  refine own_start (Q := own_rm0_Q Z p0 aAUTHORIZING aOPEN aCOMPLETED aDECLINED aREFUSED aCANCELLED aFAILED aEXPIRED h0 n0) (own_rm0_ef m p0) ?_
  refine own_by (T' := s₁) (g' := (mkF m 1 #[.val (.int p0), .unset, .unset, .unset] [(.int p0)])) (fun _ kq => XS.iloadN X0.here hx rfl (hb hby at_0) rfl kq) ?_
  refine own_by (T' := s₁) (g' := (mkF m 3 #[.val (.int p0), .unset, .unset, .unset] [(.int (7 : Int32)), (.int p0)])) (fun _ kq => XS.bipush X0.here hx rfl (hb hby at_1) kq) ?_
  refine own_by (T' := s₁) (g' := (mkF m 4 #[.val (.int p0), .unset, .unset, .unset] [(.int (p0 &&& (7 : Int32)))])) (fun _ kq => XS.iand X0.here hx rfl (hb hby at_3) rfl kq) ?_
  refine own_by (T' := s₁) (g' := (mkF m 5 #[.val (.int p0), .val (.int (p0 &&& (7 : Int32))), .unset, .unset] [])) (fun _ kq => XS.istoreN X0.here hx rfl (hb hby at_4) rfl (l' := #[.val (.int p0), .val (.int (p0 &&& (7 : Int32))), .unset, .unset]) rfl kq) ?_
  generalize hg_k : (p0 &&& (7 : Int32)) = k
  by_cases hc1 : k = (0 : Int32)
  · skip
    refine own_by (T' := s₁) (g' := (mkF m 6 #[.val (.int p0), .val (.int k), .unset, .unset] [(.int k)])) (fun _ kq => XS.iloadN X0.here hx rfl (hb hby at_5) rfl kq) ?_
    refine own_callS X0 hx hZ (y := (⟨"com/example/stepgate/stepgate/AuthorizationStatusNotifiedPinLaw", "pick", "(I)Lcom/example/stepgate/stepgate/AuthorizationStatus;"⟩ : MethodName)) hown (hw _ (List.mem_of_getElem? (i := 0) rfl)) (hw _ (List.mem_of_getElem? (i := 1) rfl)) (hw _ (List.mem_of_getElem? (i := 2) rfl)) (hw _ (List.mem_of_getElem? (i := 3) rfl)) (by decide) (own_rm1 l Z a0 hw [] k aAUTHORIZING aOPEN aCOMPLETED aDECLINED aREFUSED aCANCELLED aFAILED aEXPIRED h0 n0 Z0 S_AUTHORIZING S_OPEN S_COMPLETED S_DECLINED S_REFUSED S_CANCELLED S_FAILED S_EXPIRED) (by decide) (by decide) e0 (g := (mkF m 6 #[.val (.int p0), .val (.int k), .unset, .unset] [(.int k)])) rfl (by rw [hml]; rfl) (argsL := [(.int k)]) (rest := []) (lenOf own_pd__28I_29Lcom_2fexample_2fstepgate_2fstepgate_2fAuthorizationStatus_3b rfl) rfl (W := 0) (by show 2 * 0 + _ ≤ _; exact Nat.le_of_eq rfl) (hb hby at_6) rfl (by decide) (by decide) ?_
    rintro rv2 T2 L2 X2 ⟨hv2, Nq2, eh2⟩
    have N2 := Fr.app N0 Nq2
    rw [if_pos hc1] at hv2
    subst hv2
    show own_Fin p e below _ T2 (mkF m 9 #[.val (.int p0), .val (.int k), .unset, .unset] [(.ref aAUTHORIZING)])
    refine own_by (T' := T2) (g' := (mkF m 10 #[.val (.int p0), .val (.int k), .val (.ref aAUTHORIZING), .unset] [])) (fun _ kq => XS.astoreN X2.here hx rfl (hb hby at_9) rfl rfl (l' := #[.val (.int p0), .val (.int k), .val (.ref aAUTHORIZING), .unset]) rfl kq) ?_
    refine own_by (T' := T2) (g' := (mkF m 11 #[.val (.int p0), .val (.int k), .val (.ref aAUTHORIZING), .unset] [(.ref aAUTHORIZING)])) (fun _ kq => XS.aloadN X2.here hx rfl (hb hby at_10) rfl rfl kq) ?_
    refine own_callV X2 hx hZ (y := (⟨"com/example/stepgate/stepgate/AuthorizationStatus", "notified", "()Z"⟩ : MethodName)) (z := (⟨"com/example/stepgate/stepgate/AuthorizationStatus", "notified", "()Z"⟩ : MethodName)) hown (hw _ (List.mem_of_getElem? (i := 7) rfl)) (hw _ (List.mem_of_getElem? (i := 8) rfl)) (own_nf (hw _ (List.mem_of_getElem? (i := 10) rfl))) (hw _ (List.mem_of_getElem? (i := 10) rfl)) (hw _ (List.mem_of_getElem? (i := 9) rfl)) (hw _ (List.mem_of_getElem? (i := 11) rfl)) (hw _ (List.mem_of_getElem? (i := 5) rfl)) (by decide) E_AUTHORIZING (own_rm2 l Z a0 hw [] aAUTHORIZING aAUTHORIZING aOPEN h0 n0 Z0 S_AUTHORIZING S_OPEN) (by decide) (by decide) eh2 (g := (mkF m 11 #[.val (.int p0), .val (.int k), .val (.ref aAUTHORIZING), .unset] [(.ref aAUTHORIZING)])) rfl (by rw [hml]; rfl) (argsL := []) (rest := []) (lenOf own_pd__28_29Z rfl) rfl (W := 0) (by show 2 * 0 + _ ≤ _; exact Nat.le_of_eq rfl) (hb hby at_11) rfl (by decide) (by decide) ?_
    rintro rv3 T3 L3 X3 ⟨hv3, Nq3, eh3⟩
    have N3 := Fr.app N2 Nq3
    rw [if_pos rfl] at hv3
    subst hv3
    show own_Fin p e below _ T3 (mkF m 14 #[.val (.int p0), .val (.int k), .val (.ref aAUTHORIZING), .unset] [(.int (0 : Int32))])
    refine own_by (T' := T3) (g' := (mkF m 15 #[.val (.int p0), .val (.int k), .val (.ref aAUTHORIZING), .val (.int (0 : Int32))] [])) (fun _ kq => XS.istoreN X3.here hx rfl (hb hby at_14) rfl (l' := #[.val (.int p0), .val (.int k), .val (.ref aAUTHORIZING), .val (.int (0 : Int32))]) rfl kq) ?_
    refine own_by (T' := T3) (g' := (mkF m 16 #[.val (.int p0), .val (.int k), .val (.ref aAUTHORIZING), .val (.int (0 : Int32))] [(.int (0 : Int32))])) (fun _ kq => XS.iloadN X3.here hx rfl (hb hby at_15) rfl kq) ?_
    refine own_by (T' := T3) (g' := (mkF m 17 #[.val (.int p0), .val (.int k), .val (.ref aAUTHORIZING), .val (.int (0 : Int32))] [(.int k), (.int (0 : Int32))])) (fun _ kq => XS.iloadN X3.here hx rfl (hb hby at_16) rfl kq) ?_
    refine own_callS X3 hx hZ (y := (⟨"com/example/stepgate/stepgate/AuthorizationStatusNotifiedPinLaw", "expected", "(I)Z"⟩ : MethodName)) hown (hw _ (List.mem_of_getElem? (i := 13) rfl)) (hw _ (List.mem_of_getElem? (i := 14) rfl)) (hw _ (List.mem_of_getElem? (i := 2) rfl)) (hw _ (List.mem_of_getElem? (i := 15) rfl)) (by decide) (own_rm3 l Z a0 hw [] k h0 n0 Z0) (by decide) (by decide) eh3 (g := (mkF m 17 #[.val (.int p0), .val (.int k), .val (.ref aAUTHORIZING), .val (.int (0 : Int32))] [(.int k), (.int (0 : Int32))])) rfl (by rw [hml]; rfl) (argsL := [(.int k)]) (rest := [(.int (0 : Int32))]) (lenOf own_pd__28I_29Z rfl) rfl (W := 1) (by show 2 * 0 + _ ≤ _; exact Nat.le_of_eq rfl) (hb hby at_17) rfl (by decide) (by decide) ?_
    rintro rv4 T4 L4 X4 ⟨hv4, Nq4, eh4⟩
    have N4 := Fr.app N3 Nq4
    rw [if_pos hc1] at hv4
    subst hv4
    show own_Fin p e below _ T4 (mkF m 20 #[.val (.int p0), .val (.int k), .val (.ref aAUTHORIZING), .val (.int (0 : Int32))] [(.int (0 : Int32)), (.int (0 : Int32))])
    refine own_by (T' := T4) (g' := (mkF m 23 #[.val (.int p0), .val (.int k), .val (.ref aAUTHORIZING), .val (.int (0 : Int32))] [])) (fun _ kq => XS.icmpNo X4.here hx rfl (hb hby at_20) rfl (teq (by decide : (0 : Int32) = (0 : Int32))).2 kq) ?_
    refine own_by (T' := T4) (g' := (mkF m 24 #[.val (.int p0), .val (.int k), .val (.ref aAUTHORIZING), .val (.int (0 : Int32))] [(.int (1 : Int32))])) (fun _ kq => XS.iconst X4.here hx rfl (hb hby at_23) kq) ?_
    refine own_by (T' := T4) (g' := (mkF m 28 #[.val (.int p0), .val (.int k), .val (.ref aAUTHORIZING), .val (.int (0 : Int32))] [(.int (1 : Int32))])) (fun _ kq => XS.goto X4.here hx rfl (pc0 := 24) (pc' := 28) rfl (hb hby at_24) (by decide) (by decide) kq) ?_
    exact own_end X4 (v := some (.int (nar .boolean (1 : Int32)))) (fun h => by rw [Bd.returns] at h; cases h) hlk (fun hr => retN X4 hx (t := .boolean) Bd.returns (by simp) (hb hby at_28) hr) (by rw [eh4]; exact ⟨rfl, N4⟩) (by decide) (by decide)
  · skip
    by_cases hc5 : k = (1 : Int32)
    · skip
      refine own_by (T' := s₁) (g' := (mkF m 6 #[.val (.int p0), .val (.int k), .unset, .unset] [(.int k)])) (fun _ kq => XS.iloadN X0.here hx rfl (hb hby at_5) rfl kq) ?_
      refine own_callS X0 hx hZ (y := (⟨"com/example/stepgate/stepgate/AuthorizationStatusNotifiedPinLaw", "pick", "(I)Lcom/example/stepgate/stepgate/AuthorizationStatus;"⟩ : MethodName)) hown (hw _ (List.mem_of_getElem? (i := 0) rfl)) (hw _ (List.mem_of_getElem? (i := 1) rfl)) (hw _ (List.mem_of_getElem? (i := 2) rfl)) (hw _ (List.mem_of_getElem? (i := 3) rfl)) (by decide) (own_rm1 l Z a0 hw [] k aAUTHORIZING aOPEN aCOMPLETED aDECLINED aREFUSED aCANCELLED aFAILED aEXPIRED h0 n0 Z0 S_AUTHORIZING S_OPEN S_COMPLETED S_DECLINED S_REFUSED S_CANCELLED S_FAILED S_EXPIRED) (by decide) (by decide) e0 (g := (mkF m 6 #[.val (.int p0), .val (.int k), .unset, .unset] [(.int k)])) rfl (by rw [hml]; rfl) (argsL := [(.int k)]) (rest := []) (lenOf own_pd__28I_29Lcom_2fexample_2fstepgate_2fstepgate_2fAuthorizationStatus_3b rfl) rfl (W := 0) (by show 2 * 0 + _ ≤ _; exact Nat.le_of_eq rfl) (hb hby at_6) rfl (by decide) (by decide) ?_
      rintro rv6 T6 L6 X6 ⟨hv6, Nq6, eh6⟩
      have N6 := Fr.app N0 Nq6
      rw [if_neg hc1, if_pos hc5] at hv6
      subst hv6
      show own_Fin p e below _ T6 (mkF m 9 #[.val (.int p0), .val (.int k), .unset, .unset] [(.ref aOPEN)])
      refine own_by (T' := T6) (g' := (mkF m 10 #[.val (.int p0), .val (.int k), .val (.ref aOPEN), .unset] [])) (fun _ kq => XS.astoreN X6.here hx rfl (hb hby at_9) rfl rfl (l' := #[.val (.int p0), .val (.int k), .val (.ref aOPEN), .unset]) rfl kq) ?_
      refine own_by (T' := T6) (g' := (mkF m 11 #[.val (.int p0), .val (.int k), .val (.ref aOPEN), .unset] [(.ref aOPEN)])) (fun _ kq => XS.aloadN X6.here hx rfl (hb hby at_10) rfl rfl kq) ?_
      refine own_callV X6 hx hZ (y := (⟨"com/example/stepgate/stepgate/AuthorizationStatus", "notified", "()Z"⟩ : MethodName)) (z := (⟨"com/example/stepgate/stepgate/AuthorizationStatus", "notified", "()Z"⟩ : MethodName)) hown (hw _ (List.mem_of_getElem? (i := 7) rfl)) (hw _ (List.mem_of_getElem? (i := 8) rfl)) (own_nf (hw _ (List.mem_of_getElem? (i := 10) rfl))) (hw _ (List.mem_of_getElem? (i := 10) rfl)) (hw _ (List.mem_of_getElem? (i := 9) rfl)) (hw _ (List.mem_of_getElem? (i := 11) rfl)) (hw _ (List.mem_of_getElem? (i := 5) rfl)) (by decide) E_OPEN (own_rm2 l Z a0 hw [] aOPEN aAUTHORIZING aOPEN h0 n0 Z0 S_AUTHORIZING S_OPEN) (by decide) (by decide) eh6 (g := (mkF m 11 #[.val (.int p0), .val (.int k), .val (.ref aOPEN), .unset] [(.ref aOPEN)])) rfl (by rw [hml]; rfl) (argsL := []) (rest := []) (lenOf own_pd__28_29Z rfl) rfl (W := 0) (by show 2 * 0 + _ ≤ _; exact Nat.le_of_eq rfl) (hb hby at_11) rfl (by decide) (by decide) ?_
      rintro rv7 T7 L7 X7 ⟨hv7, Nq7, eh7⟩
      have N7 := Fr.app N6 Nq7
      rw [if_neg n_OPEN_AUTHORIZING, if_pos rfl] at hv7
      subst hv7
      show own_Fin p e below _ T7 (mkF m 14 #[.val (.int p0), .val (.int k), .val (.ref aOPEN), .unset] [(.int (0 : Int32))])
      refine own_by (T' := T7) (g' := (mkF m 15 #[.val (.int p0), .val (.int k), .val (.ref aOPEN), .val (.int (0 : Int32))] [])) (fun _ kq => XS.istoreN X7.here hx rfl (hb hby at_14) rfl (l' := #[.val (.int p0), .val (.int k), .val (.ref aOPEN), .val (.int (0 : Int32))]) rfl kq) ?_
      refine own_by (T' := T7) (g' := (mkF m 16 #[.val (.int p0), .val (.int k), .val (.ref aOPEN), .val (.int (0 : Int32))] [(.int (0 : Int32))])) (fun _ kq => XS.iloadN X7.here hx rfl (hb hby at_15) rfl kq) ?_
      refine own_by (T' := T7) (g' := (mkF m 17 #[.val (.int p0), .val (.int k), .val (.ref aOPEN), .val (.int (0 : Int32))] [(.int k), (.int (0 : Int32))])) (fun _ kq => XS.iloadN X7.here hx rfl (hb hby at_16) rfl kq) ?_
      refine own_callS X7 hx hZ (y := (⟨"com/example/stepgate/stepgate/AuthorizationStatusNotifiedPinLaw", "expected", "(I)Z"⟩ : MethodName)) hown (hw _ (List.mem_of_getElem? (i := 13) rfl)) (hw _ (List.mem_of_getElem? (i := 14) rfl)) (hw _ (List.mem_of_getElem? (i := 2) rfl)) (hw _ (List.mem_of_getElem? (i := 15) rfl)) (by decide) (own_rm3 l Z a0 hw [] k h0 n0 Z0) (by decide) (by decide) eh7 (g := (mkF m 17 #[.val (.int p0), .val (.int k), .val (.ref aOPEN), .val (.int (0 : Int32))] [(.int k), (.int (0 : Int32))])) rfl (by rw [hml]; rfl) (argsL := [(.int k)]) (rest := [(.int (0 : Int32))]) (lenOf own_pd__28I_29Z rfl) rfl (W := 1) (by show 2 * 0 + _ ≤ _; exact Nat.le_of_eq rfl) (hb hby at_17) rfl (by decide) (by decide) ?_
      rintro rv8 T8 L8 X8 ⟨hv8, Nq8, eh8⟩
      have N8 := Fr.app N7 Nq8
      rw [if_neg hc1, if_pos hc5] at hv8
      subst hv8
      show own_Fin p e below _ T8 (mkF m 20 #[.val (.int p0), .val (.int k), .val (.ref aOPEN), .val (.int (0 : Int32))] [(.int (0 : Int32)), (.int (0 : Int32))])
      refine own_by (T' := T8) (g' := (mkF m 23 #[.val (.int p0), .val (.int k), .val (.ref aOPEN), .val (.int (0 : Int32))] [])) (fun _ kq => XS.icmpNo X8.here hx rfl (hb hby at_20) rfl (teq (by decide : (0 : Int32) = (0 : Int32))).2 kq) ?_
      refine own_by (T' := T8) (g' := (mkF m 24 #[.val (.int p0), .val (.int k), .val (.ref aOPEN), .val (.int (0 : Int32))] [(.int (1 : Int32))])) (fun _ kq => XS.iconst X8.here hx rfl (hb hby at_23) kq) ?_
      refine own_by (T' := T8) (g' := (mkF m 28 #[.val (.int p0), .val (.int k), .val (.ref aOPEN), .val (.int (0 : Int32))] [(.int (1 : Int32))])) (fun _ kq => XS.goto X8.here hx rfl (pc0 := 24) (pc' := 28) rfl (hb hby at_24) (by decide) (by decide) kq) ?_
      exact own_end X8 (v := some (.int (nar .boolean (1 : Int32)))) (fun h => by rw [Bd.returns] at h; cases h) hlk (fun hr => retN X8 hx (t := .boolean) Bd.returns (by simp) (hb hby at_28) hr) (by rw [eh8]; exact ⟨rfl, N8⟩) (by decide) (by decide)
    · skip
      by_cases hc9 : k = (2 : Int32)
      · skip
        refine own_by (T' := s₁) (g' := (mkF m 6 #[.val (.int p0), .val (.int k), .unset, .unset] [(.int k)])) (fun _ kq => XS.iloadN X0.here hx rfl (hb hby at_5) rfl kq) ?_
        refine own_callS X0 hx hZ (y := (⟨"com/example/stepgate/stepgate/AuthorizationStatusNotifiedPinLaw", "pick", "(I)Lcom/example/stepgate/stepgate/AuthorizationStatus;"⟩ : MethodName)) hown (hw _ (List.mem_of_getElem? (i := 0) rfl)) (hw _ (List.mem_of_getElem? (i := 1) rfl)) (hw _ (List.mem_of_getElem? (i := 2) rfl)) (hw _ (List.mem_of_getElem? (i := 3) rfl)) (by decide) (own_rm1 l Z a0 hw [] k aAUTHORIZING aOPEN aCOMPLETED aDECLINED aREFUSED aCANCELLED aFAILED aEXPIRED h0 n0 Z0 S_AUTHORIZING S_OPEN S_COMPLETED S_DECLINED S_REFUSED S_CANCELLED S_FAILED S_EXPIRED) (by decide) (by decide) e0 (g := (mkF m 6 #[.val (.int p0), .val (.int k), .unset, .unset] [(.int k)])) rfl (by rw [hml]; rfl) (argsL := [(.int k)]) (rest := []) (lenOf own_pd__28I_29Lcom_2fexample_2fstepgate_2fstepgate_2fAuthorizationStatus_3b rfl) rfl (W := 0) (by show 2 * 0 + _ ≤ _; exact Nat.le_of_eq rfl) (hb hby at_6) rfl (by decide) (by decide) ?_
        rintro rv10 T10 L10 X10 ⟨hv10, Nq10, eh10⟩
        have N10 := Fr.app N0 Nq10
        rw [if_neg hc1, if_neg hc5, if_pos hc9] at hv10
        subst hv10
        show own_Fin p e below _ T10 (mkF m 9 #[.val (.int p0), .val (.int k), .unset, .unset] [(.ref aCOMPLETED)])
        refine own_by (T' := T10) (g' := (mkF m 10 #[.val (.int p0), .val (.int k), .val (.ref aCOMPLETED), .unset] [])) (fun _ kq => XS.astoreN X10.here hx rfl (hb hby at_9) rfl rfl (l' := #[.val (.int p0), .val (.int k), .val (.ref aCOMPLETED), .unset]) rfl kq) ?_
        refine own_by (T' := T10) (g' := (mkF m 11 #[.val (.int p0), .val (.int k), .val (.ref aCOMPLETED), .unset] [(.ref aCOMPLETED)])) (fun _ kq => XS.aloadN X10.here hx rfl (hb hby at_10) rfl rfl kq) ?_
        refine own_callV X10 hx hZ (y := (⟨"com/example/stepgate/stepgate/AuthorizationStatus", "notified", "()Z"⟩ : MethodName)) (z := (⟨"com/example/stepgate/stepgate/AuthorizationStatus", "notified", "()Z"⟩ : MethodName)) hown (hw _ (List.mem_of_getElem? (i := 7) rfl)) (hw _ (List.mem_of_getElem? (i := 8) rfl)) (own_nf (hw _ (List.mem_of_getElem? (i := 10) rfl))) (hw _ (List.mem_of_getElem? (i := 10) rfl)) (hw _ (List.mem_of_getElem? (i := 9) rfl)) (hw _ (List.mem_of_getElem? (i := 11) rfl)) (hw _ (List.mem_of_getElem? (i := 5) rfl)) (by decide) E_COMPLETED (own_rm2 l Z a0 hw [] aCOMPLETED aAUTHORIZING aOPEN h0 n0 Z0 S_AUTHORIZING S_OPEN) (by decide) (by decide) eh10 (g := (mkF m 11 #[.val (.int p0), .val (.int k), .val (.ref aCOMPLETED), .unset] [(.ref aCOMPLETED)])) rfl (by rw [hml]; rfl) (argsL := []) (rest := []) (lenOf own_pd__28_29Z rfl) rfl (W := 0) (by show 2 * 0 + _ ≤ _; exact Nat.le_of_eq rfl) (hb hby at_11) rfl (by decide) (by decide) ?_
        rintro rv11 T11 L11 X11 ⟨hv11, Nq11, eh11⟩
        have N11 := Fr.app N10 Nq11
        rw [if_neg n_COMPLETED_AUTHORIZING, if_neg n_COMPLETED_OPEN] at hv11
        subst hv11
        show own_Fin p e below _ T11 (mkF m 14 #[.val (.int p0), .val (.int k), .val (.ref aCOMPLETED), .unset] [(.int (1 : Int32))])
        refine own_by (T' := T11) (g' := (mkF m 15 #[.val (.int p0), .val (.int k), .val (.ref aCOMPLETED), .val (.int (1 : Int32))] [])) (fun _ kq => XS.istoreN X11.here hx rfl (hb hby at_14) rfl (l' := #[.val (.int p0), .val (.int k), .val (.ref aCOMPLETED), .val (.int (1 : Int32))]) rfl kq) ?_
        refine own_by (T' := T11) (g' := (mkF m 16 #[.val (.int p0), .val (.int k), .val (.ref aCOMPLETED), .val (.int (1 : Int32))] [(.int (1 : Int32))])) (fun _ kq => XS.iloadN X11.here hx rfl (hb hby at_15) rfl kq) ?_
        refine own_by (T' := T11) (g' := (mkF m 17 #[.val (.int p0), .val (.int k), .val (.ref aCOMPLETED), .val (.int (1 : Int32))] [(.int k), (.int (1 : Int32))])) (fun _ kq => XS.iloadN X11.here hx rfl (hb hby at_16) rfl kq) ?_
        refine own_callS X11 hx hZ (y := (⟨"com/example/stepgate/stepgate/AuthorizationStatusNotifiedPinLaw", "expected", "(I)Z"⟩ : MethodName)) hown (hw _ (List.mem_of_getElem? (i := 13) rfl)) (hw _ (List.mem_of_getElem? (i := 14) rfl)) (hw _ (List.mem_of_getElem? (i := 2) rfl)) (hw _ (List.mem_of_getElem? (i := 15) rfl)) (by decide) (own_rm3 l Z a0 hw [] k h0 n0 Z0) (by decide) (by decide) eh11 (g := (mkF m 17 #[.val (.int p0), .val (.int k), .val (.ref aCOMPLETED), .val (.int (1 : Int32))] [(.int k), (.int (1 : Int32))])) rfl (by rw [hml]; rfl) (argsL := [(.int k)]) (rest := [(.int (1 : Int32))]) (lenOf own_pd__28I_29Z rfl) rfl (W := 1) (by show 2 * 0 + _ ≤ _; exact Nat.le_of_eq rfl) (hb hby at_17) rfl (by decide) (by decide) ?_
        rintro rv12 T12 L12 X12 ⟨hv12, Nq12, eh12⟩
        have N12 := Fr.app N11 Nq12
        rw [if_neg hc1, if_neg hc5] at hv12
        subst hv12
        show own_Fin p e below _ T12 (mkF m 20 #[.val (.int p0), .val (.int k), .val (.ref aCOMPLETED), .val (.int (1 : Int32))] [(.int (1 : Int32)), (.int (1 : Int32))])
        refine own_by (T' := T12) (g' := (mkF m 23 #[.val (.int p0), .val (.int k), .val (.ref aCOMPLETED), .val (.int (1 : Int32))] [])) (fun _ kq => XS.icmpNo X12.here hx rfl (hb hby at_20) rfl (teq (by decide : (1 : Int32) = (1 : Int32))).2 kq) ?_
        refine own_by (T' := T12) (g' := (mkF m 24 #[.val (.int p0), .val (.int k), .val (.ref aCOMPLETED), .val (.int (1 : Int32))] [(.int (1 : Int32))])) (fun _ kq => XS.iconst X12.here hx rfl (hb hby at_23) kq) ?_
        refine own_by (T' := T12) (g' := (mkF m 28 #[.val (.int p0), .val (.int k), .val (.ref aCOMPLETED), .val (.int (1 : Int32))] [(.int (1 : Int32))])) (fun _ kq => XS.goto X12.here hx rfl (pc0 := 24) (pc' := 28) rfl (hb hby at_24) (by decide) (by decide) kq) ?_
        exact own_end X12 (v := some (.int (nar .boolean (1 : Int32)))) (fun h => by rw [Bd.returns] at h; cases h) hlk (fun hr => retN X12 hx (t := .boolean) Bd.returns (by simp) (hb hby at_28) hr) (by rw [eh12]; exact ⟨rfl, N12⟩) (by decide) (by decide)
      · skip
        by_cases hc13 : k = (3 : Int32)
        · skip
          refine own_by (T' := s₁) (g' := (mkF m 6 #[.val (.int p0), .val (.int k), .unset, .unset] [(.int k)])) (fun _ kq => XS.iloadN X0.here hx rfl (hb hby at_5) rfl kq) ?_
          refine own_callS X0 hx hZ (y := (⟨"com/example/stepgate/stepgate/AuthorizationStatusNotifiedPinLaw", "pick", "(I)Lcom/example/stepgate/stepgate/AuthorizationStatus;"⟩ : MethodName)) hown (hw _ (List.mem_of_getElem? (i := 0) rfl)) (hw _ (List.mem_of_getElem? (i := 1) rfl)) (hw _ (List.mem_of_getElem? (i := 2) rfl)) (hw _ (List.mem_of_getElem? (i := 3) rfl)) (by decide) (own_rm1 l Z a0 hw [] k aAUTHORIZING aOPEN aCOMPLETED aDECLINED aREFUSED aCANCELLED aFAILED aEXPIRED h0 n0 Z0 S_AUTHORIZING S_OPEN S_COMPLETED S_DECLINED S_REFUSED S_CANCELLED S_FAILED S_EXPIRED) (by decide) (by decide) e0 (g := (mkF m 6 #[.val (.int p0), .val (.int k), .unset, .unset] [(.int k)])) rfl (by rw [hml]; rfl) (argsL := [(.int k)]) (rest := []) (lenOf own_pd__28I_29Lcom_2fexample_2fstepgate_2fstepgate_2fAuthorizationStatus_3b rfl) rfl (W := 0) (by show 2 * 0 + _ ≤ _; exact Nat.le_of_eq rfl) (hb hby at_6) rfl (by decide) (by decide) ?_
          rintro rv14 T14 L14 X14 ⟨hv14, Nq14, eh14⟩
          have N14 := Fr.app N0 Nq14
          rw [if_neg hc1, if_neg hc5, if_neg hc9, if_pos hc13] at hv14
          subst hv14
          show own_Fin p e below _ T14 (mkF m 9 #[.val (.int p0), .val (.int k), .unset, .unset] [(.ref aDECLINED)])
          refine own_by (T' := T14) (g' := (mkF m 10 #[.val (.int p0), .val (.int k), .val (.ref aDECLINED), .unset] [])) (fun _ kq => XS.astoreN X14.here hx rfl (hb hby at_9) rfl rfl (l' := #[.val (.int p0), .val (.int k), .val (.ref aDECLINED), .unset]) rfl kq) ?_
          refine own_by (T' := T14) (g' := (mkF m 11 #[.val (.int p0), .val (.int k), .val (.ref aDECLINED), .unset] [(.ref aDECLINED)])) (fun _ kq => XS.aloadN X14.here hx rfl (hb hby at_10) rfl rfl kq) ?_
          refine own_callV X14 hx hZ (y := (⟨"com/example/stepgate/stepgate/AuthorizationStatus", "notified", "()Z"⟩ : MethodName)) (z := (⟨"com/example/stepgate/stepgate/AuthorizationStatus", "notified", "()Z"⟩ : MethodName)) hown (hw _ (List.mem_of_getElem? (i := 7) rfl)) (hw _ (List.mem_of_getElem? (i := 8) rfl)) (own_nf (hw _ (List.mem_of_getElem? (i := 10) rfl))) (hw _ (List.mem_of_getElem? (i := 10) rfl)) (hw _ (List.mem_of_getElem? (i := 9) rfl)) (hw _ (List.mem_of_getElem? (i := 11) rfl)) (hw _ (List.mem_of_getElem? (i := 5) rfl)) (by decide) E_DECLINED (own_rm2 l Z a0 hw [] aDECLINED aAUTHORIZING aOPEN h0 n0 Z0 S_AUTHORIZING S_OPEN) (by decide) (by decide) eh14 (g := (mkF m 11 #[.val (.int p0), .val (.int k), .val (.ref aDECLINED), .unset] [(.ref aDECLINED)])) rfl (by rw [hml]; rfl) (argsL := []) (rest := []) (lenOf own_pd__28_29Z rfl) rfl (W := 0) (by show 2 * 0 + _ ≤ _; exact Nat.le_of_eq rfl) (hb hby at_11) rfl (by decide) (by decide) ?_
          rintro rv15 T15 L15 X15 ⟨hv15, Nq15, eh15⟩
          have N15 := Fr.app N14 Nq15
          rw [if_neg n_DECLINED_AUTHORIZING, if_neg n_DECLINED_OPEN] at hv15
          subst hv15
          show own_Fin p e below _ T15 (mkF m 14 #[.val (.int p0), .val (.int k), .val (.ref aDECLINED), .unset] [(.int (1 : Int32))])
          refine own_by (T' := T15) (g' := (mkF m 15 #[.val (.int p0), .val (.int k), .val (.ref aDECLINED), .val (.int (1 : Int32))] [])) (fun _ kq => XS.istoreN X15.here hx rfl (hb hby at_14) rfl (l' := #[.val (.int p0), .val (.int k), .val (.ref aDECLINED), .val (.int (1 : Int32))]) rfl kq) ?_
          refine own_by (T' := T15) (g' := (mkF m 16 #[.val (.int p0), .val (.int k), .val (.ref aDECLINED), .val (.int (1 : Int32))] [(.int (1 : Int32))])) (fun _ kq => XS.iloadN X15.here hx rfl (hb hby at_15) rfl kq) ?_
          refine own_by (T' := T15) (g' := (mkF m 17 #[.val (.int p0), .val (.int k), .val (.ref aDECLINED), .val (.int (1 : Int32))] [(.int k), (.int (1 : Int32))])) (fun _ kq => XS.iloadN X15.here hx rfl (hb hby at_16) rfl kq) ?_
          refine own_callS X15 hx hZ (y := (⟨"com/example/stepgate/stepgate/AuthorizationStatusNotifiedPinLaw", "expected", "(I)Z"⟩ : MethodName)) hown (hw _ (List.mem_of_getElem? (i := 13) rfl)) (hw _ (List.mem_of_getElem? (i := 14) rfl)) (hw _ (List.mem_of_getElem? (i := 2) rfl)) (hw _ (List.mem_of_getElem? (i := 15) rfl)) (by decide) (own_rm3 l Z a0 hw [] k h0 n0 Z0) (by decide) (by decide) eh15 (g := (mkF m 17 #[.val (.int p0), .val (.int k), .val (.ref aDECLINED), .val (.int (1 : Int32))] [(.int k), (.int (1 : Int32))])) rfl (by rw [hml]; rfl) (argsL := [(.int k)]) (rest := [(.int (1 : Int32))]) (lenOf own_pd__28I_29Z rfl) rfl (W := 1) (by show 2 * 0 + _ ≤ _; exact Nat.le_of_eq rfl) (hb hby at_17) rfl (by decide) (by decide) ?_
          rintro rv16 T16 L16 X16 ⟨hv16, Nq16, eh16⟩
          have N16 := Fr.app N15 Nq16
          rw [if_neg hc1, if_neg hc5] at hv16
          subst hv16
          show own_Fin p e below _ T16 (mkF m 20 #[.val (.int p0), .val (.int k), .val (.ref aDECLINED), .val (.int (1 : Int32))] [(.int (1 : Int32)), (.int (1 : Int32))])
          refine own_by (T' := T16) (g' := (mkF m 23 #[.val (.int p0), .val (.int k), .val (.ref aDECLINED), .val (.int (1 : Int32))] [])) (fun _ kq => XS.icmpNo X16.here hx rfl (hb hby at_20) rfl (teq (by decide : (1 : Int32) = (1 : Int32))).2 kq) ?_
          refine own_by (T' := T16) (g' := (mkF m 24 #[.val (.int p0), .val (.int k), .val (.ref aDECLINED), .val (.int (1 : Int32))] [(.int (1 : Int32))])) (fun _ kq => XS.iconst X16.here hx rfl (hb hby at_23) kq) ?_
          refine own_by (T' := T16) (g' := (mkF m 28 #[.val (.int p0), .val (.int k), .val (.ref aDECLINED), .val (.int (1 : Int32))] [(.int (1 : Int32))])) (fun _ kq => XS.goto X16.here hx rfl (pc0 := 24) (pc' := 28) rfl (hb hby at_24) (by decide) (by decide) kq) ?_
          exact own_end X16 (v := some (.int (nar .boolean (1 : Int32)))) (fun h => by rw [Bd.returns] at h; cases h) hlk (fun hr => retN X16 hx (t := .boolean) Bd.returns (by simp) (hb hby at_28) hr) (by rw [eh16]; exact ⟨rfl, N16⟩) (by decide) (by decide)
        · skip
          by_cases hc17 : k = (4 : Int32)
          · skip
            refine own_by (T' := s₁) (g' := (mkF m 6 #[.val (.int p0), .val (.int k), .unset, .unset] [(.int k)])) (fun _ kq => XS.iloadN X0.here hx rfl (hb hby at_5) rfl kq) ?_
            refine own_callS X0 hx hZ (y := (⟨"com/example/stepgate/stepgate/AuthorizationStatusNotifiedPinLaw", "pick", "(I)Lcom/example/stepgate/stepgate/AuthorizationStatus;"⟩ : MethodName)) hown (hw _ (List.mem_of_getElem? (i := 0) rfl)) (hw _ (List.mem_of_getElem? (i := 1) rfl)) (hw _ (List.mem_of_getElem? (i := 2) rfl)) (hw _ (List.mem_of_getElem? (i := 3) rfl)) (by decide) (own_rm1 l Z a0 hw [] k aAUTHORIZING aOPEN aCOMPLETED aDECLINED aREFUSED aCANCELLED aFAILED aEXPIRED h0 n0 Z0 S_AUTHORIZING S_OPEN S_COMPLETED S_DECLINED S_REFUSED S_CANCELLED S_FAILED S_EXPIRED) (by decide) (by decide) e0 (g := (mkF m 6 #[.val (.int p0), .val (.int k), .unset, .unset] [(.int k)])) rfl (by rw [hml]; rfl) (argsL := [(.int k)]) (rest := []) (lenOf own_pd__28I_29Lcom_2fexample_2fstepgate_2fstepgate_2fAuthorizationStatus_3b rfl) rfl (W := 0) (by show 2 * 0 + _ ≤ _; exact Nat.le_of_eq rfl) (hb hby at_6) rfl (by decide) (by decide) ?_
            rintro rv18 T18 L18 X18 ⟨hv18, Nq18, eh18⟩
            have N18 := Fr.app N0 Nq18
            rw [if_neg hc1, if_neg hc5, if_neg hc9, if_neg hc13, if_pos hc17] at hv18
            subst hv18
            show own_Fin p e below _ T18 (mkF m 9 #[.val (.int p0), .val (.int k), .unset, .unset] [(.ref aREFUSED)])
            refine own_by (T' := T18) (g' := (mkF m 10 #[.val (.int p0), .val (.int k), .val (.ref aREFUSED), .unset] [])) (fun _ kq => XS.astoreN X18.here hx rfl (hb hby at_9) rfl rfl (l' := #[.val (.int p0), .val (.int k), .val (.ref aREFUSED), .unset]) rfl kq) ?_
            refine own_by (T' := T18) (g' := (mkF m 11 #[.val (.int p0), .val (.int k), .val (.ref aREFUSED), .unset] [(.ref aREFUSED)])) (fun _ kq => XS.aloadN X18.here hx rfl (hb hby at_10) rfl rfl kq) ?_
            refine own_callV X18 hx hZ (y := (⟨"com/example/stepgate/stepgate/AuthorizationStatus", "notified", "()Z"⟩ : MethodName)) (z := (⟨"com/example/stepgate/stepgate/AuthorizationStatus", "notified", "()Z"⟩ : MethodName)) hown (hw _ (List.mem_of_getElem? (i := 7) rfl)) (hw _ (List.mem_of_getElem? (i := 8) rfl)) (own_nf (hw _ (List.mem_of_getElem? (i := 10) rfl))) (hw _ (List.mem_of_getElem? (i := 10) rfl)) (hw _ (List.mem_of_getElem? (i := 9) rfl)) (hw _ (List.mem_of_getElem? (i := 11) rfl)) (hw _ (List.mem_of_getElem? (i := 5) rfl)) (by decide) E_REFUSED (own_rm2 l Z a0 hw [] aREFUSED aAUTHORIZING aOPEN h0 n0 Z0 S_AUTHORIZING S_OPEN) (by decide) (by decide) eh18 (g := (mkF m 11 #[.val (.int p0), .val (.int k), .val (.ref aREFUSED), .unset] [(.ref aREFUSED)])) rfl (by rw [hml]; rfl) (argsL := []) (rest := []) (lenOf own_pd__28_29Z rfl) rfl (W := 0) (by show 2 * 0 + _ ≤ _; exact Nat.le_of_eq rfl) (hb hby at_11) rfl (by decide) (by decide) ?_
            rintro rv19 T19 L19 X19 ⟨hv19, Nq19, eh19⟩
            have N19 := Fr.app N18 Nq19
            rw [if_neg n_REFUSED_AUTHORIZING, if_neg n_REFUSED_OPEN] at hv19
            subst hv19
            show own_Fin p e below _ T19 (mkF m 14 #[.val (.int p0), .val (.int k), .val (.ref aREFUSED), .unset] [(.int (1 : Int32))])
            refine own_by (T' := T19) (g' := (mkF m 15 #[.val (.int p0), .val (.int k), .val (.ref aREFUSED), .val (.int (1 : Int32))] [])) (fun _ kq => XS.istoreN X19.here hx rfl (hb hby at_14) rfl (l' := #[.val (.int p0), .val (.int k), .val (.ref aREFUSED), .val (.int (1 : Int32))]) rfl kq) ?_
            refine own_by (T' := T19) (g' := (mkF m 16 #[.val (.int p0), .val (.int k), .val (.ref aREFUSED), .val (.int (1 : Int32))] [(.int (1 : Int32))])) (fun _ kq => XS.iloadN X19.here hx rfl (hb hby at_15) rfl kq) ?_
            refine own_by (T' := T19) (g' := (mkF m 17 #[.val (.int p0), .val (.int k), .val (.ref aREFUSED), .val (.int (1 : Int32))] [(.int k), (.int (1 : Int32))])) (fun _ kq => XS.iloadN X19.here hx rfl (hb hby at_16) rfl kq) ?_
            refine own_callS X19 hx hZ (y := (⟨"com/example/stepgate/stepgate/AuthorizationStatusNotifiedPinLaw", "expected", "(I)Z"⟩ : MethodName)) hown (hw _ (List.mem_of_getElem? (i := 13) rfl)) (hw _ (List.mem_of_getElem? (i := 14) rfl)) (hw _ (List.mem_of_getElem? (i := 2) rfl)) (hw _ (List.mem_of_getElem? (i := 15) rfl)) (by decide) (own_rm3 l Z a0 hw [] k h0 n0 Z0) (by decide) (by decide) eh19 (g := (mkF m 17 #[.val (.int p0), .val (.int k), .val (.ref aREFUSED), .val (.int (1 : Int32))] [(.int k), (.int (1 : Int32))])) rfl (by rw [hml]; rfl) (argsL := [(.int k)]) (rest := [(.int (1 : Int32))]) (lenOf own_pd__28I_29Z rfl) rfl (W := 1) (by show 2 * 0 + _ ≤ _; exact Nat.le_of_eq rfl) (hb hby at_17) rfl (by decide) (by decide) ?_
            rintro rv20 T20 L20 X20 ⟨hv20, Nq20, eh20⟩
            have N20 := Fr.app N19 Nq20
            rw [if_neg hc1, if_neg hc5] at hv20
            subst hv20
            show own_Fin p e below _ T20 (mkF m 20 #[.val (.int p0), .val (.int k), .val (.ref aREFUSED), .val (.int (1 : Int32))] [(.int (1 : Int32)), (.int (1 : Int32))])
            refine own_by (T' := T20) (g' := (mkF m 23 #[.val (.int p0), .val (.int k), .val (.ref aREFUSED), .val (.int (1 : Int32))] [])) (fun _ kq => XS.icmpNo X20.here hx rfl (hb hby at_20) rfl (teq (by decide : (1 : Int32) = (1 : Int32))).2 kq) ?_
            refine own_by (T' := T20) (g' := (mkF m 24 #[.val (.int p0), .val (.int k), .val (.ref aREFUSED), .val (.int (1 : Int32))] [(.int (1 : Int32))])) (fun _ kq => XS.iconst X20.here hx rfl (hb hby at_23) kq) ?_
            refine own_by (T' := T20) (g' := (mkF m 28 #[.val (.int p0), .val (.int k), .val (.ref aREFUSED), .val (.int (1 : Int32))] [(.int (1 : Int32))])) (fun _ kq => XS.goto X20.here hx rfl (pc0 := 24) (pc' := 28) rfl (hb hby at_24) (by decide) (by decide) kq) ?_
            exact own_end X20 (v := some (.int (nar .boolean (1 : Int32)))) (fun h => by rw [Bd.returns] at h; cases h) hlk (fun hr => retN X20 hx (t := .boolean) Bd.returns (by simp) (hb hby at_28) hr) (by rw [eh20]; exact ⟨rfl, N20⟩) (by decide) (by decide)
          · skip
            by_cases hc21 : k = (5 : Int32)
            · skip
              refine own_by (T' := s₁) (g' := (mkF m 6 #[.val (.int p0), .val (.int k), .unset, .unset] [(.int k)])) (fun _ kq => XS.iloadN X0.here hx rfl (hb hby at_5) rfl kq) ?_
              refine own_callS X0 hx hZ (y := (⟨"com/example/stepgate/stepgate/AuthorizationStatusNotifiedPinLaw", "pick", "(I)Lcom/example/stepgate/stepgate/AuthorizationStatus;"⟩ : MethodName)) hown (hw _ (List.mem_of_getElem? (i := 0) rfl)) (hw _ (List.mem_of_getElem? (i := 1) rfl)) (hw _ (List.mem_of_getElem? (i := 2) rfl)) (hw _ (List.mem_of_getElem? (i := 3) rfl)) (by decide) (own_rm1 l Z a0 hw [] k aAUTHORIZING aOPEN aCOMPLETED aDECLINED aREFUSED aCANCELLED aFAILED aEXPIRED h0 n0 Z0 S_AUTHORIZING S_OPEN S_COMPLETED S_DECLINED S_REFUSED S_CANCELLED S_FAILED S_EXPIRED) (by decide) (by decide) e0 (g := (mkF m 6 #[.val (.int p0), .val (.int k), .unset, .unset] [(.int k)])) rfl (by rw [hml]; rfl) (argsL := [(.int k)]) (rest := []) (lenOf own_pd__28I_29Lcom_2fexample_2fstepgate_2fstepgate_2fAuthorizationStatus_3b rfl) rfl (W := 0) (by show 2 * 0 + _ ≤ _; exact Nat.le_of_eq rfl) (hb hby at_6) rfl (by decide) (by decide) ?_
              rintro rv22 T22 L22 X22 ⟨hv22, Nq22, eh22⟩
              have N22 := Fr.app N0 Nq22
              rw [if_neg hc1, if_neg hc5, if_neg hc9, if_neg hc13, if_neg hc17, if_pos hc21] at hv22
              subst hv22
              show own_Fin p e below _ T22 (mkF m 9 #[.val (.int p0), .val (.int k), .unset, .unset] [(.ref aCANCELLED)])
              refine own_by (T' := T22) (g' := (mkF m 10 #[.val (.int p0), .val (.int k), .val (.ref aCANCELLED), .unset] [])) (fun _ kq => XS.astoreN X22.here hx rfl (hb hby at_9) rfl rfl (l' := #[.val (.int p0), .val (.int k), .val (.ref aCANCELLED), .unset]) rfl kq) ?_
              refine own_by (T' := T22) (g' := (mkF m 11 #[.val (.int p0), .val (.int k), .val (.ref aCANCELLED), .unset] [(.ref aCANCELLED)])) (fun _ kq => XS.aloadN X22.here hx rfl (hb hby at_10) rfl rfl kq) ?_
              refine own_callV X22 hx hZ (y := (⟨"com/example/stepgate/stepgate/AuthorizationStatus", "notified", "()Z"⟩ : MethodName)) (z := (⟨"com/example/stepgate/stepgate/AuthorizationStatus", "notified", "()Z"⟩ : MethodName)) hown (hw _ (List.mem_of_getElem? (i := 7) rfl)) (hw _ (List.mem_of_getElem? (i := 8) rfl)) (own_nf (hw _ (List.mem_of_getElem? (i := 10) rfl))) (hw _ (List.mem_of_getElem? (i := 10) rfl)) (hw _ (List.mem_of_getElem? (i := 9) rfl)) (hw _ (List.mem_of_getElem? (i := 11) rfl)) (hw _ (List.mem_of_getElem? (i := 5) rfl)) (by decide) E_CANCELLED (own_rm2 l Z a0 hw [] aCANCELLED aAUTHORIZING aOPEN h0 n0 Z0 S_AUTHORIZING S_OPEN) (by decide) (by decide) eh22 (g := (mkF m 11 #[.val (.int p0), .val (.int k), .val (.ref aCANCELLED), .unset] [(.ref aCANCELLED)])) rfl (by rw [hml]; rfl) (argsL := []) (rest := []) (lenOf own_pd__28_29Z rfl) rfl (W := 0) (by show 2 * 0 + _ ≤ _; exact Nat.le_of_eq rfl) (hb hby at_11) rfl (by decide) (by decide) ?_
              rintro rv23 T23 L23 X23 ⟨hv23, Nq23, eh23⟩
              have N23 := Fr.app N22 Nq23
              rw [if_neg n_CANCELLED_AUTHORIZING, if_neg n_CANCELLED_OPEN] at hv23
              subst hv23
              show own_Fin p e below _ T23 (mkF m 14 #[.val (.int p0), .val (.int k), .val (.ref aCANCELLED), .unset] [(.int (1 : Int32))])
              refine own_by (T' := T23) (g' := (mkF m 15 #[.val (.int p0), .val (.int k), .val (.ref aCANCELLED), .val (.int (1 : Int32))] [])) (fun _ kq => XS.istoreN X23.here hx rfl (hb hby at_14) rfl (l' := #[.val (.int p0), .val (.int k), .val (.ref aCANCELLED), .val (.int (1 : Int32))]) rfl kq) ?_
              refine own_by (T' := T23) (g' := (mkF m 16 #[.val (.int p0), .val (.int k), .val (.ref aCANCELLED), .val (.int (1 : Int32))] [(.int (1 : Int32))])) (fun _ kq => XS.iloadN X23.here hx rfl (hb hby at_15) rfl kq) ?_
              refine own_by (T' := T23) (g' := (mkF m 17 #[.val (.int p0), .val (.int k), .val (.ref aCANCELLED), .val (.int (1 : Int32))] [(.int k), (.int (1 : Int32))])) (fun _ kq => XS.iloadN X23.here hx rfl (hb hby at_16) rfl kq) ?_
              refine own_callS X23 hx hZ (y := (⟨"com/example/stepgate/stepgate/AuthorizationStatusNotifiedPinLaw", "expected", "(I)Z"⟩ : MethodName)) hown (hw _ (List.mem_of_getElem? (i := 13) rfl)) (hw _ (List.mem_of_getElem? (i := 14) rfl)) (hw _ (List.mem_of_getElem? (i := 2) rfl)) (hw _ (List.mem_of_getElem? (i := 15) rfl)) (by decide) (own_rm3 l Z a0 hw [] k h0 n0 Z0) (by decide) (by decide) eh23 (g := (mkF m 17 #[.val (.int p0), .val (.int k), .val (.ref aCANCELLED), .val (.int (1 : Int32))] [(.int k), (.int (1 : Int32))])) rfl (by rw [hml]; rfl) (argsL := [(.int k)]) (rest := [(.int (1 : Int32))]) (lenOf own_pd__28I_29Z rfl) rfl (W := 1) (by show 2 * 0 + _ ≤ _; exact Nat.le_of_eq rfl) (hb hby at_17) rfl (by decide) (by decide) ?_
              rintro rv24 T24 L24 X24 ⟨hv24, Nq24, eh24⟩
              have N24 := Fr.app N23 Nq24
              rw [if_neg hc1, if_neg hc5] at hv24
              subst hv24
              show own_Fin p e below _ T24 (mkF m 20 #[.val (.int p0), .val (.int k), .val (.ref aCANCELLED), .val (.int (1 : Int32))] [(.int (1 : Int32)), (.int (1 : Int32))])
              refine own_by (T' := T24) (g' := (mkF m 23 #[.val (.int p0), .val (.int k), .val (.ref aCANCELLED), .val (.int (1 : Int32))] [])) (fun _ kq => XS.icmpNo X24.here hx rfl (hb hby at_20) rfl (teq (by decide : (1 : Int32) = (1 : Int32))).2 kq) ?_
              refine own_by (T' := T24) (g' := (mkF m 24 #[.val (.int p0), .val (.int k), .val (.ref aCANCELLED), .val (.int (1 : Int32))] [(.int (1 : Int32))])) (fun _ kq => XS.iconst X24.here hx rfl (hb hby at_23) kq) ?_
              refine own_by (T' := T24) (g' := (mkF m 28 #[.val (.int p0), .val (.int k), .val (.ref aCANCELLED), .val (.int (1 : Int32))] [(.int (1 : Int32))])) (fun _ kq => XS.goto X24.here hx rfl (pc0 := 24) (pc' := 28) rfl (hb hby at_24) (by decide) (by decide) kq) ?_
              exact own_end X24 (v := some (.int (nar .boolean (1 : Int32)))) (fun h => by rw [Bd.returns] at h; cases h) hlk (fun hr => retN X24 hx (t := .boolean) Bd.returns (by simp) (hb hby at_28) hr) (by rw [eh24]; exact ⟨rfl, N24⟩) (by decide) (by decide)
            · skip
              by_cases hc25 : k = (6 : Int32)
              · skip
                refine own_by (T' := s₁) (g' := (mkF m 6 #[.val (.int p0), .val (.int k), .unset, .unset] [(.int k)])) (fun _ kq => XS.iloadN X0.here hx rfl (hb hby at_5) rfl kq) ?_
                refine own_callS X0 hx hZ (y := (⟨"com/example/stepgate/stepgate/AuthorizationStatusNotifiedPinLaw", "pick", "(I)Lcom/example/stepgate/stepgate/AuthorizationStatus;"⟩ : MethodName)) hown (hw _ (List.mem_of_getElem? (i := 0) rfl)) (hw _ (List.mem_of_getElem? (i := 1) rfl)) (hw _ (List.mem_of_getElem? (i := 2) rfl)) (hw _ (List.mem_of_getElem? (i := 3) rfl)) (by decide) (own_rm1 l Z a0 hw [] k aAUTHORIZING aOPEN aCOMPLETED aDECLINED aREFUSED aCANCELLED aFAILED aEXPIRED h0 n0 Z0 S_AUTHORIZING S_OPEN S_COMPLETED S_DECLINED S_REFUSED S_CANCELLED S_FAILED S_EXPIRED) (by decide) (by decide) e0 (g := (mkF m 6 #[.val (.int p0), .val (.int k), .unset, .unset] [(.int k)])) rfl (by rw [hml]; rfl) (argsL := [(.int k)]) (rest := []) (lenOf own_pd__28I_29Lcom_2fexample_2fstepgate_2fstepgate_2fAuthorizationStatus_3b rfl) rfl (W := 0) (by show 2 * 0 + _ ≤ _; exact Nat.le_of_eq rfl) (hb hby at_6) rfl (by decide) (by decide) ?_
                rintro rv26 T26 L26 X26 ⟨hv26, Nq26, eh26⟩
                have N26 := Fr.app N0 Nq26
                rw [if_neg hc1, if_neg hc5, if_neg hc9, if_neg hc13, if_neg hc17, if_neg hc21, if_pos hc25] at hv26
                subst hv26
                show own_Fin p e below _ T26 (mkF m 9 #[.val (.int p0), .val (.int k), .unset, .unset] [(.ref aFAILED)])
                refine own_by (T' := T26) (g' := (mkF m 10 #[.val (.int p0), .val (.int k), .val (.ref aFAILED), .unset] [])) (fun _ kq => XS.astoreN X26.here hx rfl (hb hby at_9) rfl rfl (l' := #[.val (.int p0), .val (.int k), .val (.ref aFAILED), .unset]) rfl kq) ?_
                refine own_by (T' := T26) (g' := (mkF m 11 #[.val (.int p0), .val (.int k), .val (.ref aFAILED), .unset] [(.ref aFAILED)])) (fun _ kq => XS.aloadN X26.here hx rfl (hb hby at_10) rfl rfl kq) ?_
                refine own_callV X26 hx hZ (y := (⟨"com/example/stepgate/stepgate/AuthorizationStatus", "notified", "()Z"⟩ : MethodName)) (z := (⟨"com/example/stepgate/stepgate/AuthorizationStatus", "notified", "()Z"⟩ : MethodName)) hown (hw _ (List.mem_of_getElem? (i := 7) rfl)) (hw _ (List.mem_of_getElem? (i := 8) rfl)) (own_nf (hw _ (List.mem_of_getElem? (i := 10) rfl))) (hw _ (List.mem_of_getElem? (i := 10) rfl)) (hw _ (List.mem_of_getElem? (i := 9) rfl)) (hw _ (List.mem_of_getElem? (i := 11) rfl)) (hw _ (List.mem_of_getElem? (i := 5) rfl)) (by decide) E_FAILED (own_rm2 l Z a0 hw [] aFAILED aAUTHORIZING aOPEN h0 n0 Z0 S_AUTHORIZING S_OPEN) (by decide) (by decide) eh26 (g := (mkF m 11 #[.val (.int p0), .val (.int k), .val (.ref aFAILED), .unset] [(.ref aFAILED)])) rfl (by rw [hml]; rfl) (argsL := []) (rest := []) (lenOf own_pd__28_29Z rfl) rfl (W := 0) (by show 2 * 0 + _ ≤ _; exact Nat.le_of_eq rfl) (hb hby at_11) rfl (by decide) (by decide) ?_
                rintro rv27 T27 L27 X27 ⟨hv27, Nq27, eh27⟩
                have N27 := Fr.app N26 Nq27
                rw [if_neg n_FAILED_AUTHORIZING, if_neg n_FAILED_OPEN] at hv27
                subst hv27
                show own_Fin p e below _ T27 (mkF m 14 #[.val (.int p0), .val (.int k), .val (.ref aFAILED), .unset] [(.int (1 : Int32))])
                refine own_by (T' := T27) (g' := (mkF m 15 #[.val (.int p0), .val (.int k), .val (.ref aFAILED), .val (.int (1 : Int32))] [])) (fun _ kq => XS.istoreN X27.here hx rfl (hb hby at_14) rfl (l' := #[.val (.int p0), .val (.int k), .val (.ref aFAILED), .val (.int (1 : Int32))]) rfl kq) ?_
                refine own_by (T' := T27) (g' := (mkF m 16 #[.val (.int p0), .val (.int k), .val (.ref aFAILED), .val (.int (1 : Int32))] [(.int (1 : Int32))])) (fun _ kq => XS.iloadN X27.here hx rfl (hb hby at_15) rfl kq) ?_
                refine own_by (T' := T27) (g' := (mkF m 17 #[.val (.int p0), .val (.int k), .val (.ref aFAILED), .val (.int (1 : Int32))] [(.int k), (.int (1 : Int32))])) (fun _ kq => XS.iloadN X27.here hx rfl (hb hby at_16) rfl kq) ?_
                refine own_callS X27 hx hZ (y := (⟨"com/example/stepgate/stepgate/AuthorizationStatusNotifiedPinLaw", "expected", "(I)Z"⟩ : MethodName)) hown (hw _ (List.mem_of_getElem? (i := 13) rfl)) (hw _ (List.mem_of_getElem? (i := 14) rfl)) (hw _ (List.mem_of_getElem? (i := 2) rfl)) (hw _ (List.mem_of_getElem? (i := 15) rfl)) (by decide) (own_rm3 l Z a0 hw [] k h0 n0 Z0) (by decide) (by decide) eh27 (g := (mkF m 17 #[.val (.int p0), .val (.int k), .val (.ref aFAILED), .val (.int (1 : Int32))] [(.int k), (.int (1 : Int32))])) rfl (by rw [hml]; rfl) (argsL := [(.int k)]) (rest := [(.int (1 : Int32))]) (lenOf own_pd__28I_29Z rfl) rfl (W := 1) (by show 2 * 0 + _ ≤ _; exact Nat.le_of_eq rfl) (hb hby at_17) rfl (by decide) (by decide) ?_
                rintro rv28 T28 L28 X28 ⟨hv28, Nq28, eh28⟩
                have N28 := Fr.app N27 Nq28
                rw [if_neg hc1, if_neg hc5] at hv28
                subst hv28
                show own_Fin p e below _ T28 (mkF m 20 #[.val (.int p0), .val (.int k), .val (.ref aFAILED), .val (.int (1 : Int32))] [(.int (1 : Int32)), (.int (1 : Int32))])
                refine own_by (T' := T28) (g' := (mkF m 23 #[.val (.int p0), .val (.int k), .val (.ref aFAILED), .val (.int (1 : Int32))] [])) (fun _ kq => XS.icmpNo X28.here hx rfl (hb hby at_20) rfl (teq (by decide : (1 : Int32) = (1 : Int32))).2 kq) ?_
                refine own_by (T' := T28) (g' := (mkF m 24 #[.val (.int p0), .val (.int k), .val (.ref aFAILED), .val (.int (1 : Int32))] [(.int (1 : Int32))])) (fun _ kq => XS.iconst X28.here hx rfl (hb hby at_23) kq) ?_
                refine own_by (T' := T28) (g' := (mkF m 28 #[.val (.int p0), .val (.int k), .val (.ref aFAILED), .val (.int (1 : Int32))] [(.int (1 : Int32))])) (fun _ kq => XS.goto X28.here hx rfl (pc0 := 24) (pc' := 28) rfl (hb hby at_24) (by decide) (by decide) kq) ?_
                exact own_end X28 (v := some (.int (nar .boolean (1 : Int32)))) (fun h => by rw [Bd.returns] at h; cases h) hlk (fun hr => retN X28 hx (t := .boolean) Bd.returns (by simp) (hb hby at_28) hr) (by rw [eh28]; exact ⟨rfl, N28⟩) (by decide) (by decide)
              · skip
                refine own_by (T' := s₁) (g' := (mkF m 6 #[.val (.int p0), .val (.int k), .unset, .unset] [(.int k)])) (fun _ kq => XS.iloadN X0.here hx rfl (hb hby at_5) rfl kq) ?_
                refine own_callS X0 hx hZ (y := (⟨"com/example/stepgate/stepgate/AuthorizationStatusNotifiedPinLaw", "pick", "(I)Lcom/example/stepgate/stepgate/AuthorizationStatus;"⟩ : MethodName)) hown (hw _ (List.mem_of_getElem? (i := 0) rfl)) (hw _ (List.mem_of_getElem? (i := 1) rfl)) (hw _ (List.mem_of_getElem? (i := 2) rfl)) (hw _ (List.mem_of_getElem? (i := 3) rfl)) (by decide) (own_rm1 l Z a0 hw [] k aAUTHORIZING aOPEN aCOMPLETED aDECLINED aREFUSED aCANCELLED aFAILED aEXPIRED h0 n0 Z0 S_AUTHORIZING S_OPEN S_COMPLETED S_DECLINED S_REFUSED S_CANCELLED S_FAILED S_EXPIRED) (by decide) (by decide) e0 (g := (mkF m 6 #[.val (.int p0), .val (.int k), .unset, .unset] [(.int k)])) rfl (by rw [hml]; rfl) (argsL := [(.int k)]) (rest := []) (lenOf own_pd__28I_29Lcom_2fexample_2fstepgate_2fstepgate_2fAuthorizationStatus_3b rfl) rfl (W := 0) (by show 2 * 0 + _ ≤ _; exact Nat.le_of_eq rfl) (hb hby at_6) rfl (by decide) (by decide) ?_
                rintro rv29 T29 L29 X29 ⟨hv29, Nq29, eh29⟩
                have N29 := Fr.app N0 Nq29
                rw [if_neg hc1, if_neg hc5, if_neg hc9, if_neg hc13, if_neg hc17, if_neg hc21, if_neg hc25] at hv29
                subst hv29
                show own_Fin p e below _ T29 (mkF m 9 #[.val (.int p0), .val (.int k), .unset, .unset] [(.ref aEXPIRED)])
                refine own_by (T' := T29) (g' := (mkF m 10 #[.val (.int p0), .val (.int k), .val (.ref aEXPIRED), .unset] [])) (fun _ kq => XS.astoreN X29.here hx rfl (hb hby at_9) rfl rfl (l' := #[.val (.int p0), .val (.int k), .val (.ref aEXPIRED), .unset]) rfl kq) ?_
                refine own_by (T' := T29) (g' := (mkF m 11 #[.val (.int p0), .val (.int k), .val (.ref aEXPIRED), .unset] [(.ref aEXPIRED)])) (fun _ kq => XS.aloadN X29.here hx rfl (hb hby at_10) rfl rfl kq) ?_
                refine own_callV X29 hx hZ (y := (⟨"com/example/stepgate/stepgate/AuthorizationStatus", "notified", "()Z"⟩ : MethodName)) (z := (⟨"com/example/stepgate/stepgate/AuthorizationStatus", "notified", "()Z"⟩ : MethodName)) hown (hw _ (List.mem_of_getElem? (i := 7) rfl)) (hw _ (List.mem_of_getElem? (i := 8) rfl)) (own_nf (hw _ (List.mem_of_getElem? (i := 10) rfl))) (hw _ (List.mem_of_getElem? (i := 10) rfl)) (hw _ (List.mem_of_getElem? (i := 9) rfl)) (hw _ (List.mem_of_getElem? (i := 11) rfl)) (hw _ (List.mem_of_getElem? (i := 5) rfl)) (by decide) E_EXPIRED (own_rm2 l Z a0 hw [] aEXPIRED aAUTHORIZING aOPEN h0 n0 Z0 S_AUTHORIZING S_OPEN) (by decide) (by decide) eh29 (g := (mkF m 11 #[.val (.int p0), .val (.int k), .val (.ref aEXPIRED), .unset] [(.ref aEXPIRED)])) rfl (by rw [hml]; rfl) (argsL := []) (rest := []) (lenOf own_pd__28_29Z rfl) rfl (W := 0) (by show 2 * 0 + _ ≤ _; exact Nat.le_of_eq rfl) (hb hby at_11) rfl (by decide) (by decide) ?_
                rintro rv30 T30 L30 X30 ⟨hv30, Nq30, eh30⟩
                have N30 := Fr.app N29 Nq30
                rw [if_neg n_EXPIRED_AUTHORIZING, if_neg n_EXPIRED_OPEN] at hv30
                subst hv30
                show own_Fin p e below _ T30 (mkF m 14 #[.val (.int p0), .val (.int k), .val (.ref aEXPIRED), .unset] [(.int (1 : Int32))])
                refine own_by (T' := T30) (g' := (mkF m 15 #[.val (.int p0), .val (.int k), .val (.ref aEXPIRED), .val (.int (1 : Int32))] [])) (fun _ kq => XS.istoreN X30.here hx rfl (hb hby at_14) rfl (l' := #[.val (.int p0), .val (.int k), .val (.ref aEXPIRED), .val (.int (1 : Int32))]) rfl kq) ?_
                refine own_by (T' := T30) (g' := (mkF m 16 #[.val (.int p0), .val (.int k), .val (.ref aEXPIRED), .val (.int (1 : Int32))] [(.int (1 : Int32))])) (fun _ kq => XS.iloadN X30.here hx rfl (hb hby at_15) rfl kq) ?_
                refine own_by (T' := T30) (g' := (mkF m 17 #[.val (.int p0), .val (.int k), .val (.ref aEXPIRED), .val (.int (1 : Int32))] [(.int k), (.int (1 : Int32))])) (fun _ kq => XS.iloadN X30.here hx rfl (hb hby at_16) rfl kq) ?_
                refine own_callS X30 hx hZ (y := (⟨"com/example/stepgate/stepgate/AuthorizationStatusNotifiedPinLaw", "expected", "(I)Z"⟩ : MethodName)) hown (hw _ (List.mem_of_getElem? (i := 13) rfl)) (hw _ (List.mem_of_getElem? (i := 14) rfl)) (hw _ (List.mem_of_getElem? (i := 2) rfl)) (hw _ (List.mem_of_getElem? (i := 15) rfl)) (by decide) (own_rm3 l Z a0 hw [] k h0 n0 Z0) (by decide) (by decide) eh30 (g := (mkF m 17 #[.val (.int p0), .val (.int k), .val (.ref aEXPIRED), .val (.int (1 : Int32))] [(.int k), (.int (1 : Int32))])) rfl (by rw [hml]; rfl) (argsL := [(.int k)]) (rest := [(.int (1 : Int32))]) (lenOf own_pd__28I_29Z rfl) rfl (W := 1) (by show 2 * 0 + _ ≤ _; exact Nat.le_of_eq rfl) (hb hby at_17) rfl (by decide) (by decide) ?_
                rintro rv31 T31 L31 X31 ⟨hv31, Nq31, eh31⟩
                have N31 := Fr.app N30 Nq31
                rw [if_neg hc1, if_neg hc5] at hv31
                subst hv31
                show own_Fin p e below _ T31 (mkF m 20 #[.val (.int p0), .val (.int k), .val (.ref aEXPIRED), .val (.int (1 : Int32))] [(.int (1 : Int32)), (.int (1 : Int32))])
                refine own_by (T' := T31) (g' := (mkF m 23 #[.val (.int p0), .val (.int k), .val (.ref aEXPIRED), .val (.int (1 : Int32))] [])) (fun _ kq => XS.icmpNo X31.here hx rfl (hb hby at_20) rfl (teq (by decide : (1 : Int32) = (1 : Int32))).2 kq) ?_
                refine own_by (T' := T31) (g' := (mkF m 24 #[.val (.int p0), .val (.int k), .val (.ref aEXPIRED), .val (.int (1 : Int32))] [(.int (1 : Int32))])) (fun _ kq => XS.iconst X31.here hx rfl (hb hby at_23) kq) ?_
                refine own_by (T' := T31) (g' := (mkF m 28 #[.val (.int p0), .val (.int k), .val (.ref aEXPIRED), .val (.int (1 : Int32))] [(.int (1 : Int32))])) (fun _ kq => XS.goto X31.here hx rfl (pc0 := 24) (pc' := 28) rfl (hb hby at_24) (by decide) (by decide) kq) ?_
                exact own_end X31 (v := some (.int (nar .boolean (1 : Int32)))) (fun h => by rw [Bd.returns] at h; cases h) hlk (fun hr => retN X31 hx (t := .boolean) Bd.returns (by simp) (hb hby at_28) hr) (by rw [eh31]; exact ⟨rfl, N31⟩) (by decide) (by decide)
set_option maxRecDepth 65536 in
set_option maxHeartbeats 40000000 in
theorem own_comes {Post : Tables → Env → Array Value → State → Outcome → State → Prop} (hpost : ∀ tb e args s v u, (limb_1_1.after args s (.returned v) u = true ∧ limb_1_2.after args s (.returned v) u = true ∧ True) → FrameEnd s (.returned v) u (Jvm.fieldLocs frame_1_writes args s ++ Jvm.arrayLocs frame_1_arrays args s ++ Jvm.staticLocs frame_1_statics s) 0 0 → Post tb e args s (.returned v) u) :
    ArmFor flags0 classFile x code maxLocals ret World_1 tables_1 room_1 Calls_1 rest_1 Pre_1 Post := by
  intro l hfl _ _ p e ha hc hk s m args below hf hA hF happ hP
  obtain ⟨hcalls, hrest, hpre⟩ := hP
  obtain ⟨-, -, -, hnamed, -, -, -, hat⟩ := (Spec.applies_iff hf).mp happ
  obtain ⟨hg, hn⟩ := and_e (Cond.before_iff.mp (show (Jvm.Cond.and given_1 narrow_1).before args s = true from hpre))
  obtain ⟨g0, g1⟩ := and_e hg
  obtain ⟨w0, rfl⟩ : ∃ w0 : Value, args = #[w0] := by
    have hs : args.size = 1 := by simpa [Jvm.Cond.value, given_1] using g0
    obtain ⟨L⟩ := args
    match L, hs with
    | [w0], _ => exact ⟨w0, rfl⟩
  have hw := fun d (hd : d ∈ tables_1) => atoms_spec (ws := Jvm.Cond.code x code maxLocals ret :: tables_1) hat d (List.mem_cons_of_mem _ hd)
  have hfit : Fit s := fun {y c} hc i hi => by
    obtain ⟨ha, rfl⟩ := Array.getElem?_eq_some_iff.mp hc
    have q := List.all_eq_true.mp ((Array.all_eq_true_iff_forall_mem.mp hF) _ (Array.getElem_mem ha)) i (List.mem_range.mpr hi)
    simpa [Array.getElem?_eq_getElem hi] using q
  obtain ⟨i0, ei0⟩ := is_v g1
  obtain rfl : w0 = (.int i0) := Option.some.inj ei0
  obtain ⟨g2, g3⟩ := and_e hn
  obtain ⟨g4, g5⟩ := and_e g3
  obtain ⟨g6, g7⟩ := and_e g5
  obtain ⟨g8, g9⟩ := and_e g7
  obtain ⟨g10, g11⟩ := and_e g9
  obtain ⟨g12, g13⟩ := and_e g11
  obtain ⟨g14, g15⟩ := and_e g13
  obtain ⟨g16, g17⟩ := and_e g15
  obtain ⟨g18, g19⟩ := and_e g17
  obtain ⟨g20, g21⟩ := and_e g19
  obtain ⟨g22, g23⟩ := and_e g21
  obtain ⟨g24, g25⟩ := and_e g23
  obtain ⟨g26, g27⟩ := and_e g25
  obtain ⟨g28, g29⟩ := and_e g27
  obtain ⟨g30, g31⟩ := and_e g29
  obtain ⟨a_AUTHORIZING, ea_AUTHORIZING⟩ := exa_v g2
  have E_AUTHORIZING := Exa.start ea_AUTHORIZING g2
  have S_AUTHORIZING := Sta.start ea_AUTHORIZING (Or.inr ⟨(hw _ (List.mem_of_getElem? (i := 5) rfl)), (hw _ (List.mem_of_getElem? (i := 6) rfl))⟩)
  obtain ⟨a_DECLINED, ea_DECLINED⟩ := exa_v g4
  have E_DECLINED := Exa.start ea_DECLINED g4
  have S_DECLINED := Sta.start ea_DECLINED (Or.inr ⟨(hw _ (List.mem_of_getElem? (i := 5) rfl)), (hw _ (List.mem_of_getElem? (i := 17) rfl))⟩)
  obtain ⟨a_OPEN, ea_OPEN⟩ := exa_v g10
  have E_OPEN := Exa.start ea_OPEN g10
  have S_OPEN := Sta.start ea_OPEN (Or.inr ⟨(hw _ (List.mem_of_getElem? (i := 5) rfl)), (hw _ (List.mem_of_getElem? (i := 19) rfl))⟩)
  obtain ⟨a_FAILED, ea_FAILED⟩ := exa_v g14
  have E_FAILED := Exa.start ea_FAILED g14
  have S_FAILED := Sta.start ea_FAILED (Or.inr ⟨(hw _ (List.mem_of_getElem? (i := 5) rfl)), (hw _ (List.mem_of_getElem? (i := 21) rfl))⟩)
  obtain ⟨a_EXPIRED, ea_EXPIRED⟩ := exa_v g18
  have E_EXPIRED := Exa.start ea_EXPIRED g18
  have S_EXPIRED := Sta.start ea_EXPIRED (Or.inr ⟨(hw _ (List.mem_of_getElem? (i := 5) rfl)), (hw _ (List.mem_of_getElem? (i := 23) rfl))⟩)
  obtain ⟨a_COMPLETED, ea_COMPLETED⟩ := exa_v g22
  have E_COMPLETED := Exa.start ea_COMPLETED g22
  have S_COMPLETED := Sta.start ea_COMPLETED (Or.inr ⟨(hw _ (List.mem_of_getElem? (i := 5) rfl)), (hw _ (List.mem_of_getElem? (i := 25) rfl))⟩)
  obtain ⟨a_REFUSED, ea_REFUSED⟩ := exa_v g26
  have E_REFUSED := Exa.start ea_REFUSED g26
  have S_REFUSED := Sta.start ea_REFUSED (Or.inr ⟨(hw _ (List.mem_of_getElem? (i := 5) rfl)), (hw _ (List.mem_of_getElem? (i := 28) rfl))⟩)
  obtain ⟨a_CANCELLED, ea_CANCELLED⟩ := exa_v g30
  have E_CANCELLED := Exa.start ea_CANCELLED g30
  have S_CANCELLED := Sta.start ea_CANCELLED (Or.inr ⟨(hw _ (List.mem_of_getElem? (i := 5) rfl)), (hw _ (List.mem_of_getElem? (i := 30) rfl))⟩)
  have O_DECLINED := own_fldI g6 ea_DECLINED
  have O_AUTHORIZING := own_fldI g8 ea_AUTHORIZING
  have O_OPEN := own_fldI g12 ea_OPEN
  have O_FAILED := own_fldI g16 ea_FAILED
  have O_EXPIRED := own_fldI g20 ea_EXPIRED
  have O_COMPLETED := own_fldI g24 ea_COMPLETED
  have O_REFUSED := own_fldI g28 ea_REFUSED
  have O_CANCELLED := own_fldI g31 ea_CANCELLED
  obtain ⟨n, o, h1, h2, h3, _, L, rfl, ⟨rfl, N⟩, hq⟩ := own_rm0 l s _ hw tables_1 i0 a_AUTHORIZING a_OPEN a_COMPLETED a_DECLINED a_REFUSED a_CANCELLED a_FAILED a_EXPIRED s.heap s.heap.size (Nat.le_refl _) S_AUTHORIZING S_OPEN S_COMPLETED S_DECLINED S_REFUSED S_CANCELLED S_FAILED S_EXPIRED E_AUTHORIZING E_OPEN E_COMPLETED E_DECLINED E_REFUSED E_CANCELLED E_FAILED E_EXPIRED (O_OPEN.ne O_AUTHORIZING (by decide)) (O_COMPLETED.ne O_AUTHORIZING (by decide)) (O_DECLINED.ne O_AUTHORIZING (by decide)) (O_REFUSED.ne O_AUTHORIZING (by decide)) (O_CANCELLED.ne O_AUTHORIZING (by decide)) (O_FAILED.ne O_AUTHORIZING (by decide)) (O_EXPIRED.ne O_AUTHORIZING (by decide)) (O_COMPLETED.ne O_OPEN (by decide)) (O_DECLINED.ne O_OPEN (by decide)) (O_REFUSED.ne O_OPEN (by decide)) (O_CANCELLED.ne O_OPEN (by decide)) (O_FAILED.ne O_OPEN (by decide)) (O_EXPIRED.ne O_OPEN (by decide)) p e ha hc hk s m _ below hf ((Spec.applies_iff_loose hf).mp happ).1 ⟨rfl, State.Warmed39.refl s, rfl⟩ trivial
  refine ⟨n, _, h1, h2, h3, hpost _ _ _ _ _ _ ⟨Cond.after_iff.mpr rfl, Cond.after_iff.mpr (eq_i res_at (Term.int_eval (1)) rfl), trivial⟩ ⟨hq.1, hq.2.1, (hq.2.2.sift fun y hy => Or.inr (N y hy)).mono (by decide) (by decide)⟩⟩
theorem main_1_1 : Claimed_1_1 := own_comes fun _ _ _ _ _ _ h hF => ⟨h.1, hF⟩
theorem main_1_2 : Claimed_1_2 := own_comes fun _ _ _ _ _ _ h hF => ⟨h.2.1, hF⟩
end Jvm.Pilot.@@N@@
namespace Jvm.Pilot.@@N@@
open Jvm Jvm.ClassFile Sem Op Lib Jvm.Free Jvm.Stand Jvm.Pilot.@@N@@.Jvm.D
/-! MADE BY PROGRAM (witnessworld.py) out of the Statement's table words and the real class files: 12 classes; the members and pool entries that the words name. The judged class is class 1, her method 3. -/
namespace start1
open Jvm.ClassFile
def u (s : String) : CpInfo := .utf8 (stringToUtf16 s)
/-- a pool by its gaps: so many unusable entries, then the entry; so many at the end -/
def gap : Nat → List CpInfo → List CpInfo
  | 0, r => r
  | n + 1, r => .unusable :: gap n r
def poolList (es : List (Nat × CpInfo)) (last : Nat) : List CpInfo := es.foldr (fun e r => gap e.1 (e.2 :: r)) (gap last [])
def pool (es : List (Nat × CpInfo)) (last : Nat) : Array CpInfo := ⟨poolList es last⟩
def fileOf (pool : Array CpInfo) (this : Nat) (attrs : Array Attribute := #[]) (ms : Array MethodInfo := #[]) (fl : Nat := 33) (sup : Nat := 0) (ifs : Array Nat := #[]) (fds : Array FieldInfo := #[]) : ClassFile where
  minorVersion := 0
  majorVersion := 65
  constantPool := pool
  accessFlags := fl
  thisClass := this
  superClass := sup
  interfaces := ifs
  fields := fds
  methods := ms
  attributes := attrs
def plain (name : String) (sup : Option ClassId) : Class where
  name := name
  kind := .ordinary
  loader := none
  accessFlags := 33
  super := sup
  interfaces := #[]
  cf := none
  fields := #[]
  methods := #[]
  instanceTypes := #[]
  staticTypes := #[]
  resolved := #[]
  callSites := []
  init := .initialized
  statics := none
  mirror := none

def pool0 : Array CpInfo := pool [(5, u "<init>"), (0, u "()V"), (1, .class_ 10), (1, u "java/lang/Object")] 113

def k0m0 : Method := { name := "<init>", desc := "()V", sig := { parameters := [], returnType := none }, accessFlags := 1, code := none }
/-- java/lang/Object -/
def k0 : Class := { plain "java/lang/Object" none with
  accessFlags := 33
  interfaces := #[]
  cf := some (fileOf pool0 8 #[] #[{ accessFlags := 1, nameIndex := 5, descriptorIndex := 6, attributes := #[] }] 33 0 #[] #[])
  fields := #[]
  methods := #[k0m0]
  instanceTypes := #[]
  staticTypes := #[]
  resolved := Array.replicate 124 none
  statics := none }

def pool1 : Array CpInfo := pool [(2, .class_ 4), (1, u "java/lang/Object"), (0, u "<init>"), (0, u "()V"), (0, .fieldref 8 9), (0, .class_ 10), (0, .nameAndType 11 12), (0, u "com/example/stepgate/stepgate/AuthorizationStatus"), (0, u "AUTHORIZING"), (0, u "Lcom/example/stepgate/stepgate/AuthorizationStatus;"), (0, .fieldref 8 14), (0, .nameAndType 15 12), (0, u "OPEN"), (0, .fieldref 8 17), (0, .nameAndType 18 12), (0, u "COMPLETED"), (0, .fieldref 8 20), (0, .nameAndType 21 12), (0, u "DECLINED"), (0, .fieldref 8 23), (0, .nameAndType 24 12), (0, u "REFUSED"), (0, .fieldref 8 26), (0, .nameAndType 27 12), (0, u "CANCELLED"), (0, .fieldref 8 29), (0, .nameAndType 30 12), (0, u "FAILED"), (0, .fieldref 8 32), (0, .nameAndType 33 12), (0, u "EXPIRED"), (0, .methodref 35 36), (0, .class_ 37), (0, .nameAndType 38 39), (0, u "com/example/stepgate/stepgate/AuthorizationStatusNotifiedPinLaw"), (0, u "pick"), (0, u "(I)Lcom/example/stepgate/stepgate/AuthorizationStatus;"), (0, .methodref 8 41), (0, .nameAndType 42 43), (0, u "notified"), (0, u "()Z"), (0, .methodref 35 45), (0, .nameAndType 46 47), (0, u "expected"), (0, u "(I)Z"), (3, u "law")] 2

def k1m0 : Method := { name := "<init>", desc := "()V", sig := { parameters := [], returnType := none }, accessFlags := 1, code := none }
def k1c1 : Code := { maxStack := 2, maxLocals := 1, code := method_2_code, exceptionTable := #[], attributes := #[] }
def k1m1 : Method := { name := "pick", desc := "(I)Lcom/example/stepgate/stepgate/AuthorizationStatus;", sig := { parameters := [.int], returnType := some (.object "com/example/stepgate/stepgate/AuthorizationStatus") }, accessFlags := 10, code := some k1c1 }
def k1c2 : Code := { maxStack := 2, maxLocals := 1, code := method_3_code, exceptionTable := #[], attributes := #[] }
def k1m2 : Method := { name := "expected", desc := "(I)Z", sig := { parameters := [.int], returnType := some .boolean }, accessFlags := 10, code := some k1c2 }
def k1c3 : Code := { maxStack := 2, maxLocals := 4, code := code, exceptionTable := #[], attributes := #[] }
def k1m3 : Method := { name := "law", desc := "(I)Z", sig := { parameters := [.int], returnType := some .boolean }, accessFlags := 9, code := some k1c3 }
/-- com/example/stepgate/stepgate/AuthorizationStatusNotifiedPinLaw -/
def k1 : Class := { plain "com/example/stepgate/stepgate/AuthorizationStatusNotifiedPinLaw" (some 0) with
  accessFlags := 49
  interfaces := #[]
  cf := some (fileOf pool1 35 #[] #[{ accessFlags := 1, nameIndex := 5, descriptorIndex := 6, attributes := #[] }, { accessFlags := 10, nameIndex := 38, descriptorIndex := 39, attributes := #[] }, { accessFlags := 10, nameIndex := 46, descriptorIndex := 47, attributes := #[] }, { accessFlags := 9, nameIndex := 51, descriptorIndex := 47, attributes := #[] }] 49 2 #[] #[])
  fields := #[]
  methods := #[k1m0, k1m1, k1m2, k1m3]
  instanceTypes := #[]
  staticTypes := #[]
  resolved := Array.replicate 54 none
  statics := none }

def pool2 : Array CpInfo := pool [(1, .class_ 2), (0, u "java/lang/constant/Constable"), (0, .class_ 4), (0, u "java/lang/Object")] 6

/-- java/lang/constant/Constable -/
def k2 : Class := { plain "java/lang/constant/Constable" (some 0) with
  accessFlags := 1537
  interfaces := #[]
  cf := some (fileOf pool2 1 #[] #[] 1537 3 #[] #[])
  fields := #[]
  methods := #[]
  instanceTypes := #[]
  staticTypes := #[]
  resolved := Array.replicate 11 none
  statics := none }

def pool3 : Array CpInfo := pool [(1, .class_ 2), (0, u "java/lang/Comparable"), (0, .class_ 4), (0, u "java/lang/Object")] 7

/-- java/lang/Comparable -/
def k3 : Class := { plain "java/lang/Comparable" (some 0) with
  accessFlags := 1537
  interfaces := #[]
  cf := some (fileOf pool3 1 #[] #[] 1537 3 #[] #[])
  fields := #[]
  methods := #[]
  instanceTypes := #[]
  staticTypes := #[]
  resolved := Array.replicate 12 none
  statics := none }

def pool4 : Array CpInfo := pool [(1, .class_ 2), (0, u "java/io/Serializable"), (0, .class_ 4), (0, u "java/lang/Object")] 2

/-- java/io/Serializable -/
def k4 : Class := { plain "java/io/Serializable" (some 0) with
  accessFlags := 1537
  interfaces := #[]
  cf := some (fileOf pool4 1 #[] #[] 1537 3 #[] #[])
  fields := #[]
  methods := #[]
  instanceTypes := #[]
  staticTypes := #[]
  resolved := Array.replicate 7 none
  statics := none }

def pool5 : Array CpInfo := pool [(2, .class_ 4), (1, u "java/lang/Enum"), (0, u "name"), (0, u "Ljava/lang/String;"), (2, u "ordinal"), (0, u "I"), (1, .class_ 14), (1, u "java/lang/Object"), (4, u "hash"), (86, .class_ 108), (1, u "java/lang/Enum$EnumDesc"), (2, .class_ 112), (0, u "java/lang/constant/Constable"), (0, .class_ 114), (0, u "java/lang/Comparable"), (0, .class_ 116), (0, u "java/io/Serializable")] 87

/-- java/lang/Enum -/
def k5 : Class := { plain "java/lang/Enum" (some 0) with
  accessFlags := 1057
  interfaces := #[2, 3, 4]
  cf := some (fileOf pool5 2 #[.nestMembers #[106]] #[] 1057 12 #[111, 113, 115] #[{ accessFlags := 18, nameIndex := 5, descriptorIndex := 6, attributes := #[] }, { accessFlags := 18, nameIndex := 9, descriptorIndex := 10, attributes := #[] }, { accessFlags := 2, nameIndex := 19, descriptorIndex := 10, attributes := #[] }])
  fields := #[{ name := "name", type := (.object "java/lang/String"), accessFlags := 18, slot := 0, constantValue := 0 }, { name := "ordinal", type := .int, accessFlags := 18, slot := 1, constantValue := 0 }, { name := "hash", type := .int, accessFlags := 2, slot := 2, constantValue := 0 }]
  methods := #[]
  instanceTypes := #[(.object "java/lang/String"), .int, .int]
  staticTypes := #[]
  resolved := Array.replicate 204 none
  statics := none }

def pool6 : Array CpInfo := pool [(1, .class_ 2), (0, u "com/example/stepgate/stepgate/AuthorizationStatus"), (0, .fieldref 1 4), (0, .nameAndType 5 6), (0, u "AUTHORIZING"), (0, u "Lcom/example/stepgate/stepgate/AuthorizationStatus;"), (0, .fieldref 1 8), (0, .nameAndType 9 6), (0, u "OPEN"), (2, u "COMPLETED"), (2, u "DECLINED"), (2, u "REFUSED"), (2, u "CANCELLED"), (2, u "FAILED"), (2, u "EXPIRED"), (2, u "$VALUES"), (0, u "[Lcom/example/stepgate/stepgate/AuthorizationStatus;"), (6, .class_ 40), (1, u "java/lang/Enum"), (43, u "notified"), (0, u "()Z")] 5

def k6c0 : Code := { maxStack := 2, maxLocals := 1, code := prog_5_method_5_code, exceptionTable := #[], attributes := #[] }
def k6m0 : Method := { name := "notified", desc := "()Z", sig := { parameters := [], returnType := some .boolean }, accessFlags := 0, code := some k6c0 }
/-- com/example/stepgate/stepgate/AuthorizationStatus -/
def k6 : Class := { plain "com/example/stepgate/stepgate/AuthorizationStatus" (some 5) with
  accessFlags := 16432
  interfaces := #[]
  cf := some (fileOf pool6 1 #[] #[{ accessFlags := 0, nameIndex := 84, descriptorIndex := 85, attributes := #[] }] 16432 38 #[] #[{ accessFlags := 16409, nameIndex := 5, descriptorIndex := 6, attributes := #[] }, { accessFlags := 16409, nameIndex := 9, descriptorIndex := 6, attributes := #[] }, { accessFlags := 16409, nameIndex := 12, descriptorIndex := 6, attributes := #[] }, { accessFlags := 16409, nameIndex := 15, descriptorIndex := 6, attributes := #[] }, { accessFlags := 16409, nameIndex := 18, descriptorIndex := 6, attributes := #[] }, { accessFlags := 16409, nameIndex := 21, descriptorIndex := 6, attributes := #[] }, { accessFlags := 16409, nameIndex := 24, descriptorIndex := 6, attributes := #[] }, { accessFlags := 16409, nameIndex := 27, descriptorIndex := 6, attributes := #[] }, { accessFlags := 4122, nameIndex := 30, descriptorIndex := 31, attributes := #[] }])
  fields := #[{ name := "AUTHORIZING", type := (.object "com/example/stepgate/stepgate/AuthorizationStatus"), accessFlags := 16409, slot := 0, constantValue := 0 }, { name := "OPEN", type := (.object "com/example/stepgate/stepgate/AuthorizationStatus"), accessFlags := 16409, slot := 1, constantValue := 0 }, { name := "COMPLETED", type := (.object "com/example/stepgate/stepgate/AuthorizationStatus"), accessFlags := 16409, slot := 2, constantValue := 0 }, { name := "DECLINED", type := (.object "com/example/stepgate/stepgate/AuthorizationStatus"), accessFlags := 16409, slot := 3, constantValue := 0 }, { name := "REFUSED", type := (.object "com/example/stepgate/stepgate/AuthorizationStatus"), accessFlags := 16409, slot := 4, constantValue := 0 }, { name := "CANCELLED", type := (.object "com/example/stepgate/stepgate/AuthorizationStatus"), accessFlags := 16409, slot := 5, constantValue := 0 }, { name := "FAILED", type := (.object "com/example/stepgate/stepgate/AuthorizationStatus"), accessFlags := 16409, slot := 6, constantValue := 0 }, { name := "EXPIRED", type := (.object "com/example/stepgate/stepgate/AuthorizationStatus"), accessFlags := 16409, slot := 7, constantValue := 0 }, { name := "$VALUES", type := (.array (.object "com/example/stepgate/stepgate/AuthorizationStatus")), accessFlags := 4122, slot := 8, constantValue := 0 }]
  methods := #[k6m0]
  instanceTypes := #[(.object "java/lang/String"), .int, .int]
  staticTypes := #[(.object "com/example/stepgate/stepgate/AuthorizationStatus"), (.object "com/example/stepgate/stepgate/AuthorizationStatus"), (.object "com/example/stepgate/stepgate/AuthorizationStatus"), (.object "com/example/stepgate/stepgate/AuthorizationStatus"), (.object "com/example/stepgate/stepgate/AuthorizationStatus"), (.object "com/example/stepgate/stepgate/AuthorizationStatus"), (.object "com/example/stepgate/stepgate/AuthorizationStatus"), (.object "com/example/stepgate/stepgate/AuthorizationStatus"), (.array (.object "com/example/stepgate/stepgate/AuthorizationStatus"))]
  resolved := Array.replicate 91 none
  statics := some 0 }

def pool7 : Array CpInfo := pool [(1, u "java/lang/Cloneable"), (0, .class_ 1), (0, u "java/lang/Object"), (0, .class_ 3)] 3

/-- java/lang/Cloneable -/
def k7 : Class := { plain "java/lang/Cloneable" (some 0) with
  accessFlags := 1537
  interfaces := #[]
  cf := some (fileOf pool7 2 #[] #[] 1537 4 #[] #[])
  fields := #[]
  methods := #[]
  instanceTypes := #[]
  staticTypes := #[]
  resolved := Array.replicate 8 none
  statics := none }

/-- the primitive byte -/
def k8 : Class := { plain "byte" none with kind := .primitive 'B', accessFlags := 0x411 }
/-- [B -/
def k9 : Class := { plain "[B" (some 0) with kind := .array 8 .byte, interfaces := #[7, 4], accessFlags := 1041 }

/-- the primitive int -/
def k10 : Class := { plain "int" none with kind := .primitive 'I', accessFlags := 0x411 }
/-- [I -/
def k11 : Class := { plain "[I" (some 0) with kind := .array 10 .int, interfaces := #[7, 4], accessFlags := 1041 }

def heap : Heap := #[{ cls := 6, slots := #[.ref 1, .ref 3, .ref 6, .ref 2, .ref 7, .ref 8, .ref 4, .ref 5, .null], vm := .statics 6 },
  { cls := 6, slots := #[.null, .int 0, .int 0], vm := .none },
  { cls := 6, slots := #[.null, .int 3, .int 0], vm := .none },
  { cls := 6, slots := #[.null, .int 1, .int 0], vm := .none },
  { cls := 6, slots := #[.null, .int 6, .int 0], vm := .none },
  { cls := 6, slots := #[.null, .int 7, .int 0], vm := .none },
  { cls := 6, slots := #[.null, .int 2, .int 0], vm := .none },
  { cls := 6, slots := #[.null, .int 4, .int 0], vm := .none },
  { cls := 6, slots := #[.null, .int 5, .int 0], vm := .none }]
def classes : Array Class := #[k0, k1, k2, k3, k4, k5, k6, k7, k8, k9, k10, k11]
def interned : List (Array UInt16 × Addr) := []
def slotsUsed : Nat := 33
def theMethod : MethodId := ⟨1, 3⟩
def args0 : Array Value := #[.int 5]
def aboutOver (below : List Frame) : State where
  vm := { classes := classes, interned := interned.toArray }
  heap := heap
  slotsUsed := slotsUsed
  threads := #[{ frames := .invoking theMethod args0 :: below }]
def below0 : List Frame := [.native { method := ⟨0, 0⟩, args := #[] }]
def about1 : State := aboutOver below0
def p0 : Program := .bare "" "" ""
def e0 : Env := launch0.env 0 0 0
theorem w_frames : about1.frames = Frame.invoking theMethod args0 :: below0 := rfl
set_option maxRecDepth 65536 in
theorem w_args : argsFit about1.vm theMethod args0 = true := by decide +kernel
set_option maxRecDepth 65536 in
theorem w_heap : heapFits about1 = true := by decide +kernel
set_option maxRecDepth 65536 in
theorem w_runnable : about1.curStatus? = some .runnable := by decide +kernel
set_option maxRecDepth 65536 in
theorem w_alone : about1.alone = true := by decide +kernel
set_option maxRecDepth 65536 in
theorem w_named : about1.methodNamed? x = some theMethod := by decide +kernel
set_option maxRecDepth 65536 in
theorem w_hears : about1.hears theMethod below0 = true := by decide +kernel
set_option maxRecDepth 65536 in
theorem w_ripe : about1.ripe theMethod args0 below0 = true := by decide +kernel
theorem w_running : about1.status = .running := rfl
set_option maxRecDepth 65536 in
theorem w_room : about1.hasRoom e0.platform room_1 = true :=
  launch0.hasRoom_least _ room_1 (by decide +kernel) (by decide +kernel) (by decide +kernel) (by decide +kernel) (by decide +kernel) (by decide +kernel)
theorem allAtoms_all (ts : List Jvm.Cond) (a : Array Jvm.Value) (st : Jvm.State) : (allAtoms ts).before a st = ts.all (fun c => c.before a st) := by
  induction ts with
  | nil => rfl
  | cons c t ih =>
    show (Jvm.Cond.and c (allAtoms t)).before a st = _
    rw [Jvm.Cond.before_and, ih, List.all_cons]
def words1 : List Jvm.Cond := Jvm.Cond.code x code maxLocals ret :: tables_1
/-- a 'code' word, met by the world's own term for the bytes: nothing is compared byte by byte -/
theorem code_word {y : MethodName} {bytes : ByteArray} {mx : Nat} {rt : Option FieldType} {a : Array Value} {s : State} {m : MethodId} {meth : Method} {c : Code} (h1 : s.methodNamed? y = some m) (h2 : s.vm.method? m = some meth) (h3 : meth.code = some c) (h4 : c.code = bytes)
    (h5 : (c.maxLocals == mx && c.exceptionTable.isEmpty && decide (c.maxStack ≤ mostOperands) && decide (meth.sig.returnType = rt) && !meth.locks && decide (parseMethodDescriptor y.desc = some meth.sig)) = true) : (Jvm.Cond.code y bytes mx rt).before a s = true := by
  simp only [Bool.and_eq_true, beq_iff_eq, Bool.not_eq_true', decide_eq_true_eq] at h5
  obtain ⟨⟨⟨⟨⟨g1, g2⟩, g3⟩, g4⟩, g5⟩, g6⟩ := h5
  simp [Cond.before, Cond.holds, Cond.value, h1, h2, h3, h4, g1, g2, g3, g4, g5, g6]
def isCode : Jvm.Cond → Bool
  | .code _ _ _ _ => true
  | _ => false
theorem all_split {L : List Jvm.Cond} {P : Jvm.Cond → Bool} (h1 : L.all (fun c => isCode c || P c) = true) (h2 : ∀ c ∈ L.filter isCode, P c = true) : L.all P = true := by
  refine List.all_eq_true.mpr fun c hc => ?_
  have h := List.all_eq_true.mp h1 c hc
  rcases Bool.eq_false_or_eq_true (isCode c) with hi | hi
  · exact h2 c (List.mem_filter.mpr ⟨hc, hi⟩)
  · simpa [hi] using h
set_option maxRecDepth 65536 in
theorem w_c0 : (Jvm.Cond.code x code maxLocals ret).before args0 about1 = true := code_word (m := ⟨1, 3⟩) (meth := k1m3) (c := k1c3) (by decide +kernel) rfl rfl rfl (by decide +kernel)
set_option maxRecDepth 65536 in
theorem w_c1 : (Jvm.Cond.code ({ cls := "com/example/stepgate/stepgate/AuthorizationStatusNotifiedPinLaw", name := "pick", desc := "(I)Lcom/example/stepgate/stepgate/AuthorizationStatus;" } : Jvm.MethodName) method_2_code (1 : Nat) (Option.some (Jvm.ClassFile.FieldType.object "com/example/stepgate/stepgate/AuthorizationStatus"))).before args0 about1 = true := code_word (m := ⟨1, 1⟩) (meth := k1m1) (c := k1c1) (by decide +kernel) rfl rfl rfl (by decide +kernel)
set_option maxRecDepth 65536 in
theorem w_c2 : (Jvm.Cond.code ({ cls := "com/example/stepgate/stepgate/AuthorizationStatus", name := "notified", desc := "()Z" } : Jvm.MethodName) prog_5_method_5_code (1 : Nat) (Option.some Jvm.ClassFile.FieldType.boolean)).before args0 about1 = true := code_word (m := ⟨6, 0⟩) (meth := k6m0) (c := k6c0) (by decide +kernel) rfl rfl rfl (by decide +kernel)
set_option maxRecDepth 65536 in
theorem w_c3 : (Jvm.Cond.code ({ cls := "com/example/stepgate/stepgate/AuthorizationStatusNotifiedPinLaw", name := "expected", desc := "(I)Z" } : Jvm.MethodName) method_3_code (1 : Nat) (Option.some Jvm.ClassFile.FieldType.boolean)).before args0 about1 = true := code_word (m := ⟨1, 2⟩) (meth := k1m2) (c := k1c2) (by decide +kernel) rfl rfl rfl (by decide +kernel)
def codes1 : List Jvm.Cond := [Jvm.Cond.code x code maxLocals ret, Jvm.Cond.code ({ cls := "com/example/stepgate/stepgate/AuthorizationStatusNotifiedPinLaw", name := "pick", desc := "(I)Lcom/example/stepgate/stepgate/AuthorizationStatus;" } : Jvm.MethodName) method_2_code (1 : Nat) (Option.some (Jvm.ClassFile.FieldType.object "com/example/stepgate/stepgate/AuthorizationStatus")), Jvm.Cond.code ({ cls := "com/example/stepgate/stepgate/AuthorizationStatus", name := "notified", desc := "()Z" } : Jvm.MethodName) prog_5_method_5_code (1 : Nat) (Option.some Jvm.ClassFile.FieldType.boolean), Jvm.Cond.code ({ cls := "com/example/stepgate/stepgate/AuthorizationStatusNotifiedPinLaw", name := "expected", desc := "(I)Z" } : Jvm.MethodName) method_3_code (1 : Nat) (Option.some Jvm.ClassFile.FieldType.boolean)]
set_option maxRecDepth 65536 in
theorem codes_eq : words1.filter isCode = codes1 := rfl
theorem w_codes : ∀ c ∈ words1.filter isCode, c.before args0 about1 = true := by
  rw [codes_eq]
  intro c hc
  simp only [codes1, List.mem_cons, List.not_mem_nil, or_false] at hc
  rcases hc with rfl | rfl | rfl | rfl
  · exact w_c0
  · exact w_c1
  · exact w_c2
  · exact w_c3
set_option maxRecDepth 65536 in
theorem w_t1 : (words1.take 24).all (fun c => isCode c || c.before args0 about1) = true := by decide +kernel
set_option maxRecDepth 65536 in
theorem w_t2 : (words1.drop 24).all (fun c => isCode c || c.before args0 about1) = true := by decide +kernel
theorem w_tables : (allAtoms (Jvm.Cond.code x code maxLocals ret :: tables_1)).before args0 about1 = true := by
  rw [allAtoms_all]
  show words1.all (fun c => c.before args0 about1) = true
  refine all_split ?_ w_codes
  rw [← List.take_append_drop 24 words1, List.all_append, w_t1, w_t2]
  rfl
set_option maxRecDepth 65536 in
theorem w_case : (Jvm.Cond.and given_1 narrow_1).before args0 about1 = true := by decide +kernel
theorem w_applies : (headSpec (Jvm.Cond.code x code maxLocals ret :: tables_1) room_1).applies x e0.platform about1 = true :=
  (Spec.applies_iff w_frames).mpr ⟨w_running, w_runnable, w_alone, w_named, w_hears, w_ripe, w_room, w_tables⟩
theorem atStart : AtStart classFile x code maxLocals ret World_1 tables_1 room_1 Calls_1 rest_1 Pre_1 launch0 p0 e0 about1 theMethod args0 below0 :=
  ⟨lists_1, trivial, launch0.admits_env _ _ _, launch0.least_env, fairChoices_fair.cas, fairChoices_fair.clock, w_frames, w_args, w_heap, w_applies, trivial, trivial, w_case⟩
end start1
theorem witness_1 : WitnessClaimed_1 := ⟨start1.p0, start1.e0, start1.about1, start1.theMethod, start1.args0, start1.below0, start1.atStart⟩
end Jvm.Pilot.@@N@@
