import JvmDerived
import JvmDerived.Pilot.@@N@@Statement
import JvmDerived.Pilot.@@N@@Code
set_option linter.unusedVariables false
set_option linter.unusedSimpArgs false
namespace Jvm.Pilot.@@N@@
open Jvm Jvm.ClassFile Sem Op Lib Jvm.Free Jvm.Stand Jvm.LawKit Jvm.RoadKit Bundle Jvm.Pilot.@@N@@.Jvm.D
section OwnKit
variable {p : Program} {l : Launch} {e : Env} {R : Room} {s : State} {m : MethodId} {args : Array Value} {below : List Frame} {meth : Method} {c : Code} {T T' : State} {locs : List Loc} {cells slots : Nat} {Z : State} {a0 : Array Value} {h : Heap}
def own_Fin (p : Program) (e : Env) (below : List Frame) (P : Outcome → State → Prop) (T : State) (g : JFrame) : Prop :=
  ∃ s₂ o, Steps p.tables e below (T.setTop g) s₂ ∧ s₂.status = .running ∧ Ended s₂ below o ∧ P o s₂
def own_P (s : State) (Q : Option Value → Heap → List Loc → Prop) (k n : Nat) (o : Outcome) (t : State) : Prop := ∃ v L, o = .returned v ∧ Q v t.heap L ∧ FrameEnd s o t L k n
theorem own_by {P : Outcome → State → Prop} {g g' : JFrame} (st : ∀ t, Steps p.tables e below (T'.setTop g') t → Steps p.tables e below (T.setTop g) t) (k : own_Fin p e below P T' g') : own_Fin p e below P T g := by
  obtain ⟨s₂, o, h1, h2⟩ := k
  exact ⟨s₂, o, st _ h1, h2⟩
theorem own_start {s₁ : State} {Q : Option Value → Heap → List Loc → Prop} {k n : Nat} {ml : Nat} {g : JFrame} (hef : entryFrame m args ml = g) (hk : own_Fin p e below (own_P s Q k n) s₁ g) :
    ∃ s₂ o, Steps p.tables e below (s₁.setTop (entryFrame m args ml)) s₂ ∧ s₂.status = .running ∧ Ended s₂ below o ∧ ∃ v L, o = .returned v ∧ Q v s₂.heap L ∧ FrameEnd s o s₂ L k n := by
  rw [hef]; exact hk
theorem own_end (X : Stand p l e R s m args below meth c T locs cells slots) {v : Option Value} (hv : meth.sig.returnType = none → v = none) (hlocks : meth.locks = false) {g : JFrame}
    (hret : ∀ {fs : List Frame}, (∀ (f : JFrame) (acts : List Action), f.method = m → f.locked = none → f.entered = [] → (doReturn e (T.setTop f) acts v).1 = T.setFrames fs) → Steps p.tables e below (T.setTop g) (T.setFrames fs))
    {Q : Option Value → Heap → List Loc → Prop} {k n : Nat} (hQ : Q v T.heap locs) (hk : cells ≤ k) (hn : slots ≤ n) : own_Fin p e below (own_P s Q k n) T g := by
  obtain ⟨fs, hr, hrun, hended, hW, hsame⟩ := X.leave hv hlocks
  exact ⟨_, _, hret hr, hrun, hended, _, _, rfl, hQ, ⟨_, rfl⟩, hW, hsame.mono hk hn⟩
theorem own_nf {C : String} {y : MethodName} (w : (Jvm.Cond.selects C y y).before a0 Z = true) : ∀ {s : State}, Z.Warmed39 s.vm → NotFace s y := fun hZ => notFace_of_selects (args := #[]) (mvT hZ w)
theorem own_callSB (X : Stand p l e R s m args below meth c T locs cells slots) (hx : p.tables.exec = Jvm.exec) (hZ : Z.Warmed39 s.vm) {own : String} {index : Nat} {y : MethodName} {bytes : ByteArray} {maxL W : Nat} {ret : Option FieldType} {kc ks : Nat} {as' : Array Value} {Q : Option Value → Heap → List Loc → Prop}
    (hown : s.vm.findClass own = some m.cls) (w1 : (Jvm.Cond.methodLink own index y).before a0 Z = true) (w2 : (Jvm.Cond.static y).before a0 Z = true) (w3 : (Jvm.Cond.initialized y.cls).before a0 Z = true) (w4 : (Jvm.Cond.code y bytes maxL ret).before a0 Z = true) (hy : y.cls ≠ "java/lang/invoke/MethodHandle" ∧ y.cls ≠ "java/lang/invoke/VarHandle")
    (hK : Back l R p e below s args y 3 W (fun A a => a = as' ∧ A.U.heap = h ∧ A.cells + kc ≤ R.cells ∧ A.slots + ks ≤ R.slots) (fun A _ v B => ∃ L, Q v B.U.heap L ∧ B.locs = A.locs ++ L ∧ B.cells = A.cells + kc ∧ B.slots = A.slots + ks))
    (eT : T.heap = h) {g : JFrame} (hg : g.method = m) (hsize : g.locals.size = c.maxLocals) {argsL rest : List Value} (hlen : ∀ sig, parseMethodDescriptor y.desc = some sig → argsL.length = sig.parameters.length)
    (hstack : g.stack = argsL.reverse ++ rest) (hW : 2 * g.monitorRoom + (rest.map fun v => v.category).sum ≤ W) (hdg : decode c.code g.pc = .ok (.invokestatic index, 3)) (has : argsL.toArray = as') (hc : cells + kc ≤ R.cells) (hs : slots + ks ≤ R.slots) {P : Outcome → State → Prop}
    (k : ∀ (v : Option Value) (T' : State) (L : List Loc), Stand p l e R s m args below meth c T' (locs ++ L) (cells + kc) (slots + ks) → Q v T'.heap L → own_Fin p e below P T' { g with pc := g.pc + 3, stack := v.toList ++ rest }) : own_Fin p e below P T g := by
  obtain ⟨v, _, ⟨U', L', k', n'⟩, -, X', ⟨Lc, hQ, l1, l2, l3⟩, st⟩ := Jvm.LawKit.callS X hx (y := y) hown (mvT hZ w1) (mvT hZ w2) (mvT hZ w3) (mvT hZ w4) hy hK hg hsize hlen hstack hW hdg (fun _ _ => ⟨has, eT, hc, hs⟩)
  dsimp only [Pt.U, Pt.locs, Pt.cells, Pt.slots] at X' l1 l2 l3 st hQ
  subst l1 l2 l3
  exact own_by st (k v U' Lc X' hQ)
theorem own_callS (X : Stand p l e R s m args below meth c T locs cells slots) (hx : p.tables.exec = Jvm.exec) (hZ : Z.Warmed39 s.vm) {own : String} {index : Nat} {y : MethodName} {bytes : ByteArray} {maxL W : Nat} {ret : Option FieldType} {rm : Room} {as' : Array Value} {Q : Option Value → Heap → List Loc → Prop}
    (hown : s.vm.findClass own = some m.cls) (w1 : (Jvm.Cond.methodLink own index y).before a0 Z = true) (w2 : (Jvm.Cond.static y).before a0 Z = true) (w3 : (Jvm.Cond.initialized y.cls).before a0 Z = true) (w4 : (Jvm.Cond.code y bytes maxL ret).before a0 Z = true) (hy : y.cls ≠ "java/lang/invoke/MethodHandle" ∧ y.cls ≠ "java/lang/invoke/VarHandle")
    (hM : MetFree l y (head1 [Jvm.Cond.code y bytes maxL ret] rm) (fun a U => a = as' ∧ Z.Warmed39 U.vm ∧ U.heap = h) (fun _ _ _ _ _ => True) (fun _ U o U' => ∃ v L, o = .returned v ∧ Q v U'.heap L ∧ FrameEnd U o U' L rm.cells rm.slots))
    (hf : rm.frames + 1 ≤ R.frames) (hl : W + (maxL + 11) + rm.locals ≤ R.locals) (eT : T.heap = h) {g : JFrame} (hg : g.method = m) (hsize : g.locals.size = c.maxLocals) {argsL rest : List Value} (hlen : ∀ sig, parseMethodDescriptor y.desc = some sig → argsL.length = sig.parameters.length)
    (hstack : g.stack = argsL.reverse ++ rest) (hW : 2 * g.monitorRoom + (rest.map fun v => v.category).sum ≤ W) (hdg : decode c.code g.pc = .ok (.invokestatic index, 3)) (has : argsL.toArray = as') (hc : cells + rm.cells ≤ R.cells) (hs : slots + rm.slots ≤ R.slots) {P : Outcome → State → Prop}
    (k : ∀ (v : Option Value) (T' : State) (L : List Loc), Stand p l e R s m args below meth c T' (locs ++ L) (cells + rm.cells) (slots + rm.slots) → Q v T'.heap L → own_Fin p e below P T' { g with pc := g.pc + 3, stack := v.toList ++ rest }) : own_Fin p e below P T g :=
  own_callSB X hx hZ hown w1 w2 w3 w4 hy (backOf (W := W) hM hZ w4 w3 hf hl) eT hg hsize hlen hstack hW hdg has hc hs k
theorem own_callIB (X : Stand p l e R s m args below meth c T locs cells slots) (hx : p.tables.exec = Jvm.exec) (hZ : Z.Warmed39 s.vm) {own : String} {index : Nat} {y : MethodName} {bytes : ByteArray} {maxL W : Nat} {kc ks : Nat} {as' : Array Value} {Q : Option Value → Heap → List Loc → Prop} (hin : y.name = "<init>")
    (hown : s.vm.findClass own = some m.cls) (w1 : (Jvm.Cond.methodLink own index y).before a0 Z = true) (w2 : (Jvm.Cond.instanceMethod y).before a0 Z = true) (w4 : (Jvm.Cond.code y bytes maxL none).before a0 Z = true) (hy : y.cls ≠ "java/lang/invoke/MethodHandle" ∧ y.cls ≠ "java/lang/invoke/VarHandle")
    (hK : Back l R p e below s args y 3 W (fun A a => a = as' ∧ A.U.heap = h ∧ A.cells + kc ≤ R.cells ∧ A.slots + ks ≤ R.slots) (fun A _ v B => ∃ L, Q v B.U.heap L ∧ B.locs = A.locs ++ L ∧ B.cells = A.cells + kc ∧ B.slots = A.slots + ks))
    (eT : T.heap = h) {g : JFrame} (hg : g.method = m) (hsize : g.locals.size = c.maxLocals) {a : Addr} {argsL rest : List Value} (hlen : ∀ sig, parseMethodDescriptor y.desc = some sig → argsL.length = sig.parameters.length)
    (hstack : g.stack = argsL.reverse ++ .ref a :: rest) (hW : 2 * g.monitorRoom + (rest.map fun v => v.category).sum ≤ W) (hdg : decode c.code g.pc = .ok (.invokespecial index, 3)) (has : (.ref a :: argsL).toArray = as') (hc : cells + kc ≤ R.cells) (hs : slots + ks ≤ R.slots) {P : Outcome → State → Prop}
    (k : ∀ (v : Option Value) (T' : State) (L : List Loc), Stand p l e R s m args below meth c T' (locs ++ L) (cells + kc) (slots + ks) → Q v T'.heap L → own_Fin p e below P T' { g with pc := g.pc + 3, stack := v.toList ++ rest }) : own_Fin p e below P T g := by
  obtain ⟨v, _, ⟨U', L', k', n'⟩, -, X', ⟨Lc, hQ, l1, l2, l3⟩, st⟩ := X.specialBack hx (y := y) hin hown (mvT hZ w1) (mvT hZ w2) (mvT hZ w4) hy hK hg hsize (Steps.refl _) (a := a) hlen hstack hW hdg (fun _ _ => ⟨has, eT, hc, hs⟩)
  dsimp only [Pt.U, Pt.locs, Pt.cells, Pt.slots] at X' l1 l2 l3 st hQ
  subst l1 l2 l3
  exact own_by (fun _ q => st.trans q) (k v U' Lc X' hQ)
theorem own_callI (X : Stand p l e R s m args below meth c T locs cells slots) (hx : p.tables.exec = Jvm.exec) (hZ : Z.Warmed39 s.vm) {own : String} {index : Nat} {y : MethodName} {bytes : ByteArray} {maxL W : Nat} {rm : Room} {as' : Array Value} {Q : Option Value → Heap → List Loc → Prop} (hin : y.name = "<init>")
    (hown : s.vm.findClass own = some m.cls) (w1 : (Jvm.Cond.methodLink own index y).before a0 Z = true) (w2 : (Jvm.Cond.instanceMethod y).before a0 Z = true) (w4 : (Jvm.Cond.code y bytes maxL none).before a0 Z = true) (w3 : (Jvm.Cond.initialized y.cls).before a0 Z = true) (hy : y.cls ≠ "java/lang/invoke/MethodHandle" ∧ y.cls ≠ "java/lang/invoke/VarHandle")
    (hM : MetFree l y (head1 [Jvm.Cond.code y bytes maxL none] rm) (fun a U => a = as' ∧ Z.Warmed39 U.vm ∧ U.heap = h) (fun _ _ _ _ _ => True) (fun _ U o U' => ∃ v L, o = .returned v ∧ Q v U'.heap L ∧ FrameEnd U o U' L rm.cells rm.slots))
    (hf : rm.frames + 1 ≤ R.frames) (hl : W + (maxL + 11) + rm.locals ≤ R.locals) (eT : T.heap = h) {g : JFrame} (hg : g.method = m) (hsize : g.locals.size = c.maxLocals) {a : Addr} {argsL rest : List Value} (hlen : ∀ sig, parseMethodDescriptor y.desc = some sig → argsL.length = sig.parameters.length)
    (hstack : g.stack = argsL.reverse ++ .ref a :: rest) (hW : 2 * g.monitorRoom + (rest.map fun v => v.category).sum ≤ W) (hdg : decode c.code g.pc = .ok (.invokespecial index, 3)) (has : (.ref a :: argsL).toArray = as') (hc : cells + rm.cells ≤ R.cells) (hs : slots + rm.slots ≤ R.slots) {P : Outcome → State → Prop}
    (k : ∀ (v : Option Value) (T' : State) (L : List Loc), Stand p l e R s m args below meth c T' (locs ++ L) (cells + rm.cells) (slots + rm.slots) → Q v T'.heap L → own_Fin p e below P T' { g with pc := g.pc + 3, stack := v.toList ++ rest }) : own_Fin p e below P T g :=
  own_callIB X hx hZ hin hown w1 w2 w4 hy (backOf (W := W) hM hZ w4 w3 hf hl) eT hg hsize hlen hstack hW hdg has hc hs k
theorem own_callVB (X : Stand p l e R s m args below meth c T locs cells slots) (hx : p.tables.exec = Jvm.exec) (hZ : Z.Warmed39 s.vm) {own C : String} {index : Nat} {y z : MethodName} {W : Nat} {kc ks : Nat} {as' : Array Value} {Q : Option Value → Heap → List Loc → Prop}
    (hown : s.vm.findClass own = some m.cls) (w1 : (Jvm.Cond.methodLink own index y).before a0 Z = true) (w2 : (Jvm.Cond.declares y).before a0 Z = true) (nf : ∀ {s : State}, Z.Warmed39 s.vm → NotFace s y) (w5 : (Jvm.Cond.selects C y z).before a0 Z = true) (w6 : (Jvm.Cond.instanceMethod z).before a0 Z = true) (hy : y.cls ≠ "java/lang/invoke/MethodHandle" ∧ y.cls ≠ "java/lang/invoke/VarHandle")
    {b : Addr} (E : Exa Z h b C)
    (hK : Back l R p e below s args z 3 W (fun A a => a = as' ∧ A.U.heap = h ∧ A.cells + kc ≤ R.cells ∧ A.slots + ks ≤ R.slots) (fun A _ v B => ∃ L, Q v B.U.heap L ∧ B.locs = A.locs ++ L ∧ B.cells = A.cells + kc ∧ B.slots = A.slots + ks))
    (eT : T.heap = h) {g : JFrame} (hg : g.method = m) (hsize : g.locals.size = c.maxLocals) {argsL rest : List Value} (hlen : ∀ sig, parseMethodDescriptor y.desc = some sig → argsL.length = sig.parameters.length)
    (hstack : g.stack = argsL.reverse ++ .ref b :: rest) (hW : 2 * g.monitorRoom + (rest.map fun v => v.category).sum ≤ W) (hdg : decode c.code g.pc = .ok (.invokevirtual index, 3)) (has : (.ref b :: argsL).toArray = as') (hc : cells + kc ≤ R.cells) (hs : slots + ks ≤ R.slots) {P : Outcome → State → Prop}
    (k : ∀ (v : Option Value) (T' : State) (L : List Loc), Stand p l e R s m args below meth c T' (locs ++ L) (cells + kc) (slots + ks) → Q v T'.heap L → own_Fin p e below P T' { g with pc := g.pc + 3, stack := v.toList ++ rest }) : own_Fin p e below P T g := by
  obtain ⟨cq, kq, qa, qb, qc⟩ := isOf hZ eT E
  obtain ⟨v, _, ⟨U', L', k', n'⟩, -, X', ⟨Lc, hQ, l1, l2, l3⟩, st⟩ := X.virtualBack hx (y := y) (z := z) hown (mvT hZ w1) (mvT hZ w2) (nf hZ) (mvT hZ w5) (mvT hZ w6) hy hK qa qc hg hsize (Steps.refl _) hlen hstack hW hdg (fun _ _ => ⟨has, eT, hc, hs⟩)
  dsimp only [Pt.U, Pt.locs, Pt.cells, Pt.slots] at X' l1 l2 l3 st hQ
  subst l1 l2 l3
  exact own_by (fun _ q => st.trans q) (k v U' Lc X' hQ)
theorem own_callV (X : Stand p l e R s m args below meth c T locs cells slots) (hx : p.tables.exec = Jvm.exec) (hZ : Z.Warmed39 s.vm) {own C : String} {index : Nat} {y z : MethodName} {bytes : ByteArray} {maxL W : Nat} {ret : Option FieldType} {rm : Room} {as' : Array Value} {Q : Option Value → Heap → List Loc → Prop}
    (hown : s.vm.findClass own = some m.cls) (w1 : (Jvm.Cond.methodLink own index y).before a0 Z = true) (w2 : (Jvm.Cond.declares y).before a0 Z = true) (nf : ∀ {s : State}, Z.Warmed39 s.vm → NotFace s y) (w5 : (Jvm.Cond.selects C y z).before a0 Z = true) (w6 : (Jvm.Cond.instanceMethod z).before a0 Z = true) (w4 : (Jvm.Cond.code z bytes maxL ret).before a0 Z = true) (w3 : (Jvm.Cond.initialized z.cls).before a0 Z = true) (hy : y.cls ≠ "java/lang/invoke/MethodHandle" ∧ y.cls ≠ "java/lang/invoke/VarHandle")
    {b : Addr} (E : Exa Z h b C)
    (hM : MetFree l z (head1 [Jvm.Cond.code z bytes maxL ret] rm) (fun a U => a = as' ∧ Z.Warmed39 U.vm ∧ U.heap = h) (fun _ _ _ _ _ => True) (fun _ U o U' => ∃ v L, o = .returned v ∧ Q v U'.heap L ∧ FrameEnd U o U' L rm.cells rm.slots))
    (hf : rm.frames + 1 ≤ R.frames) (hl : W + (maxL + 11) + rm.locals ≤ R.locals) (eT : T.heap = h) {g : JFrame} (hg : g.method = m) (hsize : g.locals.size = c.maxLocals) {argsL rest : List Value} (hlen : ∀ sig, parseMethodDescriptor y.desc = some sig → argsL.length = sig.parameters.length)
    (hstack : g.stack = argsL.reverse ++ .ref b :: rest) (hW : 2 * g.monitorRoom + (rest.map fun v => v.category).sum ≤ W) (hdg : decode c.code g.pc = .ok (.invokevirtual index, 3)) (has : (.ref b :: argsL).toArray = as') (hc : cells + rm.cells ≤ R.cells) (hs : slots + rm.slots ≤ R.slots) {P : Outcome → State → Prop}
    (k : ∀ (v : Option Value) (T' : State) (L : List Loc), Stand p l e R s m args below meth c T' (locs ++ L) (cells + rm.cells) (slots + rm.slots) → Q v T'.heap L → own_Fin p e below P T' { g with pc := g.pc + 3, stack := v.toList ++ rest }) : own_Fin p e below P T g :=
  own_callVB X hx hZ hown w1 w2 nf w5 w6 hy E (backOf (W := W) hM hZ w4 w3 hf hl) eT hg hsize hlen hstack hW hdg has hc hs k
theorem own_narR {t : FieldType} {w : Value} (ht : t.isReference = true) : narrow t w = w := by cases t <;> first | rfl | (cases ht)
theorem own_fldI {t : Term} {C n d : String} {k : Int32} {a : Addr} (hv : (Jvm.Cond.eq (.field t C n d) (.int k)).value args s none s [] = some true) (ht : t.eval args s none [] s = some (.ref a)) : Fld s s.heap a C n d (.int k) := by
  obtain ⟨x, y, e1, e2, k1, k2⟩ := cmp_v (Or.inl hv)
  rw [Term.int_eval] at e2
  cases e2
  obtain ⟨z, rfl⟩ := k2
  have q : z = k := by simpa [Jvm.Cond.value, e1, Term.int_eval] using hv
  rw [fld_at ht] at e1
  exact Fld.start (q ▸ e1)
theorem own_clash {x y z : Int32} (h : x = y) (n : ¬ y = z) : ¬ x = z := fun q => n (h.symm.trans q)
theorem own_rem (x y : Int32) (n : Int) (hy : y.toInt = n) (hn : 0 < n) : 0 ≤ ((x &&& (2147483647 : Int32)) % y).toInt ∧ ((x &&& (2147483647 : Int32)) % y).toInt < n := by
  have h0 := c_and x 2147483647 (by decide)
  have h1 := (c_irem (x &&& 2147483647) y n hy).1 h0.1
  rw [h1]
  exact ⟨Int.emod_nonneg _ (by omega), Int.emod_lt_of_pos _ hn⟩
theorem own_eqI {x y : Int32} (h : x.toInt = y.toInt) : x = y := Int32.toInt_inj.mp h
theorem own_neI {x y : Int32} (h : ¬ x = y) : x.toInt ≠ y.toInt := fun q => h (Int32.toInt_inj.mp q)
theorem own_fitsR {t : FieldType} {v : Value} (ht : t.isReference = true) (hv : v.isRef = true) : fits t v = true := by
  rcases ref_cases hv with rfl | ⟨a, rfl⟩ <;> cases t <;> first | rfl | (cases ht)
theorem own_cat {v : Value} (hv : v.isRef = true) : v.category = 1 := by
  rcases ref_cases hv with rfl | ⟨a, rfl⟩ <;> rfl
theorem own_store1 {L : Array Slot} {i : Nat} {v : Value} {o : Slot} {L' : Array Slot} (hold : L[i]? = some o) (ho : One o) (hv : v.category = 1) (e : L.setIfInBounds i (.val v) = L') : storeLocals L i v = some L' := by
  rw [← e]; exact XS.store1 hold ho hv
end OwnKit
theorem own_d1_0 : decode method_3_code 0 = .ok (.iload_n 0, 1) := by decide +kernel
theorem own_d1_1 : decode method_3_code 1 = .ok (.ifCond .ne 7, 3) := by decide +kernel
theorem own_d1_4 : decode method_3_code 4 = .ok (.getstatic 20, 3) := by decide +kernel
theorem own_d1_7 : decode method_3_code 7 = .ok (.areturn, 1) := by decide +kernel
theorem own_d1_8 : decode method_3_code 8 = .ok (.iload_n 0, 1) := by decide +kernel
theorem own_d1_9 : decode method_3_code 9 = .ok (.iconst 1, 1) := by decide +kernel
theorem own_d1_10 : decode method_3_code 10 = .ok (.if_icmp .ne 7, 3) := by decide +kernel
theorem own_d1_13 : decode method_3_code 13 = .ok (.getstatic 24, 3) := by decide +kernel
theorem own_d1_16 : decode method_3_code 16 = .ok (.areturn, 1) := by decide +kernel
theorem own_d1_17 : decode method_3_code 17 = .ok (.iload_n 0, 1) := by decide +kernel
theorem own_d1_18 : decode method_3_code 18 = .ok (.iconst 2, 1) := by decide +kernel
theorem own_d1_19 : decode method_3_code 19 = .ok (.if_icmp .ne 7, 3) := by decide +kernel
theorem own_d1_22 : decode method_3_code 22 = .ok (.getstatic 27, 3) := by decide +kernel
theorem own_d1_25 : decode method_3_code 25 = .ok (.areturn, 1) := by decide +kernel
theorem own_d1_26 : decode method_3_code 26 = .ok (.iload_n 0, 1) := by decide +kernel
theorem own_d1_27 : decode method_3_code 27 = .ok (.iconst 3, 1) := by decide +kernel
theorem own_d1_28 : decode method_3_code 28 = .ok (.if_icmp .ne 7, 3) := by decide +kernel
theorem own_d1_31 : decode method_3_code 31 = .ok (.getstatic 30, 3) := by decide +kernel
theorem own_d1_34 : decode method_3_code 34 = .ok (.areturn, 1) := by decide +kernel
theorem own_d1_35 : decode method_3_code 35 = .ok (.iload_n 0, 1) := by decide +kernel
theorem own_d1_36 : decode method_3_code 36 = .ok (.iconst 4, 1) := by decide +kernel
theorem own_d1_37 : decode method_3_code 37 = .ok (.if_icmp .ne 7, 3) := by decide +kernel
theorem own_d1_40 : decode method_3_code 40 = .ok (.getstatic 33, 3) := by decide +kernel
theorem own_d1_43 : decode method_3_code 43 = .ok (.areturn, 1) := by decide +kernel
theorem own_d1_44 : decode method_3_code 44 = .ok (.getstatic 36, 3) := by decide +kernel
theorem own_d1_47 : decode method_3_code 47 = .ok (.areturn, 1) := by decide +kernel
theorem own_rm1_ef (m : MethodId) (k : Int32) : entryFrame m #[(.int k)] 1 = mkF m 0 #[.val (.int k)] [] := by  first | (simp [entryFrame, mkF, argsToLocals, Value.category]; done) | rfl
def own_rm1_Q (Z : State) (k : Int32) (aSTANDARD : Addr) (aSUB_STANDARD : Addr) (aDOUBTFUL_1 : Addr) (aDOUBTFUL_2 : Addr) (aDOUBTFUL_3 : Addr) (aLOSS : Addr) (h0 : Heap) (n0 : Nat) (v : Option Value) (h : Heap) (L : List Loc) : Prop := v = some (.ref (if k = (0 : Int32) then aSTANDARD else if k = (1 : Int32) then aSUB_STANDARD else if k = (2 : Int32) then aDOUBTFUL_1 else if k = (3 : Int32) then aDOUBTFUL_2 else if k = (4 : Int32) then aDOUBTFUL_3 else aLOSS)) ∧ Fr n0 L ∧ h = h0
theorem own_pn_com_example_bahikhata_bahikhata_model_AssetClassIsNpaPinLaw : plainName "com/example/bahikhata/bahikhata/model/AssetClassIsNpaPinLaw" = true := by first | (simp [plainName, overriddenIn]; done) | decide +kernel
set_option maxRecDepth 65536 in
set_option maxHeartbeats 40000000 in
theorem own_rm1 (l : Launch) (Z : State) (a0 : Array Value) (hw : ∀ d ∈ tables_1, d.before a0 Z = true) (ws : List Jvm.Cond) (k : Int32) (aSTANDARD : Addr) (aSUB_STANDARD : Addr) (aDOUBTFUL_1 : Addr) (aDOUBTFUL_2 : Addr) (aDOUBTFUL_3 : Addr) (aLOSS : Addr) (h0 : Heap) (n0 : Nat) (Z0 : n0 ≤ h0.size) (S_STANDARD : Sta Z h0 "com/example/bahikhata/bahikhata/model/AssetClass" "STANDARD" "Lcom/example/bahikhata/bahikhata/model/AssetClass;" (.ref aSTANDARD)) (S_SUB_STANDARD : Sta Z h0 "com/example/bahikhata/bahikhata/model/AssetClass" "SUB_STANDARD" "Lcom/example/bahikhata/bahikhata/model/AssetClass;" (.ref aSUB_STANDARD)) (S_DOUBTFUL_1 : Sta Z h0 "com/example/bahikhata/bahikhata/model/AssetClass" "DOUBTFUL_1" "Lcom/example/bahikhata/bahikhata/model/AssetClass;" (.ref aDOUBTFUL_1)) (S_DOUBTFUL_2 : Sta Z h0 "com/example/bahikhata/bahikhata/model/AssetClass" "DOUBTFUL_2" "Lcom/example/bahikhata/bahikhata/model/AssetClass;" (.ref aDOUBTFUL_2)) (S_DOUBTFUL_3 : Sta Z h0 "com/example/bahikhata/bahikhata/model/AssetClass" "DOUBTFUL_3" "Lcom/example/bahikhata/bahikhata/model/AssetClass;" (.ref aDOUBTFUL_3)) (S_LOSS : Sta Z h0 "com/example/bahikhata/bahikhata/model/AssetClass" "LOSS" "Lcom/example/bahikhata/bahikhata/model/AssetClass;" (.ref aLOSS)) :
    MetFree l (⟨"com/example/bahikhata/bahikhata/model/AssetClassIsNpaPinLaw", "pick", "(I)Lcom/example/bahikhata/bahikhata/model/AssetClass;"⟩ : MethodName) (head1 (Jvm.Cond.code (⟨"com/example/bahikhata/bahikhata/model/AssetClassIsNpaPinLaw", "pick", "(I)Lcom/example/bahikhata/bahikhata/model/AssetClass;"⟩ : MethodName) method_3_code 1 (some (.object "com/example/bahikhata/bahikhata/model/AssetClass")) :: ws) ({ frames := 0, cells := 0, slots := 0, locals := 0 } : Room)) (fun aa U => aa = #[(.int k)] ∧ Z.Warmed39 U.vm ∧ U.heap = h0) (fun _ _ _ _ _ => True) (fun _ U o U' => ∃ v L, o = .returned v ∧ own_rm1_Q Z k aSTANDARD aSUB_STANDARD aDOUBTFUL_1 aDOUBTFUL_2 aDOUBTFUL_3 aLOSS h0 n0 v U'.heap L ∧ FrameEnd U o U' L ({ frames := 0, cells := 0, slots := 0, locals := 0 } : Room).cells ({ frames := 0, cells := 0, slots := 0, locals := 0 } : Room).slots) := by
  refine MetFree.of_bodySF (plainFor_of_name own_pn_com_example_bahikhata_bahikhata_model_AssetClassIsNpaPinLaw) hisR ?_
  intro p e s m args below meth c s₁ Bd hml0 hP hK
  obtain ⟨rfl, hZ, hh⟩ := hP
  have hx := Bd.exec
  have hby := Bd.bytes
  have hml : c.maxLocals = 1 := hml0
  have hown : s.vm.findClass "com/example/bahikhata/bahikhata/model/AssetClassIsNpaPinLaw" = some m.cls := findClass_of_methodNamed Bd.named
  have hnm := (name_of_methodNamed Bd.named Bd.method).1
  have hlk := Bd.notSynchronized
  have X0 : Stand p l e ({ frames := 0, cells := 0, slots := 0, locals := 0 } : Room) s m #[(.int k)] below meth c s₁ [] 0 0 := Stand.of_body Bd
  have e0 : s₁.heap = h0 := by rw [← hh, Bd.state]; rfl
  have N0 := Fr.nil n0
  refine own_start (Q := own_rm1_Q Z k aSTANDARD aSUB_STANDARD aDOUBTFUL_1 aDOUBTFUL_2 aDOUBTFUL_3 aLOSS h0 n0) (own_rm1_ef m k) ?_
  refine own_by (T' := s₁) (g' := (mkF m 1 #[.val (.int k)] [(.int k)])) (fun _ kq => XS.iloadN X0.here hx rfl (hb hby own_d1_0) rfl kq) ?_
  by_cases hc1 : k = (0 : Int32)
  · refine own_by (T' := s₁) (g' := (mkF m 4 #[.val (.int k)] [])) (fun _ kq => XS.ifNo X0.here hx rfl (hb hby own_d1_1) rfl ((if0 _ _).trans (teq hc1).2) kq) ?_
    obtain ⟨T2, X2, e2, st2⟩ := getS2 X0 hx hZ hown (host := "") (Or.inl (hw _ (List.mem_of_getElem? (i := 5) rfl))) Via.refl e0 S_STANDARD (g := (mkF m 4 #[.val (.int k)] [])) rfl (hb hby own_d1_4)
    refine own_by (T' := T2) (g' := (mkF m 7 #[.val (.int k)] [(.ref aSTANDARD)])) st2 ?_
    exact own_end X2 (v := some (.ref aSTANDARD)) (fun h => by rw [Bd.returns] at h; cases h) hlk (fun hr => retOut X2 hx Bd.returns (own_narR rfl) (Or.inr (Or.inr (Or.inr (Or.inr ⟨rfl, rfl, rfl⟩)))) (hb hby own_d1_7) hr) (by rw [e2]; exact ⟨by rw [if_pos hc1], N0, rfl⟩) (by decide) (by decide)
  · refine own_by (T' := s₁) (g' := (mkF m 8 #[.val (.int k)] [])) (fun _ kq => XS.ifYes X0.here hx rfl (pc0 := 1) (pc' := 8) rfl (hb hby own_d1_1) rfl ((if0 _ _).trans (feq hc1).2) (by decide) (by decide) kq) ?_
    refine own_by (T' := s₁) (g' := (mkF m 9 #[.val (.int k)] [(.int k)])) (fun _ kq => XS.iloadN X0.here hx rfl (hb hby own_d1_8) rfl kq) ?_
    refine own_by (T' := s₁) (g' := (mkF m 10 #[.val (.int k)] [(.int (1 : Int32)), (.int k)])) (fun _ kq => XS.iconst X0.here hx rfl (hb hby own_d1_9) kq) ?_
    by_cases hc3 : k = (1 : Int32)
    · refine own_by (T' := s₁) (g' := (mkF m 13 #[.val (.int k)] [])) (fun _ kq => XS.icmpNo X0.here hx rfl (hb hby own_d1_10) rfl (teq hc3).2 kq) ?_
      obtain ⟨T4, X4, e4, st4⟩ := getS2 X0 hx hZ hown (host := "") (Or.inl (hw _ (List.mem_of_getElem? (i := 18) rfl))) Via.refl e0 S_SUB_STANDARD (g := (mkF m 13 #[.val (.int k)] [])) rfl (hb hby own_d1_13)
      refine own_by (T' := T4) (g' := (mkF m 16 #[.val (.int k)] [(.ref aSUB_STANDARD)])) st4 ?_
      exact own_end X4 (v := some (.ref aSUB_STANDARD)) (fun h => by rw [Bd.returns] at h; cases h) hlk (fun hr => retOut X4 hx Bd.returns (own_narR rfl) (Or.inr (Or.inr (Or.inr (Or.inr ⟨rfl, rfl, rfl⟩)))) (hb hby own_d1_16) hr) (by rw [e4]; exact ⟨by rw [if_neg hc1, if_pos hc3], N0, rfl⟩) (by decide) (by decide)
    · refine own_by (T' := s₁) (g' := (mkF m 17 #[.val (.int k)] [])) (fun _ kq => XS.icmpYes X0.here hx rfl (pc0 := 10) (pc' := 17) rfl (hb hby own_d1_10) rfl (feq hc3).2 (by decide) (by decide) kq) ?_
      refine own_by (T' := s₁) (g' := (mkF m 18 #[.val (.int k)] [(.int k)])) (fun _ kq => XS.iloadN X0.here hx rfl (hb hby own_d1_17) rfl kq) ?_
      refine own_by (T' := s₁) (g' := (mkF m 19 #[.val (.int k)] [(.int (2 : Int32)), (.int k)])) (fun _ kq => XS.iconst X0.here hx rfl (hb hby own_d1_18) kq) ?_
      by_cases hc5 : k = (2 : Int32)
      · refine own_by (T' := s₁) (g' := (mkF m 22 #[.val (.int k)] [])) (fun _ kq => XS.icmpNo X0.here hx rfl (hb hby own_d1_19) rfl (teq hc5).2 kq) ?_
        obtain ⟨T6, X6, e6, st6⟩ := getS2 X0 hx hZ hown (host := "") (Or.inl (hw _ (List.mem_of_getElem? (i := 16) rfl))) Via.refl e0 S_DOUBTFUL_1 (g := (mkF m 22 #[.val (.int k)] [])) rfl (hb hby own_d1_22)
        refine own_by (T' := T6) (g' := (mkF m 25 #[.val (.int k)] [(.ref aDOUBTFUL_1)])) st6 ?_
        exact own_end X6 (v := some (.ref aDOUBTFUL_1)) (fun h => by rw [Bd.returns] at h; cases h) hlk (fun hr => retOut X6 hx Bd.returns (own_narR rfl) (Or.inr (Or.inr (Or.inr (Or.inr ⟨rfl, rfl, rfl⟩)))) (hb hby own_d1_25) hr) (by rw [e6]; exact ⟨by rw [if_neg hc1, if_neg hc3, if_pos hc5], N0, rfl⟩) (by decide) (by decide)
      · refine own_by (T' := s₁) (g' := (mkF m 26 #[.val (.int k)] [])) (fun _ kq => XS.icmpYes X0.here hx rfl (pc0 := 19) (pc' := 26) rfl (hb hby own_d1_19) rfl (feq hc5).2 (by decide) (by decide) kq) ?_
        refine own_by (T' := s₁) (g' := (mkF m 27 #[.val (.int k)] [(.int k)])) (fun _ kq => XS.iloadN X0.here hx rfl (hb hby own_d1_26) rfl kq) ?_
        refine own_by (T' := s₁) (g' := (mkF m 28 #[.val (.int k)] [(.int (3 : Int32)), (.int k)])) (fun _ kq => XS.iconst X0.here hx rfl (hb hby own_d1_27) kq) ?_
        by_cases hc7 : k = (3 : Int32)
        · refine own_by (T' := s₁) (g' := (mkF m 31 #[.val (.int k)] [])) (fun _ kq => XS.icmpNo X0.here hx rfl (hb hby own_d1_28) rfl (teq hc7).2 kq) ?_
          obtain ⟨T8, X8, e8, st8⟩ := getS2 X0 hx hZ hown (host := "") (Or.inl (hw _ (List.mem_of_getElem? (i := 14) rfl))) Via.refl e0 S_DOUBTFUL_2 (g := (mkF m 31 #[.val (.int k)] [])) rfl (hb hby own_d1_31)
          refine own_by (T' := T8) (g' := (mkF m 34 #[.val (.int k)] [(.ref aDOUBTFUL_2)])) st8 ?_
          exact own_end X8 (v := some (.ref aDOUBTFUL_2)) (fun h => by rw [Bd.returns] at h; cases h) hlk (fun hr => retOut X8 hx Bd.returns (own_narR rfl) (Or.inr (Or.inr (Or.inr (Or.inr ⟨rfl, rfl, rfl⟩)))) (hb hby own_d1_34) hr) (by rw [e8]; exact ⟨by rw [if_neg hc1, if_neg hc3, if_neg hc5, if_pos hc7], N0, rfl⟩) (by decide) (by decide)
        · refine own_by (T' := s₁) (g' := (mkF m 35 #[.val (.int k)] [])) (fun _ kq => XS.icmpYes X0.here hx rfl (pc0 := 28) (pc' := 35) rfl (hb hby own_d1_28) rfl (feq hc7).2 (by decide) (by decide) kq) ?_
          refine own_by (T' := s₁) (g' := (mkF m 36 #[.val (.int k)] [(.int k)])) (fun _ kq => XS.iloadN X0.here hx rfl (hb hby own_d1_35) rfl kq) ?_
          refine own_by (T' := s₁) (g' := (mkF m 37 #[.val (.int k)] [(.int (4 : Int32)), (.int k)])) (fun _ kq => XS.iconst X0.here hx rfl (hb hby own_d1_36) kq) ?_
          by_cases hc9 : k = (4 : Int32)
          · refine own_by (T' := s₁) (g' := (mkF m 40 #[.val (.int k)] [])) (fun _ kq => XS.icmpNo X0.here hx rfl (hb hby own_d1_37) rfl (teq hc9).2 kq) ?_
            obtain ⟨T10, X10, e10, st10⟩ := getS2 X0 hx hZ hown (host := "") (Or.inl (hw _ (List.mem_of_getElem? (i := 22) rfl))) Via.refl e0 S_DOUBTFUL_3 (g := (mkF m 40 #[.val (.int k)] [])) rfl (hb hby own_d1_40)
            refine own_by (T' := T10) (g' := (mkF m 43 #[.val (.int k)] [(.ref aDOUBTFUL_3)])) st10 ?_
            exact own_end X10 (v := some (.ref aDOUBTFUL_3)) (fun h => by rw [Bd.returns] at h; cases h) hlk (fun hr => retOut X10 hx Bd.returns (own_narR rfl) (Or.inr (Or.inr (Or.inr (Or.inr ⟨rfl, rfl, rfl⟩)))) (hb hby own_d1_43) hr) (by rw [e10]; exact ⟨by rw [if_neg hc1, if_neg hc3, if_neg hc5, if_neg hc7, if_pos hc9], N0, rfl⟩) (by decide) (by decide)
          · refine own_by (T' := s₁) (g' := (mkF m 44 #[.val (.int k)] [])) (fun _ kq => XS.icmpYes X0.here hx rfl (pc0 := 37) (pc' := 44) rfl (hb hby own_d1_37) rfl (feq hc9).2 (by decide) (by decide) kq) ?_
            obtain ⟨T11, X11, e11, st11⟩ := getS2 X0 hx hZ hown (host := "") (Or.inl (hw _ (List.mem_of_getElem? (i := 20) rfl))) Via.refl e0 S_LOSS (g := (mkF m 44 #[.val (.int k)] [])) rfl (hb hby own_d1_44)
            refine own_by (T' := T11) (g' := (mkF m 47 #[.val (.int k)] [(.ref aLOSS)])) st11 ?_
            exact own_end X11 (v := some (.ref aLOSS)) (fun h => by rw [Bd.returns] at h; cases h) hlk (fun hr => retOut X11 hx Bd.returns (own_narR rfl) (Or.inr (Or.inr (Or.inr (Or.inr ⟨rfl, rfl, rfl⟩)))) (hb hby own_d1_47) hr) (by rw [e11]; exact ⟨by rw [if_neg hc1, if_neg hc3, if_neg hc5, if_neg hc7, if_neg hc9], N0, rfl⟩) (by decide) (by decide)
theorem own_d2_0 : decode prog_42_method_5_code 0 = .ok (.aload_n 0, 1) := by decide +kernel
theorem own_d2_1 : decode prog_42_method_5_code 1 = .ok (.getstatic 3, 3) := by decide +kernel
theorem own_d2_4 : decode prog_42_method_5_code 4 = .ok (.if_acmp .eq 7, 3) := by decide +kernel
theorem own_d2_11 : decode prog_42_method_5_code 11 = .ok (.iconst 0, 1) := by decide +kernel
theorem own_d2_12 : decode prog_42_method_5_code 12 = .ok (.ireturn, 1) := by decide +kernel
theorem own_d2_7 : decode prog_42_method_5_code 7 = .ok (.iconst 1, 1) := by decide +kernel
theorem own_d2_8 : decode prog_42_method_5_code 8 = .ok (.goto 4, 3) := by decide +kernel
theorem own_rm2_ef (m : MethodId) (a : Addr) : entryFrame m #[(.ref a)] 1 = mkF m 0 #[.val (.ref a)] [] := by  first | (simp [entryFrame, mkF, argsToLocals, Value.category]; done) | rfl
def own_rm2_Q (Z : State) (a : Addr) (aSTANDARD : Addr) (h0 : Heap) (n0 : Nat) (v : Option Value) (h : Heap) (L : List Loc) : Prop := v = some (.int (if a = aSTANDARD then 0 else 1)) ∧ Fr n0 L ∧ h = h0
theorem own_pn_com_example_bahikhata_bahikhata_model_AssetClass : plainName "com/example/bahikhata/bahikhata/model/AssetClass" = true := by first | (simp [plainName, overriddenIn]; done) | decide +kernel
set_option maxRecDepth 65536 in
set_option maxHeartbeats 40000000 in
theorem own_rm2 (l : Launch) (Z : State) (a0 : Array Value) (hw : ∀ d ∈ tables_1, d.before a0 Z = true) (ws : List Jvm.Cond) (a : Addr) (aSTANDARD : Addr) (h0 : Heap) (n0 : Nat) (Z0 : n0 ≤ h0.size) (S_STANDARD : Sta Z h0 "com/example/bahikhata/bahikhata/model/AssetClass" "STANDARD" "Lcom/example/bahikhata/bahikhata/model/AssetClass;" (.ref aSTANDARD)) :
    MetFree l (⟨"com/example/bahikhata/bahikhata/model/AssetClass", "isNpa", "()Z"⟩ : MethodName) (head1 (Jvm.Cond.code (⟨"com/example/bahikhata/bahikhata/model/AssetClass", "isNpa", "()Z"⟩ : MethodName) prog_42_method_5_code 1 (some .boolean) :: ws) ({ frames := 0, cells := 0, slots := 0, locals := 0 } : Room)) (fun aa U => aa = #[(.ref a)] ∧ Z.Warmed39 U.vm ∧ U.heap = h0) (fun _ _ _ _ _ => True) (fun _ U o U' => ∃ v L, o = .returned v ∧ own_rm2_Q Z a aSTANDARD h0 n0 v U'.heap L ∧ FrameEnd U o U' L ({ frames := 0, cells := 0, slots := 0, locals := 0 } : Room).cells ({ frames := 0, cells := 0, slots := 0, locals := 0 } : Room).slots) := by
  refine MetFree.of_bodySF (plainFor_of_name own_pn_com_example_bahikhata_bahikhata_model_AssetClass) hisR ?_
  intro p e s m args below meth c s₁ Bd hml0 hP hK
  obtain ⟨rfl, hZ, hh⟩ := hP
  have hx := Bd.exec
  have hby := Bd.bytes
  have hml : c.maxLocals = 1 := hml0
  have hown : s.vm.findClass "com/example/bahikhata/bahikhata/model/AssetClass" = some m.cls := findClass_of_methodNamed Bd.named
  have hnm := (name_of_methodNamed Bd.named Bd.method).1
  have hlk := Bd.notSynchronized
  have X0 : Stand p l e ({ frames := 0, cells := 0, slots := 0, locals := 0 } : Room) s m #[(.ref a)] below meth c s₁ [] 0 0 := Stand.of_body Bd
  have e0 : s₁.heap = h0 := by rw [← hh, Bd.state]; rfl
  have N0 := Fr.nil n0
  refine own_start (Q := own_rm2_Q Z a aSTANDARD h0 n0) (own_rm2_ef m a) ?_
  refine own_by (T' := s₁) (g' := (mkF m 1 #[.val (.ref a)] [(.ref a)])) (fun _ kq => XS.aloadN X0.here hx rfl (hb hby own_d2_0) rfl rfl kq) ?_
  obtain ⟨T1, X1, e1, st1⟩ := getS2 X0 hx hZ hown (host := "") (Or.inl (hw _ (List.mem_of_getElem? (i := 13) rfl))) Via.refl e0 S_STANDARD (g := (mkF m 1 #[.val (.ref a)] [(.ref a)])) rfl (hb hby own_d2_1)
  refine own_by (T' := T1) (g' := (mkF m 4 #[.val (.ref a)] [(.ref aSTANDARD), (.ref a)])) st1 ?_
  by_cases hc2 : a = aSTANDARD
  · refine own_by (T' := T1) (g' := (mkF m 11 #[.val (.ref a)] [])) (fun _ kq => Jvm.RoadKit.acmp (g := (mkF m 4 #[.val (.ref a)] [(.ref aSTANDARD), (.ref a)])) X1 hx rfl rfl rfl (pc0 := 4) (pc' := 11) (same := true) rfl (hb hby own_d2_4) rfl (decide_eq_true (congrArg Value.ref hc2)) (by decide) (by decide) kq) ?_
    refine own_by (T' := T1) (g' := (mkF m 12 #[.val (.ref a)] [(.int (0 : Int32))])) (fun _ kq => XS.iconst X1.here hx rfl (hb hby own_d2_11) kq) ?_
    exact own_end X1 (v := some (.int (nar .boolean (0 : Int32)))) (fun h => by rw [Bd.returns] at h; cases h) hlk (fun hr => retN X1 hx (t := .boolean) Bd.returns (by simp) (hb hby own_d2_12) hr) (by rw [e1]; exact ⟨by rw [if_pos hc2]; rfl, N0, rfl⟩) (by decide) (by decide)
  · refine own_by (T' := T1) (g' := (mkF m 7 #[.val (.ref a)] [])) (fun _ kq => Jvm.RoadKit.acmp (g := (mkF m 4 #[.val (.ref a)] [(.ref aSTANDARD), (.ref a)])) X1 hx rfl rfl rfl (pc0 := 4) (pc' := 7) (same := false) rfl (hb hby own_d2_4) rfl (decide_eq_false fun q => hc2 (Value.ref.inj q)) (by decide) (by decide) kq) ?_
    refine own_by (T' := T1) (g' := (mkF m 8 #[.val (.ref a)] [(.int (1 : Int32))])) (fun _ kq => XS.iconst X1.here hx rfl (hb hby own_d2_7) kq) ?_
    refine own_by (T' := T1) (g' := (mkF m 12 #[.val (.ref a)] [(.int (1 : Int32))])) (fun _ kq => XS.goto X1.here hx rfl (pc0 := 8) (pc' := 12) rfl (hb hby own_d2_8) (by decide) (by decide) kq) ?_
    exact own_end X1 (v := some (.int (nar .boolean (1 : Int32)))) (fun h => by rw [Bd.returns] at h; cases h) hlk (fun hr => retN X1 hx (t := .boolean) Bd.returns (by simp) (hb hby own_d2_12) hr) (by rw [e1]; exact ⟨by rw [if_neg hc2]; rfl, N0, rfl⟩) (by decide) (by decide)
theorem own_pd__28I_29Lcom_2fexample_2fbahikhata_2fbahikhata_2fmodel_2fAssetClass_3b : parseMethodDescriptor "(I)Lcom/example/bahikhata/bahikhata/model/AssetClass;" = some ⟨[.int], some (.object "com/example/bahikhata/bahikhata/model/AssetClass")⟩ := by decide +kernel
theorem own_pd__28_29Z : parseMethodDescriptor "()Z" = some ⟨[], some .boolean⟩ := by decide +kernel
theorem own_rm0_ef (m : MethodId) (p0 : Int32) : entryFrame m #[(.int p0)] maxLocals = mkF m 0 #[.val (.int p0), .unset, .unset, .unset] [] := by  first | (simp [entryFrame, mkF, argsToLocals, Value.category, maxLocals]; done) | rfl
def own_rm0_Q (Z : State) (p0 : Int32) (aSTANDARD : Addr) (aSUB_STANDARD : Addr) (aDOUBTFUL_1 : Addr) (aDOUBTFUL_2 : Addr) (aDOUBTFUL_3 : Addr) (aLOSS : Addr) (h0 : Heap) (n0 : Nat) (v : Option Value) (h : Heap) (L : List Loc) : Prop := v = some (.int 1) ∧ Fr n0 L
set_option maxRecDepth 65536 in
set_option maxHeartbeats 40000000 in
theorem own_rm0 (l : Launch) (Z : State) (a0 : Array Value) (hw : ∀ d ∈ tables_1, d.before a0 Z = true) (ws : List Jvm.Cond) (p0 : Int32) (aSTANDARD : Addr) (aSUB_STANDARD : Addr) (aDOUBTFUL_1 : Addr) (aDOUBTFUL_2 : Addr) (aDOUBTFUL_3 : Addr) (aLOSS : Addr) (h0 : Heap) (n0 : Nat) (Z0 : n0 ≤ h0.size) (S_STANDARD : Sta Z h0 "com/example/bahikhata/bahikhata/model/AssetClass" "STANDARD" "Lcom/example/bahikhata/bahikhata/model/AssetClass;" (.ref aSTANDARD)) (S_SUB_STANDARD : Sta Z h0 "com/example/bahikhata/bahikhata/model/AssetClass" "SUB_STANDARD" "Lcom/example/bahikhata/bahikhata/model/AssetClass;" (.ref aSUB_STANDARD)) (S_DOUBTFUL_1 : Sta Z h0 "com/example/bahikhata/bahikhata/model/AssetClass" "DOUBTFUL_1" "Lcom/example/bahikhata/bahikhata/model/AssetClass;" (.ref aDOUBTFUL_1)) (S_DOUBTFUL_2 : Sta Z h0 "com/example/bahikhata/bahikhata/model/AssetClass" "DOUBTFUL_2" "Lcom/example/bahikhata/bahikhata/model/AssetClass;" (.ref aDOUBTFUL_2)) (S_DOUBTFUL_3 : Sta Z h0 "com/example/bahikhata/bahikhata/model/AssetClass" "DOUBTFUL_3" "Lcom/example/bahikhata/bahikhata/model/AssetClass;" (.ref aDOUBTFUL_3)) (S_LOSS : Sta Z h0 "com/example/bahikhata/bahikhata/model/AssetClass" "LOSS" "Lcom/example/bahikhata/bahikhata/model/AssetClass;" (.ref aLOSS)) (E_STANDARD : Exa Z h0 aSTANDARD "com/example/bahikhata/bahikhata/model/AssetClass") (E_SUB_STANDARD : Exa Z h0 aSUB_STANDARD "com/example/bahikhata/bahikhata/model/AssetClass") (E_DOUBTFUL_1 : Exa Z h0 aDOUBTFUL_1 "com/example/bahikhata/bahikhata/model/AssetClass") (E_DOUBTFUL_2 : Exa Z h0 aDOUBTFUL_2 "com/example/bahikhata/bahikhata/model/AssetClass") (E_DOUBTFUL_3 : Exa Z h0 aDOUBTFUL_3 "com/example/bahikhata/bahikhata/model/AssetClass") (E_LOSS : Exa Z h0 aLOSS "com/example/bahikhata/bahikhata/model/AssetClass") (n_SUB_STANDARD_STANDARD : ¬ aSUB_STANDARD = aSTANDARD) (n_DOUBTFUL_1_STANDARD : ¬ aDOUBTFUL_1 = aSTANDARD) (n_DOUBTFUL_2_STANDARD : ¬ aDOUBTFUL_2 = aSTANDARD) (n_DOUBTFUL_3_STANDARD : ¬ aDOUBTFUL_3 = aSTANDARD) (n_LOSS_STANDARD : ¬ aLOSS = aSTANDARD) :
    MetFree l x (head1 (Jvm.Cond.code x code maxLocals ret :: ws) room_1) (fun aa U => aa = #[(.int p0)] ∧ Z.Warmed39 U.vm ∧ U.heap = h0) (fun _ _ _ _ _ => True) (fun _ U o U' => ∃ v L, o = .returned v ∧ own_rm0_Q Z p0 aSTANDARD aSUB_STANDARD aDOUBTFUL_1 aDOUBTFUL_2 aDOUBTFUL_3 aLOSS h0 n0 v U'.heap L ∧ FrameEnd U o U' L room_1.cells room_1.slots) := by
  refine MetFree.of_bodySF (plainFor_of_name own_pn_com_example_bahikhata_bahikhata_model_AssetClassIsNpaPinLaw) hisR ?_
  intro p e s m args below meth c s₁ Bd hml0 hP hK
  obtain ⟨rfl, hZ, hh⟩ := hP
  have hx := Bd.exec
  have hby := Bd.bytes
  have hml : c.maxLocals = 4 := hml0
  have hown : s.vm.findClass "com/example/bahikhata/bahikhata/model/AssetClassIsNpaPinLaw" = some m.cls := findClass_of_methodNamed Bd.named
  have hnm := (name_of_methodNamed Bd.named Bd.method).1
  have hlk := Bd.notSynchronized
  have X0 : Stand p l e room_1 s m #[(.int p0)] below meth c s₁ [] 0 0 := Stand.of_body Bd
  have e0 : s₁.heap = h0 := by rw [← hh, Bd.state]; rfl
  have N0 := Fr.nil n0
  refine own_start (Q := own_rm0_Q Z p0 aSTANDARD aSUB_STANDARD aDOUBTFUL_1 aDOUBTFUL_2 aDOUBTFUL_3 aLOSS h0 n0) (own_rm0_ef m p0) ?_
  refine own_by (T' := s₁) (g' := (mkF m 1 #[.val (.int p0), .unset, .unset, .unset] [(.int p0)])) (fun _ kq => XS.iloadN X0.here hx rfl (hb hby at_0) rfl kq) ?_
  refine own_by (T' := s₁) (g' := (mkF m 3 #[.val (.int p0), .unset, .unset, .unset] [(.int (2147483647 : Int32)), (.int p0)])) (fun _ kq => X0.ldcInt hx hown (mvT hZ (hw _ (List.mem_of_getElem? (i := 0) rfl))) (g := (mkF m 1 #[.val (.int p0), .unset, .unset, .unset] [(.int p0)])) rfl (hb hby at_1) _ kq) ?_
  refine own_by (T' := s₁) (g' := (mkF m 4 #[.val (.int p0), .unset, .unset, .unset] [(.int (p0 &&& (2147483647 : Int32)))])) (fun _ kq => XS.iand X0.here hx rfl (hb hby at_3) rfl kq) ?_
  refine own_by (T' := s₁) (g' := (mkF m 6 #[.val (.int p0), .unset, .unset, .unset] [(.int (6 : Int32)), (.int (p0 &&& (2147483647 : Int32)))])) (fun _ kq => XS.bipush X0.here hx rfl (hb hby at_4) kq) ?_
  refine own_by (T' := s₁) (g' := (mkF m 7 #[.val (.int p0), .unset, .unset, .unset] [(.int ((p0 &&& (2147483647 : Int32)) % (6 : Int32)))])) (fun _ kq => Jvm.RoadKit.iremM (g := (mkF m 6 #[.val (.int p0), .unset, .unset, .unset] [(.int (6 : Int32)), (.int (p0 &&& (2147483647 : Int32)))])) X0 hx rfl (hb hby at_6) rfl (by decide) kq) ?_
  refine own_by (T' := s₁) (g' := (mkF m 8 #[.val (.int p0), .val (.int ((p0 &&& (2147483647 : Int32)) % (6 : Int32))), .unset, .unset] [])) (fun _ kq => XS.istoreN X0.here hx rfl (hb hby at_7) rfl (l' := #[.val (.int p0), .val (.int ((p0 &&& (2147483647 : Int32)) % (6 : Int32))), .unset, .unset]) rfl kq) ?_
  generalize hg_k : ((p0 &&& (2147483647 : Int32)) % (6 : Int32)) = k
  by_cases hc1 : k = (0 : Int32)
  · skip
    refine own_by (T' := s₁) (g' := (mkF m 9 #[.val (.int p0), .val (.int k), .unset, .unset] [(.int k)])) (fun _ kq => XS.iloadN X0.here hx rfl (hb hby at_8) rfl kq) ?_
    refine own_callS X0 hx hZ (y := (⟨"com/example/bahikhata/bahikhata/model/AssetClassIsNpaPinLaw", "pick", "(I)Lcom/example/bahikhata/bahikhata/model/AssetClass;"⟩ : MethodName)) hown (hw _ (List.mem_of_getElem? (i := 1) rfl)) (hw _ (List.mem_of_getElem? (i := 2) rfl)) (hw _ (List.mem_of_getElem? (i := 3) rfl)) (hw _ (List.mem_of_getElem? (i := 4) rfl)) (by decide) (own_rm1 l Z a0 hw [] k aSTANDARD aSUB_STANDARD aDOUBTFUL_1 aDOUBTFUL_2 aDOUBTFUL_3 aLOSS h0 n0 Z0 S_STANDARD S_SUB_STANDARD S_DOUBTFUL_1 S_DOUBTFUL_2 S_DOUBTFUL_3 S_LOSS) (by decide) (by decide) e0 (g := (mkF m 9 #[.val (.int p0), .val (.int k), .unset, .unset] [(.int k)])) rfl (by rw [hml]; rfl) (argsL := [(.int k)]) (rest := []) (lenOf own_pd__28I_29Lcom_2fexample_2fbahikhata_2fbahikhata_2fmodel_2fAssetClass_3b rfl) rfl (W := 0) (by show 2 * 0 + _ ≤ _; exact Nat.le_of_eq rfl) (hb hby at_9) rfl (by decide) (by decide) ?_
    rintro rv2 T2 L2 X2 ⟨hv2, Nq2, eh2⟩
    have N2 := Fr.app N0 Nq2
    rw [if_pos hc1] at hv2
    subst hv2
    show own_Fin p e below _ T2 (mkF m 12 #[.val (.int p0), .val (.int k), .unset, .unset] [(.ref aSTANDARD)])
    refine own_by (T' := T2) (g' := (mkF m 13 #[.val (.int p0), .val (.int k), .val (.ref aSTANDARD), .unset] [])) (fun _ kq => XS.astoreN X2.here hx rfl (hb hby at_12) rfl rfl (l' := #[.val (.int p0), .val (.int k), .val (.ref aSTANDARD), .unset]) rfl kq) ?_
    refine own_by (T' := T2) (g' := (mkF m 14 #[.val (.int p0), .val (.int k), .val (.ref aSTANDARD), .unset] [(.int k)])) (fun _ kq => XS.iloadN X2.here hx rfl (hb hby at_13) rfl kq) ?_
    refine own_by (T' := T2) (g' := (mkF m 21 #[.val (.int p0), .val (.int k), .val (.ref aSTANDARD), .unset] [])) (fun _ kq => XS.ifYes X2.here hx rfl (pc0 := 14) (pc' := 21) rfl (hb hby at_14) rfl ((if0 _ _).trans (teq hc1).1) (by decide) (by decide) kq) ?_
    refine own_by (T' := T2) (g' := (mkF m 22 #[.val (.int p0), .val (.int k), .val (.ref aSTANDARD), .unset] [(.int (0 : Int32))])) (fun _ kq => XS.iconst X2.here hx rfl (hb hby at_21) kq) ?_
    refine own_by (T' := T2) (g' := (mkF m 23 #[.val (.int p0), .val (.int k), .val (.ref aSTANDARD), .val (.int (0 : Int32))] [])) (fun _ kq => XS.istoreN X2.here hx rfl (hb hby at_22) rfl (l' := #[.val (.int p0), .val (.int k), .val (.ref aSTANDARD), .val (.int (0 : Int32))]) rfl kq) ?_
    refine own_by (T' := T2) (g' := (mkF m 24 #[.val (.int p0), .val (.int k), .val (.ref aSTANDARD), .val (.int (0 : Int32))] [(.ref aSTANDARD)])) (fun _ kq => XS.aloadN X2.here hx rfl (hb hby at_23) rfl rfl kq) ?_
    refine own_callV X2 hx hZ (y := (⟨"com/example/bahikhata/bahikhata/model/AssetClass", "isNpa", "()Z"⟩ : MethodName)) (z := (⟨"com/example/bahikhata/bahikhata/model/AssetClass", "isNpa", "()Z"⟩ : MethodName)) hown (hw _ (List.mem_of_getElem? (i := 8) rfl)) (hw _ (List.mem_of_getElem? (i := 9) rfl)) (own_nf (hw _ (List.mem_of_getElem? (i := 11) rfl))) (hw _ (List.mem_of_getElem? (i := 11) rfl)) (hw _ (List.mem_of_getElem? (i := 10) rfl)) (hw _ (List.mem_of_getElem? (i := 12) rfl)) (hw _ (List.mem_of_getElem? (i := 6) rfl)) (by decide) E_STANDARD (own_rm2 l Z a0 hw [] aSTANDARD aSTANDARD h0 n0 Z0 S_STANDARD) (by decide) (by decide) eh2 (g := (mkF m 24 #[.val (.int p0), .val (.int k), .val (.ref aSTANDARD), .val (.int (0 : Int32))] [(.ref aSTANDARD)])) rfl (by rw [hml]; rfl) (argsL := []) (rest := []) (lenOf own_pd__28_29Z rfl) rfl (W := 0) (by show 2 * 0 + _ ≤ _; exact Nat.le_of_eq rfl) (hb hby at_24) rfl (by decide) (by decide) ?_
    rintro rv3 T3 L3 X3 ⟨hv3, Nq3, eh3⟩
    have N3 := Fr.app N2 Nq3
    rw [if_pos rfl] at hv3
    subst hv3
    show own_Fin p e below _ T3 (mkF m 27 #[.val (.int p0), .val (.int k), .val (.ref aSTANDARD), .val (.int (0 : Int32))] [(.int (0 : Int32))])
    refine own_by (T' := T3) (g' := (mkF m 28 #[.val (.int p0), .val (.int k), .val (.ref aSTANDARD), .val (.int (0 : Int32))] [(.int (0 : Int32)), (.int (0 : Int32))])) (fun _ kq => XS.iloadN X3.here hx rfl (hb hby at_27) rfl kq) ?_
    refine own_by (T' := T3) (g' := (mkF m 31 #[.val (.int p0), .val (.int k), .val (.ref aSTANDARD), .val (.int (0 : Int32))] [])) (fun _ kq => XS.icmpNo X3.here hx rfl (hb hby at_28) rfl (teq (by decide : (0 : Int32) = (0 : Int32))).2 kq) ?_
    refine own_by (T' := T3) (g' := (mkF m 32 #[.val (.int p0), .val (.int k), .val (.ref aSTANDARD), .val (.int (0 : Int32))] [(.int (1 : Int32))])) (fun _ kq => XS.iconst X3.here hx rfl (hb hby at_31) kq) ?_
    refine own_by (T' := T3) (g' := (mkF m 36 #[.val (.int p0), .val (.int k), .val (.ref aSTANDARD), .val (.int (0 : Int32))] [(.int (1 : Int32))])) (fun _ kq => XS.goto X3.here hx rfl (pc0 := 32) (pc' := 36) rfl (hb hby at_32) (by decide) (by decide) kq) ?_
    exact own_end X3 (v := some (.int (nar .boolean (1 : Int32)))) (fun h => by rw [Bd.returns] at h; cases h) hlk (fun hr => retN X3 hx (t := .boolean) Bd.returns (by simp) (hb hby at_36) hr) (by rw [eh3]; exact ⟨rfl, N3⟩) (by decide) (by decide)
  · skip
    by_cases hc4 : k = (1 : Int32)
    · skip
      refine own_by (T' := s₁) (g' := (mkF m 9 #[.val (.int p0), .val (.int k), .unset, .unset] [(.int k)])) (fun _ kq => XS.iloadN X0.here hx rfl (hb hby at_8) rfl kq) ?_
      refine own_callS X0 hx hZ (y := (⟨"com/example/bahikhata/bahikhata/model/AssetClassIsNpaPinLaw", "pick", "(I)Lcom/example/bahikhata/bahikhata/model/AssetClass;"⟩ : MethodName)) hown (hw _ (List.mem_of_getElem? (i := 1) rfl)) (hw _ (List.mem_of_getElem? (i := 2) rfl)) (hw _ (List.mem_of_getElem? (i := 3) rfl)) (hw _ (List.mem_of_getElem? (i := 4) rfl)) (by decide) (own_rm1 l Z a0 hw [] k aSTANDARD aSUB_STANDARD aDOUBTFUL_1 aDOUBTFUL_2 aDOUBTFUL_3 aLOSS h0 n0 Z0 S_STANDARD S_SUB_STANDARD S_DOUBTFUL_1 S_DOUBTFUL_2 S_DOUBTFUL_3 S_LOSS) (by decide) (by decide) e0 (g := (mkF m 9 #[.val (.int p0), .val (.int k), .unset, .unset] [(.int k)])) rfl (by rw [hml]; rfl) (argsL := [(.int k)]) (rest := []) (lenOf own_pd__28I_29Lcom_2fexample_2fbahikhata_2fbahikhata_2fmodel_2fAssetClass_3b rfl) rfl (W := 0) (by show 2 * 0 + _ ≤ _; exact Nat.le_of_eq rfl) (hb hby at_9) rfl (by decide) (by decide) ?_
      rintro rv5 T5 L5 X5 ⟨hv5, Nq5, eh5⟩
      have N5 := Fr.app N0 Nq5
      rw [if_neg hc1, if_pos hc4] at hv5
      subst hv5
      show own_Fin p e below _ T5 (mkF m 12 #[.val (.int p0), .val (.int k), .unset, .unset] [(.ref aSUB_STANDARD)])
      refine own_by (T' := T5) (g' := (mkF m 13 #[.val (.int p0), .val (.int k), .val (.ref aSUB_STANDARD), .unset] [])) (fun _ kq => XS.astoreN X5.here hx rfl (hb hby at_12) rfl rfl (l' := #[.val (.int p0), .val (.int k), .val (.ref aSUB_STANDARD), .unset]) rfl kq) ?_
      refine own_by (T' := T5) (g' := (mkF m 14 #[.val (.int p0), .val (.int k), .val (.ref aSUB_STANDARD), .unset] [(.int k)])) (fun _ kq => XS.iloadN X5.here hx rfl (hb hby at_13) rfl kq) ?_
      refine own_by (T' := T5) (g' := (mkF m 17 #[.val (.int p0), .val (.int k), .val (.ref aSUB_STANDARD), .unset] [])) (fun _ kq => XS.ifNo X5.here hx rfl (hb hby at_14) rfl ((if0 _ _).trans (feq hc1).1) kq) ?_
      refine own_by (T' := T5) (g' := (mkF m 18 #[.val (.int p0), .val (.int k), .val (.ref aSUB_STANDARD), .unset] [(.int (1 : Int32))])) (fun _ kq => XS.iconst X5.here hx rfl (hb hby at_17) kq) ?_
      refine own_by (T' := T5) (g' := (mkF m 22 #[.val (.int p0), .val (.int k), .val (.ref aSUB_STANDARD), .unset] [(.int (1 : Int32))])) (fun _ kq => XS.goto X5.here hx rfl (pc0 := 18) (pc' := 22) rfl (hb hby at_18) (by decide) (by decide) kq) ?_
      refine own_by (T' := T5) (g' := (mkF m 23 #[.val (.int p0), .val (.int k), .val (.ref aSUB_STANDARD), .val (.int (1 : Int32))] [])) (fun _ kq => XS.istoreN X5.here hx rfl (hb hby at_22) rfl (l' := #[.val (.int p0), .val (.int k), .val (.ref aSUB_STANDARD), .val (.int (1 : Int32))]) rfl kq) ?_
      refine own_by (T' := T5) (g' := (mkF m 24 #[.val (.int p0), .val (.int k), .val (.ref aSUB_STANDARD), .val (.int (1 : Int32))] [(.ref aSUB_STANDARD)])) (fun _ kq => XS.aloadN X5.here hx rfl (hb hby at_23) rfl rfl kq) ?_
      refine own_callV X5 hx hZ (y := (⟨"com/example/bahikhata/bahikhata/model/AssetClass", "isNpa", "()Z"⟩ : MethodName)) (z := (⟨"com/example/bahikhata/bahikhata/model/AssetClass", "isNpa", "()Z"⟩ : MethodName)) hown (hw _ (List.mem_of_getElem? (i := 8) rfl)) (hw _ (List.mem_of_getElem? (i := 9) rfl)) (own_nf (hw _ (List.mem_of_getElem? (i := 11) rfl))) (hw _ (List.mem_of_getElem? (i := 11) rfl)) (hw _ (List.mem_of_getElem? (i := 10) rfl)) (hw _ (List.mem_of_getElem? (i := 12) rfl)) (hw _ (List.mem_of_getElem? (i := 6) rfl)) (by decide) E_SUB_STANDARD (own_rm2 l Z a0 hw [] aSUB_STANDARD aSTANDARD h0 n0 Z0 S_STANDARD) (by decide) (by decide) eh5 (g := (mkF m 24 #[.val (.int p0), .val (.int k), .val (.ref aSUB_STANDARD), .val (.int (1 : Int32))] [(.ref aSUB_STANDARD)])) rfl (by rw [hml]; rfl) (argsL := []) (rest := []) (lenOf own_pd__28_29Z rfl) rfl (W := 0) (by show 2 * 0 + _ ≤ _; exact Nat.le_of_eq rfl) (hb hby at_24) rfl (by decide) (by decide) ?_
      rintro rv6 T6 L6 X6 ⟨hv6, Nq6, eh6⟩
      have N6 := Fr.app N5 Nq6
      rw [if_neg n_SUB_STANDARD_STANDARD] at hv6
      subst hv6
      show own_Fin p e below _ T6 (mkF m 27 #[.val (.int p0), .val (.int k), .val (.ref aSUB_STANDARD), .val (.int (1 : Int32))] [(.int (1 : Int32))])
      refine own_by (T' := T6) (g' := (mkF m 28 #[.val (.int p0), .val (.int k), .val (.ref aSUB_STANDARD), .val (.int (1 : Int32))] [(.int (1 : Int32)), (.int (1 : Int32))])) (fun _ kq => XS.iloadN X6.here hx rfl (hb hby at_27) rfl kq) ?_
      refine own_by (T' := T6) (g' := (mkF m 31 #[.val (.int p0), .val (.int k), .val (.ref aSUB_STANDARD), .val (.int (1 : Int32))] [])) (fun _ kq => XS.icmpNo X6.here hx rfl (hb hby at_28) rfl (teq (by decide : (1 : Int32) = (1 : Int32))).2 kq) ?_
      refine own_by (T' := T6) (g' := (mkF m 32 #[.val (.int p0), .val (.int k), .val (.ref aSUB_STANDARD), .val (.int (1 : Int32))] [(.int (1 : Int32))])) (fun _ kq => XS.iconst X6.here hx rfl (hb hby at_31) kq) ?_
      refine own_by (T' := T6) (g' := (mkF m 36 #[.val (.int p0), .val (.int k), .val (.ref aSUB_STANDARD), .val (.int (1 : Int32))] [(.int (1 : Int32))])) (fun _ kq => XS.goto X6.here hx rfl (pc0 := 32) (pc' := 36) rfl (hb hby at_32) (by decide) (by decide) kq) ?_
      exact own_end X6 (v := some (.int (nar .boolean (1 : Int32)))) (fun h => by rw [Bd.returns] at h; cases h) hlk (fun hr => retN X6 hx (t := .boolean) Bd.returns (by simp) (hb hby at_36) hr) (by rw [eh6]; exact ⟨rfl, N6⟩) (by decide) (by decide)
    · skip
      by_cases hc7 : k = (2 : Int32)
      · skip
        refine own_by (T' := s₁) (g' := (mkF m 9 #[.val (.int p0), .val (.int k), .unset, .unset] [(.int k)])) (fun _ kq => XS.iloadN X0.here hx rfl (hb hby at_8) rfl kq) ?_
        refine own_callS X0 hx hZ (y := (⟨"com/example/bahikhata/bahikhata/model/AssetClassIsNpaPinLaw", "pick", "(I)Lcom/example/bahikhata/bahikhata/model/AssetClass;"⟩ : MethodName)) hown (hw _ (List.mem_of_getElem? (i := 1) rfl)) (hw _ (List.mem_of_getElem? (i := 2) rfl)) (hw _ (List.mem_of_getElem? (i := 3) rfl)) (hw _ (List.mem_of_getElem? (i := 4) rfl)) (by decide) (own_rm1 l Z a0 hw [] k aSTANDARD aSUB_STANDARD aDOUBTFUL_1 aDOUBTFUL_2 aDOUBTFUL_3 aLOSS h0 n0 Z0 S_STANDARD S_SUB_STANDARD S_DOUBTFUL_1 S_DOUBTFUL_2 S_DOUBTFUL_3 S_LOSS) (by decide) (by decide) e0 (g := (mkF m 9 #[.val (.int p0), .val (.int k), .unset, .unset] [(.int k)])) rfl (by rw [hml]; rfl) (argsL := [(.int k)]) (rest := []) (lenOf own_pd__28I_29Lcom_2fexample_2fbahikhata_2fbahikhata_2fmodel_2fAssetClass_3b rfl) rfl (W := 0) (by show 2 * 0 + _ ≤ _; exact Nat.le_of_eq rfl) (hb hby at_9) rfl (by decide) (by decide) ?_
        rintro rv8 T8 L8 X8 ⟨hv8, Nq8, eh8⟩
        have N8 := Fr.app N0 Nq8
        rw [if_neg hc1, if_neg hc4, if_pos hc7] at hv8
        subst hv8
        show own_Fin p e below _ T8 (mkF m 12 #[.val (.int p0), .val (.int k), .unset, .unset] [(.ref aDOUBTFUL_1)])
        refine own_by (T' := T8) (g' := (mkF m 13 #[.val (.int p0), .val (.int k), .val (.ref aDOUBTFUL_1), .unset] [])) (fun _ kq => XS.astoreN X8.here hx rfl (hb hby at_12) rfl rfl (l' := #[.val (.int p0), .val (.int k), .val (.ref aDOUBTFUL_1), .unset]) rfl kq) ?_
        refine own_by (T' := T8) (g' := (mkF m 14 #[.val (.int p0), .val (.int k), .val (.ref aDOUBTFUL_1), .unset] [(.int k)])) (fun _ kq => XS.iloadN X8.here hx rfl (hb hby at_13) rfl kq) ?_
        refine own_by (T' := T8) (g' := (mkF m 17 #[.val (.int p0), .val (.int k), .val (.ref aDOUBTFUL_1), .unset] [])) (fun _ kq => XS.ifNo X8.here hx rfl (hb hby at_14) rfl ((if0 _ _).trans (feq hc1).1) kq) ?_
        refine own_by (T' := T8) (g' := (mkF m 18 #[.val (.int p0), .val (.int k), .val (.ref aDOUBTFUL_1), .unset] [(.int (1 : Int32))])) (fun _ kq => XS.iconst X8.here hx rfl (hb hby at_17) kq) ?_
        refine own_by (T' := T8) (g' := (mkF m 22 #[.val (.int p0), .val (.int k), .val (.ref aDOUBTFUL_1), .unset] [(.int (1 : Int32))])) (fun _ kq => XS.goto X8.here hx rfl (pc0 := 18) (pc' := 22) rfl (hb hby at_18) (by decide) (by decide) kq) ?_
        refine own_by (T' := T8) (g' := (mkF m 23 #[.val (.int p0), .val (.int k), .val (.ref aDOUBTFUL_1), .val (.int (1 : Int32))] [])) (fun _ kq => XS.istoreN X8.here hx rfl (hb hby at_22) rfl (l' := #[.val (.int p0), .val (.int k), .val (.ref aDOUBTFUL_1), .val (.int (1 : Int32))]) rfl kq) ?_
        refine own_by (T' := T8) (g' := (mkF m 24 #[.val (.int p0), .val (.int k), .val (.ref aDOUBTFUL_1), .val (.int (1 : Int32))] [(.ref aDOUBTFUL_1)])) (fun _ kq => XS.aloadN X8.here hx rfl (hb hby at_23) rfl rfl kq) ?_
        refine own_callV X8 hx hZ (y := (⟨"com/example/bahikhata/bahikhata/model/AssetClass", "isNpa", "()Z"⟩ : MethodName)) (z := (⟨"com/example/bahikhata/bahikhata/model/AssetClass", "isNpa", "()Z"⟩ : MethodName)) hown (hw _ (List.mem_of_getElem? (i := 8) rfl)) (hw _ (List.mem_of_getElem? (i := 9) rfl)) (own_nf (hw _ (List.mem_of_getElem? (i := 11) rfl))) (hw _ (List.mem_of_getElem? (i := 11) rfl)) (hw _ (List.mem_of_getElem? (i := 10) rfl)) (hw _ (List.mem_of_getElem? (i := 12) rfl)) (hw _ (List.mem_of_getElem? (i := 6) rfl)) (by decide) E_DOUBTFUL_1 (own_rm2 l Z a0 hw [] aDOUBTFUL_1 aSTANDARD h0 n0 Z0 S_STANDARD) (by decide) (by decide) eh8 (g := (mkF m 24 #[.val (.int p0), .val (.int k), .val (.ref aDOUBTFUL_1), .val (.int (1 : Int32))] [(.ref aDOUBTFUL_1)])) rfl (by rw [hml]; rfl) (argsL := []) (rest := []) (lenOf own_pd__28_29Z rfl) rfl (W := 0) (by show 2 * 0 + _ ≤ _; exact Nat.le_of_eq rfl) (hb hby at_24) rfl (by decide) (by decide) ?_
        rintro rv9 T9 L9 X9 ⟨hv9, Nq9, eh9⟩
        have N9 := Fr.app N8 Nq9
        rw [if_neg n_DOUBTFUL_1_STANDARD] at hv9
        subst hv9
        show own_Fin p e below _ T9 (mkF m 27 #[.val (.int p0), .val (.int k), .val (.ref aDOUBTFUL_1), .val (.int (1 : Int32))] [(.int (1 : Int32))])
        refine own_by (T' := T9) (g' := (mkF m 28 #[.val (.int p0), .val (.int k), .val (.ref aDOUBTFUL_1), .val (.int (1 : Int32))] [(.int (1 : Int32)), (.int (1 : Int32))])) (fun _ kq => XS.iloadN X9.here hx rfl (hb hby at_27) rfl kq) ?_
        refine own_by (T' := T9) (g' := (mkF m 31 #[.val (.int p0), .val (.int k), .val (.ref aDOUBTFUL_1), .val (.int (1 : Int32))] [])) (fun _ kq => XS.icmpNo X9.here hx rfl (hb hby at_28) rfl (teq (by decide : (1 : Int32) = (1 : Int32))).2 kq) ?_
        refine own_by (T' := T9) (g' := (mkF m 32 #[.val (.int p0), .val (.int k), .val (.ref aDOUBTFUL_1), .val (.int (1 : Int32))] [(.int (1 : Int32))])) (fun _ kq => XS.iconst X9.here hx rfl (hb hby at_31) kq) ?_
        refine own_by (T' := T9) (g' := (mkF m 36 #[.val (.int p0), .val (.int k), .val (.ref aDOUBTFUL_1), .val (.int (1 : Int32))] [(.int (1 : Int32))])) (fun _ kq => XS.goto X9.here hx rfl (pc0 := 32) (pc' := 36) rfl (hb hby at_32) (by decide) (by decide) kq) ?_
        exact own_end X9 (v := some (.int (nar .boolean (1 : Int32)))) (fun h => by rw [Bd.returns] at h; cases h) hlk (fun hr => retN X9 hx (t := .boolean) Bd.returns (by simp) (hb hby at_36) hr) (by rw [eh9]; exact ⟨rfl, N9⟩) (by decide) (by decide)
      · skip
        by_cases hc10 : k = (3 : Int32)
        · skip
          refine own_by (T' := s₁) (g' := (mkF m 9 #[.val (.int p0), .val (.int k), .unset, .unset] [(.int k)])) (fun _ kq => XS.iloadN X0.here hx rfl (hb hby at_8) rfl kq) ?_
          refine own_callS X0 hx hZ (y := (⟨"com/example/bahikhata/bahikhata/model/AssetClassIsNpaPinLaw", "pick", "(I)Lcom/example/bahikhata/bahikhata/model/AssetClass;"⟩ : MethodName)) hown (hw _ (List.mem_of_getElem? (i := 1) rfl)) (hw _ (List.mem_of_getElem? (i := 2) rfl)) (hw _ (List.mem_of_getElem? (i := 3) rfl)) (hw _ (List.mem_of_getElem? (i := 4) rfl)) (by decide) (own_rm1 l Z a0 hw [] k aSTANDARD aSUB_STANDARD aDOUBTFUL_1 aDOUBTFUL_2 aDOUBTFUL_3 aLOSS h0 n0 Z0 S_STANDARD S_SUB_STANDARD S_DOUBTFUL_1 S_DOUBTFUL_2 S_DOUBTFUL_3 S_LOSS) (by decide) (by decide) e0 (g := (mkF m 9 #[.val (.int p0), .val (.int k), .unset, .unset] [(.int k)])) rfl (by rw [hml]; rfl) (argsL := [(.int k)]) (rest := []) (lenOf own_pd__28I_29Lcom_2fexample_2fbahikhata_2fbahikhata_2fmodel_2fAssetClass_3b rfl) rfl (W := 0) (by show 2 * 0 + _ ≤ _; exact Nat.le_of_eq rfl) (hb hby at_9) rfl (by decide) (by decide) ?_
          rintro rv11 T11 L11 X11 ⟨hv11, Nq11, eh11⟩
          have N11 := Fr.app N0 Nq11
          rw [if_neg hc1, if_neg hc4, if_neg hc7, if_pos hc10] at hv11
          subst hv11
          show own_Fin p e below _ T11 (mkF m 12 #[.val (.int p0), .val (.int k), .unset, .unset] [(.ref aDOUBTFUL_2)])
          refine own_by (T' := T11) (g' := (mkF m 13 #[.val (.int p0), .val (.int k), .val (.ref aDOUBTFUL_2), .unset] [])) (fun _ kq => XS.astoreN X11.here hx rfl (hb hby at_12) rfl rfl (l' := #[.val (.int p0), .val (.int k), .val (.ref aDOUBTFUL_2), .unset]) rfl kq) ?_
          refine own_by (T' := T11) (g' := (mkF m 14 #[.val (.int p0), .val (.int k), .val (.ref aDOUBTFUL_2), .unset] [(.int k)])) (fun _ kq => XS.iloadN X11.here hx rfl (hb hby at_13) rfl kq) ?_
          refine own_by (T' := T11) (g' := (mkF m 17 #[.val (.int p0), .val (.int k), .val (.ref aDOUBTFUL_2), .unset] [])) (fun _ kq => XS.ifNo X11.here hx rfl (hb hby at_14) rfl ((if0 _ _).trans (feq hc1).1) kq) ?_
          refine own_by (T' := T11) (g' := (mkF m 18 #[.val (.int p0), .val (.int k), .val (.ref aDOUBTFUL_2), .unset] [(.int (1 : Int32))])) (fun _ kq => XS.iconst X11.here hx rfl (hb hby at_17) kq) ?_
          refine own_by (T' := T11) (g' := (mkF m 22 #[.val (.int p0), .val (.int k), .val (.ref aDOUBTFUL_2), .unset] [(.int (1 : Int32))])) (fun _ kq => XS.goto X11.here hx rfl (pc0 := 18) (pc' := 22) rfl (hb hby at_18) (by decide) (by decide) kq) ?_
          refine own_by (T' := T11) (g' := (mkF m 23 #[.val (.int p0), .val (.int k), .val (.ref aDOUBTFUL_2), .val (.int (1 : Int32))] [])) (fun _ kq => XS.istoreN X11.here hx rfl (hb hby at_22) rfl (l' := #[.val (.int p0), .val (.int k), .val (.ref aDOUBTFUL_2), .val (.int (1 : Int32))]) rfl kq) ?_
          refine own_by (T' := T11) (g' := (mkF m 24 #[.val (.int p0), .val (.int k), .val (.ref aDOUBTFUL_2), .val (.int (1 : Int32))] [(.ref aDOUBTFUL_2)])) (fun _ kq => XS.aloadN X11.here hx rfl (hb hby at_23) rfl rfl kq) ?_
          refine own_callV X11 hx hZ (y := (⟨"com/example/bahikhata/bahikhata/model/AssetClass", "isNpa", "()Z"⟩ : MethodName)) (z := (⟨"com/example/bahikhata/bahikhata/model/AssetClass", "isNpa", "()Z"⟩ : MethodName)) hown (hw _ (List.mem_of_getElem? (i := 8) rfl)) (hw _ (List.mem_of_getElem? (i := 9) rfl)) (own_nf (hw _ (List.mem_of_getElem? (i := 11) rfl))) (hw _ (List.mem_of_getElem? (i := 11) rfl)) (hw _ (List.mem_of_getElem? (i := 10) rfl)) (hw _ (List.mem_of_getElem? (i := 12) rfl)) (hw _ (List.mem_of_getElem? (i := 6) rfl)) (by decide) E_DOUBTFUL_2 (own_rm2 l Z a0 hw [] aDOUBTFUL_2 aSTANDARD h0 n0 Z0 S_STANDARD) (by decide) (by decide) eh11 (g := (mkF m 24 #[.val (.int p0), .val (.int k), .val (.ref aDOUBTFUL_2), .val (.int (1 : Int32))] [(.ref aDOUBTFUL_2)])) rfl (by rw [hml]; rfl) (argsL := []) (rest := []) (lenOf own_pd__28_29Z rfl) rfl (W := 0) (by show 2 * 0 + _ ≤ _; exact Nat.le_of_eq rfl) (hb hby at_24) rfl (by decide) (by decide) ?_
          rintro rv12 T12 L12 X12 ⟨hv12, Nq12, eh12⟩
          have N12 := Fr.app N11 Nq12
          rw [if_neg n_DOUBTFUL_2_STANDARD] at hv12
          subst hv12
          show own_Fin p e below _ T12 (mkF m 27 #[.val (.int p0), .val (.int k), .val (.ref aDOUBTFUL_2), .val (.int (1 : Int32))] [(.int (1 : Int32))])
          refine own_by (T' := T12) (g' := (mkF m 28 #[.val (.int p0), .val (.int k), .val (.ref aDOUBTFUL_2), .val (.int (1 : Int32))] [(.int (1 : Int32)), (.int (1 : Int32))])) (fun _ kq => XS.iloadN X12.here hx rfl (hb hby at_27) rfl kq) ?_
          refine own_by (T' := T12) (g' := (mkF m 31 #[.val (.int p0), .val (.int k), .val (.ref aDOUBTFUL_2), .val (.int (1 : Int32))] [])) (fun _ kq => XS.icmpNo X12.here hx rfl (hb hby at_28) rfl (teq (by decide : (1 : Int32) = (1 : Int32))).2 kq) ?_
          refine own_by (T' := T12) (g' := (mkF m 32 #[.val (.int p0), .val (.int k), .val (.ref aDOUBTFUL_2), .val (.int (1 : Int32))] [(.int (1 : Int32))])) (fun _ kq => XS.iconst X12.here hx rfl (hb hby at_31) kq) ?_
          refine own_by (T' := T12) (g' := (mkF m 36 #[.val (.int p0), .val (.int k), .val (.ref aDOUBTFUL_2), .val (.int (1 : Int32))] [(.int (1 : Int32))])) (fun _ kq => XS.goto X12.here hx rfl (pc0 := 32) (pc' := 36) rfl (hb hby at_32) (by decide) (by decide) kq) ?_
          exact own_end X12 (v := some (.int (nar .boolean (1 : Int32)))) (fun h => by rw [Bd.returns] at h; cases h) hlk (fun hr => retN X12 hx (t := .boolean) Bd.returns (by simp) (hb hby at_36) hr) (by rw [eh12]; exact ⟨rfl, N12⟩) (by decide) (by decide)
        · skip
          by_cases hc13 : k = (4 : Int32)
          · skip
            refine own_by (T' := s₁) (g' := (mkF m 9 #[.val (.int p0), .val (.int k), .unset, .unset] [(.int k)])) (fun _ kq => XS.iloadN X0.here hx rfl (hb hby at_8) rfl kq) ?_
            refine own_callS X0 hx hZ (y := (⟨"com/example/bahikhata/bahikhata/model/AssetClassIsNpaPinLaw", "pick", "(I)Lcom/example/bahikhata/bahikhata/model/AssetClass;"⟩ : MethodName)) hown (hw _ (List.mem_of_getElem? (i := 1) rfl)) (hw _ (List.mem_of_getElem? (i := 2) rfl)) (hw _ (List.mem_of_getElem? (i := 3) rfl)) (hw _ (List.mem_of_getElem? (i := 4) rfl)) (by decide) (own_rm1 l Z a0 hw [] k aSTANDARD aSUB_STANDARD aDOUBTFUL_1 aDOUBTFUL_2 aDOUBTFUL_3 aLOSS h0 n0 Z0 S_STANDARD S_SUB_STANDARD S_DOUBTFUL_1 S_DOUBTFUL_2 S_DOUBTFUL_3 S_LOSS) (by decide) (by decide) e0 (g := (mkF m 9 #[.val (.int p0), .val (.int k), .unset, .unset] [(.int k)])) rfl (by rw [hml]; rfl) (argsL := [(.int k)]) (rest := []) (lenOf own_pd__28I_29Lcom_2fexample_2fbahikhata_2fbahikhata_2fmodel_2fAssetClass_3b rfl) rfl (W := 0) (by show 2 * 0 + _ ≤ _; exact Nat.le_of_eq rfl) (hb hby at_9) rfl (by decide) (by decide) ?_
            rintro rv14 T14 L14 X14 ⟨hv14, Nq14, eh14⟩
            have N14 := Fr.app N0 Nq14
            rw [if_neg hc1, if_neg hc4, if_neg hc7, if_neg hc10, if_pos hc13] at hv14
            subst hv14
            show own_Fin p e below _ T14 (mkF m 12 #[.val (.int p0), .val (.int k), .unset, .unset] [(.ref aDOUBTFUL_3)])
            refine own_by (T' := T14) (g' := (mkF m 13 #[.val (.int p0), .val (.int k), .val (.ref aDOUBTFUL_3), .unset] [])) (fun _ kq => XS.astoreN X14.here hx rfl (hb hby at_12) rfl rfl (l' := #[.val (.int p0), .val (.int k), .val (.ref aDOUBTFUL_3), .unset]) rfl kq) ?_
            refine own_by (T' := T14) (g' := (mkF m 14 #[.val (.int p0), .val (.int k), .val (.ref aDOUBTFUL_3), .unset] [(.int k)])) (fun _ kq => XS.iloadN X14.here hx rfl (hb hby at_13) rfl kq) ?_
            refine own_by (T' := T14) (g' := (mkF m 17 #[.val (.int p0), .val (.int k), .val (.ref aDOUBTFUL_3), .unset] [])) (fun _ kq => XS.ifNo X14.here hx rfl (hb hby at_14) rfl ((if0 _ _).trans (feq hc1).1) kq) ?_
            refine own_by (T' := T14) (g' := (mkF m 18 #[.val (.int p0), .val (.int k), .val (.ref aDOUBTFUL_3), .unset] [(.int (1 : Int32))])) (fun _ kq => XS.iconst X14.here hx rfl (hb hby at_17) kq) ?_
            refine own_by (T' := T14) (g' := (mkF m 22 #[.val (.int p0), .val (.int k), .val (.ref aDOUBTFUL_3), .unset] [(.int (1 : Int32))])) (fun _ kq => XS.goto X14.here hx rfl (pc0 := 18) (pc' := 22) rfl (hb hby at_18) (by decide) (by decide) kq) ?_
            refine own_by (T' := T14) (g' := (mkF m 23 #[.val (.int p0), .val (.int k), .val (.ref aDOUBTFUL_3), .val (.int (1 : Int32))] [])) (fun _ kq => XS.istoreN X14.here hx rfl (hb hby at_22) rfl (l' := #[.val (.int p0), .val (.int k), .val (.ref aDOUBTFUL_3), .val (.int (1 : Int32))]) rfl kq) ?_
            refine own_by (T' := T14) (g' := (mkF m 24 #[.val (.int p0), .val (.int k), .val (.ref aDOUBTFUL_3), .val (.int (1 : Int32))] [(.ref aDOUBTFUL_3)])) (fun _ kq => XS.aloadN X14.here hx rfl (hb hby at_23) rfl rfl kq) ?_
            refine own_callV X14 hx hZ (y := (⟨"com/example/bahikhata/bahikhata/model/AssetClass", "isNpa", "()Z"⟩ : MethodName)) (z := (⟨"com/example/bahikhata/bahikhata/model/AssetClass", "isNpa", "()Z"⟩ : MethodName)) hown (hw _ (List.mem_of_getElem? (i := 8) rfl)) (hw _ (List.mem_of_getElem? (i := 9) rfl)) (own_nf (hw _ (List.mem_of_getElem? (i := 11) rfl))) (hw _ (List.mem_of_getElem? (i := 11) rfl)) (hw _ (List.mem_of_getElem? (i := 10) rfl)) (hw _ (List.mem_of_getElem? (i := 12) rfl)) (hw _ (List.mem_of_getElem? (i := 6) rfl)) (by decide) E_DOUBTFUL_3 (own_rm2 l Z a0 hw [] aDOUBTFUL_3 aSTANDARD h0 n0 Z0 S_STANDARD) (by decide) (by decide) eh14 (g := (mkF m 24 #[.val (.int p0), .val (.int k), .val (.ref aDOUBTFUL_3), .val (.int (1 : Int32))] [(.ref aDOUBTFUL_3)])) rfl (by rw [hml]; rfl) (argsL := []) (rest := []) (lenOf own_pd__28_29Z rfl) rfl (W := 0) (by show 2 * 0 + _ ≤ _; exact Nat.le_of_eq rfl) (hb hby at_24) rfl (by decide) (by decide) ?_
            rintro rv15 T15 L15 X15 ⟨hv15, Nq15, eh15⟩
            have N15 := Fr.app N14 Nq15
            rw [if_neg n_DOUBTFUL_3_STANDARD] at hv15
            subst hv15
            show own_Fin p e below _ T15 (mkF m 27 #[.val (.int p0), .val (.int k), .val (.ref aDOUBTFUL_3), .val (.int (1 : Int32))] [(.int (1 : Int32))])
            refine own_by (T' := T15) (g' := (mkF m 28 #[.val (.int p0), .val (.int k), .val (.ref aDOUBTFUL_3), .val (.int (1 : Int32))] [(.int (1 : Int32)), (.int (1 : Int32))])) (fun _ kq => XS.iloadN X15.here hx rfl (hb hby at_27) rfl kq) ?_
            refine own_by (T' := T15) (g' := (mkF m 31 #[.val (.int p0), .val (.int k), .val (.ref aDOUBTFUL_3), .val (.int (1 : Int32))] [])) (fun _ kq => XS.icmpNo X15.here hx rfl (hb hby at_28) rfl (teq (by decide : (1 : Int32) = (1 : Int32))).2 kq) ?_
            refine own_by (T' := T15) (g' := (mkF m 32 #[.val (.int p0), .val (.int k), .val (.ref aDOUBTFUL_3), .val (.int (1 : Int32))] [(.int (1 : Int32))])) (fun _ kq => XS.iconst X15.here hx rfl (hb hby at_31) kq) ?_
            refine own_by (T' := T15) (g' := (mkF m 36 #[.val (.int p0), .val (.int k), .val (.ref aDOUBTFUL_3), .val (.int (1 : Int32))] [(.int (1 : Int32))])) (fun _ kq => XS.goto X15.here hx rfl (pc0 := 32) (pc' := 36) rfl (hb hby at_32) (by decide) (by decide) kq) ?_
            exact own_end X15 (v := some (.int (nar .boolean (1 : Int32)))) (fun h => by rw [Bd.returns] at h; cases h) hlk (fun hr => retN X15 hx (t := .boolean) Bd.returns (by simp) (hb hby at_36) hr) (by rw [eh15]; exact ⟨rfl, N15⟩) (by decide) (by decide)
          · skip
            refine own_by (T' := s₁) (g' := (mkF m 9 #[.val (.int p0), .val (.int k), .unset, .unset] [(.int k)])) (fun _ kq => XS.iloadN X0.here hx rfl (hb hby at_8) rfl kq) ?_
            refine own_callS X0 hx hZ (y := (⟨"com/example/bahikhata/bahikhata/model/AssetClassIsNpaPinLaw", "pick", "(I)Lcom/example/bahikhata/bahikhata/model/AssetClass;"⟩ : MethodName)) hown (hw _ (List.mem_of_getElem? (i := 1) rfl)) (hw _ (List.mem_of_getElem? (i := 2) rfl)) (hw _ (List.mem_of_getElem? (i := 3) rfl)) (hw _ (List.mem_of_getElem? (i := 4) rfl)) (by decide) (own_rm1 l Z a0 hw [] k aSTANDARD aSUB_STANDARD aDOUBTFUL_1 aDOUBTFUL_2 aDOUBTFUL_3 aLOSS h0 n0 Z0 S_STANDARD S_SUB_STANDARD S_DOUBTFUL_1 S_DOUBTFUL_2 S_DOUBTFUL_3 S_LOSS) (by decide) (by decide) e0 (g := (mkF m 9 #[.val (.int p0), .val (.int k), .unset, .unset] [(.int k)])) rfl (by rw [hml]; rfl) (argsL := [(.int k)]) (rest := []) (lenOf own_pd__28I_29Lcom_2fexample_2fbahikhata_2fbahikhata_2fmodel_2fAssetClass_3b rfl) rfl (W := 0) (by show 2 * 0 + _ ≤ _; exact Nat.le_of_eq rfl) (hb hby at_9) rfl (by decide) (by decide) ?_
            rintro rv16 T16 L16 X16 ⟨hv16, Nq16, eh16⟩
            have N16 := Fr.app N0 Nq16
            rw [if_neg hc1, if_neg hc4, if_neg hc7, if_neg hc10, if_neg hc13] at hv16
            subst hv16
            show own_Fin p e below _ T16 (mkF m 12 #[.val (.int p0), .val (.int k), .unset, .unset] [(.ref aLOSS)])
            refine own_by (T' := T16) (g' := (mkF m 13 #[.val (.int p0), .val (.int k), .val (.ref aLOSS), .unset] [])) (fun _ kq => XS.astoreN X16.here hx rfl (hb hby at_12) rfl rfl (l' := #[.val (.int p0), .val (.int k), .val (.ref aLOSS), .unset]) rfl kq) ?_
            refine own_by (T' := T16) (g' := (mkF m 14 #[.val (.int p0), .val (.int k), .val (.ref aLOSS), .unset] [(.int k)])) (fun _ kq => XS.iloadN X16.here hx rfl (hb hby at_13) rfl kq) ?_
            refine own_by (T' := T16) (g' := (mkF m 17 #[.val (.int p0), .val (.int k), .val (.ref aLOSS), .unset] [])) (fun _ kq => XS.ifNo X16.here hx rfl (hb hby at_14) rfl ((if0 _ _).trans (feq hc1).1) kq) ?_
            refine own_by (T' := T16) (g' := (mkF m 18 #[.val (.int p0), .val (.int k), .val (.ref aLOSS), .unset] [(.int (1 : Int32))])) (fun _ kq => XS.iconst X16.here hx rfl (hb hby at_17) kq) ?_
            refine own_by (T' := T16) (g' := (mkF m 22 #[.val (.int p0), .val (.int k), .val (.ref aLOSS), .unset] [(.int (1 : Int32))])) (fun _ kq => XS.goto X16.here hx rfl (pc0 := 18) (pc' := 22) rfl (hb hby at_18) (by decide) (by decide) kq) ?_
            refine own_by (T' := T16) (g' := (mkF m 23 #[.val (.int p0), .val (.int k), .val (.ref aLOSS), .val (.int (1 : Int32))] [])) (fun _ kq => XS.istoreN X16.here hx rfl (hb hby at_22) rfl (l' := #[.val (.int p0), .val (.int k), .val (.ref aLOSS), .val (.int (1 : Int32))]) rfl kq) ?_
            refine own_by (T' := T16) (g' := (mkF m 24 #[.val (.int p0), .val (.int k), .val (.ref aLOSS), .val (.int (1 : Int32))] [(.ref aLOSS)])) (fun _ kq => XS.aloadN X16.here hx rfl (hb hby at_23) rfl rfl kq) ?_
            refine own_callV X16 hx hZ (y := (⟨"com/example/bahikhata/bahikhata/model/AssetClass", "isNpa", "()Z"⟩ : MethodName)) (z := (⟨"com/example/bahikhata/bahikhata/model/AssetClass", "isNpa", "()Z"⟩ : MethodName)) hown (hw _ (List.mem_of_getElem? (i := 8) rfl)) (hw _ (List.mem_of_getElem? (i := 9) rfl)) (own_nf (hw _ (List.mem_of_getElem? (i := 11) rfl))) (hw _ (List.mem_of_getElem? (i := 11) rfl)) (hw _ (List.mem_of_getElem? (i := 10) rfl)) (hw _ (List.mem_of_getElem? (i := 12) rfl)) (hw _ (List.mem_of_getElem? (i := 6) rfl)) (by decide) E_LOSS (own_rm2 l Z a0 hw [] aLOSS aSTANDARD h0 n0 Z0 S_STANDARD) (by decide) (by decide) eh16 (g := (mkF m 24 #[.val (.int p0), .val (.int k), .val (.ref aLOSS), .val (.int (1 : Int32))] [(.ref aLOSS)])) rfl (by rw [hml]; rfl) (argsL := []) (rest := []) (lenOf own_pd__28_29Z rfl) rfl (W := 0) (by show 2 * 0 + _ ≤ _; exact Nat.le_of_eq rfl) (hb hby at_24) rfl (by decide) (by decide) ?_
            rintro rv17 T17 L17 X17 ⟨hv17, Nq17, eh17⟩
            have N17 := Fr.app N16 Nq17
            rw [if_neg n_LOSS_STANDARD] at hv17
            subst hv17
            show own_Fin p e below _ T17 (mkF m 27 #[.val (.int p0), .val (.int k), .val (.ref aLOSS), .val (.int (1 : Int32))] [(.int (1 : Int32))])
            refine own_by (T' := T17) (g' := (mkF m 28 #[.val (.int p0), .val (.int k), .val (.ref aLOSS), .val (.int (1 : Int32))] [(.int (1 : Int32)), (.int (1 : Int32))])) (fun _ kq => XS.iloadN X17.here hx rfl (hb hby at_27) rfl kq) ?_
            refine own_by (T' := T17) (g' := (mkF m 31 #[.val (.int p0), .val (.int k), .val (.ref aLOSS), .val (.int (1 : Int32))] [])) (fun _ kq => XS.icmpNo X17.here hx rfl (hb hby at_28) rfl (teq (by decide : (1 : Int32) = (1 : Int32))).2 kq) ?_
            refine own_by (T' := T17) (g' := (mkF m 32 #[.val (.int p0), .val (.int k), .val (.ref aLOSS), .val (.int (1 : Int32))] [(.int (1 : Int32))])) (fun _ kq => XS.iconst X17.here hx rfl (hb hby at_31) kq) ?_
            refine own_by (T' := T17) (g' := (mkF m 36 #[.val (.int p0), .val (.int k), .val (.ref aLOSS), .val (.int (1 : Int32))] [(.int (1 : Int32))])) (fun _ kq => XS.goto X17.here hx rfl (pc0 := 32) (pc' := 36) rfl (hb hby at_32) (by decide) (by decide) kq) ?_
            exact own_end X17 (v := some (.int (nar .boolean (1 : Int32)))) (fun h => by rw [Bd.returns] at h; cases h) hlk (fun hr => retN X17 hx (t := .boolean) Bd.returns (by simp) (hb hby at_36) hr) (by rw [eh17]; exact ⟨rfl, N17⟩) (by decide) (by decide)
set_option maxRecDepth 65536 in
set_option maxHeartbeats 40000000 in
theorem own_comes {Post : Tables → Env → Array Value → State → Outcome → State → Prop} (hpost : ∀ tb e args s v u, (limb_1_1.after args s (.returned v) u = true ∧ limb_1_2.after args s (.returned v) u = true ∧ True) → FrameEnd s (.returned v) u (Jvm.fieldLocs frame_1_writes args s ++ Jvm.arrayLocs frame_1_arrays args s ++ Jvm.staticLocs frame_1_statics s) 0 0 → Post tb e args s (.returned v) u) :
    ArmFor flags0 classFile x code maxLocals ret World_1 tables_1 room_1 Calls_1 rest_1 Pre_1 Post := by
  intro l hfl _ _ p e ha hc hk s m args below hf hA hF happ hP
  obtain ⟨hcalls, hrest, hpre⟩ := hP
  obtain ⟨-, -, -, hnamed, -, -, -, hat⟩ := (Spec.applies_iff hf).mp happ
  obtain ⟨hg, hn⟩ := and_e (Cond.before_iff.mp (show (Jvm.Cond.and given_1 narrow_1).before args s = true from hpre))
  obtain ⟨g0, g1⟩ := and_e hg
  obtain ⟨w0, rfl⟩ : ∃ w0 : Value, args = #[w0] := by
    have hs : args.size = 1 := by simpa [Jvm.Cond.value, given_1] using g0
    obtain ⟨L⟩ := args
    match L, hs with
    | [w0], _ => exact ⟨w0, rfl⟩
  have hw := fun d (hd : d ∈ tables_1) => atoms_spec (ws := Jvm.Cond.code x code maxLocals ret :: tables_1) hat d (List.mem_cons_of_mem _ hd)
  have hfit : Fit s := fun {y c} hc i hi => by
    obtain ⟨ha, rfl⟩ := Array.getElem?_eq_some_iff.mp hc
    have q := List.all_eq_true.mp ((Array.all_eq_true_iff_forall_mem.mp hF) _ (Array.getElem_mem ha)) i (List.mem_range.mpr hi)
    simpa [Array.getElem?_eq_getElem hi] using q
  obtain ⟨i0, ei0⟩ := is_v g1
  obtain rfl : w0 = (.int i0) := Option.some.inj ei0
  obtain ⟨g2, g3⟩ := and_e hn
  obtain ⟨g4, g5⟩ := and_e g3
  obtain ⟨g6, g7⟩ := and_e g5
  obtain ⟨g8, g9⟩ := and_e g7
  obtain ⟨g10, g11⟩ := and_e g9
  obtain ⟨g12, g13⟩ := and_e g11
  obtain ⟨g14, g15⟩ := and_e g13
  obtain ⟨g16, g17⟩ := and_e g15
  obtain ⟨g18, g19⟩ := and_e g17
  obtain ⟨g20, g21⟩ := and_e g19
  obtain ⟨g22, g23⟩ := and_e g21
  obtain ⟨a_STANDARD, ea_STANDARD⟩ := exa_v g2
  have E_STANDARD := Exa.start ea_STANDARD g2
  have S_STANDARD := Sta.start ea_STANDARD (Or.inr ⟨(hw _ (List.mem_of_getElem? (i := 6) rfl)), (hw _ (List.mem_of_getElem? (i := 7) rfl))⟩)
  obtain ⟨a_DOUBTFUL_2, ea_DOUBTFUL_2⟩ := exa_v g4
  have E_DOUBTFUL_2 := Exa.start ea_DOUBTFUL_2 g4
  have S_DOUBTFUL_2 := Sta.start ea_DOUBTFUL_2 (Or.inr ⟨(hw _ (List.mem_of_getElem? (i := 6) rfl)), (hw _ (List.mem_of_getElem? (i := 15) rfl))⟩)
  obtain ⟨a_DOUBTFUL_1, ea_DOUBTFUL_1⟩ := exa_v g10
  have E_DOUBTFUL_1 := Exa.start ea_DOUBTFUL_1 g10
  have S_DOUBTFUL_1 := Sta.start ea_DOUBTFUL_1 (Or.inr ⟨(hw _ (List.mem_of_getElem? (i := 6) rfl)), (hw _ (List.mem_of_getElem? (i := 17) rfl))⟩)
  obtain ⟨a_SUB_STANDARD, ea_SUB_STANDARD⟩ := exa_v g14
  have E_SUB_STANDARD := Exa.start ea_SUB_STANDARD g14
  have S_SUB_STANDARD := Sta.start ea_SUB_STANDARD (Or.inr ⟨(hw _ (List.mem_of_getElem? (i := 6) rfl)), (hw _ (List.mem_of_getElem? (i := 19) rfl))⟩)
  obtain ⟨a_LOSS, ea_LOSS⟩ := exa_v g18
  have E_LOSS := Exa.start ea_LOSS g18
  have S_LOSS := Sta.start ea_LOSS (Or.inr ⟨(hw _ (List.mem_of_getElem? (i := 6) rfl)), (hw _ (List.mem_of_getElem? (i := 21) rfl))⟩)
  obtain ⟨a_DOUBTFUL_3, ea_DOUBTFUL_3⟩ := exa_v g22
  have E_DOUBTFUL_3 := Exa.start ea_DOUBTFUL_3 g22
  have S_DOUBTFUL_3 := Sta.start ea_DOUBTFUL_3 (Or.inr ⟨(hw _ (List.mem_of_getElem? (i := 6) rfl)), (hw _ (List.mem_of_getElem? (i := 23) rfl))⟩)
  have O_DOUBTFUL_2 := own_fldI g6 ea_DOUBTFUL_2
  have O_STANDARD := own_fldI g8 ea_STANDARD
  have O_DOUBTFUL_1 := own_fldI g12 ea_DOUBTFUL_1
  have O_SUB_STANDARD := own_fldI g16 ea_SUB_STANDARD
  have O_LOSS := own_fldI g20 ea_LOSS
  have O_DOUBTFUL_3 := own_fldI g23 ea_DOUBTFUL_3
  obtain ⟨n, o, h1, h2, h3, _, L, rfl, ⟨rfl, N⟩, hq⟩ := own_rm0 l s _ hw tables_1 i0 a_STANDARD a_SUB_STANDARD a_DOUBTFUL_1 a_DOUBTFUL_2 a_DOUBTFUL_3 a_LOSS s.heap s.heap.size (Nat.le_refl _) S_STANDARD S_SUB_STANDARD S_DOUBTFUL_1 S_DOUBTFUL_2 S_DOUBTFUL_3 S_LOSS E_STANDARD E_SUB_STANDARD E_DOUBTFUL_1 E_DOUBTFUL_2 E_DOUBTFUL_3 E_LOSS (O_SUB_STANDARD.ne O_STANDARD (by decide)) (O_DOUBTFUL_1.ne O_STANDARD (by decide)) (O_DOUBTFUL_2.ne O_STANDARD (by decide)) (O_DOUBTFUL_3.ne O_STANDARD (by decide)) (O_LOSS.ne O_STANDARD (by decide)) p e ha hc hk s m _ below hf ((Spec.applies_iff_loose hf).mp happ).1 ⟨rfl, State.Warmed39.refl s, rfl⟩ trivial
  refine ⟨n, _, h1, h2, h3, hpost _ _ _ _ _ _ ⟨Cond.after_iff.mpr rfl, Cond.after_iff.mpr (eq_i res_at (Term.int_eval (1)) rfl), trivial⟩ ⟨hq.1, hq.2.1, (hq.2.2.sift fun y hy => Or.inr (N y hy)).mono (by decide) (by decide)⟩⟩
theorem main_1_1 : Claimed_1_1 := own_comes fun _ _ _ _ _ _ h hF => ⟨h.1, hF⟩
theorem main_1_2 : Claimed_1_2 := own_comes fun _ _ _ _ _ _ h hF => ⟨h.2.1, hF⟩
end Jvm.Pilot.@@N@@
namespace Jvm.Pilot.@@N@@
open Jvm Jvm.ClassFile Sem Op Lib Jvm.Free Jvm.Stand Jvm.Pilot.@@N@@.Jvm.D
/-! MADE BY PROGRAM (witnessworld.py) out of the Statement's table words and the real class files: 12 classes; the members and pool entries that the words name. The judged class is class 1, her method 1. -/
namespace start1
open Jvm.ClassFile
def u (s : String) : CpInfo := .utf8 (stringToUtf16 s)
/-- a pool by its gaps: so many unusable entries, then the entry; so many at the end -/
def gap : Nat → List CpInfo → List CpInfo
  | 0, r => r
  | n + 1, r => .unusable :: gap n r
def poolList (es : List (Nat × CpInfo)) (last : Nat) : List CpInfo := es.foldr (fun e r => gap e.1 (e.2 :: r)) (gap last [])
def pool (es : List (Nat × CpInfo)) (last : Nat) : Array CpInfo := ⟨poolList es last⟩
def fileOf (pool : Array CpInfo) (this : Nat) (attrs : Array Attribute := #[]) (ms : Array MethodInfo := #[]) (fl : Nat := 33) (sup : Nat := 0) (ifs : Array Nat := #[]) (fds : Array FieldInfo := #[]) : ClassFile where
  minorVersion := 0
  majorVersion := 65
  constantPool := pool
  accessFlags := fl
  thisClass := this
  superClass := sup
  interfaces := ifs
  fields := fds
  methods := ms
  attributes := attrs
def plain (name : String) (sup : Option ClassId) : Class where
  name := name
  kind := .ordinary
  loader := none
  accessFlags := 33
  super := sup
  interfaces := #[]
  cf := none
  fields := #[]
  methods := #[]
  instanceTypes := #[]
  staticTypes := #[]
  resolved := #[]
  callSites := []
  init := .initialized
  statics := none
  mirror := none

def pool0 : Array CpInfo := pool [(5, u "<init>"), (0, u "()V"), (1, .class_ 10), (1, u "java/lang/Object")] 113

def k0m0 : Method := { name := "<init>", desc := "()V", sig := { parameters := [], returnType := none }, accessFlags := 1, code := none }
/-- java/lang/Object -/
def k0 : Class := { plain "java/lang/Object" none with
  accessFlags := 33
  interfaces := #[]
  cf := some (fileOf pool0 8 #[] #[{ accessFlags := 1, nameIndex := 5, descriptorIndex := 6, attributes := #[] }] 33 0 #[] #[])
  fields := #[]
  methods := #[k0m0]
  instanceTypes := #[]
  staticTypes := #[]
  resolved := Array.replicate 124 none
  statics := none }

def pool1 : Array CpInfo := pool [(2, .class_ 4), (1, u "java/lang/Object"), (0, u "<init>"), (0, u "()V"), (0, .integer 2147483647), (0, .methodref 9 10), (0, .class_ 11), (0, .nameAndType 12 13), (0, u "com/example/bahikhata/bahikhata/model/AssetClassIsNpaPinLaw"), (0, u "pick"), (0, u "(I)Lcom/example/bahikhata/bahikhata/model/AssetClass;"), (0, .methodref 15 16), (0, .class_ 17), (0, .nameAndType 18 19), (0, u "com/example/bahikhata/bahikhata/model/AssetClass"), (0, u "isNpa"), (0, u "()Z"), (0, .fieldref 15 21), (0, .nameAndType 22 23), (0, u "STANDARD"), (0, u "Lcom/example/bahikhata/bahikhata/model/AssetClass;"), (0, .fieldref 15 25), (0, .nameAndType 26 23), (0, u "SUB_STANDARD"), (0, .fieldref 15 28), (0, .nameAndType 29 23), (0, u "DOUBTFUL_1"), (0, .fieldref 15 31), (0, .nameAndType 32 23), (0, u "DOUBTFUL_2"), (0, .fieldref 15 34), (0, .nameAndType 35 23), (0, u "DOUBTFUL_3"), (0, .fieldref 15 37), (0, .nameAndType 38 23), (0, u "LOSS"), (2, u "law"), (0, u "(I)Z")] 3

def k1m0 : Method := { name := "<init>", desc := "()V", sig := { parameters := [], returnType := none }, accessFlags := 1, code := none }
def k1c1 : Code := { maxStack := 2, maxLocals := 4, code := code, exceptionTable := #[], attributes := #[] }
def k1m1 : Method := { name := "law", desc := "(I)Z", sig := { parameters := [.int], returnType := some .boolean }, accessFlags := 9, code := some k1c1 }
def k1c2 : Code := { maxStack := 2, maxLocals := 1, code := method_3_code, exceptionTable := #[], attributes := #[] }
def k1m2 : Method := { name := "pick", desc := "(I)Lcom/example/bahikhata/bahikhata/model/AssetClass;", sig := { parameters := [.int], returnType := some (.object "com/example/bahikhata/bahikhata/model/AssetClass") }, accessFlags := 10, code := some k1c2 }
/-- com/example/bahikhata/bahikhata/model/AssetClassIsNpaPinLaw -/
def k1 : Class := { plain "com/example/bahikhata/bahikhata/model/AssetClassIsNpaPinLaw" (some 0) with
  accessFlags := 49
  interfaces := #[]
  cf := some (fileOf pool1 9 #[] #[{ accessFlags := 1, nameIndex := 5, descriptorIndex := 6, attributes := #[] }, { accessFlags := 9, nameIndex := 41, descriptorIndex := 42, attributes := #[] }, { accessFlags := 10, nameIndex := 12, descriptorIndex := 13, attributes := #[] }] 49 2 #[] #[])
  fields := #[]
  methods := #[k1m0, k1m1, k1m2]
  instanceTypes := #[]
  staticTypes := #[]
  resolved := Array.replicate 46 none
  statics := none }

def pool2 : Array CpInfo := pool [(1, .class_ 2), (0, u "java/lang/constant/Constable"), (0, .class_ 4), (0, u "java/lang/Object")] 6

/-- java/lang/constant/Constable -/
def k2 : Class := { plain "java/lang/constant/Constable" (some 0) with
  accessFlags := 1537
  interfaces := #[]
  cf := some (fileOf pool2 1 #[] #[] 1537 3 #[] #[])
  fields := #[]
  methods := #[]
  instanceTypes := #[]
  staticTypes := #[]
  resolved := Array.replicate 11 none
  statics := none }

def pool3 : Array CpInfo := pool [(1, .class_ 2), (0, u "java/lang/Comparable"), (0, .class_ 4), (0, u "java/lang/Object")] 7

/-- java/lang/Comparable -/
def k3 : Class := { plain "java/lang/Comparable" (some 0) with
  accessFlags := 1537
  interfaces := #[]
  cf := some (fileOf pool3 1 #[] #[] 1537 3 #[] #[])
  fields := #[]
  methods := #[]
  instanceTypes := #[]
  staticTypes := #[]
  resolved := Array.replicate 12 none
  statics := none }

def pool4 : Array CpInfo := pool [(1, .class_ 2), (0, u "java/io/Serializable"), (0, .class_ 4), (0, u "java/lang/Object")] 2

/-- java/io/Serializable -/
def k4 : Class := { plain "java/io/Serializable" (some 0) with
  accessFlags := 1537
  interfaces := #[]
  cf := some (fileOf pool4 1 #[] #[] 1537 3 #[] #[])
  fields := #[]
  methods := #[]
  instanceTypes := #[]
  staticTypes := #[]
  resolved := Array.replicate 7 none
  statics := none }

def pool5 : Array CpInfo := pool [(2, .class_ 4), (1, u "java/lang/Enum"), (0, u "name"), (0, u "Ljava/lang/String;"), (2, u "ordinal"), (0, u "I"), (1, .class_ 14), (1, u "java/lang/Object"), (4, u "hash"), (86, .class_ 108), (1, u "java/lang/Enum$EnumDesc"), (2, .class_ 112), (0, u "java/lang/constant/Constable"), (0, .class_ 114), (0, u "java/lang/Comparable"), (0, .class_ 116), (0, u "java/io/Serializable")] 87

/-- java/lang/Enum -/
def k5 : Class := { plain "java/lang/Enum" (some 0) with
  accessFlags := 1057
  interfaces := #[2, 3, 4]
  cf := some (fileOf pool5 2 #[.nestMembers #[106]] #[] 1057 12 #[111, 113, 115] #[{ accessFlags := 18, nameIndex := 5, descriptorIndex := 6, attributes := #[] }, { accessFlags := 18, nameIndex := 9, descriptorIndex := 10, attributes := #[] }, { accessFlags := 2, nameIndex := 19, descriptorIndex := 10, attributes := #[] }])
  fields := #[{ name := "name", type := (.object "java/lang/String"), accessFlags := 18, slot := 0, constantValue := 0 }, { name := "ordinal", type := .int, accessFlags := 18, slot := 1, constantValue := 0 }, { name := "hash", type := .int, accessFlags := 2, slot := 2, constantValue := 0 }]
  methods := #[]
  instanceTypes := #[(.object "java/lang/String"), .int, .int]
  staticTypes := #[]
  resolved := Array.replicate 204 none
  statics := none }

def pool6 : Array CpInfo := pool [(1, .class_ 2), (0, u "com/example/bahikhata/bahikhata/model/AssetClass"), (0, .fieldref 1 4), (0, .nameAndType 5 6), (0, u "STANDARD"), (0, u "Lcom/example/bahikhata/bahikhata/model/AssetClass;"), (2, u "SUB_STANDARD"), (2, u "DOUBTFUL_1"), (2, u "DOUBTFUL_2"), (2, u "DOUBTFUL_3"), (2, u "LOSS"), (2, u "$VALUES"), (0, u "[Lcom/example/bahikhata/bahikhata/model/AssetClass;"), (6, .class_ 34), (1, u "java/lang/Enum"), (8, u "label"), (0, u "Ljava/lang/String;"), (37, u "isNpa"), (0, u "()Z")] 8

def k6c0 : Code := { maxStack := 2, maxLocals := 1, code := prog_42_method_5_code, exceptionTable := #[], attributes := #[] }
def k6m0 : Method := { name := "isNpa", desc := "()Z", sig := { parameters := [], returnType := some .boolean }, accessFlags := 1, code := some k6c0 }
/-- com/example/bahikhata/bahikhata/model/AssetClass -/
def k6 : Class := { plain "com/example/bahikhata/bahikhata/model/AssetClass" (some 5) with
  accessFlags := 16433
  interfaces := #[]
  cf := some (fileOf pool6 1 #[] #[{ accessFlags := 1, nameIndex := 82, descriptorIndex := 83, attributes := #[] }] 16433 32 #[] #[{ accessFlags := 16409, nameIndex := 5, descriptorIndex := 6, attributes := #[] }, { accessFlags := 16409, nameIndex := 9, descriptorIndex := 6, attributes := #[] }, { accessFlags := 16409, nameIndex := 12, descriptorIndex := 6, attributes := #[] }, { accessFlags := 16409, nameIndex := 15, descriptorIndex := 6, attributes := #[] }, { accessFlags := 16409, nameIndex := 18, descriptorIndex := 6, attributes := #[] }, { accessFlags := 16409, nameIndex := 21, descriptorIndex := 6, attributes := #[] }, { accessFlags := 18, nameIndex := 43, descriptorIndex := 44, attributes := #[] }, { accessFlags := 4122, nameIndex := 24, descriptorIndex := 25, attributes := #[] }])
  fields := #[{ name := "STANDARD", type := (.object "com/example/bahikhata/bahikhata/model/AssetClass"), accessFlags := 16409, slot := 0, constantValue := 0 }, { name := "SUB_STANDARD", type := (.object "com/example/bahikhata/bahikhata/model/AssetClass"), accessFlags := 16409, slot := 1, constantValue := 0 }, { name := "DOUBTFUL_1", type := (.object "com/example/bahikhata/bahikhata/model/AssetClass"), accessFlags := 16409, slot := 2, constantValue := 0 }, { name := "DOUBTFUL_2", type := (.object "com/example/bahikhata/bahikhata/model/AssetClass"), accessFlags := 16409, slot := 3, constantValue := 0 }, { name := "DOUBTFUL_3", type := (.object "com/example/bahikhata/bahikhata/model/AssetClass"), accessFlags := 16409, slot := 4, constantValue := 0 }, { name := "LOSS", type := (.object "com/example/bahikhata/bahikhata/model/AssetClass"), accessFlags := 16409, slot := 5, constantValue := 0 }, { name := "label", type := (.object "java/lang/String"), accessFlags := 18, slot := 3, constantValue := 0 }, { name := "$VALUES", type := (.array (.object "com/example/bahikhata/bahikhata/model/AssetClass")), accessFlags := 4122, slot := 6, constantValue := 0 }]
  methods := #[k6m0]
  instanceTypes := #[(.object "java/lang/String"), .int, .int, (.object "java/lang/String")]
  staticTypes := #[(.object "com/example/bahikhata/bahikhata/model/AssetClass"), (.object "com/example/bahikhata/bahikhata/model/AssetClass"), (.object "com/example/bahikhata/bahikhata/model/AssetClass"), (.object "com/example/bahikhata/bahikhata/model/AssetClass"), (.object "com/example/bahikhata/bahikhata/model/AssetClass"), (.object "com/example/bahikhata/bahikhata/model/AssetClass"), (.array (.object "com/example/bahikhata/bahikhata/model/AssetClass"))]
  resolved := Array.replicate 92 none
  statics := some 0 }

def pool7 : Array CpInfo := pool [(1, u "java/lang/Cloneable"), (0, .class_ 1), (0, u "java/lang/Object"), (0, .class_ 3)] 3

/-- java/lang/Cloneable -/
def k7 : Class := { plain "java/lang/Cloneable" (some 0) with
  accessFlags := 1537
  interfaces := #[]
  cf := some (fileOf pool7 2 #[] #[] 1537 4 #[] #[])
  fields := #[]
  methods := #[]
  instanceTypes := #[]
  staticTypes := #[]
  resolved := Array.replicate 8 none
  statics := none }

/-- the primitive byte -/
def k8 : Class := { plain "byte" none with kind := .primitive 'B', accessFlags := 0x411 }
/-- [B -/
def k9 : Class := { plain "[B" (some 0) with kind := .array 8 .byte, interfaces := #[7, 4], accessFlags := 1041 }

/-- the primitive int -/
def k10 : Class := { plain "int" none with kind := .primitive 'I', accessFlags := 0x411 }
/-- [I -/
def k11 : Class := { plain "[I" (some 0) with kind := .array 10 .int, interfaces := #[7, 4], accessFlags := 1041 }

def heap : Heap := #[{ cls := 6, slots := #[.ref 1, .ref 4, .ref 3, .ref 2, .ref 6, .ref 5, .null], vm := .statics 6 },
  { cls := 6, slots := #[.null, .int 0, .int 0, .null], vm := .none },
  { cls := 6, slots := #[.null, .int 3, .int 0, .null], vm := .none },
  { cls := 6, slots := #[.null, .int 2, .int 0, .null], vm := .none },
  { cls := 6, slots := #[.null, .int 1, .int 0, .null], vm := .none },
  { cls := 6, slots := #[.null, .int 5, .int 0, .null], vm := .none },
  { cls := 6, slots := #[.null, .int 4, .int 0, .null], vm := .none }]
def classes : Array Class := #[k0, k1, k2, k3, k4, k5, k6, k7, k8, k9, k10, k11]
def interned : List (Array UInt16 × Addr) := []
def slotsUsed : Nat := 31
def theMethod : MethodId := ⟨1, 1⟩
def args0 : Array Value := #[.int 5]
def aboutOver (below : List Frame) : State where
  vm := { classes := classes, interned := interned.toArray }
  heap := heap
  slotsUsed := slotsUsed
  threads := #[{ frames := .invoking theMethod args0 :: below }]
def below0 : List Frame := [.native { method := ⟨0, 0⟩, args := #[] }]
def about1 : State := aboutOver below0
def p0 : Program := .bare "" "" ""
def e0 : Env := launch0.env 0 0 0
theorem w_frames : about1.frames = Frame.invoking theMethod args0 :: below0 := rfl
set_option maxRecDepth 65536 in
theorem w_args : argsFit about1.vm theMethod args0 = true := by decide +kernel
set_option maxRecDepth 65536 in
theorem w_heap : heapFits about1 = true := by decide +kernel
set_option maxRecDepth 65536 in
theorem w_runnable : about1.curStatus? = some .runnable := by decide +kernel
set_option maxRecDepth 65536 in
theorem w_alone : about1.alone = true := by decide +kernel
set_option maxRecDepth 65536 in
theorem w_named : about1.methodNamed? x = some theMethod := by decide +kernel
set_option maxRecDepth 65536 in
theorem w_hears : about1.hears theMethod below0 = true := by decide +kernel
set_option maxRecDepth 65536 in
theorem w_ripe : about1.ripe theMethod args0 below0 = true := by decide +kernel
theorem w_running : about1.status = .running := rfl
set_option maxRecDepth 65536 in
theorem w_room : about1.hasRoom e0.platform room_1 = true :=
  launch0.hasRoom_least _ room_1 (by decide +kernel) (by decide +kernel) (by decide +kernel) (by decide +kernel) (by decide +kernel) (by decide +kernel)
theorem allAtoms_all (ts : List Jvm.Cond) (a : Array Jvm.Value) (st : Jvm.State) : (allAtoms ts).before a st = ts.all (fun c => c.before a st) := by
  induction ts with
  | nil => rfl
  | cons c t ih =>
    show (Jvm.Cond.and c (allAtoms t)).before a st = _
    rw [Jvm.Cond.before_and, ih, List.all_cons]
def words1 : List Jvm.Cond := Jvm.Cond.code x code maxLocals ret :: tables_1
/-- a 'code' word, met by the world's own term for the bytes: nothing is compared byte by byte -/
theorem code_word {y : MethodName} {bytes : ByteArray} {mx : Nat} {rt : Option FieldType} {a : Array Value} {s : State} {m : MethodId} {meth : Method} {c : Code} (h1 : s.methodNamed? y = some m) (h2 : s.vm.method? m = some meth) (h3 : meth.code = some c) (h4 : c.code = bytes)
    (h5 : (c.maxLocals == mx && c.exceptionTable.isEmpty && decide (c.maxStack ≤ mostOperands) && decide (meth.sig.returnType = rt) && !meth.locks && decide (parseMethodDescriptor y.desc = some meth.sig)) = true) : (Jvm.Cond.code y bytes mx rt).before a s = true := by
  simp only [Bool.and_eq_true, beq_iff_eq, Bool.not_eq_true', decide_eq_true_eq] at h5
  obtain ⟨⟨⟨⟨⟨g1, g2⟩, g3⟩, g4⟩, g5⟩, g6⟩ := h5
  simp [Cond.before, Cond.holds, Cond.value, h1, h2, h3, h4, g1, g2, g3, g4, g5, g6]
def isCode : Jvm.Cond → Bool
  | .code _ _ _ _ => true
  | _ => false
theorem all_split {L : List Jvm.Cond} {P : Jvm.Cond → Bool} (h1 : L.all (fun c => isCode c || P c) = true) (h2 : ∀ c ∈ L.filter isCode, P c = true) : L.all P = true := by
  refine List.all_eq_true.mpr fun c hc => ?_
  have h := List.all_eq_true.mp h1 c hc
  rcases Bool.eq_false_or_eq_true (isCode c) with hi | hi
  · exact h2 c (List.mem_filter.mpr ⟨hc, hi⟩)
  · simpa [hi] using h
set_option maxRecDepth 65536 in
theorem w_c0 : (Jvm.Cond.code x code maxLocals ret).before args0 about1 = true := code_word (m := ⟨1, 1⟩) (meth := k1m1) (c := k1c1) (by decide +kernel) rfl rfl rfl (by decide +kernel)
set_option maxRecDepth 65536 in
theorem w_c1 : (Jvm.Cond.code ({ cls := "com/example/bahikhata/bahikhata/model/AssetClassIsNpaPinLaw", name := "pick", desc := "(I)Lcom/example/bahikhata/bahikhata/model/AssetClass;" } : Jvm.MethodName) method_3_code (1 : Nat) (Option.some (Jvm.ClassFile.FieldType.object "com/example/bahikhata/bahikhata/model/AssetClass"))).before args0 about1 = true := code_word (m := ⟨1, 2⟩) (meth := k1m2) (c := k1c2) (by decide +kernel) rfl rfl rfl (by decide +kernel)
set_option maxRecDepth 65536 in
theorem w_c2 : (Jvm.Cond.code ({ cls := "com/example/bahikhata/bahikhata/model/AssetClass", name := "isNpa", desc := "()Z" } : Jvm.MethodName) prog_42_method_5_code (1 : Nat) (Option.some Jvm.ClassFile.FieldType.boolean)).before args0 about1 = true := code_word (m := ⟨6, 0⟩) (meth := k6m0) (c := k6c0) (by decide +kernel) rfl rfl rfl (by decide +kernel)
def codes1 : List Jvm.Cond := [Jvm.Cond.code x code maxLocals ret, Jvm.Cond.code ({ cls := "com/example/bahikhata/bahikhata/model/AssetClassIsNpaPinLaw", name := "pick", desc := "(I)Lcom/example/bahikhata/bahikhata/model/AssetClass;" } : Jvm.MethodName) method_3_code (1 : Nat) (Option.some (Jvm.ClassFile.FieldType.object "com/example/bahikhata/bahikhata/model/AssetClass")), Jvm.Cond.code ({ cls := "com/example/bahikhata/bahikhata/model/AssetClass", name := "isNpa", desc := "()Z" } : Jvm.MethodName) prog_42_method_5_code (1 : Nat) (Option.some Jvm.ClassFile.FieldType.boolean)]
set_option maxRecDepth 65536 in
theorem codes_eq : words1.filter isCode = codes1 := rfl
theorem w_codes : ∀ c ∈ words1.filter isCode, c.before args0 about1 = true := by
  rw [codes_eq]
  intro c hc
  simp only [codes1, List.mem_cons, List.not_mem_nil, or_false] at hc
  rcases hc with rfl | rfl | rfl
  · exact w_c0
  · exact w_c1
  · exact w_c2
set_option maxRecDepth 65536 in
theorem w_t1 : (words1.take 24).all (fun c => isCode c || c.before args0 about1) = true := by decide +kernel
set_option maxRecDepth 65536 in
theorem w_t2 : (words1.drop 24).all (fun c => isCode c || c.before args0 about1) = true := by decide +kernel
theorem w_tables : (allAtoms (Jvm.Cond.code x code maxLocals ret :: tables_1)).before args0 about1 = true := by
  rw [allAtoms_all]
  show words1.all (fun c => c.before args0 about1) = true
  refine all_split ?_ w_codes
  rw [← List.take_append_drop 24 words1, List.all_append, w_t1, w_t2]
  rfl
set_option maxRecDepth 65536 in
theorem w_case : (Jvm.Cond.and given_1 narrow_1).before args0 about1 = true := by decide +kernel
theorem w_applies : (headSpec (Jvm.Cond.code x code maxLocals ret :: tables_1) room_1).applies x e0.platform about1 = true :=
  (Spec.applies_iff w_frames).mpr ⟨w_running, w_runnable, w_alone, w_named, w_hears, w_ripe, w_room, w_tables⟩
theorem atStart : AtStart classFile x code maxLocals ret World_1 tables_1 room_1 Calls_1 rest_1 Pre_1 launch0 p0 e0 about1 theMethod args0 below0 :=
  ⟨lists_1, trivial, launch0.admits_env _ _ _, launch0.least_env, fairChoices_fair.cas, fairChoices_fair.clock, w_frames, w_args, w_heap, w_applies, trivial, trivial, w_case⟩
end start1
theorem witness_1 : WitnessClaimed_1 := ⟨start1.p0, start1.e0, start1.about1, start1.theMethod, start1.args0, start1.below0, start1.atStart⟩
end Jvm.Pilot.@@N@@
