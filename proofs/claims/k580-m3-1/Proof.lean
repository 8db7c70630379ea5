import JvmDerived
import JvmDerived.Pilot.@@N@@Statement
import JvmDerived.Pilot.@@N@@Code
set_option linter.unusedVariables false
set_option linter.unusedSimpArgs false
namespace Jvm.Pilot.@@N@@
open Jvm Jvm.ClassFile Sem Op Lib Jvm.Free Jvm.Stand Jvm.LawKit Jvm.RoadKit Bundle Jvm.Pilot.@@N@@.Jvm.D
section OwnKit
variable {p : Program} {l : Launch} {e : Env} {R : Room} {s : State} {m : MethodId} {args : Array Value} {below : List Frame} {meth : Method} {c : Code} {T T' : State} {locs : List Loc} {cells slots : Nat} {Z : State} {a0 : Array Value} {h : Heap}
def own_Fin (p : Program) (e : Env) (below : List Frame) (P : Outcome → State → Prop) (T : State) (g : JFrame) : Prop :=
  ∃ s₂ o, Steps p.tables e below (T.setTop g) s₂ ∧ s₂.status = .running ∧ Ended s₂ below o ∧ P o s₂
def own_P (s : State) (Q : Option Value → Heap → List Loc → Prop) (k n : Nat) (o : Outcome) (t : State) : Prop := ∃ v L, o = .returned v ∧ Q v t.heap L ∧ FrameEnd s o t L k n
theorem own_by {P : Outcome → State → Prop} {g g' : JFrame} (st : ∀ t, Steps p.tables e below (T'.setTop g') t → Steps p.tables e below (T.setTop g) t) (k : own_Fin p e below P T' g') : own_Fin p e below P T g := by
  obtain ⟨s₂, o, h1, h2⟩ := k
  exact ⟨s₂, o, st _ h1, h2⟩
theorem own_start {s₁ : State} {Q : Option Value → Heap → List Loc → Prop} {k n : Nat} {ml : Nat} {g : JFrame} (hef : entryFrame m args ml = g) (hk : own_Fin p e below (own_P s Q k n) s₁ g) :
    ∃ s₂ o, Steps p.tables e below (s₁.setTop (entryFrame m args ml)) s₂ ∧ s₂.status = .running ∧ Ended s₂ below o ∧ ∃ v L, o = .returned v ∧ Q v s₂.heap L ∧ FrameEnd s o s₂ L k n := by
  rw [hef]; exact hk
theorem own_end (X : Stand p l e R s m args below meth c T locs cells slots) {v : Option Value} (hv : meth.sig.returnType = none → v = none) (hlocks : meth.locks = false) {g : JFrame}
    (hret : ∀ {fs : List Frame}, (∀ (f : JFrame) (acts : List Action), f.method = m → f.locked = none → f.entered = [] → (doReturn e (T.setTop f) acts v).1 = T.setFrames fs) → Steps p.tables e below (T.setTop g) (T.setFrames fs))
    {Q : Option Value → Heap → List Loc → Prop} {k n : Nat} (hQ : Q v T.heap locs) (hk : cells ≤ k) (hn : slots ≤ n) : own_Fin p e below (own_P s Q k n) T g := by
  obtain ⟨fs, hr, hrun, hended, hW, hsame⟩ := X.leave hv hlocks
  exact ⟨_, _, hret hr, hrun, hended, _, _, rfl, hQ, ⟨_, rfl⟩, hW, hsame.mono hk hn⟩
theorem own_nf {C : String} {y : MethodName} (w : (Jvm.Cond.selects C y y).before a0 Z = true) : ∀ {s : State}, Z.Warmed39 s.vm → NotFace s y := fun hZ => notFace_of_selects (args := #[]) (mvT hZ w)
theorem own_callSB (X : Stand p l e R s m args below meth c T locs cells slots) (hx : p.tables.exec = Jvm.exec) (hZ : Z.Warmed39 s.vm) {own : String} {index : Nat} {y : MethodName} {bytes : ByteArray} {maxL W : Nat} {ret : Option FieldType} {kc ks : Nat} {as' : Array Value} {Q : Option Value → Heap → List Loc → Prop}
    (hown : s.vm.findClass own = some m.cls) (w1 : (Jvm.Cond.methodLink own index y).before a0 Z = true) (w2 : (Jvm.Cond.static y).before a0 Z = true) (w3 : (Jvm.Cond.initialized y.cls).before a0 Z = true) (w4 : (Jvm.Cond.code y bytes maxL ret).before a0 Z = true) (hy : y.cls ≠ "java/lang/invoke/MethodHandle" ∧ y.cls ≠ "java/lang/invoke/VarHandle")
    (hK : Back l R p e below s args y 3 W (fun A a => a = as' ∧ A.U.heap = h ∧ A.cells + kc ≤ R.cells ∧ A.slots + ks ≤ R.slots) (fun A _ v B => ∃ L, Q v B.U.heap L ∧ B.locs = A.locs ++ L ∧ B.cells = A.cells + kc ∧ B.slots = A.slots + ks))
    (eT : T.heap = h) {g : JFrame} (hg : g.method = m) (hsize : g.locals.size = c.maxLocals) {argsL rest : List Value} (hlen : ∀ sig, parseMethodDescriptor y.desc = some sig → argsL.length = sig.parameters.length)
    (hstack : g.stack = argsL.reverse ++ rest) (hW : 2 * g.monitorRoom + (rest.map fun v => v.category).sum ≤ W) (hdg : decode c.code g.pc = .ok (.invokestatic index, 3)) (has : argsL.toArray = as') (hc : cells + kc ≤ R.cells) (hs : slots + ks ≤ R.slots) {P : Outcome → State → Prop}
    (k : ∀ (v : Option Value) (T' : State) (L : List Loc), Stand p l e R s m args below meth c T' (locs ++ L) (cells + kc) (slots + ks) → Q v T'.heap L → own_Fin p e below P T' { g with pc := g.pc + 3, stack := v.toList ++ rest }) : own_Fin p e below P T g := by
  obtain ⟨v, _, ⟨U', L', k', n'⟩, -, X', ⟨Lc, hQ, l1, l2, l3⟩, st⟩ := Jvm.LawKit.callS X hx (y := y) hown (mvT hZ w1) (mvT hZ w2) (mvT hZ w3) (mvT hZ w4) hy hK hg hsize hlen hstack hW hdg (fun _ _ => ⟨has, eT, hc, hs⟩)
  dsimp only [Pt.U, Pt.locs, Pt.cells, Pt.slots] at X' l1 l2 l3 st hQ
  subst l1 l2 l3
  exact own_by st (k v U' Lc X' hQ)
theorem own_callS (X : Stand p l e R s m args below meth c T locs cells slots) (hx : p.tables.exec = Jvm.exec) (hZ : Z.Warmed39 s.vm) {own : String} {index : Nat} {y : MethodName} {bytes : ByteArray} {maxL W : Nat} {ret : Option FieldType} {rm : Room} {as' : Array Value} {Q : Option Value → Heap → List Loc → Prop}
    (hown : s.vm.findClass own = some m.cls) (w1 : (Jvm.Cond.methodLink own index y).before a0 Z = true) (w2 : (Jvm.Cond.static y).before a0 Z = true) (w3 : (Jvm.Cond.initialized y.cls).before a0 Z = true) (w4 : (Jvm.Cond.code y bytes maxL ret).before a0 Z = true) (hy : y.cls ≠ "java/lang/invoke/MethodHandle" ∧ y.cls ≠ "java/lang/invoke/VarHandle")
    (hM : MetFree l y (head1 [Jvm.Cond.code y bytes maxL ret] rm) (fun a U => a = as' ∧ Z.Warmed39 U.vm ∧ U.heap = h) (fun _ _ _ _ _ => True) (fun _ U o U' => ∃ v L, o = .returned v ∧ Q v U'.heap L ∧ FrameEnd U o U' L rm.cells rm.slots))
    (hf : rm.frames + 1 ≤ R.frames) (hl : W + (maxL + 11) + rm.locals ≤ R.locals) (eT : T.heap = h) {g : JFrame} (hg : g.method = m) (hsize : g.locals.size = c.maxLocals) {argsL rest : List Value} (hlen : ∀ sig, parseMethodDescriptor y.desc = some sig → argsL.length = sig.parameters.length)
    (hstack : g.stack = argsL.reverse ++ rest) (hW : 2 * g.monitorRoom + (rest.map fun v => v.category).sum ≤ W) (hdg : decode c.code g.pc = .ok (.invokestatic index, 3)) (has : argsL.toArray = as') (hc : cells + rm.cells ≤ R.cells) (hs : slots + rm.slots ≤ R.slots) {P : Outcome → State → Prop}
    (k : ∀ (v : Option Value) (T' : State) (L : List Loc), Stand p l e R s m args below meth c T' (locs ++ L) (cells + rm.cells) (slots + rm.slots) → Q v T'.heap L → own_Fin p e below P T' { g with pc := g.pc + 3, stack := v.toList ++ rest }) : own_Fin p e below P T g :=
  own_callSB X hx hZ hown w1 w2 w3 w4 hy (backOf (W := W) hM hZ w4 w3 hf hl) eT hg hsize hlen hstack hW hdg has hc hs k
theorem own_callIB (X : Stand p l e R s m args below meth c T locs cells slots) (hx : p.tables.exec = Jvm.exec) (hZ : Z.Warmed39 s.vm) {own : String} {index : Nat} {y : MethodName} {bytes : ByteArray} {maxL W : Nat} {kc ks : Nat} {as' : Array Value} {Q : Option Value → Heap → List Loc → Prop} (hin : y.name = "<init>")
    (hown : s.vm.findClass own = some m.cls) (w1 : (Jvm.Cond.methodLink own index y).before a0 Z = true) (w2 : (Jvm.Cond.instanceMethod y).before a0 Z = true) (w4 : (Jvm.Cond.code y bytes maxL none).before a0 Z = true) (hy : y.cls ≠ "java/lang/invoke/MethodHandle" ∧ y.cls ≠ "java/lang/invoke/VarHandle")
    (hK : Back l R p e below s args y 3 W (fun A a => a = as' ∧ A.U.heap = h ∧ A.cells + kc ≤ R.cells ∧ A.slots + ks ≤ R.slots) (fun A _ v B => ∃ L, Q v B.U.heap L ∧ B.locs = A.locs ++ L ∧ B.cells = A.cells + kc ∧ B.slots = A.slots + ks))
    (eT : T.heap = h) {g : JFrame} (hg : g.method = m) (hsize : g.locals.size = c.maxLocals) {a : Addr} {argsL rest : List Value} (hlen : ∀ sig, parseMethodDescriptor y.desc = some sig → argsL.length = sig.parameters.length)
    (hstack : g.stack = argsL.reverse ++ .ref a :: rest) (hW : 2 * g.monitorRoom + (rest.map fun v => v.category).sum ≤ W) (hdg : decode c.code g.pc = .ok (.invokespecial index, 3)) (has : (.ref a :: argsL).toArray = as') (hc : cells + kc ≤ R.cells) (hs : slots + ks ≤ R.slots) {P : Outcome → State → Prop}
    (k : ∀ (v : Option Value) (T' : State) (L : List Loc), Stand p l e R s m args below meth c T' (locs ++ L) (cells + kc) (slots + ks) → Q v T'.heap L → own_Fin p e below P T' { g with pc := g.pc + 3, stack := v.toList ++ rest }) : own_Fin p e below P T g := by
  obtain ⟨v, _, ⟨U', L', k', n'⟩, -, X', ⟨Lc, hQ, l1, l2, l3⟩, st⟩ := X.specialBack hx (y := y) hin hown (mvT hZ w1) (mvT hZ w2) (mvT hZ w4) hy hK hg hsize (Steps.refl _) (a := a) hlen hstack hW hdg (fun _ _ => ⟨has, eT, hc, hs⟩)
  dsimp only [Pt.U, Pt.locs, Pt.cells, Pt.slots] at X' l1 l2 l3 st hQ
  subst l1 l2 l3
  exact own_by (fun _ q => st.trans q) (k v U' Lc X' hQ)
theorem own_callI (X : Stand p l e R s m args below meth c T locs cells slots) (hx : p.tables.exec = Jvm.exec) (hZ : Z.Warmed39 s.vm) {own : String} {index : Nat} {y : MethodName} {bytes : ByteArray} {maxL W : Nat} {rm : Room} {as' : Array Value} {Q : Option Value → Heap → List Loc → Prop} (hin : y.name = "<init>")
    (hown : s.vm.findClass own = some m.cls) (w1 : (Jvm.Cond.methodLink own index y).before a0 Z = true) (w2 : (Jvm.Cond.instanceMethod y).before a0 Z = true) (w4 : (Jvm.Cond.code y bytes maxL none).before a0 Z = true) (w3 : (Jvm.Cond.initialized y.cls).before a0 Z = true) (hy : y.cls ≠ "java/lang/invoke/MethodHandle" ∧ y.cls ≠ "java/lang/invoke/VarHandle")
    (hM : MetFree l y (head1 [Jvm.Cond.code y bytes maxL none] rm) (fun a U => a = as' ∧ Z.Warmed39 U.vm ∧ U.heap = h) (fun _ _ _ _ _ => True) (fun _ U o U' => ∃ v L, o = .returned v ∧ Q v U'.heap L ∧ FrameEnd U o U' L rm.cells rm.slots))
    (hf : rm.frames + 1 ≤ R.frames) (hl : W + (maxL + 11) + rm.locals ≤ R.locals) (eT : T.heap = h) {g : JFrame} (hg : g.method = m) (hsize : g.locals.size = c.maxLocals) {a : Addr} {argsL rest : List Value} (hlen : ∀ sig, parseMethodDescriptor y.desc = some sig → argsL.length = sig.parameters.length)
    (hstack : g.stack = argsL.reverse ++ .ref a :: rest) (hW : 2 * g.monitorRoom + (rest.map fun v => v.category).sum ≤ W) (hdg : decode c.code g.pc = .ok (.invokespecial index, 3)) (has : (.ref a :: argsL).toArray = as') (hc : cells + rm.cells ≤ R.cells) (hs : slots + rm.slots ≤ R.slots) {P : Outcome → State → Prop}
    (k : ∀ (v : Option Value) (T' : State) (L : List Loc), Stand p l e R s m args below meth c T' (locs ++ L) (cells + rm.cells) (slots + rm.slots) → Q v T'.heap L → own_Fin p e below P T' { g with pc := g.pc + 3, stack := v.toList ++ rest }) : own_Fin p e below P T g :=
  own_callIB X hx hZ hin hown w1 w2 w4 hy (backOf (W := W) hM hZ w4 w3 hf hl) eT hg hsize hlen hstack hW hdg has hc hs k
theorem own_callVB (X : Stand p l e R s m args below meth c T locs cells slots) (hx : p.tables.exec = Jvm.exec) (hZ : Z.Warmed39 s.vm) {own C : String} {index : Nat} {y z : MethodName} {W : Nat} {kc ks : Nat} {as' : Array Value} {Q : Option Value → Heap → List Loc → Prop}
    (hown : s.vm.findClass own = some m.cls) (w1 : (Jvm.Cond.methodLink own index y).before a0 Z = true) (w2 : (Jvm.Cond.declares y).before a0 Z = true) (nf : ∀ {s : State}, Z.Warmed39 s.vm → NotFace s y) (w5 : (Jvm.Cond.selects C y z).before a0 Z = true) (w6 : (Jvm.Cond.instanceMethod z).before a0 Z = true) (hy : y.cls ≠ "java/lang/invoke/MethodHandle" ∧ y.cls ≠ "java/lang/invoke/VarHandle")
    {b : Addr} (E : Exa Z h b C)
    (hK : Back l R p e below s args z 3 W (fun A a => a = as' ∧ A.U.heap = h ∧ A.cells + kc ≤ R.cells ∧ A.slots + ks ≤ R.slots) (fun A _ v B => ∃ L, Q v B.U.heap L ∧ B.locs = A.locs ++ L ∧ B.cells = A.cells + kc ∧ B.slots = A.slots + ks))
    (eT : T.heap = h) {g : JFrame} (hg : g.method = m) (hsize : g.locals.size = c.maxLocals) {argsL rest : List Value} (hlen : ∀ sig, parseMethodDescriptor y.desc = some sig → argsL.length = sig.parameters.length)
    (hstack : g.stack = argsL.reverse ++ .ref b :: rest) (hW : 2 * g.monitorRoom + (rest.map fun v => v.category).sum ≤ W) (hdg : decode c.code g.pc = .ok (.invokevirtual index, 3)) (has : (.ref b :: argsL).toArray = as') (hc : cells + kc ≤ R.cells) (hs : slots + ks ≤ R.slots) {P : Outcome → State → Prop}
    (k : ∀ (v : Option Value) (T' : State) (L : List Loc), Stand p l e R s m args below meth c T' (locs ++ L) (cells + kc) (slots + ks) → Q v T'.heap L → own_Fin p e below P T' { g with pc := g.pc + 3, stack := v.toList ++ rest }) : own_Fin p e below P T g := by
  obtain ⟨cq, kq, qa, qb, qc⟩ := isOf hZ eT E
  obtain ⟨v, _, ⟨U', L', k', n'⟩, -, X', ⟨Lc, hQ, l1, l2, l3⟩, st⟩ := X.virtualBack hx (y := y) (z := z) hown (mvT hZ w1) (mvT hZ w2) (nf hZ) (mvT hZ w5) (mvT hZ w6) hy hK qa qc hg hsize (Steps.refl _) hlen hstack hW hdg (fun _ _ => ⟨has, eT, hc, hs⟩)
  dsimp only [Pt.U, Pt.locs, Pt.cells, Pt.slots] at X' l1 l2 l3 st hQ
  subst l1 l2 l3
  exact own_by (fun _ q => st.trans q) (k v U' Lc X' hQ)
theorem own_callV (X : Stand p l e R s m args below meth c T locs cells slots) (hx : p.tables.exec = Jvm.exec) (hZ : Z.Warmed39 s.vm) {own C : String} {index : Nat} {y z : MethodName} {bytes : ByteArray} {maxL W : Nat} {ret : Option FieldType} {rm : Room} {as' : Array Value} {Q : Option Value → Heap → List Loc → Prop}
    (hown : s.vm.findClass own = some m.cls) (w1 : (Jvm.Cond.methodLink own index y).before a0 Z = true) (w2 : (Jvm.Cond.declares y).before a0 Z = true) (nf : ∀ {s : State}, Z.Warmed39 s.vm → NotFace s y) (w5 : (Jvm.Cond.selects C y z).before a0 Z = true) (w6 : (Jvm.Cond.instanceMethod z).before a0 Z = true) (w4 : (Jvm.Cond.code z bytes maxL ret).before a0 Z = true) (w3 : (Jvm.Cond.initialized z.cls).before a0 Z = true) (hy : y.cls ≠ "java/lang/invoke/MethodHandle" ∧ y.cls ≠ "java/lang/invoke/VarHandle")
    {b : Addr} (E : Exa Z h b C)
    (hM : MetFree l z (head1 [Jvm.Cond.code z bytes maxL ret] rm) (fun a U => a = as' ∧ Z.Warmed39 U.vm ∧ U.heap = h) (fun _ _ _ _ _ => True) (fun _ U o U' => ∃ v L, o = .returned v ∧ Q v U'.heap L ∧ FrameEnd U o U' L rm.cells rm.slots))
    (hf : rm.frames + 1 ≤ R.frames) (hl : W + (maxL + 11) + rm.locals ≤ R.locals) (eT : T.heap = h) {g : JFrame} (hg : g.method = m) (hsize : g.locals.size = c.maxLocals) {argsL rest : List Value} (hlen : ∀ sig, parseMethodDescriptor y.desc = some sig → argsL.length = sig.parameters.length)
    (hstack : g.stack = argsL.reverse ++ .ref b :: rest) (hW : 2 * g.monitorRoom + (rest.map fun v => v.category).sum ≤ W) (hdg : decode c.code g.pc = .ok (.invokevirtual index, 3)) (has : (.ref b :: argsL).toArray = as') (hc : cells + rm.cells ≤ R.cells) (hs : slots + rm.slots ≤ R.slots) {P : Outcome → State → Prop}
    (k : ∀ (v : Option Value) (T' : State) (L : List Loc), Stand p l e R s m args below meth c T' (locs ++ L) (cells + rm.cells) (slots + rm.slots) → Q v T'.heap L → own_Fin p e below P T' { g with pc := g.pc + 3, stack := v.toList ++ rest }) : own_Fin p e below P T g :=
  own_callVB X hx hZ hown w1 w2 nf w5 w6 hy E (backOf (W := W) hM hZ w4 w3 hf hl) eT hg hsize hlen hstack hW hdg has hc hs k
theorem own_narR {t : FieldType} {w : Value} (ht : t.isReference = true) : narrow t w = w := by cases t <;> first | rfl | (cases ht)
theorem own_fldI {t : Term} {C n d : String} {k : Int32} {a : Addr} (hv : (Jvm.Cond.eq (.field t C n d) (.int k)).value args s none s [] = some true) (ht : t.eval args s none [] s = some (.ref a)) : Fld s s.heap a C n d (.int k) := by
  obtain ⟨x, y, e1, e2, k1, k2⟩ := cmp_v (Or.inl hv)
  rw [Term.int_eval] at e2
  cases e2
  obtain ⟨z, rfl⟩ := k2
  have q : z = k := by simpa [Jvm.Cond.value, e1, Term.int_eval] using hv
  rw [fld_at ht] at e1
  exact Fld.start (q ▸ e1)
theorem own_clash {x y z : Int32} (h : x = y) (n : ¬ y = z) : ¬ x = z := fun q => n (h.symm.trans q)
theorem own_rem (x y : Int32) (n : Int) (hy : y.toInt = n) (hn : 0 < n) : 0 ≤ ((x &&& (2147483647 : Int32)) % y).toInt ∧ ((x &&& (2147483647 : Int32)) % y).toInt < n := by
  have h0 := c_and x 2147483647 (by decide)
  have h1 := (c_irem (x &&& 2147483647) y n hy).1 h0.1
  rw [h1]
  exact ⟨Int.emod_nonneg _ (by omega), Int.emod_lt_of_pos _ hn⟩
theorem own_eqI {x y : Int32} (h : x.toInt = y.toInt) : x = y := Int32.toInt_inj.mp h
theorem own_neI {x y : Int32} (h : ¬ x = y) : x.toInt ≠ y.toInt := fun q => h (Int32.toInt_inj.mp q)
theorem own_fitsR {t : FieldType} {v : Value} (ht : t.isReference = true) (hv : v.isRef = true) : fits t v = true := by
  rcases ref_cases hv with rfl | ⟨a, rfl⟩ <;> cases t <;> first | rfl | (cases ht)
theorem own_cat {v : Value} (hv : v.isRef = true) : v.category = 1 := by
  rcases ref_cases hv with rfl | ⟨a, rfl⟩ <;> rfl
theorem own_store1 {L : Array Slot} {i : Nat} {v : Value} {o : Slot} {L' : Array Slot} (hold : L[i]? = some o) (ho : One o) (hv : v.category = 1) (e : L.setIfInBounds i (.val v) = L') : storeLocals L i v = some L' := by
  rw [← e]; exact XS.store1 hold ho hv
end OwnKit
theorem own_d1_0 : decode prog_5_method_6_code 0 = .ok (.aload_n 0, 1) := by decide +kernel
theorem own_d1_1 : decode prog_5_method_6_code 1 = .ok (.getstatic 10, 3) := by decide +kernel
theorem own_d1_4 : decode prog_5_method_6_code 4 = .ok (.if_acmp .ne 7, 3) := by decide +kernel
theorem own_d1_7 : decode prog_5_method_6_code 7 = .ok (.iconst 1, 1) := by decide +kernel
theorem own_d1_8 : decode prog_5_method_6_code 8 = .ok (.goto 4, 3) := by decide +kernel
theorem own_d1_12 : decode prog_5_method_6_code 12 = .ok (.ireturn, 1) := by decide +kernel
theorem own_d1_11 : decode prog_5_method_6_code 11 = .ok (.iconst 0, 1) := by decide +kernel
theorem own_rm1_ef (m : MethodId) (a : Addr) : entryFrame m #[(.ref a)] 1 = mkF m 0 #[.val (.ref a)] [] := by  first | (simp [entryFrame, mkF, argsToLocals, Value.category]; done) | rfl
def own_rm1_Q (Z : State) (a : Addr) (aABSENT : Addr) (h0 : Heap) (n0 : Nat) (v : Option Value) (h : Heap) (L : List Loc) : Prop := v = some (.int (if a = aABSENT then 1 else 0)) ∧ Fr n0 L ∧ h = h0
theorem own_pn_com_example_careful_commit_carefulcommit_Claim : plainName "com/example/careful_commit/carefulcommit/Claim" = true := by first | (simp [plainName, overriddenIn]; done) | decide +kernel
set_option maxRecDepth 65536 in
set_option maxHeartbeats 40000000 in
theorem own_rm1 (l : Launch) (Z : State) (a0 : Array Value) (hw : ∀ d ∈ tables_1, d.before a0 Z = true) (ws : List Jvm.Cond) (a : Addr) (aABSENT : Addr) (h0 : Heap) (n0 : Nat) (Z0 : n0 ≤ h0.size) (S_ABSENT : Sta Z h0 "com/example/careful_commit/carefulcommit/Claim" "ABSENT" "Lcom/example/careful_commit/carefulcommit/Claim;" (.ref aABSENT)) :
    MetFree l (⟨"com/example/careful_commit/carefulcommit/Claim", "rowAbsent", "()Z"⟩ : MethodName) (head1 (Jvm.Cond.code (⟨"com/example/careful_commit/carefulcommit/Claim", "rowAbsent", "()Z"⟩ : MethodName) prog_5_method_6_code 1 (some .boolean) :: ws) ({ frames := 0, cells := 0, slots := 0, locals := 0 } : Room)) (fun aa U => aa = #[(.ref a)] ∧ Z.Warmed39 U.vm ∧ U.heap = h0) (fun _ _ _ _ _ => True) (fun _ U o U' => ∃ v L, o = .returned v ∧ own_rm1_Q Z a aABSENT h0 n0 v U'.heap L ∧ FrameEnd U o U' L ({ frames := 0, cells := 0, slots := 0, locals := 0 } : Room).cells ({ frames := 0, cells := 0, slots := 0, locals := 0 } : Room).slots) := by
  refine MetFree.of_bodySF (plainFor_of_name own_pn_com_example_careful_commit_carefulcommit_Claim) hisR ?_
  intro p e s m args below meth c s₁ Bd hml0 hP hK
  obtain ⟨rfl, hZ, hh⟩ := hP
  have hx := Bd.exec
  have hby := Bd.bytes
  have hml : c.maxLocals = 1 := hml0
  have hown : s.vm.findClass "com/example/careful_commit/carefulcommit/Claim" = some m.cls := findClass_of_methodNamed Bd.named
  have hnm := (name_of_methodNamed Bd.named Bd.method).1
  have hlk := Bd.notSynchronized
  have X0 : Stand p l e ({ frames := 0, cells := 0, slots := 0, locals := 0 } : Room) s m #[(.ref a)] below meth c s₁ [] 0 0 := Stand.of_body Bd
  have e0 : s₁.heap = h0 := by rw [← hh, Bd.state]; rfl
  have N0 := Fr.nil n0
  refine own_start (Q := own_rm1_Q Z a aABSENT h0 n0) (own_rm1_ef m a) ?_
  refine own_by (T' := s₁) (g' := (mkF m 1 #[.val (.ref a)] [(.ref a)])) (fun _ kq => XS.aloadN X0.here hx rfl (hb hby own_d1_0) rfl rfl kq) ?_
  obtain ⟨T1, X1, e1, st1⟩ := getS2 X0 hx hZ hown (host := "") (Or.inl (hw _ (List.mem_of_getElem? (i := 9) rfl))) Via.refl e0 S_ABSENT (g := (mkF m 1 #[.val (.ref a)] [(.ref a)])) rfl (hb hby own_d1_1)
  refine own_by (T' := T1) (g' := (mkF m 4 #[.val (.ref a)] [(.ref aABSENT), (.ref a)])) st1 ?_
  by_cases hc2 : a = aABSENT
  · refine own_by (T' := T1) (g' := (mkF m 7 #[.val (.ref a)] [])) (fun _ kq => Jvm.RoadKit.acmp (g := (mkF m 4 #[.val (.ref a)] [(.ref aABSENT), (.ref a)])) X1 hx rfl rfl rfl (pc0 := 4) (pc' := 7) (same := true) rfl (hb hby own_d1_4) rfl (decide_eq_true (congrArg Value.ref hc2)) (by decide) (by decide) kq) ?_
    refine own_by (T' := T1) (g' := (mkF m 8 #[.val (.ref a)] [(.int (1 : Int32))])) (fun _ kq => XS.iconst X1.here hx rfl (hb hby own_d1_7) kq) ?_
    refine own_by (T' := T1) (g' := (mkF m 12 #[.val (.ref a)] [(.int (1 : Int32))])) (fun _ kq => XS.goto X1.here hx rfl (pc0 := 8) (pc' := 12) rfl (hb hby own_d1_8) (by decide) (by decide) kq) ?_
    exact own_end X1 (v := some (.int (nar .boolean (1 : Int32)))) (fun h => by rw [Bd.returns] at h; cases h) hlk (fun hr => retN X1 hx (t := .boolean) Bd.returns (by simp) (hb hby own_d1_12) hr) (by rw [e1]; exact ⟨by rw [if_pos hc2]; rfl, N0, rfl⟩) (by decide) (by decide)
  · refine own_by (T' := T1) (g' := (mkF m 11 #[.val (.ref a)] [])) (fun _ kq => Jvm.RoadKit.acmp (g := (mkF m 4 #[.val (.ref a)] [(.ref aABSENT), (.ref a)])) X1 hx rfl rfl rfl (pc0 := 4) (pc' := 11) (same := false) rfl (hb hby own_d1_4) rfl (decide_eq_false fun q => hc2 (Value.ref.inj q)) (by decide) (by decide) kq) ?_
    refine own_by (T' := T1) (g' := (mkF m 12 #[.val (.ref a)] [(.int (0 : Int32))])) (fun _ kq => XS.iconst X1.here hx rfl (hb hby own_d1_11) kq) ?_
    exact own_end X1 (v := some (.int (nar .boolean (0 : Int32)))) (fun h => by rw [Bd.returns] at h; cases h) hlk (fun hr => retN X1 hx (t := .boolean) Bd.returns (by simp) (hb hby own_d1_12) hr) (by rw [e1]; exact ⟨by rw [if_neg hc2]; rfl, N0, rfl⟩) (by decide) (by decide)
theorem own_d2_0 : decode prog_5_method_4_code 0 = .ok (.aload_n 0, 1) := by decide +kernel
theorem own_d2_1 : decode prog_5_method_4_code 1 = .ok (.getstatic 3, 3) := by decide +kernel
theorem own_d2_4 : decode prog_5_method_4_code 4 = .ok (.if_acmp .ne 7, 3) := by decide +kernel
theorem own_d2_7 : decode prog_5_method_4_code 7 = .ok (.iconst 1, 1) := by decide +kernel
theorem own_d2_8 : decode prog_5_method_4_code 8 = .ok (.goto 4, 3) := by decide +kernel
theorem own_d2_12 : decode prog_5_method_4_code 12 = .ok (.ireturn, 1) := by decide +kernel
theorem own_d2_11 : decode prog_5_method_4_code 11 = .ok (.iconst 0, 1) := by decide +kernel
theorem own_rm2_ef (m : MethodId) (a : Addr) : entryFrame m #[(.ref a)] 1 = mkF m 0 #[.val (.ref a)] [] := by  first | (simp [entryFrame, mkF, argsToLocals, Value.category]; done) | rfl
def own_rm2_Q (Z : State) (a : Addr) (aWON : Addr) (h0 : Heap) (n0 : Nat) (v : Option Value) (h : Heap) (L : List Loc) : Prop := v = some (.int (if a = aWON then 1 else 0)) ∧ Fr n0 L ∧ h = h0
set_option maxRecDepth 65536 in
set_option maxHeartbeats 40000000 in
theorem own_rm2 (l : Launch) (Z : State) (a0 : Array Value) (hw : ∀ d ∈ tables_1, d.before a0 Z = true) (ws : List Jvm.Cond) (a : Addr) (aWON : Addr) (h0 : Heap) (n0 : Nat) (Z0 : n0 ≤ h0.size) (S_WON : Sta Z h0 "com/example/careful_commit/carefulcommit/Claim" "WON" "Lcom/example/careful_commit/carefulcommit/Claim;" (.ref aWON)) :
    MetFree l (⟨"com/example/careful_commit/carefulcommit/Claim", "won", "()Z"⟩ : MethodName) (head1 (Jvm.Cond.code (⟨"com/example/careful_commit/carefulcommit/Claim", "won", "()Z"⟩ : MethodName) prog_5_method_4_code 1 (some .boolean) :: ws) ({ frames := 0, cells := 0, slots := 0, locals := 0 } : Room)) (fun aa U => aa = #[(.ref a)] ∧ Z.Warmed39 U.vm ∧ U.heap = h0) (fun _ _ _ _ _ => True) (fun _ U o U' => ∃ v L, o = .returned v ∧ own_rm2_Q Z a aWON h0 n0 v U'.heap L ∧ FrameEnd U o U' L ({ frames := 0, cells := 0, slots := 0, locals := 0 } : Room).cells ({ frames := 0, cells := 0, slots := 0, locals := 0 } : Room).slots) := by
  refine MetFree.of_bodySF (plainFor_of_name own_pn_com_example_careful_commit_carefulcommit_Claim) hisR ?_
  intro p e s m args below meth c s₁ Bd hml0 hP hK
  obtain ⟨rfl, hZ, hh⟩ := hP
  have hx := Bd.exec
  have hby := Bd.bytes
  have hml : c.maxLocals = 1 := hml0
  have hown : s.vm.findClass "com/example/careful_commit/carefulcommit/Claim" = some m.cls := findClass_of_methodNamed Bd.named
  have hnm := (name_of_methodNamed Bd.named Bd.method).1
  have hlk := Bd.notSynchronized
  have X0 : Stand p l e ({ frames := 0, cells := 0, slots := 0, locals := 0 } : Room) s m #[(.ref a)] below meth c s₁ [] 0 0 := Stand.of_body Bd
  have e0 : s₁.heap = h0 := by rw [← hh, Bd.state]; rfl
  have N0 := Fr.nil n0
  refine own_start (Q := own_rm2_Q Z a aWON h0 n0) (own_rm2_ef m a) ?_
  refine own_by (T' := s₁) (g' := (mkF m 1 #[.val (.ref a)] [(.ref a)])) (fun _ kq => XS.aloadN X0.here hx rfl (hb hby own_d2_0) rfl rfl kq) ?_
  obtain ⟨T1, X1, e1, st1⟩ := getS2 X0 hx hZ hown (host := "") (Or.inl (hw _ (List.mem_of_getElem? (i := 17) rfl))) Via.refl e0 S_WON (g := (mkF m 1 #[.val (.ref a)] [(.ref a)])) rfl (hb hby own_d2_1)
  refine own_by (T' := T1) (g' := (mkF m 4 #[.val (.ref a)] [(.ref aWON), (.ref a)])) st1 ?_
  by_cases hc2 : a = aWON
  · refine own_by (T' := T1) (g' := (mkF m 7 #[.val (.ref a)] [])) (fun _ kq => Jvm.RoadKit.acmp (g := (mkF m 4 #[.val (.ref a)] [(.ref aWON), (.ref a)])) X1 hx rfl rfl rfl (pc0 := 4) (pc' := 7) (same := true) rfl (hb hby own_d2_4) rfl (decide_eq_true (congrArg Value.ref hc2)) (by decide) (by decide) kq) ?_
    refine own_by (T' := T1) (g' := (mkF m 8 #[.val (.ref a)] [(.int (1 : Int32))])) (fun _ kq => XS.iconst X1.here hx rfl (hb hby own_d2_7) kq) ?_
    refine own_by (T' := T1) (g' := (mkF m 12 #[.val (.ref a)] [(.int (1 : Int32))])) (fun _ kq => XS.goto X1.here hx rfl (pc0 := 8) (pc' := 12) rfl (hb hby own_d2_8) (by decide) (by decide) kq) ?_
    exact own_end X1 (v := some (.int (nar .boolean (1 : Int32)))) (fun h => by rw [Bd.returns] at h; cases h) hlk (fun hr => retN X1 hx (t := .boolean) Bd.returns (by simp) (hb hby own_d2_12) hr) (by rw [e1]; exact ⟨by rw [if_pos hc2]; rfl, N0, rfl⟩) (by decide) (by decide)
  · refine own_by (T' := T1) (g' := (mkF m 11 #[.val (.ref a)] [])) (fun _ kq => Jvm.RoadKit.acmp (g := (mkF m 4 #[.val (.ref a)] [(.ref aWON), (.ref a)])) X1 hx rfl rfl rfl (pc0 := 4) (pc' := 11) (same := false) rfl (hb hby own_d2_4) rfl (decide_eq_false fun q => hc2 (Value.ref.inj q)) (by decide) (by decide) kq) ?_
    refine own_by (T' := T1) (g' := (mkF m 12 #[.val (.ref a)] [(.int (0 : Int32))])) (fun _ kq => XS.iconst X1.here hx rfl (hb hby own_d2_11) kq) ?_
    exact own_end X1 (v := some (.int (nar .boolean (0 : Int32)))) (fun h => by rw [Bd.returns] at h; cases h) hlk (fun hr => retN X1 hx (t := .boolean) Bd.returns (by simp) (hb hby own_d2_12) hr) (by rw [e1]; exact ⟨by rw [if_neg hc2]; rfl, N0, rfl⟩) (by decide) (by decide)
theorem own_d3_0 : decode prog_5_method_5_code 0 = .ok (.aload_n 0, 1) := by decide +kernel
theorem own_d3_1 : decode prog_5_method_5_code 1 = .ok (.getstatic 3, 3) := by decide +kernel
theorem own_d3_4 : decode prog_5_method_5_code 4 = .ok (.if_acmp .eq 7, 3) := by decide +kernel
theorem own_d3_11 : decode prog_5_method_5_code 11 = .ok (.iconst 0, 1) := by decide +kernel
theorem own_d3_12 : decode prog_5_method_5_code 12 = .ok (.ireturn, 1) := by decide +kernel
theorem own_d3_7 : decode prog_5_method_5_code 7 = .ok (.iconst 1, 1) := by decide +kernel
theorem own_d3_8 : decode prog_5_method_5_code 8 = .ok (.goto 4, 3) := by decide +kernel
theorem own_rm3_ef (m : MethodId) (a : Addr) : entryFrame m #[(.ref a)] 1 = mkF m 0 #[.val (.ref a)] [] := by  first | (simp [entryFrame, mkF, argsToLocals, Value.category]; done) | rfl
def own_rm3_Q (Z : State) (a : Addr) (aWON : Addr) (h0 : Heap) (n0 : Nat) (v : Option Value) (h : Heap) (L : List Loc) : Prop := v = some (.int (if a = aWON then 0 else 1)) ∧ Fr n0 L ∧ h = h0
set_option maxRecDepth 65536 in
set_option maxHeartbeats 40000000 in
theorem own_rm3 (l : Launch) (Z : State) (a0 : Array Value) (hw : ∀ d ∈ tables_1, d.before a0 Z = true) (ws : List Jvm.Cond) (a : Addr) (aWON : Addr) (h0 : Heap) (n0 : Nat) (Z0 : n0 ≤ h0.size) (S_WON : Sta Z h0 "com/example/careful_commit/carefulcommit/Claim" "WON" "Lcom/example/careful_commit/carefulcommit/Claim;" (.ref aWON)) :
    MetFree l (⟨"com/example/careful_commit/carefulcommit/Claim", "taken", "()Z"⟩ : MethodName) (head1 (Jvm.Cond.code (⟨"com/example/careful_commit/carefulcommit/Claim", "taken", "()Z"⟩ : MethodName) prog_5_method_5_code 1 (some .boolean) :: ws) ({ frames := 0, cells := 0, slots := 0, locals := 0 } : Room)) (fun aa U => aa = #[(.ref a)] ∧ Z.Warmed39 U.vm ∧ U.heap = h0) (fun _ _ _ _ _ => True) (fun _ U o U' => ∃ v L, o = .returned v ∧ own_rm3_Q Z a aWON h0 n0 v U'.heap L ∧ FrameEnd U o U' L ({ frames := 0, cells := 0, slots := 0, locals := 0 } : Room).cells ({ frames := 0, cells := 0, slots := 0, locals := 0 } : Room).slots) := by
  refine MetFree.of_bodySF (plainFor_of_name own_pn_com_example_careful_commit_carefulcommit_Claim) hisR ?_
  intro p e s m args below meth c s₁ Bd hml0 hP hK
  obtain ⟨rfl, hZ, hh⟩ := hP
  have hx := Bd.exec
  have hby := Bd.bytes
  have hml : c.maxLocals = 1 := hml0
  have hown : s.vm.findClass "com/example/careful_commit/carefulcommit/Claim" = some m.cls := findClass_of_methodNamed Bd.named
  have hnm := (name_of_methodNamed Bd.named Bd.method).1
  have hlk := Bd.notSynchronized
  have X0 : Stand p l e ({ frames := 0, cells := 0, slots := 0, locals := 0 } : Room) s m #[(.ref a)] below meth c s₁ [] 0 0 := Stand.of_body Bd
  have e0 : s₁.heap = h0 := by rw [← hh, Bd.state]; rfl
  have N0 := Fr.nil n0
  refine own_start (Q := own_rm3_Q Z a aWON h0 n0) (own_rm3_ef m a) ?_
  refine own_by (T' := s₁) (g' := (mkF m 1 #[.val (.ref a)] [(.ref a)])) (fun _ kq => XS.aloadN X0.here hx rfl (hb hby own_d3_0) rfl rfl kq) ?_
  obtain ⟨T1, X1, e1, st1⟩ := getS2 X0 hx hZ hown (host := "") (Or.inl (hw _ (List.mem_of_getElem? (i := 17) rfl))) Via.refl e0 S_WON (g := (mkF m 1 #[.val (.ref a)] [(.ref a)])) rfl (hb hby own_d3_1)
  refine own_by (T' := T1) (g' := (mkF m 4 #[.val (.ref a)] [(.ref aWON), (.ref a)])) st1 ?_
  by_cases hc2 : a = aWON
  · refine own_by (T' := T1) (g' := (mkF m 11 #[.val (.ref a)] [])) (fun _ kq => Jvm.RoadKit.acmp (g := (mkF m 4 #[.val (.ref a)] [(.ref aWON), (.ref a)])) X1 hx rfl rfl rfl (pc0 := 4) (pc' := 11) (same := true) rfl (hb hby own_d3_4) rfl (decide_eq_true (congrArg Value.ref hc2)) (by decide) (by decide) kq) ?_
    refine own_by (T' := T1) (g' := (mkF m 12 #[.val (.ref a)] [(.int (0 : Int32))])) (fun _ kq => XS.iconst X1.here hx rfl (hb hby own_d3_11) kq) ?_
    exact own_end X1 (v := some (.int (nar .boolean (0 : Int32)))) (fun h => by rw [Bd.returns] at h; cases h) hlk (fun hr => retN X1 hx (t := .boolean) Bd.returns (by simp) (hb hby own_d3_12) hr) (by rw [e1]; exact ⟨by rw [if_pos hc2]; rfl, N0, rfl⟩) (by decide) (by decide)
  · refine own_by (T' := T1) (g' := (mkF m 7 #[.val (.ref a)] [])) (fun _ kq => Jvm.RoadKit.acmp (g := (mkF m 4 #[.val (.ref a)] [(.ref aWON), (.ref a)])) X1 hx rfl rfl rfl (pc0 := 4) (pc' := 7) (same := false) rfl (hb hby own_d3_4) rfl (decide_eq_false fun q => hc2 (Value.ref.inj q)) (by decide) (by decide) kq) ?_
    refine own_by (T' := T1) (g' := (mkF m 8 #[.val (.ref a)] [(.int (1 : Int32))])) (fun _ kq => XS.iconst X1.here hx rfl (hb hby own_d3_7) kq) ?_
    refine own_by (T' := T1) (g' := (mkF m 12 #[.val (.ref a)] [(.int (1 : Int32))])) (fun _ kq => XS.goto X1.here hx rfl (pc0 := 8) (pc' := 12) rfl (hb hby own_d3_8) (by decide) (by decide) kq) ?_
    exact own_end X1 (v := some (.int (nar .boolean (1 : Int32)))) (fun h => by rw [Bd.returns] at h; cases h) hlk (fun hr => retN X1 hx (t := .boolean) Bd.returns (by simp) (hb hby own_d3_12) hr) (by rw [e1]; exact ⟨by rw [if_neg hc2]; rfl, N0, rfl⟩) (by decide) (by decide)
theorem own_two {k : Int32} (hr : 0 ≤ k.toInt ∧ k.toInt < 3) (h0 : ¬ k = (0 : Int32)) (h1 : ¬ k = (1 : Int32)) : k = (2 : Int32) := by
  have a0 := own_neI h0
  have a1 := own_neI h1
  have e0 : (0 : Int32).toInt = 0 := by decide
  have e1 : (1 : Int32).toInt = 1 := by decide
  have e2 : (2 : Int32).toInt = 2 := by decide
  apply own_eqI
  omega
theorem own_pd__28_29Z : parseMethodDescriptor "()Z" = some ⟨[], some .boolean⟩ := by decide +kernel
theorem own_rm0_ef (m : MethodId) (p0 : Int32) : entryFrame m #[(.int p0)] maxLocals = mkF m 0 #[.val (.int p0), .unset, .unset, .unset, .unset] [] := by  first | (simp [entryFrame, mkF, argsToLocals, Value.category, maxLocals]; done) | rfl
def own_rm0_Q (Z : State) (p0 : Int32) (aWON : Addr) (aTAKEN : Addr) (aABSENT : Addr) (h0 : Heap) (n0 : Nat) (v : Option Value) (h : Heap) (L : List Loc) : Prop := v = some (.int 1) ∧ Fr n0 L
theorem own_pn_com_example_careful_commit_carefulcommit_ClaimRowAbsentPinLaw : plainName "com/example/careful_commit/carefulcommit/ClaimRowAbsentPinLaw" = true := by first | (simp [plainName, overriddenIn]; done) | decide +kernel
set_option maxRecDepth 65536 in
set_option maxHeartbeats 40000000 in
theorem own_rm0 (l : Launch) (Z : State) (a0 : Array Value) (hw : ∀ d ∈ tables_1, d.before a0 Z = true) (ws : List Jvm.Cond) (p0 : Int32) (aWON : Addr) (aTAKEN : Addr) (aABSENT : Addr) (h0 : Heap) (n0 : Nat) (Z0 : n0 ≤ h0.size) (S_WON : Sta Z h0 "com/example/careful_commit/carefulcommit/Claim" "WON" "Lcom/example/careful_commit/carefulcommit/Claim;" (.ref aWON)) (S_TAKEN : Sta Z h0 "com/example/careful_commit/carefulcommit/Claim" "TAKEN" "Lcom/example/careful_commit/carefulcommit/Claim;" (.ref aTAKEN)) (S_ABSENT : Sta Z h0 "com/example/careful_commit/carefulcommit/Claim" "ABSENT" "Lcom/example/careful_commit/carefulcommit/Claim;" (.ref aABSENT)) (E_WON : Exa Z h0 aWON "com/example/careful_commit/carefulcommit/Claim") (E_TAKEN : Exa Z h0 aTAKEN "com/example/careful_commit/carefulcommit/Claim") (E_ABSENT : Exa Z h0 aABSENT "com/example/careful_commit/carefulcommit/Claim") (n_WON_ABSENT : ¬ aWON = aABSENT) (n_TAKEN_ABSENT : ¬ aTAKEN = aABSENT) (n_ABSENT_WON : ¬ aABSENT = aWON) (n_TAKEN_WON : ¬ aTAKEN = aWON) :
    MetFree l x (head1 (Jvm.Cond.code x code maxLocals ret :: ws) room_1) (fun aa U => aa = #[(.int p0)] ∧ Z.Warmed39 U.vm ∧ U.heap = h0) (fun _ _ _ _ _ => True) (fun _ U o U' => ∃ v L, o = .returned v ∧ own_rm0_Q Z p0 aWON aTAKEN aABSENT h0 n0 v U'.heap L ∧ FrameEnd U o U' L room_1.cells room_1.slots) := by
  refine MetFree.of_bodySF (plainFor_of_name own_pn_com_example_careful_commit_carefulcommit_ClaimRowAbsentPinLaw) hisR ?_
  intro p e s m args below meth c s₁ Bd hml0 hP hK
  obtain ⟨rfl, hZ, hh⟩ := hP
  have hx := Bd.exec
  have hby := Bd.bytes
  have hml : c.maxLocals = 5 := hml0
  have hown : s.vm.findClass "com/example/careful_commit/carefulcommit/ClaimRowAbsentPinLaw" = some m.cls := findClass_of_methodNamed Bd.named
  have hnm := (name_of_methodNamed Bd.named Bd.method).1
  have hlk := Bd.notSynchronized
  have X0 : Stand p l e room_1 s m #[(.int p0)] below meth c s₁ [] 0 0 := Stand.of_body Bd
  have e0 : s₁.heap = h0 := by rw [← hh, Bd.state]; rfl
  have N0 := Fr.nil n0
  refine own_start (Q := own_rm0_Q Z p0 aWON aTAKEN aABSENT h0 n0) (own_rm0_ef m p0) ?_
  refine own_by (T' := s₁) (g' := (mkF m 1 #[.val (.int p0), .unset, .unset, .unset, .unset] [(.int p0)])) (fun _ kq => XS.iloadN X0.here hx rfl (hb hby at_0) rfl kq) ?_
  refine own_by (T' := s₁) (g' := (mkF m 3 #[.val (.int p0), .unset, .unset, .unset, .unset] [(.int (2147483647 : Int32)), (.int p0)])) (fun _ kq => X0.ldcInt hx hown (mvT hZ (hw _ (List.mem_of_getElem? (i := 0) rfl))) (g := (mkF m 1 #[.val (.int p0), .unset, .unset, .unset, .unset] [(.int p0)])) rfl (hb hby at_1) _ kq) ?_
  refine own_by (T' := s₁) (g' := (mkF m 4 #[.val (.int p0), .unset, .unset, .unset, .unset] [(.int (p0 &&& (2147483647 : Int32)))])) (fun _ kq => XS.iand X0.here hx rfl (hb hby at_3) rfl kq) ?_
  refine own_by (T' := s₁) (g' := (mkF m 5 #[.val (.int p0), .unset, .unset, .unset, .unset] [(.int (3 : Int32)), (.int (p0 &&& (2147483647 : Int32)))])) (fun _ kq => XS.iconst X0.here hx rfl (hb hby at_4) kq) ?_
  refine own_by (T' := s₁) (g' := (mkF m 6 #[.val (.int p0), .unset, .unset, .unset, .unset] [(.int ((p0 &&& (2147483647 : Int32)) % (3 : Int32)))])) (fun _ kq => Jvm.RoadKit.iremM (g := (mkF m 5 #[.val (.int p0), .unset, .unset, .unset, .unset] [(.int (3 : Int32)), (.int (p0 &&& (2147483647 : Int32)))])) X0 hx rfl (hb hby at_5) rfl (by decide) kq) ?_
  refine own_by (T' := s₁) (g' := (mkF m 7 #[.val (.int p0), .val (.int ((p0 &&& (2147483647 : Int32)) % (3 : Int32))), .unset, .unset, .unset] [])) (fun _ kq => XS.istoreN X0.here hx rfl (hb hby at_6) rfl (l' := #[.val (.int p0), .val (.int ((p0 &&& (2147483647 : Int32)) % (3 : Int32))), .unset, .unset, .unset]) rfl kq) ?_
  have hr := own_rem p0 (3 : Int32) 3 (by decide) (by decide)
  generalize hg_k : ((p0 &&& (2147483647 : Int32)) % (3 : Int32)) = k at hr ⊢
  refine own_by (T' := s₁) (g' := (mkF m 8 #[.val (.int p0), .val (.int k), .unset, .unset, .unset] [(.int k)])) (fun _ kq => XS.iloadN X0.here hx rfl (hb hby at_7) rfl kq) ?_
  by_cases hc1 : k = (0 : Int32)
  · refine own_by (T' := s₁) (g' := (mkF m 11 #[.val (.int p0), .val (.int k), .unset, .unset, .unset] [])) (fun _ kq => XS.ifNo X0.here hx rfl (hb hby at_8) rfl ((if0 _ _).trans (teq hc1).2) kq) ?_
    obtain ⟨T2, X2, e2, st2⟩ := getS2 X0 hx hZ hown (host := "") (Or.inl (hw _ (List.mem_of_getElem? (i := 1) rfl))) Via.refl e0 S_WON (g := (mkF m 11 #[.val (.int p0), .val (.int k), .unset, .unset, .unset] [])) rfl (hb hby at_11)
    refine own_by (T' := T2) (g' := (mkF m 14 #[.val (.int p0), .val (.int k), .unset, .unset, .unset] [(.ref aWON)])) st2 ?_
    refine own_by (T' := T2) (g' := (mkF m 15 #[.val (.int p0), .val (.int k), .val (.ref aWON), .unset, .unset] [])) (fun _ kq => XS.astoreN X2.here hx rfl (hb hby at_14) rfl rfl (l' := #[.val (.int p0), .val (.int k), .val (.ref aWON), .unset, .unset]) rfl kq) ?_
    refine own_by (T' := T2) (g' := (mkF m 34 #[.val (.int p0), .val (.int k), .val (.ref aWON), .unset, .unset] [])) (fun _ kq => XS.goto X2.here hx rfl (pc0 := 15) (pc' := 34) rfl (hb hby at_15) (by decide) (by decide) kq) ?_
    refine own_by (T' := T2) (g' := (mkF m 35 #[.val (.int p0), .val (.int k), .val (.ref aWON), .unset, .unset] [(.int k)])) (fun _ kq => XS.iloadN X2.here hx rfl (hb hby at_34) rfl kq) ?_
    refine own_by (T' := T2) (g' := (mkF m 36 #[.val (.int p0), .val (.int k), .val (.ref aWON), .unset, .unset] [(.int (2 : Int32)), (.int k)])) (fun _ kq => XS.iconst X2.here hx rfl (hb hby at_35) kq) ?_
    refine own_by (T' := T2) (g' := (mkF m 43 #[.val (.int p0), .val (.int k), .val (.ref aWON), .unset, .unset] [])) (fun _ kq => XS.icmpYes X2.here hx rfl (pc0 := 36) (pc' := 43) rfl (hb hby at_36) rfl (feq (own_clash hc1 (by decide))).2 (by decide) (by decide) kq) ?_
    refine own_by (T' := T2) (g' := (mkF m 44 #[.val (.int p0), .val (.int k), .val (.ref aWON), .unset, .unset] [(.int (0 : Int32))])) (fun _ kq => XS.iconst X2.here hx rfl (hb hby at_43) kq) ?_
    refine own_by (T' := T2) (g' := (mkF m 45 #[.val (.int p0), .val (.int k), .val (.ref aWON), .val (.int (0 : Int32)), .unset] [])) (fun _ kq => XS.istoreN X2.here hx rfl (hb hby at_44) rfl (l' := #[.val (.int p0), .val (.int k), .val (.ref aWON), .val (.int (0 : Int32)), .unset]) rfl kq) ?_
    refine own_by (T' := T2) (g' := (mkF m 46 #[.val (.int p0), .val (.int k), .val (.ref aWON), .val (.int (0 : Int32)), .unset] [(.ref aWON)])) (fun _ kq => XS.aloadN X2.here hx rfl (hb hby at_45) rfl rfl kq) ?_
    refine own_callV X2 hx hZ (y := (⟨"com/example/careful_commit/carefulcommit/Claim", "rowAbsent", "()Z"⟩ : MethodName)) (z := (⟨"com/example/careful_commit/carefulcommit/Claim", "rowAbsent", "()Z"⟩ : MethodName)) hown (hw _ (List.mem_of_getElem? (i := 4) rfl)) (hw _ (List.mem_of_getElem? (i := 5) rfl)) (own_nf (hw _ (List.mem_of_getElem? (i := 7) rfl))) (hw _ (List.mem_of_getElem? (i := 7) rfl)) (hw _ (List.mem_of_getElem? (i := 6) rfl)) (hw _ (List.mem_of_getElem? (i := 8) rfl)) (hw _ (List.mem_of_getElem? (i := 2) rfl)) (by decide) E_WON (own_rm1 l Z a0 hw [] aWON aABSENT h0 n0 Z0 S_ABSENT) (by decide) (by decide) e2 (g := (mkF m 46 #[.val (.int p0), .val (.int k), .val (.ref aWON), .val (.int (0 : Int32)), .unset] [(.ref aWON)])) rfl (by rw [hml]; rfl) (argsL := []) (rest := []) (lenOf own_pd__28_29Z rfl) rfl (W := 0) (by show 2 * 0 + _ ≤ _; exact Nat.le_of_eq rfl) (hb hby at_46) rfl (by decide) (by decide) ?_
    rintro rv3 T3 L3 X3 ⟨hv3, Nq3, eh3⟩
    have N3 := Fr.app N0 Nq3
    rw [if_neg n_WON_ABSENT] at hv3
    subst hv3
    show own_Fin p e below _ T3 (mkF m 49 #[.val (.int p0), .val (.int k), .val (.ref aWON), .val (.int (0 : Int32)), .unset] [(.int (0 : Int32))])
    refine own_by (T' := T3) (g' := (mkF m 51 #[.val (.int p0), .val (.int k), .val (.ref aWON), .val (.int (0 : Int32)), .val (.int (0 : Int32))] [])) (fun _ kq => XS.istore X3.here hx rfl (hb hby at_49) rfl (l' := #[.val (.int p0), .val (.int k), .val (.ref aWON), .val (.int (0 : Int32)), .val (.int (0 : Int32))]) rfl kq) ?_
    refine own_by (T' := T3) (g' := (mkF m 53 #[.val (.int p0), .val (.int k), .val (.ref aWON), .val (.int (0 : Int32)), .val (.int (0 : Int32))] [(.int (0 : Int32))])) (fun _ kq => XS.iload X3.here hx rfl (hb hby at_51) rfl kq) ?_
    refine own_by (T' := T3) (g' := (mkF m 54 #[.val (.int p0), .val (.int k), .val (.ref aWON), .val (.int (0 : Int32)), .val (.int (0 : Int32))] [(.int (0 : Int32)), (.int (0 : Int32))])) (fun _ kq => XS.iloadN X3.here hx rfl (hb hby at_53) rfl kq) ?_
    refine own_by (T' := T3) (g' := (mkF m 59 #[.val (.int p0), .val (.int k), .val (.ref aWON), .val (.int (0 : Int32)), .val (.int (0 : Int32))] [])) (fun _ kq => XS.icmpYes X3.here hx rfl (pc0 := 54) (pc' := 59) rfl (hb hby at_54) rfl (teq (by decide : (0 : Int32) = (0 : Int32))).1 (by decide) (by decide) kq) ?_
    refine own_by (T' := T3) (g' := (mkF m 61 #[.val (.int p0), .val (.int k), .val (.ref aWON), .val (.int (0 : Int32)), .val (.int (0 : Int32))] [(.int (0 : Int32))])) (fun _ kq => XS.iload X3.here hx rfl (hb hby at_59) rfl kq) ?_
    refine own_by (T' := T3) (g' := (mkF m 80 #[.val (.int p0), .val (.int k), .val (.ref aWON), .val (.int (0 : Int32)), .val (.int (0 : Int32))] [])) (fun _ kq => XS.ifYes X3.here hx rfl (pc0 := 61) (pc' := 80) rfl (hb hby at_61) rfl ((if0 _ _).trans (teq (by decide : (0 : Int32) = (0 : Int32))).1) (by decide) (by decide) kq) ?_
    refine own_by (T' := T3) (g' := (mkF m 81 #[.val (.int p0), .val (.int k), .val (.ref aWON), .val (.int (0 : Int32)), .val (.int (0 : Int32))] [(.int (1 : Int32))])) (fun _ kq => XS.iconst X3.here hx rfl (hb hby at_80) kq) ?_
    exact own_end X3 (v := some (.int (nar .boolean (1 : Int32)))) (fun h => by rw [Bd.returns] at h; cases h) hlk (fun hr => retN X3 hx (t := .boolean) Bd.returns (by simp) (hb hby at_81) hr) (by rw [eh3]; exact ⟨rfl, N3⟩) (by decide) (by decide)
  · refine own_by (T' := s₁) (g' := (mkF m 18 #[.val (.int p0), .val (.int k), .unset, .unset, .unset] [])) (fun _ kq => XS.ifYes X0.here hx rfl (pc0 := 8) (pc' := 18) rfl (hb hby at_8) rfl ((if0 _ _).trans (feq hc1).2) (by decide) (by decide) kq) ?_
    refine own_by (T' := s₁) (g' := (mkF m 19 #[.val (.int p0), .val (.int k), .unset, .unset, .unset] [(.int k)])) (fun _ kq => XS.iloadN X0.here hx rfl (hb hby at_18) rfl kq) ?_
    refine own_by (T' := s₁) (g' := (mkF m 20 #[.val (.int p0), .val (.int k), .unset, .unset, .unset] [(.int (1 : Int32)), (.int k)])) (fun _ kq => XS.iconst X0.here hx rfl (hb hby at_19) kq) ?_
    by_cases hc4 : k = (1 : Int32)
    · refine own_by (T' := s₁) (g' := (mkF m 23 #[.val (.int p0), .val (.int k), .unset, .unset, .unset] [])) (fun _ kq => XS.icmpNo X0.here hx rfl (hb hby at_20) rfl (teq hc4).2 kq) ?_
      obtain ⟨T5, X5, e5, st5⟩ := getS2 X0 hx hZ hown (host := "") (Or.inl (hw _ (List.mem_of_getElem? (i := 23) rfl))) Via.refl e0 S_TAKEN (g := (mkF m 23 #[.val (.int p0), .val (.int k), .unset, .unset, .unset] [])) rfl (hb hby at_23)
      refine own_by (T' := T5) (g' := (mkF m 26 #[.val (.int p0), .val (.int k), .unset, .unset, .unset] [(.ref aTAKEN)])) st5 ?_
      refine own_by (T' := T5) (g' := (mkF m 27 #[.val (.int p0), .val (.int k), .val (.ref aTAKEN), .unset, .unset] [])) (fun _ kq => XS.astoreN X5.here hx rfl (hb hby at_26) rfl rfl (l' := #[.val (.int p0), .val (.int k), .val (.ref aTAKEN), .unset, .unset]) rfl kq) ?_
      refine own_by (T' := T5) (g' := (mkF m 34 #[.val (.int p0), .val (.int k), .val (.ref aTAKEN), .unset, .unset] [])) (fun _ kq => XS.goto X5.here hx rfl (pc0 := 27) (pc' := 34) rfl (hb hby at_27) (by decide) (by decide) kq) ?_
      refine own_by (T' := T5) (g' := (mkF m 35 #[.val (.int p0), .val (.int k), .val (.ref aTAKEN), .unset, .unset] [(.int k)])) (fun _ kq => XS.iloadN X5.here hx rfl (hb hby at_34) rfl kq) ?_
      refine own_by (T' := T5) (g' := (mkF m 36 #[.val (.int p0), .val (.int k), .val (.ref aTAKEN), .unset, .unset] [(.int (2 : Int32)), (.int k)])) (fun _ kq => XS.iconst X5.here hx rfl (hb hby at_35) kq) ?_
      refine own_by (T' := T5) (g' := (mkF m 43 #[.val (.int p0), .val (.int k), .val (.ref aTAKEN), .unset, .unset] [])) (fun _ kq => XS.icmpYes X5.here hx rfl (pc0 := 36) (pc' := 43) rfl (hb hby at_36) rfl (feq (own_clash hc4 (by decide))).2 (by decide) (by decide) kq) ?_
      refine own_by (T' := T5) (g' := (mkF m 44 #[.val (.int p0), .val (.int k), .val (.ref aTAKEN), .unset, .unset] [(.int (0 : Int32))])) (fun _ kq => XS.iconst X5.here hx rfl (hb hby at_43) kq) ?_
      refine own_by (T' := T5) (g' := (mkF m 45 #[.val (.int p0), .val (.int k), .val (.ref aTAKEN), .val (.int (0 : Int32)), .unset] [])) (fun _ kq => XS.istoreN X5.here hx rfl (hb hby at_44) rfl (l' := #[.val (.int p0), .val (.int k), .val (.ref aTAKEN), .val (.int (0 : Int32)), .unset]) rfl kq) ?_
      refine own_by (T' := T5) (g' := (mkF m 46 #[.val (.int p0), .val (.int k), .val (.ref aTAKEN), .val (.int (0 : Int32)), .unset] [(.ref aTAKEN)])) (fun _ kq => XS.aloadN X5.here hx rfl (hb hby at_45) rfl rfl kq) ?_
      refine own_callV X5 hx hZ (y := (⟨"com/example/careful_commit/carefulcommit/Claim", "rowAbsent", "()Z"⟩ : MethodName)) (z := (⟨"com/example/careful_commit/carefulcommit/Claim", "rowAbsent", "()Z"⟩ : MethodName)) hown (hw _ (List.mem_of_getElem? (i := 4) rfl)) (hw _ (List.mem_of_getElem? (i := 5) rfl)) (own_nf (hw _ (List.mem_of_getElem? (i := 7) rfl))) (hw _ (List.mem_of_getElem? (i := 7) rfl)) (hw _ (List.mem_of_getElem? (i := 6) rfl)) (hw _ (List.mem_of_getElem? (i := 8) rfl)) (hw _ (List.mem_of_getElem? (i := 2) rfl)) (by decide) E_TAKEN (own_rm1 l Z a0 hw [] aTAKEN aABSENT h0 n0 Z0 S_ABSENT) (by decide) (by decide) e5 (g := (mkF m 46 #[.val (.int p0), .val (.int k), .val (.ref aTAKEN), .val (.int (0 : Int32)), .unset] [(.ref aTAKEN)])) rfl (by rw [hml]; rfl) (argsL := []) (rest := []) (lenOf own_pd__28_29Z rfl) rfl (W := 0) (by show 2 * 0 + _ ≤ _; exact Nat.le_of_eq rfl) (hb hby at_46) rfl (by decide) (by decide) ?_
      rintro rv6 T6 L6 X6 ⟨hv6, Nq6, eh6⟩
      have N6 := Fr.app N0 Nq6
      rw [if_neg n_TAKEN_ABSENT] at hv6
      subst hv6
      show own_Fin p e below _ T6 (mkF m 49 #[.val (.int p0), .val (.int k), .val (.ref aTAKEN), .val (.int (0 : Int32)), .unset] [(.int (0 : Int32))])
      refine own_by (T' := T6) (g' := (mkF m 51 #[.val (.int p0), .val (.int k), .val (.ref aTAKEN), .val (.int (0 : Int32)), .val (.int (0 : Int32))] [])) (fun _ kq => XS.istore X6.here hx rfl (hb hby at_49) rfl (l' := #[.val (.int p0), .val (.int k), .val (.ref aTAKEN), .val (.int (0 : Int32)), .val (.int (0 : Int32))]) rfl kq) ?_
      refine own_by (T' := T6) (g' := (mkF m 53 #[.val (.int p0), .val (.int k), .val (.ref aTAKEN), .val (.int (0 : Int32)), .val (.int (0 : Int32))] [(.int (0 : Int32))])) (fun _ kq => XS.iload X6.here hx rfl (hb hby at_51) rfl kq) ?_
      refine own_by (T' := T6) (g' := (mkF m 54 #[.val (.int p0), .val (.int k), .val (.ref aTAKEN), .val (.int (0 : Int32)), .val (.int (0 : Int32))] [(.int (0 : Int32)), (.int (0 : Int32))])) (fun _ kq => XS.iloadN X6.here hx rfl (hb hby at_53) rfl kq) ?_
      refine own_by (T' := T6) (g' := (mkF m 59 #[.val (.int p0), .val (.int k), .val (.ref aTAKEN), .val (.int (0 : Int32)), .val (.int (0 : Int32))] [])) (fun _ kq => XS.icmpYes X6.here hx rfl (pc0 := 54) (pc' := 59) rfl (hb hby at_54) rfl (teq (by decide : (0 : Int32) = (0 : Int32))).1 (by decide) (by decide) kq) ?_
      refine own_by (T' := T6) (g' := (mkF m 61 #[.val (.int p0), .val (.int k), .val (.ref aTAKEN), .val (.int (0 : Int32)), .val (.int (0 : Int32))] [(.int (0 : Int32))])) (fun _ kq => XS.iload X6.here hx rfl (hb hby at_59) rfl kq) ?_
      refine own_by (T' := T6) (g' := (mkF m 80 #[.val (.int p0), .val (.int k), .val (.ref aTAKEN), .val (.int (0 : Int32)), .val (.int (0 : Int32))] [])) (fun _ kq => XS.ifYes X6.here hx rfl (pc0 := 61) (pc' := 80) rfl (hb hby at_61) rfl ((if0 _ _).trans (teq (by decide : (0 : Int32) = (0 : Int32))).1) (by decide) (by decide) kq) ?_
      refine own_by (T' := T6) (g' := (mkF m 81 #[.val (.int p0), .val (.int k), .val (.ref aTAKEN), .val (.int (0 : Int32)), .val (.int (0 : Int32))] [(.int (1 : Int32))])) (fun _ kq => XS.iconst X6.here hx rfl (hb hby at_80) kq) ?_
      exact own_end X6 (v := some (.int (nar .boolean (1 : Int32)))) (fun h => by rw [Bd.returns] at h; cases h) hlk (fun hr => retN X6 hx (t := .boolean) Bd.returns (by simp) (hb hby at_81) hr) (by rw [eh6]; exact ⟨rfl, N6⟩) (by decide) (by decide)
    · refine own_by (T' := s₁) (g' := (mkF m 30 #[.val (.int p0), .val (.int k), .unset, .unset, .unset] [])) (fun _ kq => XS.icmpYes X0.here hx rfl (pc0 := 20) (pc' := 30) rfl (hb hby at_20) rfl (feq hc4).2 (by decide) (by decide) kq) ?_
      obtain ⟨T7, X7, e7, st7⟩ := getS2 X0 hx hZ hown (host := "") (Or.inl (hw _ (List.mem_of_getElem? (i := 11) rfl))) Via.refl e0 S_ABSENT (g := (mkF m 30 #[.val (.int p0), .val (.int k), .unset, .unset, .unset] [])) rfl (hb hby at_30)
      refine own_by (T' := T7) (g' := (mkF m 33 #[.val (.int p0), .val (.int k), .unset, .unset, .unset] [(.ref aABSENT)])) st7 ?_
      refine own_by (T' := T7) (g' := (mkF m 34 #[.val (.int p0), .val (.int k), .val (.ref aABSENT), .unset, .unset] [])) (fun _ kq => XS.astoreN X7.here hx rfl (hb hby at_33) rfl rfl (l' := #[.val (.int p0), .val (.int k), .val (.ref aABSENT), .unset, .unset]) rfl kq) ?_
      refine own_by (T' := T7) (g' := (mkF m 35 #[.val (.int p0), .val (.int k), .val (.ref aABSENT), .unset, .unset] [(.int k)])) (fun _ kq => XS.iloadN X7.here hx rfl (hb hby at_34) rfl kq) ?_
      refine own_by (T' := T7) (g' := (mkF m 36 #[.val (.int p0), .val (.int k), .val (.ref aABSENT), .unset, .unset] [(.int (2 : Int32)), (.int k)])) (fun _ kq => XS.iconst X7.here hx rfl (hb hby at_35) kq) ?_
      refine own_by (T' := T7) (g' := (mkF m 39 #[.val (.int p0), .val (.int k), .val (.ref aABSENT), .unset, .unset] [])) (fun _ kq => XS.icmpNo X7.here hx rfl (hb hby at_36) rfl (teq (own_two hr hc1 hc4)).2 kq) ?_
      refine own_by (T' := T7) (g' := (mkF m 40 #[.val (.int p0), .val (.int k), .val (.ref aABSENT), .unset, .unset] [(.int (1 : Int32))])) (fun _ kq => XS.iconst X7.here hx rfl (hb hby at_39) kq) ?_
      refine own_by (T' := T7) (g' := (mkF m 44 #[.val (.int p0), .val (.int k), .val (.ref aABSENT), .unset, .unset] [(.int (1 : Int32))])) (fun _ kq => XS.goto X7.here hx rfl (pc0 := 40) (pc' := 44) rfl (hb hby at_40) (by decide) (by decide) kq) ?_
      refine own_by (T' := T7) (g' := (mkF m 45 #[.val (.int p0), .val (.int k), .val (.ref aABSENT), .val (.int (1 : Int32)), .unset] [])) (fun _ kq => XS.istoreN X7.here hx rfl (hb hby at_44) rfl (l' := #[.val (.int p0), .val (.int k), .val (.ref aABSENT), .val (.int (1 : Int32)), .unset]) rfl kq) ?_
      refine own_by (T' := T7) (g' := (mkF m 46 #[.val (.int p0), .val (.int k), .val (.ref aABSENT), .val (.int (1 : Int32)), .unset] [(.ref aABSENT)])) (fun _ kq => XS.aloadN X7.here hx rfl (hb hby at_45) rfl rfl kq) ?_
      refine own_callV X7 hx hZ (y := (⟨"com/example/careful_commit/carefulcommit/Claim", "rowAbsent", "()Z"⟩ : MethodName)) (z := (⟨"com/example/careful_commit/carefulcommit/Claim", "rowAbsent", "()Z"⟩ : MethodName)) hown (hw _ (List.mem_of_getElem? (i := 4) rfl)) (hw _ (List.mem_of_getElem? (i := 5) rfl)) (own_nf (hw _ (List.mem_of_getElem? (i := 7) rfl))) (hw _ (List.mem_of_getElem? (i := 7) rfl)) (hw _ (List.mem_of_getElem? (i := 6) rfl)) (hw _ (List.mem_of_getElem? (i := 8) rfl)) (hw _ (List.mem_of_getElem? (i := 2) rfl)) (by decide) E_ABSENT (own_rm1 l Z a0 hw [] aABSENT aABSENT h0 n0 Z0 S_ABSENT) (by decide) (by decide) e7 (g := (mkF m 46 #[.val (.int p0), .val (.int k), .val (.ref aABSENT), .val (.int (1 : Int32)), .unset] [(.ref aABSENT)])) rfl (by rw [hml]; rfl) (argsL := []) (rest := []) (lenOf own_pd__28_29Z rfl) rfl (W := 0) (by show 2 * 0 + _ ≤ _; exact Nat.le_of_eq rfl) (hb hby at_46) rfl (by decide) (by decide) ?_
      rintro rv8 T8 L8 X8 ⟨hv8, Nq8, eh8⟩
      have N8 := Fr.app N0 Nq8
      rw [if_pos rfl] at hv8
      subst hv8
      show own_Fin p e below _ T8 (mkF m 49 #[.val (.int p0), .val (.int k), .val (.ref aABSENT), .val (.int (1 : Int32)), .unset] [(.int (1 : Int32))])
      refine own_by (T' := T8) (g' := (mkF m 51 #[.val (.int p0), .val (.int k), .val (.ref aABSENT), .val (.int (1 : Int32)), .val (.int (1 : Int32))] [])) (fun _ kq => XS.istore X8.here hx rfl (hb hby at_49) rfl (l' := #[.val (.int p0), .val (.int k), .val (.ref aABSENT), .val (.int (1 : Int32)), .val (.int (1 : Int32))]) rfl kq) ?_
      refine own_by (T' := T8) (g' := (mkF m 53 #[.val (.int p0), .val (.int k), .val (.ref aABSENT), .val (.int (1 : Int32)), .val (.int (1 : Int32))] [(.int (1 : Int32))])) (fun _ kq => XS.iload X8.here hx rfl (hb hby at_51) rfl kq) ?_
      refine own_by (T' := T8) (g' := (mkF m 54 #[.val (.int p0), .val (.int k), .val (.ref aABSENT), .val (.int (1 : Int32)), .val (.int (1 : Int32))] [(.int (1 : Int32)), (.int (1 : Int32))])) (fun _ kq => XS.iloadN X8.here hx rfl (hb hby at_53) rfl kq) ?_
      refine own_by (T' := T8) (g' := (mkF m 59 #[.val (.int p0), .val (.int k), .val (.ref aABSENT), .val (.int (1 : Int32)), .val (.int (1 : Int32))] [])) (fun _ kq => XS.icmpYes X8.here hx rfl (pc0 := 54) (pc' := 59) rfl (hb hby at_54) rfl (teq (by decide : (1 : Int32) = (1 : Int32))).1 (by decide) (by decide) kq) ?_
      refine own_by (T' := T8) (g' := (mkF m 61 #[.val (.int p0), .val (.int k), .val (.ref aABSENT), .val (.int (1 : Int32)), .val (.int (1 : Int32))] [(.int (1 : Int32))])) (fun _ kq => XS.iload X8.here hx rfl (hb hby at_59) rfl kq) ?_
      refine own_by (T' := T8) (g' := (mkF m 64 #[.val (.int p0), .val (.int k), .val (.ref aABSENT), .val (.int (1 : Int32)), .val (.int (1 : Int32))] [])) (fun _ kq => XS.ifNo X8.here hx rfl (hb hby at_61) rfl ((if0 _ _).trans (feq (by decide : ¬ ((1 : Int32) = (0 : Int32)))).1) kq) ?_
      refine own_by (T' := T8) (g' := (mkF m 65 #[.val (.int p0), .val (.int k), .val (.ref aABSENT), .val (.int (1 : Int32)), .val (.int (1 : Int32))] [(.ref aABSENT)])) (fun _ kq => XS.aloadN X8.here hx rfl (hb hby at_64) rfl rfl kq) ?_
      refine own_callV X8 hx hZ (y := (⟨"com/example/careful_commit/carefulcommit/Claim", "won", "()Z"⟩ : MethodName)) (z := (⟨"com/example/careful_commit/carefulcommit/Claim", "won", "()Z"⟩ : MethodName)) hown (hw _ (List.mem_of_getElem? (i := 12) rfl)) (hw _ (List.mem_of_getElem? (i := 13) rfl)) (own_nf (hw _ (List.mem_of_getElem? (i := 15) rfl))) (hw _ (List.mem_of_getElem? (i := 15) rfl)) (hw _ (List.mem_of_getElem? (i := 14) rfl)) (hw _ (List.mem_of_getElem? (i := 16) rfl)) (hw _ (List.mem_of_getElem? (i := 2) rfl)) (by decide) E_ABSENT (own_rm2 l Z a0 hw [] aABSENT aWON h0 n0 Z0 S_WON) (by decide) (by decide) eh8 (g := (mkF m 65 #[.val (.int p0), .val (.int k), .val (.ref aABSENT), .val (.int (1 : Int32)), .val (.int (1 : Int32))] [(.ref aABSENT)])) rfl (by rw [hml]; rfl) (argsL := []) (rest := []) (lenOf own_pd__28_29Z rfl) rfl (W := 0) (by show 2 * 0 + _ ≤ _; exact Nat.le_of_eq rfl) (hb hby at_65) rfl (by decide) (by decide) ?_
      rintro rv9 T9 L9 X9 ⟨hv9, Nq9, eh9⟩
      have N9 := Fr.app N8 Nq9
      rw [if_neg n_ABSENT_WON] at hv9
      subst hv9
      show own_Fin p e below _ T9 (mkF m 68 #[.val (.int p0), .val (.int k), .val (.ref aABSENT), .val (.int (1 : Int32)), .val (.int (1 : Int32))] [(.int (0 : Int32))])
      refine own_by (T' := T9) (g' := (mkF m 71 #[.val (.int p0), .val (.int k), .val (.ref aABSENT), .val (.int (1 : Int32)), .val (.int (1 : Int32))] [])) (fun _ kq => XS.ifNo X9.here hx rfl (hb hby at_68) rfl ((if0 _ _).trans (teq (by decide : (0 : Int32) = (0 : Int32))).2) kq) ?_
      refine own_by (T' := T9) (g' := (mkF m 72 #[.val (.int p0), .val (.int k), .val (.ref aABSENT), .val (.int (1 : Int32)), .val (.int (1 : Int32))] [(.ref aABSENT)])) (fun _ kq => XS.aloadN X9.here hx rfl (hb hby at_71) rfl rfl kq) ?_
      refine own_callV X9 hx hZ (y := (⟨"com/example/careful_commit/carefulcommit/Claim", "taken", "()Z"⟩ : MethodName)) (z := (⟨"com/example/careful_commit/carefulcommit/Claim", "taken", "()Z"⟩ : MethodName)) hown (hw _ (List.mem_of_getElem? (i := 18) rfl)) (hw _ (List.mem_of_getElem? (i := 19) rfl)) (own_nf (hw _ (List.mem_of_getElem? (i := 21) rfl))) (hw _ (List.mem_of_getElem? (i := 21) rfl)) (hw _ (List.mem_of_getElem? (i := 20) rfl)) (hw _ (List.mem_of_getElem? (i := 22) rfl)) (hw _ (List.mem_of_getElem? (i := 2) rfl)) (by decide) E_ABSENT (own_rm3 l Z a0 hw [] aABSENT aWON h0 n0 Z0 S_WON) (by decide) (by decide) eh9 (g := (mkF m 72 #[.val (.int p0), .val (.int k), .val (.ref aABSENT), .val (.int (1 : Int32)), .val (.int (1 : Int32))] [(.ref aABSENT)])) rfl (by rw [hml]; rfl) (argsL := []) (rest := []) (lenOf own_pd__28_29Z rfl) rfl (W := 0) (by show 2 * 0 + _ ≤ _; exact Nat.le_of_eq rfl) (hb hby at_72) rfl (by decide) (by decide) ?_
      rintro rv10 T10 L10 X10 ⟨hv10, Nq10, eh10⟩
      have N10 := Fr.app N9 Nq10
      rw [if_neg n_ABSENT_WON] at hv10
      subst hv10
      show own_Fin p e below _ T10 (mkF m 75 #[.val (.int p0), .val (.int k), .val (.ref aABSENT), .val (.int (1 : Int32)), .val (.int (1 : Int32))] [(.int (1 : Int32))])
      refine own_by (T' := T10) (g' := (mkF m 80 #[.val (.int p0), .val (.int k), .val (.ref aABSENT), .val (.int (1 : Int32)), .val (.int (1 : Int32))] [])) (fun _ kq => XS.ifYes X10.here hx rfl (pc0 := 75) (pc' := 80) rfl (hb hby at_75) rfl ((if0 _ _).trans (feq (by decide : ¬ ((1 : Int32) = (0 : Int32)))).2) (by decide) (by decide) kq) ?_
      refine own_by (T' := T10) (g' := (mkF m 81 #[.val (.int p0), .val (.int k), .val (.ref aABSENT), .val (.int (1 : Int32)), .val (.int (1 : Int32))] [(.int (1 : Int32))])) (fun _ kq => XS.iconst X10.here hx rfl (hb hby at_80) kq) ?_
      exact own_end X10 (v := some (.int (nar .boolean (1 : Int32)))) (fun h => by rw [Bd.returns] at h; cases h) hlk (fun hr => retN X10 hx (t := .boolean) Bd.returns (by simp) (hb hby at_81) hr) (by rw [eh10]; exact ⟨rfl, N10⟩) (by decide) (by decide)
set_option maxRecDepth 65536 in
set_option maxHeartbeats 40000000 in
theorem own_comes {Post : Tables → Env → Array Value → State → Outcome → State → Prop} (hpost : ∀ tb e args s v u, (limb_1_1.after args s (.returned v) u = true ∧ limb_1_2.after args s (.returned v) u = true ∧ True) → FrameEnd s (.returned v) u (Jvm.fieldLocs frame_1_writes args s ++ Jvm.arrayLocs frame_1_arrays args s ++ Jvm.staticLocs frame_1_statics s) 0 0 → Post tb e args s (.returned v) u) :
    ArmFor flags0 classFile x code maxLocals ret World_1 tables_1 room_1 Calls_1 rest_1 Pre_1 Post := by
  intro l hfl _ _ p e ha hc hk s m args below hf hA hF happ hP
  obtain ⟨hcalls, hrest, hpre⟩ := hP
  obtain ⟨-, -, -, hnamed, -, -, -, hat⟩ := (Spec.applies_iff hf).mp happ
  obtain ⟨hg, hn⟩ := and_e (Cond.before_iff.mp (show (Jvm.Cond.and given_1 narrow_1).before args s = true from hpre))
  obtain ⟨g0, g1⟩ := and_e hg
  obtain ⟨w0, rfl⟩ : ∃ w0 : Value, args = #[w0] := by
    have hs : args.size = 1 := by simpa [Jvm.Cond.value, given_1] using g0
    obtain ⟨L⟩ := args
    match L, hs with
    | [w0], _ => exact ⟨w0, rfl⟩
  have hw := fun d (hd : d ∈ tables_1) => atoms_spec (ws := Jvm.Cond.code x code maxLocals ret :: tables_1) hat d (List.mem_cons_of_mem _ hd)
  have hfit : Fit s := fun {y c} hc i hi => by
    obtain ⟨ha, rfl⟩ := Array.getElem?_eq_some_iff.mp hc
    have q := List.all_eq_true.mp ((Array.all_eq_true_iff_forall_mem.mp hF) _ (Array.getElem_mem ha)) i (List.mem_range.mpr hi)
    simpa [Array.getElem?_eq_getElem hi] using q
  obtain ⟨i0, ei0⟩ := is_v g1
  obtain rfl : w0 = (.int i0) := Option.some.inj ei0
  obtain ⟨g2, g3⟩ := and_e hn
  obtain ⟨g4, g5⟩ := and_e g3
  obtain ⟨g6, g7⟩ := and_e g5
  obtain ⟨g8, g9⟩ := and_e g7
  obtain ⟨g10, g11⟩ := and_e g9
  obtain ⟨a_WON, ea_WON⟩ := exa_v g2
  have E_WON := Exa.start ea_WON g2
  have S_WON := Sta.start ea_WON (Or.inr ⟨(hw _ (List.mem_of_getElem? (i := 2) rfl)), (hw _ (List.mem_of_getElem? (i := 3) rfl))⟩)
  obtain ⟨a_ABSENT, ea_ABSENT⟩ := exa_v g4
  have E_ABSENT := Exa.start ea_ABSENT g4
  have S_ABSENT := Sta.start ea_ABSENT (Or.inr ⟨(hw _ (List.mem_of_getElem? (i := 2) rfl)), (hw _ (List.mem_of_getElem? (i := 10) rfl))⟩)
  obtain ⟨a_TAKEN, ea_TAKEN⟩ := exa_v g10
  have E_TAKEN := Exa.start ea_TAKEN g10
  have S_TAKEN := Sta.start ea_TAKEN (Or.inr ⟨(hw _ (List.mem_of_getElem? (i := 2) rfl)), (hw _ (List.mem_of_getElem? (i := 24) rfl))⟩)
  have O_WON := own_fldI g6 ea_WON
  have O_ABSENT := own_fldI g8 ea_ABSENT
  have O_TAKEN := own_fldI g11 ea_TAKEN
  obtain ⟨n, o, h1, h2, h3, _, L, rfl, ⟨rfl, N⟩, hq⟩ := own_rm0 l s _ hw tables_1 i0 a_WON a_TAKEN a_ABSENT s.heap s.heap.size (Nat.le_refl _) S_WON S_TAKEN S_ABSENT E_WON E_TAKEN E_ABSENT (O_WON.ne O_ABSENT (by decide)) (O_TAKEN.ne O_ABSENT (by decide)) (O_ABSENT.ne O_WON (by decide)) (O_TAKEN.ne O_WON (by decide)) p e ha hc hk s m _ below hf ((Spec.applies_iff_loose hf).mp happ).1 ⟨rfl, State.Warmed39.refl s, rfl⟩ trivial
  refine ⟨n, _, h1, h2, h3, hpost _ _ _ _ _ _ ⟨Cond.after_iff.mpr rfl, Cond.after_iff.mpr (eq_i res_at (Term.int_eval (1)) rfl), trivial⟩ ⟨hq.1, hq.2.1, (hq.2.2.sift fun y hy => Or.inr (N y hy)).mono (by decide) (by decide)⟩⟩
theorem main_1_1 : Claimed_1_1 := own_comes fun _ _ _ _ _ _ h hF => ⟨h.1, hF⟩
theorem main_1_2 : Claimed_1_2 := own_comes fun _ _ _ _ _ _ h hF => ⟨h.2.1, hF⟩
end Jvm.Pilot.@@N@@
namespace Jvm.Pilot.@@N@@
open Jvm Jvm.ClassFile Sem Op Lib Jvm.Free Jvm.Stand Jvm.Pilot.@@N@@.Jvm.D
/-! MADE BY PROGRAM (witnessworld.py) out of the Statement's table words and the real class files: 12 classes; the members and pool entries that the words name. The judged class is class 1, her method 1. -/
namespace start1
open Jvm.ClassFile
def u (s : String) : CpInfo := .utf8 (stringToUtf16 s)
/-- a pool by its gaps: so many unusable entries, then the entry; so many at the end -/
def gap : Nat → List CpInfo → List CpInfo
  | 0, r => r
  | n + 1, r => .unusable :: gap n r
def poolList (es : List (Nat × CpInfo)) (last : Nat) : List CpInfo := es.foldr (fun e r => gap e.1 (e.2 :: r)) (gap last [])
def pool (es : List (Nat × CpInfo)) (last : Nat) : Array CpInfo := ⟨poolList es last⟩
def fileOf (pool : Array CpInfo) (this : Nat) (attrs : Array Attribute := #[]) (ms : Array MethodInfo := #[]) (fl : Nat := 33) (sup : Nat := 0) (ifs : Array Nat := #[]) (fds : Array FieldInfo := #[]) : ClassFile where
  minorVersion := 0
  majorVersion := 65
  constantPool := pool
  accessFlags := fl
  thisClass := this
  superClass := sup
  interfaces := ifs
  fields := fds
  methods := ms
  attributes := attrs
def plain (name : String) (sup : Option ClassId) : Class where
  name := name
  kind := .ordinary
  loader := none
  accessFlags := 33
  super := sup
  interfaces := #[]
  cf := none
  fields := #[]
  methods := #[]
  instanceTypes := #[]
  staticTypes := #[]
  resolved := #[]
  callSites := []
  init := .initialized
  statics := none
  mirror := none

def pool0 : Array CpInfo := pool [(5, u "<init>"), (0, u "()V"), (1, .class_ 10), (1, u "java/lang/Object")] 113

def k0m0 : Method := { name := "<init>", desc := "()V", sig := { parameters := [], returnType := none }, accessFlags := 1, code := none }
/-- java/lang/Object -/
def k0 : Class := { plain "java/lang/Object" none with
  accessFlags := 33
  interfaces := #[]
  cf := some (fileOf pool0 8 #[] #[{ accessFlags := 1, nameIndex := 5, descriptorIndex := 6, attributes := #[] }] 33 0 #[] #[])
  fields := #[]
  methods := #[k0m0]
  instanceTypes := #[]
  staticTypes := #[]
  resolved := Array.replicate 124 none
  statics := none }

def pool1 : Array CpInfo := pool [(2, .class_ 4), (1, u "java/lang/Object"), (0, u "<init>"), (0, u "()V"), (0, .integer 2147483647), (0, .fieldref 9 10), (0, .class_ 11), (0, .nameAndType 12 13), (0, u "com/example/careful_commit/carefulcommit/Claim"), (0, u "WON"), (0, u "Lcom/example/careful_commit/carefulcommit/Claim;"), (0, .fieldref 9 15), (0, .nameAndType 16 13), (0, u "TAKEN"), (0, .fieldref 9 18), (0, .nameAndType 19 13), (0, u "ABSENT"), (0, .methodref 9 21), (0, .nameAndType 22 23), (0, u "rowAbsent"), (0, u "()Z"), (0, .methodref 9 25), (0, .nameAndType 26 23), (0, u "won"), (0, .methodref 9 28), (0, .nameAndType 29 23), (0, u "taken"), (0, .class_ 31), (0, u "com/example/careful_commit/carefulcommit/ClaimRowAbsentPinLaw"), (2, u "law"), (0, u "(I)Z")] 3

def k1m0 : Method := { name := "<init>", desc := "()V", sig := { parameters := [], returnType := none }, accessFlags := 1, code := none }
def k1c1 : Code := { maxStack := 2, maxLocals := 5, code := code, exceptionTable := #[], attributes := #[] }
def k1m1 : Method := { name := "law", desc := "(I)Z", sig := { parameters := [.int], returnType := some .boolean }, accessFlags := 9, code := some k1c1 }
/-- com/example/careful_commit/carefulcommit/ClaimRowAbsentPinLaw -/
def k1 : Class := { plain "com/example/careful_commit/carefulcommit/ClaimRowAbsentPinLaw" (some 0) with
  accessFlags := 49
  interfaces := #[]
  cf := some (fileOf pool1 30 #[] #[{ accessFlags := 1, nameIndex := 5, descriptorIndex := 6, attributes := #[] }, { accessFlags := 9, nameIndex := 34, descriptorIndex := 35, attributes := #[] }] 49 2 #[] #[])
  fields := #[]
  methods := #[k1m0, k1m1]
  instanceTypes := #[]
  staticTypes := #[]
  resolved := Array.replicate 39 none
  statics := none }

def pool2 : Array CpInfo := pool [(1, .class_ 2), (0, u "java/lang/constant/Constable"), (0, .class_ 4), (0, u "java/lang/Object")] 6

/-- java/lang/constant/Constable -/
def k2 : Class := { plain "java/lang/constant/Constable" (some 0) with
  accessFlags := 1537
  interfaces := #[]
  cf := some (fileOf pool2 1 #[] #[] 1537 3 #[] #[])
  fields := #[]
  methods := #[]
  instanceTypes := #[]
  staticTypes := #[]
  resolved := Array.replicate 11 none
  statics := none }

def pool3 : Array CpInfo := pool [(1, .class_ 2), (0, u "java/lang/Comparable"), (0, .class_ 4), (0, u "java/lang/Object")] 7

/-- java/lang/Comparable -/
def k3 : Class := { plain "java/lang/Comparable" (some 0) with
  accessFlags := 1537
  interfaces := #[]
  cf := some (fileOf pool3 1 #[] #[] 1537 3 #[] #[])
  fields := #[]
  methods := #[]
  instanceTypes := #[]
  staticTypes := #[]
  resolved := Array.replicate 12 none
  statics := none }

def pool4 : Array CpInfo := pool [(1, .class_ 2), (0, u "java/io/Serializable"), (0, .class_ 4), (0, u "java/lang/Object")] 2

/-- java/io/Serializable -/
def k4 : Class := { plain "java/io/Serializable" (some 0) with
  accessFlags := 1537
  interfaces := #[]
  cf := some (fileOf pool4 1 #[] #[] 1537 3 #[] #[])
  fields := #[]
  methods := #[]
  instanceTypes := #[]
  staticTypes := #[]
  resolved := Array.replicate 7 none
  statics := none }

def pool5 : Array CpInfo := pool [(2, .class_ 4), (1, u "java/lang/Enum"), (0, u "name"), (0, u "Ljava/lang/String;"), (2, u "ordinal"), (0, u "I"), (1, .class_ 14), (1, u "java/lang/Object"), (4, u "hash"), (86, .class_ 108), (1, u "java/lang/Enum$EnumDesc"), (2, .class_ 112), (0, u "java/lang/constant/Constable"), (0, .class_ 114), (0, u "java/lang/Comparable"), (0, .class_ 116), (0, u "java/io/Serializable")] 87

/-- java/lang/Enum -/
def k5 : Class := { plain "java/lang/Enum" (some 0) with
  accessFlags := 1057
  interfaces := #[2, 3, 4]
  cf := some (fileOf pool5 2 #[.nestMembers #[106]] #[] 1057 12 #[111, 113, 115] #[{ accessFlags := 18, nameIndex := 5, descriptorIndex := 6, attributes := #[] }, { accessFlags := 18, nameIndex := 9, descriptorIndex := 10, attributes := #[] }, { accessFlags := 2, nameIndex := 19, descriptorIndex := 10, attributes := #[] }])
  fields := #[{ name := "name", type := (.object "java/lang/String"), accessFlags := 18, slot := 0, constantValue := 0 }, { name := "ordinal", type := .int, accessFlags := 18, slot := 1, constantValue := 0 }, { name := "hash", type := .int, accessFlags := 2, slot := 2, constantValue := 0 }]
  methods := #[]
  instanceTypes := #[(.object "java/lang/String"), .int, .int]
  staticTypes := #[]
  resolved := Array.replicate 204 none
  statics := none }

def pool6 : Array CpInfo := pool [(1, .class_ 2), (0, u "com/example/careful_commit/carefulcommit/Claim"), (0, .fieldref 1 4), (0, .nameAndType 5 6), (0, u "WON"), (0, u "Lcom/example/careful_commit/carefulcommit/Claim;"), (2, u "TAKEN"), (0, .fieldref 1 11), (0, .nameAndType 12 6), (0, u "ABSENT"), (2, u "$VALUES"), (0, u "[Lcom/example/careful_commit/carefulcommit/Claim;"), (6, .class_ 25), (1, u "java/lang/Enum"), (21, u "won"), (0, u "()Z"), (1, u "taken"), (0, u "rowAbsent")] 4

def k6c0 : Code := { maxStack := 2, maxLocals := 1, code := prog_5_method_4_code, exceptionTable := #[], attributes := #[] }
def k6m0 : Method := { name := "won", desc := "()Z", sig := { parameters := [], returnType := some .boolean }, accessFlags := 1, code := some k6c0 }
def k6c1 : Code := { maxStack := 2, maxLocals := 1, code := prog_5_method_5_code, exceptionTable := #[], attributes := #[] }
def k6m1 : Method := { name := "taken", desc := "()Z", sig := { parameters := [], returnType := some .boolean }, accessFlags := 1, code := some k6c1 }
def k6c2 : Code := { maxStack := 2, maxLocals := 1, code := prog_5_method_6_code, exceptionTable := #[], attributes := #[] }
def k6m2 : Method := { name := "rowAbsent", desc := "()Z", sig := { parameters := [], returnType := some .boolean }, accessFlags := 1, code := some k6c2 }
/-- com/example/careful_commit/carefulcommit/Claim -/
def k6 : Class := { plain "com/example/careful_commit/carefulcommit/Claim" (some 5) with
  accessFlags := 16433
  interfaces := #[]
  cf := some (fileOf pool6 1 #[] #[{ accessFlags := 1, nameIndex := 47, descriptorIndex := 48, attributes := #[] }, { accessFlags := 1, nameIndex := 50, descriptorIndex := 48, attributes := #[] }, { accessFlags := 1, nameIndex := 51, descriptorIndex := 48, attributes := #[] }] 16433 23 #[] #[{ accessFlags := 16409, nameIndex := 5, descriptorIndex := 6, attributes := #[] }, { accessFlags := 16409, nameIndex := 9, descriptorIndex := 6, attributes := #[] }, { accessFlags := 16409, nameIndex := 12, descriptorIndex := 6, attributes := #[] }, { accessFlags := 4122, nameIndex := 15, descriptorIndex := 16, attributes := #[] }])
  fields := #[{ name := "WON", type := (.object "com/example/careful_commit/carefulcommit/Claim"), accessFlags := 16409, slot := 0, constantValue := 0 }, { name := "TAKEN", type := (.object "com/example/careful_commit/carefulcommit/Claim"), accessFlags := 16409, slot := 1, constantValue := 0 }, { name := "ABSENT", type := (.object "com/example/careful_commit/carefulcommit/Claim"), accessFlags := 16409, slot := 2, constantValue := 0 }, { name := "$VALUES", type := (.array (.object "com/example/careful_commit/carefulcommit/Claim")), accessFlags := 4122, slot := 3, constantValue := 0 }]
  methods := #[k6m0, k6m1, k6m2]
  instanceTypes := #[(.object "java/lang/String"), .int, .int]
  staticTypes := #[(.object "com/example/careful_commit/carefulcommit/Claim"), (.object "com/example/careful_commit/carefulcommit/Claim"), (.object "com/example/careful_commit/carefulcommit/Claim"), (.array (.object "com/example/careful_commit/carefulcommit/Claim"))]
  resolved := Array.replicate 56 none
  statics := some 0 }

def pool7 : Array CpInfo := pool [(1, u "java/lang/Cloneable"), (0, .class_ 1), (0, u "java/lang/Object"), (0, .class_ 3)] 3

/-- java/lang/Cloneable -/
def k7 : Class := { plain "java/lang/Cloneable" (some 0) with
  accessFlags := 1537
  interfaces := #[]
  cf := some (fileOf pool7 2 #[] #[] 1537 4 #[] #[])
  fields := #[]
  methods := #[]
  instanceTypes := #[]
  staticTypes := #[]
  resolved := Array.replicate 8 none
  statics := none }

/-- the primitive byte -/
def k8 : Class := { plain "byte" none with kind := .primitive 'B', accessFlags := 0x411 }
/-- [B -/
def k9 : Class := { plain "[B" (some 0) with kind := .array 8 .byte, interfaces := #[7, 4], accessFlags := 1041 }

/-- the primitive int -/
def k10 : Class := { plain "int" none with kind := .primitive 'I', accessFlags := 0x411 }
/-- [I -/
def k11 : Class := { plain "[I" (some 0) with kind := .array 10 .int, interfaces := #[7, 4], accessFlags := 1041 }

def heap : Heap := #[{ cls := 6, slots := #[.ref 1, .ref 3, .ref 2, .null], vm := .statics 6 },
  { cls := 6, slots := #[.null, .int 0, .int 0], vm := .none },
  { cls := 6, slots := #[.null, .int 2, .int 0], vm := .none },
  { cls := 6, slots := #[.null, .int 1, .int 0], vm := .none }]
def classes : Array Class := #[k0, k1, k2, k3, k4, k5, k6, k7, k8, k9, k10, k11]
def interned : List (Array UInt16 × Addr) := []
def slotsUsed : Nat := 13
def theMethod : MethodId := ⟨1, 1⟩
def args0 : Array Value := #[.int 5]
def aboutOver (below : List Frame) : State where
  vm := { classes := classes, interned := interned.toArray }
  heap := heap
  slotsUsed := slotsUsed
  threads := #[{ frames := .invoking theMethod args0 :: below }]
def below0 : List Frame := [.native { method := ⟨0, 0⟩, args := #[] }]
def about1 : State := aboutOver below0
def p0 : Program := .bare "" "" ""
def e0 : Env := launch0.env 0 0 0
theorem w_frames : about1.frames = Frame.invoking theMethod args0 :: below0 := rfl
set_option maxRecDepth 65536 in
theorem w_args : argsFit about1.vm theMethod args0 = true := by decide +kernel
set_option maxRecDepth 65536 in
theorem w_heap : heapFits about1 = true := by decide +kernel
set_option maxRecDepth 65536 in
theorem w_runnable : about1.curStatus? = some .runnable := by decide +kernel
set_option maxRecDepth 65536 in
theorem w_alone : about1.alone = true := by decide +kernel
set_option maxRecDepth 65536 in
theorem w_named : about1.methodNamed? x = some theMethod := by decide +kernel
set_option maxRecDepth 65536 in
theorem w_hears : about1.hears theMethod below0 = true := by decide +kernel
set_option maxRecDepth 65536 in
theorem w_ripe : about1.ripe theMethod args0 below0 = true := by decide +kernel
theorem w_running : about1.status = .running := rfl
set_option maxRecDepth 65536 in
theorem w_room : about1.hasRoom e0.platform room_1 = true :=
  launch0.hasRoom_least _ room_1 (by decide +kernel) (by decide +kernel) (by decide +kernel) (by decide +kernel) (by decide +kernel) (by decide +kernel)
theorem allAtoms_all (ts : List Jvm.Cond) (a : Array Jvm.Value) (st : Jvm.State) : (allAtoms ts).before a st = ts.all (fun c => c.before a st) := by
  induction ts with
  | nil => rfl
  | cons c t ih =>
    show (Jvm.Cond.and c (allAtoms t)).before a st = _
    rw [Jvm.Cond.before_and, ih, List.all_cons]
def words1 : List Jvm.Cond := Jvm.Cond.code x code maxLocals ret :: tables_1
/-- a 'code' word, met by the world's own term for the bytes: nothing is compared byte by byte -/
theorem code_word {y : MethodName} {bytes : ByteArray} {mx : Nat} {rt : Option FieldType} {a : Array Value} {s : State} {m : MethodId} {meth : Method} {c : Code} (h1 : s.methodNamed? y = some m) (h2 : s.vm.method? m = some meth) (h3 : meth.code = some c) (h4 : c.code = bytes)
    (h5 : (c.maxLocals == mx && c.exceptionTable.isEmpty && decide (c.maxStack ≤ mostOperands) && decide (meth.sig.returnType = rt) && !meth.locks && decide (parseMethodDescriptor y.desc = some meth.sig)) = true) : (Jvm.Cond.code y bytes mx rt).before a s = true := by
  simp only [Bool.and_eq_true, beq_iff_eq, Bool.not_eq_true', decide_eq_true_eq] at h5
  obtain ⟨⟨⟨⟨⟨g1, g2⟩, g3⟩, g4⟩, g5⟩, g6⟩ := h5
  simp [Cond.before, Cond.holds, Cond.value, h1, h2, h3, h4, g1, g2, g3, g4, g5, g6]
def isCode : Jvm.Cond → Bool
  | .code _ _ _ _ => true
  | _ => false
theorem all_split {L : List Jvm.Cond} {P : Jvm.Cond → Bool} (h1 : L.all (fun c => isCode c || P c) = true) (h2 : ∀ c ∈ L.filter isCode, P c = true) : L.all P = true := by
  refine List.all_eq_true.mpr fun c hc => ?_
  have h := List.all_eq_true.mp h1 c hc
  rcases Bool.eq_false_or_eq_true (isCode c) with hi | hi
  · exact h2 c (List.mem_filter.mpr ⟨hc, hi⟩)
  · simpa [hi] using h
set_option maxRecDepth 65536 in
theorem w_c0 : (Jvm.Cond.code x code maxLocals ret).before args0 about1 = true := code_word (m := ⟨1, 1⟩) (meth := k1m1) (c := k1c1) (by decide +kernel) rfl rfl rfl (by decide +kernel)
set_option maxRecDepth 65536 in
theorem w_c1 : (Jvm.Cond.code ({ cls := "com/example/careful_commit/carefulcommit/Claim", name := "rowAbsent", desc := "()Z" } : Jvm.MethodName) prog_5_method_6_code (1 : Nat) (Option.some Jvm.ClassFile.FieldType.boolean)).before args0 about1 = true := code_word (m := ⟨6, 2⟩) (meth := k6m2) (c := k6c2) (by decide +kernel) rfl rfl rfl (by decide +kernel)
set_option maxRecDepth 65536 in
theorem w_c2 : (Jvm.Cond.code ({ cls := "com/example/careful_commit/carefulcommit/Claim", name := "won", desc := "()Z" } : Jvm.MethodName) prog_5_method_4_code (1 : Nat) (Option.some Jvm.ClassFile.FieldType.boolean)).before args0 about1 = true := code_word (m := ⟨6, 0⟩) (meth := k6m0) (c := k6c0) (by decide +kernel) rfl rfl rfl (by decide +kernel)
set_option maxRecDepth 65536 in
theorem w_c3 : (Jvm.Cond.code ({ cls := "com/example/careful_commit/carefulcommit/Claim", name := "taken", desc := "()Z" } : Jvm.MethodName) prog_5_method_5_code (1 : Nat) (Option.some Jvm.ClassFile.FieldType.boolean)).before args0 about1 = true := code_word (m := ⟨6, 1⟩) (meth := k6m1) (c := k6c1) (by decide +kernel) rfl rfl rfl (by decide +kernel)
def codes1 : List Jvm.Cond := [Jvm.Cond.code x code maxLocals ret, Jvm.Cond.code ({ cls := "com/example/careful_commit/carefulcommit/Claim", name := "rowAbsent", desc := "()Z" } : Jvm.MethodName) prog_5_method_6_code (1 : Nat) (Option.some Jvm.ClassFile.FieldType.boolean), Jvm.Cond.code ({ cls := "com/example/careful_commit/carefulcommit/Claim", name := "won", desc := "()Z" } : Jvm.MethodName) prog_5_method_4_code (1 : Nat) (Option.some Jvm.ClassFile.FieldType.boolean), Jvm.Cond.code ({ cls := "com/example/careful_commit/carefulcommit/Claim", name := "taken", desc := "()Z" } : Jvm.MethodName) prog_5_method_5_code (1 : Nat) (Option.some Jvm.ClassFile.FieldType.boolean)]
set_option maxRecDepth 65536 in
theorem codes_eq : words1.filter isCode = codes1 := rfl
theorem w_codes : ∀ c ∈ words1.filter isCode, c.before args0 about1 = true := by
  rw [codes_eq]
  intro c hc
  simp only [codes1, List.mem_cons, List.not_mem_nil, or_false] at hc
  rcases hc with rfl | rfl | rfl | rfl
  · exact w_c0
  · exact w_c1
  · exact w_c2
  · exact w_c3
set_option maxRecDepth 65536 in
theorem w_t1 : (words1.take 24).all (fun c => isCode c || c.before args0 about1) = true := by decide +kernel
set_option maxRecDepth 65536 in
theorem w_t2 : (words1.drop 24).all (fun c => isCode c || c.before args0 about1) = true := by decide +kernel
theorem w_tables : (allAtoms (Jvm.Cond.code x code maxLocals ret :: tables_1)).before args0 about1 = true := by
  rw [allAtoms_all]
  show words1.all (fun c => c.before args0 about1) = true
  refine all_split ?_ w_codes
  rw [← List.take_append_drop 24 words1, List.all_append, w_t1, w_t2]
  rfl
set_option maxRecDepth 65536 in
theorem w_case : (Jvm.Cond.and given_1 narrow_1).before args0 about1 = true := by decide +kernel
theorem w_applies : (headSpec (Jvm.Cond.code x code maxLocals ret :: tables_1) room_1).applies x e0.platform about1 = true :=
  (Spec.applies_iff w_frames).mpr ⟨w_running, w_runnable, w_alone, w_named, w_hears, w_ripe, w_room, w_tables⟩
theorem atStart : AtStart classFile x code maxLocals ret World_1 tables_1 room_1 Calls_1 rest_1 Pre_1 launch0 p0 e0 about1 theMethod args0 below0 :=
  ⟨lists_1, trivial, launch0.admits_env _ _ _, launch0.least_env, fairChoices_fair.cas, fairChoices_fair.clock, w_frames, w_args, w_heap, w_applies, trivial, trivial, w_case⟩
end start1
theorem witness_1 : WitnessClaimed_1 := ⟨start1.p0, start1.e0, start1.about1, start1.theMethod, start1.args0, start1.below0, start1.atStart⟩
end Jvm.Pilot.@@N@@
