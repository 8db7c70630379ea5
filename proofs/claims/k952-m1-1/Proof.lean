import JvmDerived
import JvmDerived.Pilot.@@N@@Statement
import JvmDerived.Pilot.@@N@@Code
set_option linter.unusedVariables false
set_option linter.unusedSimpArgs false
namespace Jvm.Pilot.@@N@@
open Jvm Jvm.ClassFile Sem Op Lib Jvm.Free Jvm.Stand Jvm.LawKit Jvm.RoadKit Bundle Jvm.Pilot.@@N@@.Jvm.D
section OwnKit
variable {p : Program} {l : Launch} {e : Env} {R : Room} {s : State} {m : MethodId} {args : Array Value} {below : List Frame} {meth : Method} {c : Code} {T T' : State} {locs : List Loc} {cells slots : Nat} {Z : State} {a0 : Array Value} {h : Heap}
def own_Fin (p : Program) (e : Env) (below : List Frame) (P : Outcome → State → Prop) (T : State) (g : JFrame) : Prop :=
  ∃ s₂ o, Steps p.tables e below (T.setTop g) s₂ ∧ s₂.status = .running ∧ Ended s₂ below o ∧ P o s₂
def own_P (s : State) (Q : Option Value → Heap → List Loc → Prop) (k n : Nat) (o : Outcome) (t : State) : Prop := ∃ v L, o = .returned v ∧ Q v t.heap L ∧ FrameEnd s o t L k n
theorem own_by {P : Outcome → State → Prop} {g g' : JFrame} (st : ∀ t, Steps p.tables e below (T'.setTop g') t → Steps p.tables e below (T.setTop g) t) (k : own_Fin p e below P T' g') : own_Fin p e below P T g := by
  obtain ⟨s₂, o, h1, h2⟩ := k
  exact ⟨s₂, o, st _ h1, h2⟩
theorem own_start {s₁ : State} {Q : Option Value → Heap → List Loc → Prop} {k n : Nat} {ml : Nat} {g : JFrame} (hef : entryFrame m args ml = g) (hk : own_Fin p e below (own_P s Q k n) s₁ g) :
    ∃ s₂ o, Steps p.tables e below (s₁.setTop (entryFrame m args ml)) s₂ ∧ s₂.status = .running ∧ Ended s₂ below o ∧ ∃ v L, o = .returned v ∧ Q v s₂.heap L ∧ FrameEnd s o s₂ L k n := by
  rw [hef]; exact hk
theorem own_end (X : Stand p l e R s m args below meth c T locs cells slots) {v : Option Value} (hv : meth.sig.returnType = none → v = none) (hlocks : meth.locks = false) {g : JFrame}
    (hret : ∀ {fs : List Frame}, (∀ (f : JFrame) (acts : List Action), f.method = m → f.locked = none → f.entered = [] → (doReturn e (T.setTop f) acts v).1 = T.setFrames fs) → Steps p.tables e below (T.setTop g) (T.setFrames fs))
    {Q : Option Value → Heap → List Loc → Prop} {k n : Nat} (hQ : Q v T.heap locs) (hk : cells ≤ k) (hn : slots ≤ n) : own_Fin p e below (own_P s Q k n) T g := by
  obtain ⟨fs, hr, hrun, hended, hW, hsame⟩ := X.leave hv hlocks
  exact ⟨_, _, hret hr, hrun, hended, _, _, rfl, hQ, ⟨_, rfl⟩, hW, hsame.mono hk hn⟩
theorem own_nf {C : String} {y : MethodName} (w : (Jvm.Cond.selects C y y).before a0 Z = true) : ∀ {s : State}, Z.Warmed39 s.vm → NotFace s y := fun hZ => notFace_of_selects (args := #[]) (mvT hZ w)
theorem own_callSB (X : Stand p l e R s m args below meth c T locs cells slots) (hx : p.tables.exec = Jvm.exec) (hZ : Z.Warmed39 s.vm) {own : String} {index : Nat} {y : MethodName} {bytes : ByteArray} {maxL W : Nat} {ret : Option FieldType} {kc ks : Nat} {as' : Array Value} {Q : Option Value → Heap → List Loc → Prop}
    (hown : s.vm.findClass own = some m.cls) (w1 : (Jvm.Cond.methodLink own index y).before a0 Z = true) (w2 : (Jvm.Cond.static y).before a0 Z = true) (w3 : (Jvm.Cond.initialized y.cls).before a0 Z = true) (w4 : (Jvm.Cond.code y bytes maxL ret).before a0 Z = true) (hy : y.cls ≠ "java/lang/invoke/MethodHandle" ∧ y.cls ≠ "java/lang/invoke/VarHandle")
    (hK : Back l R p e below s args y 3 W (fun A a => a = as' ∧ A.U.heap = h ∧ A.cells + kc ≤ R.cells ∧ A.slots + ks ≤ R.slots) (fun A _ v B => ∃ L, Q v B.U.heap L ∧ B.locs = A.locs ++ L ∧ B.cells = A.cells + kc ∧ B.slots = A.slots + ks))
    (eT : T.heap = h) {g : JFrame} (hg : g.method = m) (hsize : g.locals.size = c.maxLocals) {argsL rest : List Value} (hlen : ∀ sig, parseMethodDescriptor y.desc = some sig → argsL.length = sig.parameters.length)
    (hstack : g.stack = argsL.reverse ++ rest) (hW : 2 * g.monitorRoom + (rest.map fun v => v.category).sum ≤ W) (hdg : decode c.code g.pc = .ok (.invokestatic index, 3)) (has : argsL.toArray = as') (hc : cells + kc ≤ R.cells) (hs : slots + ks ≤ R.slots) {P : Outcome → State → Prop}
    (k : ∀ (v : Option Value) (T' : State) (L : List Loc), Stand p l e R s m args below meth c T' (locs ++ L) (cells + kc) (slots + ks) → Q v T'.heap L → own_Fin p e below P T' { g with pc := g.pc + 3, stack := v.toList ++ rest }) : own_Fin p e below P T g := by
  obtain ⟨v, _, ⟨U', L', k', n'⟩, -, X', ⟨Lc, hQ, l1, l2, l3⟩, st⟩ := Jvm.LawKit.callS X hx (y := y) hown (mvT hZ w1) (mvT hZ w2) (mvT hZ w3) (mvT hZ w4) hy hK hg hsize hlen hstack hW hdg (fun _ _ => ⟨has, eT, hc, hs⟩)
  dsimp only [Pt.U, Pt.locs, Pt.cells, Pt.slots] at X' l1 l2 l3 st hQ
  subst l1 l2 l3
  exact own_by st (k v U' Lc X' hQ)
theorem own_callS (X : Stand p l e R s m args below meth c T locs cells slots) (hx : p.tables.exec = Jvm.exec) (hZ : Z.Warmed39 s.vm) {own : String} {index : Nat} {y : MethodName} {bytes : ByteArray} {maxL W : Nat} {ret : Option FieldType} {rm : Room} {as' : Array Value} {Q : Option Value → Heap → List Loc → Prop}
    (hown : s.vm.findClass own = some m.cls) (w1 : (Jvm.Cond.methodLink own index y).before a0 Z = true) (w2 : (Jvm.Cond.static y).before a0 Z = true) (w3 : (Jvm.Cond.initialized y.cls).before a0 Z = true) (w4 : (Jvm.Cond.code y bytes maxL ret).before a0 Z = true) (hy : y.cls ≠ "java/lang/invoke/MethodHandle" ∧ y.cls ≠ "java/lang/invoke/VarHandle")
    (hM : MetFree l y (head1 [Jvm.Cond.code y bytes maxL ret] rm) (fun a U => a = as' ∧ Z.Warmed39 U.vm ∧ U.heap = h) (fun _ _ _ _ _ => True) (fun _ U o U' => ∃ v L, o = .returned v ∧ Q v U'.heap L ∧ FrameEnd U o U' L rm.cells rm.slots))
    (hf : rm.frames + 1 ≤ R.frames) (hl : W + (maxL + 11) + rm.locals ≤ R.locals) (eT : T.heap = h) {g : JFrame} (hg : g.method = m) (hsize : g.locals.size = c.maxLocals) {argsL rest : List Value} (hlen : ∀ sig, parseMethodDescriptor y.desc = some sig → argsL.length = sig.parameters.length)
    (hstack : g.stack = argsL.reverse ++ rest) (hW : 2 * g.monitorRoom + (rest.map fun v => v.category).sum ≤ W) (hdg : decode c.code g.pc = .ok (.invokestatic index, 3)) (has : argsL.toArray = as') (hc : cells + rm.cells ≤ R.cells) (hs : slots + rm.slots ≤ R.slots) {P : Outcome → State → Prop}
    (k : ∀ (v : Option Value) (T' : State) (L : List Loc), Stand p l e R s m args below meth c T' (locs ++ L) (cells + rm.cells) (slots + rm.slots) → Q v T'.heap L → own_Fin p e below P T' { g with pc := g.pc + 3, stack := v.toList ++ rest }) : own_Fin p e below P T g :=
  own_callSB X hx hZ hown w1 w2 w3 w4 hy (backOf (W := W) hM hZ w4 w3 hf hl) eT hg hsize hlen hstack hW hdg has hc hs k
theorem own_callIB (X : Stand p l e R s m args below meth c T locs cells slots) (hx : p.tables.exec = Jvm.exec) (hZ : Z.Warmed39 s.vm) {own : String} {index : Nat} {y : MethodName} {bytes : ByteArray} {maxL W : Nat} {kc ks : Nat} {as' : Array Value} {Q : Option Value → Heap → List Loc → Prop} (hin : y.name = "<init>")
    (hown : s.vm.findClass own = some m.cls) (w1 : (Jvm.Cond.methodLink own index y).before a0 Z = true) (w2 : (Jvm.Cond.instanceMethod y).before a0 Z = true) (w4 : (Jvm.Cond.code y bytes maxL none).before a0 Z = true) (hy : y.cls ≠ "java/lang/invoke/MethodHandle" ∧ y.cls ≠ "java/lang/invoke/VarHandle")
    (hK : Back l R p e below s args y 3 W (fun A a => a = as' ∧ A.U.heap = h ∧ A.cells + kc ≤ R.cells ∧ A.slots + ks ≤ R.slots) (fun A _ v B => ∃ L, Q v B.U.heap L ∧ B.locs = A.locs ++ L ∧ B.cells = A.cells + kc ∧ B.slots = A.slots + ks))
    (eT : T.heap = h) {g : JFrame} (hg : g.method = m) (hsize : g.locals.size = c.maxLocals) {a : Addr} {argsL rest : List Value} (hlen : ∀ sig, parseMethodDescriptor y.desc = some sig → argsL.length = sig.parameters.length)
    (hstack : g.stack = argsL.reverse ++ .ref a :: rest) (hW : 2 * g.monitorRoom + (rest.map fun v => v.category).sum ≤ W) (hdg : decode c.code g.pc = .ok (.invokespecial index, 3)) (has : (.ref a :: argsL).toArray = as') (hc : cells + kc ≤ R.cells) (hs : slots + ks ≤ R.slots) {P : Outcome → State → Prop}
    (k : ∀ (v : Option Value) (T' : State) (L : List Loc), Stand p l e R s m args below meth c T' (locs ++ L) (cells + kc) (slots + ks) → Q v T'.heap L → own_Fin p e below P T' { g with pc := g.pc + 3, stack := v.toList ++ rest }) : own_Fin p e below P T g := by
  obtain ⟨v, _, ⟨U', L', k', n'⟩, -, X', ⟨Lc, hQ, l1, l2, l3⟩, st⟩ := X.specialBack hx (y := y) hin hown (mvT hZ w1) (mvT hZ w2) (mvT hZ w4) hy hK hg hsize (Steps.refl _) (a := a) hlen hstack hW hdg (fun _ _ => ⟨has, eT, hc, hs⟩)
  dsimp only [Pt.U, Pt.locs, Pt.cells, Pt.slots] at X' l1 l2 l3 st hQ
  subst l1 l2 l3
  exact own_by (fun _ q => st.trans q) (k v U' Lc X' hQ)
theorem own_callI (X : Stand p l e R s m args below meth c T locs cells slots) (hx : p.tables.exec = Jvm.exec) (hZ : Z.Warmed39 s.vm) {own : String} {index : Nat} {y : MethodName} {bytes : ByteArray} {maxL W : Nat} {rm : Room} {as' : Array Value} {Q : Option Value → Heap → List Loc → Prop} (hin : y.name = "<init>")
    (hown : s.vm.findClass own = some m.cls) (w1 : (Jvm.Cond.methodLink own index y).before a0 Z = true) (w2 : (Jvm.Cond.instanceMethod y).before a0 Z = true) (w4 : (Jvm.Cond.code y bytes maxL none).before a0 Z = true) (w3 : (Jvm.Cond.initialized y.cls).before a0 Z = true) (hy : y.cls ≠ "java/lang/invoke/MethodHandle" ∧ y.cls ≠ "java/lang/invoke/VarHandle")
    (hM : MetFree l y (head1 [Jvm.Cond.code y bytes maxL none] rm) (fun a U => a = as' ∧ Z.Warmed39 U.vm ∧ U.heap = h) (fun _ _ _ _ _ => True) (fun _ U o U' => ∃ v L, o = .returned v ∧ Q v U'.heap L ∧ FrameEnd U o U' L rm.cells rm.slots))
    (hf : rm.frames + 1 ≤ R.frames) (hl : W + (maxL + 11) + rm.locals ≤ R.locals) (eT : T.heap = h) {g : JFrame} (hg : g.method = m) (hsize : g.locals.size = c.maxLocals) {a : Addr} {argsL rest : List Value} (hlen : ∀ sig, parseMethodDescriptor y.desc = some sig → argsL.length = sig.parameters.length)
    (hstack : g.stack = argsL.reverse ++ .ref a :: rest) (hW : 2 * g.monitorRoom + (rest.map fun v => v.category).sum ≤ W) (hdg : decode c.code g.pc = .ok (.invokespecial index, 3)) (has : (.ref a :: argsL).toArray = as') (hc : cells + rm.cells ≤ R.cells) (hs : slots + rm.slots ≤ R.slots) {P : Outcome → State → Prop}
    (k : ∀ (v : Option Value) (T' : State) (L : List Loc), Stand p l e R s m args below meth c T' (locs ++ L) (cells + rm.cells) (slots + rm.slots) → Q v T'.heap L → own_Fin p e below P T' { g with pc := g.pc + 3, stack := v.toList ++ rest }) : own_Fin p e below P T g :=
  own_callIB X hx hZ hin hown w1 w2 w4 hy (backOf (W := W) hM hZ w4 w3 hf hl) eT hg hsize hlen hstack hW hdg has hc hs k
theorem own_callVB (X : Stand p l e R s m args below meth c T locs cells slots) (hx : p.tables.exec = Jvm.exec) (hZ : Z.Warmed39 s.vm) {own C : String} {index : Nat} {y z : MethodName} {W : Nat} {kc ks : Nat} {as' : Array Value} {Q : Option Value → Heap → List Loc → Prop}
    (hown : s.vm.findClass own = some m.cls) (w1 : (Jvm.Cond.methodLink own index y).before a0 Z = true) (w2 : (Jvm.Cond.declares y).before a0 Z = true) (nf : ∀ {s : State}, Z.Warmed39 s.vm → NotFace s y) (w5 : (Jvm.Cond.selects C y z).before a0 Z = true) (w6 : (Jvm.Cond.instanceMethod z).before a0 Z = true) (hy : y.cls ≠ "java/lang/invoke/MethodHandle" ∧ y.cls ≠ "java/lang/invoke/VarHandle")
    {b : Addr} (E : Exa Z h b C)
    (hK : Back l R p e below s args z 3 W (fun A a => a = as' ∧ A.U.heap = h ∧ A.cells + kc ≤ R.cells ∧ A.slots + ks ≤ R.slots) (fun A _ v B => ∃ L, Q v B.U.heap L ∧ B.locs = A.locs ++ L ∧ B.cells = A.cells + kc ∧ B.slots = A.slots + ks))
    (eT : T.heap = h) {g : JFrame} (hg : g.method = m) (hsize : g.locals.size = c.maxLocals) {argsL rest : List Value} (hlen : ∀ sig, parseMethodDescriptor y.desc = some sig → argsL.length = sig.parameters.length)
    (hstack : g.stack = argsL.reverse ++ .ref b :: rest) (hW : 2 * g.monitorRoom + (rest.map fun v => v.category).sum ≤ W) (hdg : decode c.code g.pc = .ok (.invokevirtual index, 3)) (has : (.ref b :: argsL).toArray = as') (hc : cells + kc ≤ R.cells) (hs : slots + ks ≤ R.slots) {P : Outcome → State → Prop}
    (k : ∀ (v : Option Value) (T' : State) (L : List Loc), Stand p l e R s m args below meth c T' (locs ++ L) (cells + kc) (slots + ks) → Q v T'.heap L → own_Fin p e below P T' { g with pc := g.pc + 3, stack := v.toList ++ rest }) : own_Fin p e below P T g := by
  obtain ⟨cq, kq, qa, qb, qc⟩ := isOf hZ eT E
  obtain ⟨v, _, ⟨U', L', k', n'⟩, -, X', ⟨Lc, hQ, l1, l2, l3⟩, st⟩ := X.virtualBack hx (y := y) (z := z) hown (mvT hZ w1) (mvT hZ w2) (nf hZ) (mvT hZ w5) (mvT hZ w6) hy hK qa qc hg hsize (Steps.refl _) hlen hstack hW hdg (fun _ _ => ⟨has, eT, hc, hs⟩)
  dsimp only [Pt.U, Pt.locs, Pt.cells, Pt.slots] at X' l1 l2 l3 st hQ
  subst l1 l2 l3
  exact own_by (fun _ q => st.trans q) (k v U' Lc X' hQ)
theorem own_callV (X : Stand p l e R s m args below meth c T locs cells slots) (hx : p.tables.exec = Jvm.exec) (hZ : Z.Warmed39 s.vm) {own C : String} {index : Nat} {y z : MethodName} {bytes : ByteArray} {maxL W : Nat} {ret : Option FieldType} {rm : Room} {as' : Array Value} {Q : Option Value → Heap → List Loc → Prop}
    (hown : s.vm.findClass own = some m.cls) (w1 : (Jvm.Cond.methodLink own index y).before a0 Z = true) (w2 : (Jvm.Cond.declares y).before a0 Z = true) (nf : ∀ {s : State}, Z.Warmed39 s.vm → NotFace s y) (w5 : (Jvm.Cond.selects C y z).before a0 Z = true) (w6 : (Jvm.Cond.instanceMethod z).before a0 Z = true) (w4 : (Jvm.Cond.code z bytes maxL ret).before a0 Z = true) (w3 : (Jvm.Cond.initialized z.cls).before a0 Z = true) (hy : y.cls ≠ "java/lang/invoke/MethodHandle" ∧ y.cls ≠ "java/lang/invoke/VarHandle")
    {b : Addr} (E : Exa Z h b C)
    (hM : MetFree l z (head1 [Jvm.Cond.code z bytes maxL ret] rm) (fun a U => a = as' ∧ Z.Warmed39 U.vm ∧ U.heap = h) (fun _ _ _ _ _ => True) (fun _ U o U' => ∃ v L, o = .returned v ∧ Q v U'.heap L ∧ FrameEnd U o U' L rm.cells rm.slots))
    (hf : rm.frames + 1 ≤ R.frames) (hl : W + (maxL + 11) + rm.locals ≤ R.locals) (eT : T.heap = h) {g : JFrame} (hg : g.method = m) (hsize : g.locals.size = c.maxLocals) {argsL rest : List Value} (hlen : ∀ sig, parseMethodDescriptor y.desc = some sig → argsL.length = sig.parameters.length)
    (hstack : g.stack = argsL.reverse ++ .ref b :: rest) (hW : 2 * g.monitorRoom + (rest.map fun v => v.category).sum ≤ W) (hdg : decode c.code g.pc = .ok (.invokevirtual index, 3)) (has : (.ref b :: argsL).toArray = as') (hc : cells + rm.cells ≤ R.cells) (hs : slots + rm.slots ≤ R.slots) {P : Outcome → State → Prop}
    (k : ∀ (v : Option Value) (T' : State) (L : List Loc), Stand p l e R s m args below meth c T' (locs ++ L) (cells + rm.cells) (slots + rm.slots) → Q v T'.heap L → own_Fin p e below P T' { g with pc := g.pc + 3, stack := v.toList ++ rest }) : own_Fin p e below P T g :=
  own_callVB X hx hZ hown w1 w2 nf w5 w6 hy E (backOf (W := W) hM hZ w4 w3 hf hl) eT hg hsize hlen hstack hW hdg has hc hs k
theorem own_narR {t : FieldType} {w : Value} (ht : t.isReference = true) : narrow t w = w := by cases t <;> first | rfl | (cases ht)
theorem own_fldI {t : Term} {C n d : String} {k : Int32} {a : Addr} (hv : (Jvm.Cond.eq (.field t C n d) (.int k)).value args s none s [] = some true) (ht : t.eval args s none [] s = some (.ref a)) : Fld s s.heap a C n d (.int k) := by
  obtain ⟨x, y, e1, e2, k1, k2⟩ := cmp_v (Or.inl hv)
  rw [Term.int_eval] at e2
  cases e2
  obtain ⟨z, rfl⟩ := k2
  have q : z = k := by simpa [Jvm.Cond.value, e1, Term.int_eval] using hv
  rw [fld_at ht] at e1
  exact Fld.start (q ▸ e1)
theorem own_clash {x y z : Int32} (h : x = y) (n : ¬ y = z) : ¬ x = z := fun q => n (h.symm.trans q)
theorem own_rem (x y : Int32) (n : Int) (hy : y.toInt = n) (hn : 0 < n) : 0 ≤ ((x &&& (2147483647 : Int32)) % y).toInt ∧ ((x &&& (2147483647 : Int32)) % y).toInt < n := by
  have h0 := c_and x 2147483647 (by decide)
  have h1 := (c_irem (x &&& 2147483647) y n hy).1 h0.1
  rw [h1]
  exact ⟨Int.emod_nonneg _ (by omega), Int.emod_lt_of_pos _ hn⟩
theorem own_eqI {x y : Int32} (h : x.toInt = y.toInt) : x = y := Int32.toInt_inj.mp h
theorem own_neI {x y : Int32} (h : ¬ x = y) : x.toInt ≠ y.toInt := fun q => h (Int32.toInt_inj.mp q)
theorem own_fitsR {t : FieldType} {v : Value} (ht : t.isReference = true) (hv : v.isRef = true) : fits t v = true := by
  rcases ref_cases hv with rfl | ⟨a, rfl⟩ <;> cases t <;> first | rfl | (cases ht)
theorem own_cat {v : Value} (hv : v.isRef = true) : v.category = 1 := by
  rcases ref_cases hv with rfl | ⟨a, rfl⟩ <;> rfl
theorem own_store1 {L : Array Slot} {i : Nat} {v : Value} {o : Slot} {L' : Array Slot} (hold : L[i]? = some o) (ho : One o) (hv : v.category = 1) (e : L.setIfInBounds i (.val v) = L') : storeLocals L i v = some L' := by
  rw [← e]; exact XS.store1 hold ho hv
end OwnKit
theorem own_d1_0 : decode prog_79_method_5_code 0 = .ok (.aload_n 0, 1) := by decide +kernel
theorem own_d1_1 : decode prog_79_method_5_code 1 = .ok (.getstatic 7, 3) := by decide +kernel
theorem own_d1_4 : decode prog_79_method_5_code 4 = .ok (.if_acmp .ne 9, 3) := by decide +kernel
theorem own_d1_7 : decode prog_79_method_5_code 7 = .ok (.getstatic 3, 3) := by decide +kernel
theorem own_d1_10 : decode prog_79_method_5_code 10 = .ok (.goto 4, 3) := by decide +kernel
theorem own_d1_14 : decode prog_79_method_5_code 14 = .ok (.areturn, 1) := by decide +kernel
theorem own_d1_13 : decode prog_79_method_5_code 13 = .ok (.aload_n 0, 1) := by decide +kernel
theorem own_rm1_ef (m : MethodId) (a : Addr) : entryFrame m #[(.ref a)] 1 = mkF m 0 #[.val (.ref a)] [] := by  first | (simp [entryFrame, mkF, argsToLocals, Value.category]; done) | rfl
def own_rm1_Q (Z : State) (a : Addr) (aSEPARATION_FOR_CAUSE : Addr) (aSEPARATION : Addr) (h0 : Heap) (n0 : Nat) (v : Option Value) (h : Heap) (L : List Loc) : Prop := v = some (.ref (if a = aSEPARATION_FOR_CAUSE then aSEPARATION else a)) ∧ Fr n0 L ∧ h = h0
theorem own_pn_com_example_abeyance_abeyance_records_Event : plainName "com/example/abeyance/abeyance/records/Event" = true := by first | (simp [plainName, overriddenIn]; done) | decide +kernel
set_option maxRecDepth 65536 in
set_option maxHeartbeats 40000000 in
theorem own_rm1 (l : Launch) (Z : State) (a0 : Array Value) (hw : ∀ d ∈ tables_1, d.before a0 Z = true) (ws : List Jvm.Cond) (a : Addr) (aSEPARATION_FOR_CAUSE : Addr) (aSEPARATION : Addr) (h0 : Heap) (n0 : Nat) (Z0 : n0 ≤ h0.size) (S_SEPARATION_FOR_CAUSE : Sta Z h0 "com/example/abeyance/abeyance/records/Event" "SEPARATION_FOR_CAUSE" "Lcom/example/abeyance/abeyance/records/Event;" (.ref aSEPARATION_FOR_CAUSE)) (S_SEPARATION : Sta Z h0 "com/example/abeyance/abeyance/records/Event" "SEPARATION" "Lcom/example/abeyance/abeyance/records/Event;" (.ref aSEPARATION)) :
    MetFree l (⟨"com/example/abeyance/abeyance/records/Event", "kind", "()Lcom/example/abeyance/abeyance/records/Event;"⟩ : MethodName) (head1 (Jvm.Cond.code (⟨"com/example/abeyance/abeyance/records/Event", "kind", "()Lcom/example/abeyance/abeyance/records/Event;"⟩ : MethodName) prog_79_method_5_code 1 (some (.object "com/example/abeyance/abeyance/records/Event")) :: ws) ({ frames := 0, cells := 0, slots := 0, locals := 0 } : Room)) (fun aa U => aa = #[(.ref a)] ∧ Z.Warmed39 U.vm ∧ U.heap = h0) (fun _ _ _ _ _ => True) (fun _ U o U' => ∃ v L, o = .returned v ∧ own_rm1_Q Z a aSEPARATION_FOR_CAUSE aSEPARATION h0 n0 v U'.heap L ∧ FrameEnd U o U' L ({ frames := 0, cells := 0, slots := 0, locals := 0 } : Room).cells ({ frames := 0, cells := 0, slots := 0, locals := 0 } : Room).slots) := by
  refine MetFree.of_bodySF (plainFor_of_name own_pn_com_example_abeyance_abeyance_records_Event) hisR ?_
  intro p e s m args below meth c s₁ Bd hml0 hP hK
  obtain ⟨rfl, hZ, hh⟩ := hP
  have hx := Bd.exec
  have hby := Bd.bytes
  have hml : c.maxLocals = 1 := hml0
  have hown : s.vm.findClass "com/example/abeyance/abeyance/records/Event" = some m.cls := findClass_of_methodNamed Bd.named
  have hnm := (name_of_methodNamed Bd.named Bd.method).1
  have hlk := Bd.notSynchronized
  have X0 : Stand p l e ({ frames := 0, cells := 0, slots := 0, locals := 0 } : Room) s m #[(.ref a)] below meth c s₁ [] 0 0 := Stand.of_body Bd
  have e0 : s₁.heap = h0 := by rw [← hh, Bd.state]; rfl
  have N0 := Fr.nil n0
  refine own_start (Q := own_rm1_Q Z a aSEPARATION_FOR_CAUSE aSEPARATION h0 n0) (own_rm1_ef m a) ?_
  refine own_by (T' := s₁) (g' := (mkF m 1 #[.val (.ref a)] [(.ref a)])) (fun _ kq => XS.aloadN X0.here hx rfl (hb hby own_d1_0) rfl rfl kq) ?_
  obtain ⟨T1, X1, e1, st1⟩ := getS2 X0 hx hZ hown (host := "") (Or.inl (hw _ (List.mem_of_getElem? (i := 9) rfl))) Via.refl e0 S_SEPARATION_FOR_CAUSE (g := (mkF m 1 #[.val (.ref a)] [(.ref a)])) rfl (hb hby own_d1_1)
  refine own_by (T' := T1) (g' := (mkF m 4 #[.val (.ref a)] [(.ref aSEPARATION_FOR_CAUSE), (.ref a)])) st1 ?_
  by_cases hc2 : a = aSEPARATION_FOR_CAUSE
  · refine own_by (T' := T1) (g' := (mkF m 7 #[.val (.ref a)] [])) (fun _ kq => Jvm.RoadKit.acmp (g := (mkF m 4 #[.val (.ref a)] [(.ref aSEPARATION_FOR_CAUSE), (.ref a)])) X1 hx rfl rfl rfl (pc0 := 4) (pc' := 7) (same := true) rfl (hb hby own_d1_4) rfl (decide_eq_true (congrArg Value.ref hc2)) (by decide) (by decide) kq) ?_
    obtain ⟨T3, X3, e3, st3⟩ := getS2 X1 hx hZ hown (host := "") (Or.inl (hw _ (List.mem_of_getElem? (i := 14) rfl))) Via.refl e1 S_SEPARATION (g := (mkF m 7 #[.val (.ref a)] [])) rfl (hb hby own_d1_7)
    refine own_by (T' := T3) (g' := (mkF m 10 #[.val (.ref a)] [(.ref aSEPARATION)])) st3 ?_
    refine own_by (T' := T3) (g' := (mkF m 14 #[.val (.ref a)] [(.ref aSEPARATION)])) (fun _ kq => XS.goto X3.here hx rfl (pc0 := 10) (pc' := 14) rfl (hb hby own_d1_10) (by decide) (by decide) kq) ?_
    exact own_end X3 (v := some (.ref aSEPARATION)) (fun h => by rw [Bd.returns] at h; cases h) hlk (fun hr => retOut X3 hx Bd.returns (own_narR rfl) (Or.inr (Or.inr (Or.inr (Or.inr ⟨rfl, rfl, rfl⟩)))) (hb hby own_d1_14) hr) (by rw [e3]; exact ⟨by rw [if_pos hc2], N0, rfl⟩) (by decide) (by decide)
  · refine own_by (T' := T1) (g' := (mkF m 13 #[.val (.ref a)] [])) (fun _ kq => Jvm.RoadKit.acmp (g := (mkF m 4 #[.val (.ref a)] [(.ref aSEPARATION_FOR_CAUSE), (.ref a)])) X1 hx rfl rfl rfl (pc0 := 4) (pc' := 13) (same := false) rfl (hb hby own_d1_4) rfl (decide_eq_false fun q => hc2 (Value.ref.inj q)) (by decide) (by decide) kq) ?_
    refine own_by (T' := T1) (g' := (mkF m 14 #[.val (.ref a)] [(.ref a)])) (fun _ kq => XS.aloadN X1.here hx rfl (hb hby own_d1_13) rfl rfl kq) ?_
    exact own_end X1 (v := some (.ref a)) (fun h => by rw [Bd.returns] at h; cases h) hlk (fun hr => retOut X1 hx Bd.returns (own_narR rfl) (Or.inr (Or.inr (Or.inr (Or.inr ⟨rfl, rfl, rfl⟩)))) (hb hby own_d1_14) hr) (by rw [e1]; exact ⟨by rw [if_neg hc2], N0, rfl⟩) (by decide) (by decide)
theorem own_pd__28_29Lcom_2fexample_2fabeyance_2fabeyance_2frecords_2fEvent_3b : parseMethodDescriptor "()Lcom/example/abeyance/abeyance/records/Event;" = some ⟨[], some (.object "com/example/abeyance/abeyance/records/Event")⟩ := by decide +kernel
theorem own_rm0_ef (m : MethodId) (p0 : Int32) : entryFrame m #[(.int p0)] maxLocals = mkF m 0 #[.val (.int p0), .unset, .unset, .unset, .unset] [] := by  first | (simp [entryFrame, mkF, argsToLocals, Value.category, maxLocals]; done) | rfl
def own_rm0_Q (Z : State) (p0 : Int32) (aSEPARATION : Addr) (aSEPARATION_FOR_CAUSE : Addr) (aDEATH : Addr) (aDISABILITY : Addr) (aCHANGE_IN_CONTROL : Addr) (h0 : Heap) (n0 : Nat) (v : Option Value) (h : Heap) (L : List Loc) : Prop := v = some (.int 1) ∧ Fr n0 L
theorem own_pn_com_example_abeyance_abeyance_records_EventKindPinLaw : plainName "com/example/abeyance/abeyance/records/EventKindPinLaw" = true := by first | (simp [plainName, overriddenIn]; done) | decide +kernel
set_option maxRecDepth 65536 in
set_option maxHeartbeats 40000000 in
theorem own_rm0 (l : Launch) (Z : State) (a0 : Array Value) (hw : ∀ d ∈ tables_1, d.before a0 Z = true) (ws : List Jvm.Cond) (p0 : Int32) (aSEPARATION : Addr) (aSEPARATION_FOR_CAUSE : Addr) (aDEATH : Addr) (aDISABILITY : Addr) (aCHANGE_IN_CONTROL : Addr) (h0 : Heap) (n0 : Nat) (Z0 : n0 ≤ h0.size) (S_SEPARATION : Sta Z h0 "com/example/abeyance/abeyance/records/Event" "SEPARATION" "Lcom/example/abeyance/abeyance/records/Event;" (.ref aSEPARATION)) (S_SEPARATION_FOR_CAUSE : Sta Z h0 "com/example/abeyance/abeyance/records/Event" "SEPARATION_FOR_CAUSE" "Lcom/example/abeyance/abeyance/records/Event;" (.ref aSEPARATION_FOR_CAUSE)) (S_DEATH : Sta Z h0 "com/example/abeyance/abeyance/records/Event" "DEATH" "Lcom/example/abeyance/abeyance/records/Event;" (.ref aDEATH)) (S_DISABILITY : Sta Z h0 "com/example/abeyance/abeyance/records/Event" "DISABILITY" "Lcom/example/abeyance/abeyance/records/Event;" (.ref aDISABILITY)) (S_CHANGE_IN_CONTROL : Sta Z h0 "com/example/abeyance/abeyance/records/Event" "CHANGE_IN_CONTROL" "Lcom/example/abeyance/abeyance/records/Event;" (.ref aCHANGE_IN_CONTROL)) (E_SEPARATION : Exa Z h0 aSEPARATION "com/example/abeyance/abeyance/records/Event") (E_SEPARATION_FOR_CAUSE : Exa Z h0 aSEPARATION_FOR_CAUSE "com/example/abeyance/abeyance/records/Event") (E_DEATH : Exa Z h0 aDEATH "com/example/abeyance/abeyance/records/Event") (E_DISABILITY : Exa Z h0 aDISABILITY "com/example/abeyance/abeyance/records/Event") (E_CHANGE_IN_CONTROL : Exa Z h0 aCHANGE_IN_CONTROL "com/example/abeyance/abeyance/records/Event") (n_SEPARATION_SEPARATION_FOR_CAUSE : ¬ aSEPARATION = aSEPARATION_FOR_CAUSE) (n_DEATH_SEPARATION_FOR_CAUSE : ¬ aDEATH = aSEPARATION_FOR_CAUSE) (n_DISABILITY_SEPARATION_FOR_CAUSE : ¬ aDISABILITY = aSEPARATION_FOR_CAUSE) (n_CHANGE_IN_CONTROL_SEPARATION_FOR_CAUSE : ¬ aCHANGE_IN_CONTROL = aSEPARATION_FOR_CAUSE) :
    MetFree l x (head1 (Jvm.Cond.code x code maxLocals ret :: ws) room_1) (fun aa U => aa = #[(.int p0)] ∧ Z.Warmed39 U.vm ∧ U.heap = h0) (fun _ _ _ _ _ => True) (fun _ U o U' => ∃ v L, o = .returned v ∧ own_rm0_Q Z p0 aSEPARATION aSEPARATION_FOR_CAUSE aDEATH aDISABILITY aCHANGE_IN_CONTROL h0 n0 v U'.heap L ∧ FrameEnd U o U' L room_1.cells room_1.slots) := by
  refine MetFree.of_bodySF (plainFor_of_name own_pn_com_example_abeyance_abeyance_records_EventKindPinLaw) hisR ?_
  intro p e s m args below meth c s₁ Bd hml0 hP hK
  obtain ⟨rfl, hZ, hh⟩ := hP
  have hx := Bd.exec
  have hby := Bd.bytes
  have hml : c.maxLocals = 5 := hml0
  have hown : s.vm.findClass "com/example/abeyance/abeyance/records/EventKindPinLaw" = some m.cls := findClass_of_methodNamed Bd.named
  have hnm := (name_of_methodNamed Bd.named Bd.method).1
  have hlk := Bd.notSynchronized
  have X0 : Stand p l e room_1 s m #[(.int p0)] below meth c s₁ [] 0 0 := Stand.of_body Bd
  have e0 : s₁.heap = h0 := by rw [← hh, Bd.state]; rfl
  have N0 := Fr.nil n0
  refine own_start (Q := own_rm0_Q Z p0 aSEPARATION aSEPARATION_FOR_CAUSE aDEATH aDISABILITY aCHANGE_IN_CONTROL h0 n0) (own_rm0_ef m p0) ?_
  refine own_by (T' := s₁) (g' := (mkF m 1 #[.val (.int p0), .unset, .unset, .unset, .unset] [(.int p0)])) (fun _ kq => XS.iloadN X0.here hx rfl (hb hby at_0) rfl kq) ?_
  refine own_by (T' := s₁) (g' := (mkF m 3 #[.val (.int p0), .unset, .unset, .unset, .unset] [(.int (2147483647 : Int32)), (.int p0)])) (fun _ kq => X0.ldcInt hx hown (mvT hZ (hw _ (List.mem_of_getElem? (i := 0) rfl))) (g := (mkF m 1 #[.val (.int p0), .unset, .unset, .unset, .unset] [(.int p0)])) rfl (hb hby at_1) _ kq) ?_
  refine own_by (T' := s₁) (g' := (mkF m 4 #[.val (.int p0), .unset, .unset, .unset, .unset] [(.int (p0 &&& (2147483647 : Int32)))])) (fun _ kq => XS.iand X0.here hx rfl (hb hby at_3) rfl kq) ?_
  refine own_by (T' := s₁) (g' := (mkF m 5 #[.val (.int p0), .unset, .unset, .unset, .unset] [(.int (5 : Int32)), (.int (p0 &&& (2147483647 : Int32)))])) (fun _ kq => XS.iconst X0.here hx rfl (hb hby at_4) kq) ?_
  refine own_by (T' := s₁) (g' := (mkF m 6 #[.val (.int p0), .unset, .unset, .unset, .unset] [(.int ((p0 &&& (2147483647 : Int32)) % (5 : Int32)))])) (fun _ kq => Jvm.RoadKit.iremM (g := (mkF m 5 #[.val (.int p0), .unset, .unset, .unset, .unset] [(.int (5 : Int32)), (.int (p0 &&& (2147483647 : Int32)))])) X0 hx rfl (hb hby at_5) rfl (by decide) kq) ?_
  refine own_by (T' := s₁) (g' := (mkF m 7 #[.val (.int p0), .val (.int ((p0 &&& (2147483647 : Int32)) % (5 : Int32))), .unset, .unset, .unset] [])) (fun _ kq => XS.istoreN X0.here hx rfl (hb hby at_6) rfl (l' := #[.val (.int p0), .val (.int ((p0 &&& (2147483647 : Int32)) % (5 : Int32))), .unset, .unset, .unset]) rfl kq) ?_
  generalize hg_k : ((p0 &&& (2147483647 : Int32)) % (5 : Int32)) = k
  refine own_by (T' := s₁) (g' := (mkF m 8 #[.val (.int p0), .val (.int k), .unset, .unset, .unset] [(.int k)])) (fun _ kq => XS.iloadN X0.here hx rfl (hb hby at_7) rfl kq) ?_
  by_cases hc1 : k = (0 : Int32)
  · refine own_by (T' := s₁) (g' := (mkF m 11 #[.val (.int p0), .val (.int k), .unset, .unset, .unset] [])) (fun _ kq => XS.ifNo X0.here hx rfl (hb hby at_8) rfl ((if0 _ _).trans (teq hc1).2) kq) ?_
    obtain ⟨T2, X2, e2, st2⟩ := getS2 X0 hx hZ hown (host := "") (Or.inl (hw _ (List.mem_of_getElem? (i := 1) rfl))) Via.refl e0 S_SEPARATION (g := (mkF m 11 #[.val (.int p0), .val (.int k), .unset, .unset, .unset] [])) rfl (hb hby at_11)
    refine own_by (T' := T2) (g' := (mkF m 14 #[.val (.int p0), .val (.int k), .unset, .unset, .unset] [(.ref aSEPARATION)])) st2 ?_
    refine own_by (T' := T2) (g' := (mkF m 15 #[.val (.int p0), .val (.int k), .val (.ref aSEPARATION), .unset, .unset] [])) (fun _ kq => XS.astoreN X2.here hx rfl (hb hby at_14) rfl rfl (l' := #[.val (.int p0), .val (.int k), .val (.ref aSEPARATION), .unset, .unset]) rfl kq) ?_
    obtain ⟨T3, X3, e3, st3⟩ := getS2 X2 hx hZ hown (host := "") (Or.inl (hw _ (List.mem_of_getElem? (i := 1) rfl))) Via.refl e2 S_SEPARATION (g := (mkF m 15 #[.val (.int p0), .val (.int k), .val (.ref aSEPARATION), .unset, .unset] [])) rfl (hb hby at_15)
    refine own_by (T' := T3) (g' := (mkF m 18 #[.val (.int p0), .val (.int k), .val (.ref aSEPARATION), .unset, .unset] [(.ref aSEPARATION)])) st3 ?_
    refine own_by (T' := T3) (g' := (mkF m 19 #[.val (.int p0), .val (.int k), .val (.ref aSEPARATION), .val (.ref aSEPARATION), .unset] [])) (fun _ kq => XS.astoreN X3.here hx rfl (hb hby at_18) rfl rfl (l' := #[.val (.int p0), .val (.int k), .val (.ref aSEPARATION), .val (.ref aSEPARATION), .unset]) rfl kq) ?_
    refine own_by (T' := T3) (g' := (mkF m 78 #[.val (.int p0), .val (.int k), .val (.ref aSEPARATION), .val (.ref aSEPARATION), .unset] [])) (fun _ kq => XS.goto X3.here hx rfl (pc0 := 19) (pc' := 78) rfl (hb hby at_19) (by decide) (by decide) kq) ?_
    refine own_by (T' := T3) (g' := (mkF m 79 #[.val (.int p0), .val (.int k), .val (.ref aSEPARATION), .val (.ref aSEPARATION), .unset] [(.ref aSEPARATION)])) (fun _ kq => XS.aloadN X3.here hx rfl (hb hby at_78) rfl rfl kq) ?_
    refine own_callV X3 hx hZ (y := (⟨"com/example/abeyance/abeyance/records/Event", "kind", "()Lcom/example/abeyance/abeyance/records/Event;"⟩ : MethodName)) (z := (⟨"com/example/abeyance/abeyance/records/Event", "kind", "()Lcom/example/abeyance/abeyance/records/Event;"⟩ : MethodName)) hown (hw _ (List.mem_of_getElem? (i := 4) rfl)) (hw _ (List.mem_of_getElem? (i := 5) rfl)) (own_nf (hw _ (List.mem_of_getElem? (i := 7) rfl))) (hw _ (List.mem_of_getElem? (i := 7) rfl)) (hw _ (List.mem_of_getElem? (i := 6) rfl)) (hw _ (List.mem_of_getElem? (i := 8) rfl)) (hw _ (List.mem_of_getElem? (i := 2) rfl)) (by decide) E_SEPARATION (own_rm1 l Z a0 hw [] aSEPARATION aSEPARATION_FOR_CAUSE aSEPARATION h0 n0 Z0 S_SEPARATION_FOR_CAUSE S_SEPARATION) (by decide) (by decide) e3 (g := (mkF m 79 #[.val (.int p0), .val (.int k), .val (.ref aSEPARATION), .val (.ref aSEPARATION), .unset] [(.ref aSEPARATION)])) rfl (by rw [hml]; rfl) (argsL := []) (rest := []) (lenOf own_pd__28_29Lcom_2fexample_2fabeyance_2fabeyance_2frecords_2fEvent_3b rfl) rfl (W := 0) (by show 2 * 0 + _ ≤ _; exact Nat.le_of_eq rfl) (hb hby at_79) rfl (by decide) (by decide) ?_
    rintro rv4 T4 L4 X4 ⟨hv4, Nq4, eh4⟩
    have N4 := Fr.app N0 Nq4
    rw [if_neg n_SEPARATION_SEPARATION_FOR_CAUSE] at hv4
    subst hv4
    show own_Fin p e below _ T4 (mkF m 82 #[.val (.int p0), .val (.int k), .val (.ref aSEPARATION), .val (.ref aSEPARATION), .unset] [(.ref aSEPARATION)])
    refine own_by (T' := T4) (g' := (mkF m 84 #[.val (.int p0), .val (.int k), .val (.ref aSEPARATION), .val (.ref aSEPARATION), .val (.ref aSEPARATION)] [])) (fun _ kq => XS.astore X4.here hx rfl (hb hby at_82) rfl rfl (l' := #[.val (.int p0), .val (.int k), .val (.ref aSEPARATION), .val (.ref aSEPARATION), .val (.ref aSEPARATION)]) rfl kq) ?_
    refine own_by (T' := T4) (g' := (mkF m 86 #[.val (.int p0), .val (.int k), .val (.ref aSEPARATION), .val (.ref aSEPARATION), .val (.ref aSEPARATION)] [(.ref aSEPARATION)])) (fun _ kq => XS.aload X4.here hx rfl (hb hby at_84) rfl rfl kq) ?_
    refine own_by (T' := T4) (g' := (mkF m 87 #[.val (.int p0), .val (.int k), .val (.ref aSEPARATION), .val (.ref aSEPARATION), .val (.ref aSEPARATION)] [(.ref aSEPARATION), (.ref aSEPARATION)])) (fun _ kq => XS.aloadN X4.here hx rfl (hb hby at_86) rfl rfl kq) ?_
    refine own_by (T' := T4) (g' := (mkF m 92 #[.val (.int p0), .val (.int k), .val (.ref aSEPARATION), .val (.ref aSEPARATION), .val (.ref aSEPARATION)] [])) (fun _ kq => Jvm.RoadKit.acmp (g := (mkF m 87 #[.val (.int p0), .val (.int k), .val (.ref aSEPARATION), .val (.ref aSEPARATION), .val (.ref aSEPARATION)] [(.ref aSEPARATION), (.ref aSEPARATION)])) X4 hx rfl rfl rfl (pc0 := 87) (pc' := 92) (same := true) rfl (hb hby at_87) rfl (decide_eq_true rfl) (by decide) (by decide) kq) ?_
    refine own_by (T' := T4) (g' := (mkF m 94 #[.val (.int p0), .val (.int k), .val (.ref aSEPARATION), .val (.ref aSEPARATION), .val (.ref aSEPARATION)] [(.ref aSEPARATION)])) (fun _ kq => XS.aload X4.here hx rfl (hb hby at_92) rfl rfl kq) ?_
    refine own_callV X4 hx hZ (y := (⟨"com/example/abeyance/abeyance/records/Event", "kind", "()Lcom/example/abeyance/abeyance/records/Event;"⟩ : MethodName)) (z := (⟨"com/example/abeyance/abeyance/records/Event", "kind", "()Lcom/example/abeyance/abeyance/records/Event;"⟩ : MethodName)) hown (hw _ (List.mem_of_getElem? (i := 4) rfl)) (hw _ (List.mem_of_getElem? (i := 5) rfl)) (own_nf (hw _ (List.mem_of_getElem? (i := 7) rfl))) (hw _ (List.mem_of_getElem? (i := 7) rfl)) (hw _ (List.mem_of_getElem? (i := 6) rfl)) (hw _ (List.mem_of_getElem? (i := 8) rfl)) (hw _ (List.mem_of_getElem? (i := 2) rfl)) (by decide) E_SEPARATION (own_rm1 l Z a0 hw [] aSEPARATION aSEPARATION_FOR_CAUSE aSEPARATION h0 n0 Z0 S_SEPARATION_FOR_CAUSE S_SEPARATION) (by decide) (by decide) eh4 (g := (mkF m 94 #[.val (.int p0), .val (.int k), .val (.ref aSEPARATION), .val (.ref aSEPARATION), .val (.ref aSEPARATION)] [(.ref aSEPARATION)])) rfl (by rw [hml]; rfl) (argsL := []) (rest := []) (lenOf own_pd__28_29Lcom_2fexample_2fabeyance_2fabeyance_2frecords_2fEvent_3b rfl) rfl (W := 0) (by show 2 * 0 + _ ≤ _; exact Nat.le_of_eq rfl) (hb hby at_94) rfl (by decide) (by decide) ?_
    rintro rv5 T5 L5 X5 ⟨hv5, Nq5, eh5⟩
    have N5 := Fr.app N4 Nq5
    rw [if_neg n_SEPARATION_SEPARATION_FOR_CAUSE] at hv5
    subst hv5
    show own_Fin p e below _ T5 (mkF m 97 #[.val (.int p0), .val (.int k), .val (.ref aSEPARATION), .val (.ref aSEPARATION), .val (.ref aSEPARATION)] [(.ref aSEPARATION)])
    refine own_by (T' := T5) (g' := (mkF m 99 #[.val (.int p0), .val (.int k), .val (.ref aSEPARATION), .val (.ref aSEPARATION), .val (.ref aSEPARATION)] [(.ref aSEPARATION), (.ref aSEPARATION)])) (fun _ kq => XS.aload X5.here hx rfl (hb hby at_97) rfl rfl kq) ?_
    refine own_by (T' := T5) (g' := (mkF m 102 #[.val (.int p0), .val (.int k), .val (.ref aSEPARATION), .val (.ref aSEPARATION), .val (.ref aSEPARATION)] [])) (fun _ kq => Jvm.RoadKit.acmp (g := (mkF m 99 #[.val (.int p0), .val (.int k), .val (.ref aSEPARATION), .val (.ref aSEPARATION), .val (.ref aSEPARATION)] [(.ref aSEPARATION), (.ref aSEPARATION)])) X5 hx rfl rfl rfl (pc0 := 99) (pc' := 102) (same := true) rfl (hb hby at_99) rfl (decide_eq_true rfl) (by decide) (by decide) kq) ?_
    refine own_by (T' := T5) (g' := (mkF m 103 #[.val (.int p0), .val (.int k), .val (.ref aSEPARATION), .val (.ref aSEPARATION), .val (.ref aSEPARATION)] [(.int (1 : Int32))])) (fun _ kq => XS.iconst X5.here hx rfl (hb hby at_102) kq) ?_
    refine own_by (T' := T5) (g' := (mkF m 107 #[.val (.int p0), .val (.int k), .val (.ref aSEPARATION), .val (.ref aSEPARATION), .val (.ref aSEPARATION)] [(.int (1 : Int32))])) (fun _ kq => XS.goto X5.here hx rfl (pc0 := 103) (pc' := 107) rfl (hb hby at_103) (by decide) (by decide) kq) ?_
    exact own_end X5 (v := some (.int (nar .boolean (1 : Int32)))) (fun h => by rw [Bd.returns] at h; cases h) hlk (fun hr => retN X5 hx (t := .boolean) Bd.returns (by simp) (hb hby at_107) hr) (by rw [eh5]; exact ⟨rfl, N5⟩) (by decide) (by decide)
  · refine own_by (T' := s₁) (g' := (mkF m 22 #[.val (.int p0), .val (.int k), .unset, .unset, .unset] [])) (fun _ kq => XS.ifYes X0.here hx rfl (pc0 := 8) (pc' := 22) rfl (hb hby at_8) rfl ((if0 _ _).trans (feq hc1).2) (by decide) (by decide) kq) ?_
    refine own_by (T' := s₁) (g' := (mkF m 23 #[.val (.int p0), .val (.int k), .unset, .unset, .unset] [(.int k)])) (fun _ kq => XS.iloadN X0.here hx rfl (hb hby at_22) rfl kq) ?_
    refine own_by (T' := s₁) (g' := (mkF m 24 #[.val (.int p0), .val (.int k), .unset, .unset, .unset] [(.int (1 : Int32)), (.int k)])) (fun _ kq => XS.iconst X0.here hx rfl (hb hby at_23) kq) ?_
    by_cases hc6 : k = (1 : Int32)
    · refine own_by (T' := s₁) (g' := (mkF m 27 #[.val (.int p0), .val (.int k), .unset, .unset, .unset] [])) (fun _ kq => XS.icmpNo X0.here hx rfl (hb hby at_24) rfl (teq hc6).2 kq) ?_
      obtain ⟨T7, X7, e7, st7⟩ := getS2 X0 hx hZ hown (host := "") (Or.inl (hw _ (List.mem_of_getElem? (i := 13) rfl))) Via.refl e0 S_SEPARATION_FOR_CAUSE (g := (mkF m 27 #[.val (.int p0), .val (.int k), .unset, .unset, .unset] [])) rfl (hb hby at_27)
      refine own_by (T' := T7) (g' := (mkF m 30 #[.val (.int p0), .val (.int k), .unset, .unset, .unset] [(.ref aSEPARATION_FOR_CAUSE)])) st7 ?_
      refine own_by (T' := T7) (g' := (mkF m 31 #[.val (.int p0), .val (.int k), .val (.ref aSEPARATION_FOR_CAUSE), .unset, .unset] [])) (fun _ kq => XS.astoreN X7.here hx rfl (hb hby at_30) rfl rfl (l' := #[.val (.int p0), .val (.int k), .val (.ref aSEPARATION_FOR_CAUSE), .unset, .unset]) rfl kq) ?_
      obtain ⟨T8, X8, e8, st8⟩ := getS2 X7 hx hZ hown (host := "") (Or.inl (hw _ (List.mem_of_getElem? (i := 1) rfl))) Via.refl e7 S_SEPARATION (g := (mkF m 31 #[.val (.int p0), .val (.int k), .val (.ref aSEPARATION_FOR_CAUSE), .unset, .unset] [])) rfl (hb hby at_31)
      refine own_by (T' := T8) (g' := (mkF m 34 #[.val (.int p0), .val (.int k), .val (.ref aSEPARATION_FOR_CAUSE), .unset, .unset] [(.ref aSEPARATION)])) st8 ?_
      refine own_by (T' := T8) (g' := (mkF m 35 #[.val (.int p0), .val (.int k), .val (.ref aSEPARATION_FOR_CAUSE), .val (.ref aSEPARATION), .unset] [])) (fun _ kq => XS.astoreN X8.here hx rfl (hb hby at_34) rfl rfl (l' := #[.val (.int p0), .val (.int k), .val (.ref aSEPARATION_FOR_CAUSE), .val (.ref aSEPARATION), .unset]) rfl kq) ?_
      refine own_by (T' := T8) (g' := (mkF m 78 #[.val (.int p0), .val (.int k), .val (.ref aSEPARATION_FOR_CAUSE), .val (.ref aSEPARATION), .unset] [])) (fun _ kq => XS.goto X8.here hx rfl (pc0 := 35) (pc' := 78) rfl (hb hby at_35) (by decide) (by decide) kq) ?_
      refine own_by (T' := T8) (g' := (mkF m 79 #[.val (.int p0), .val (.int k), .val (.ref aSEPARATION_FOR_CAUSE), .val (.ref aSEPARATION), .unset] [(.ref aSEPARATION_FOR_CAUSE)])) (fun _ kq => XS.aloadN X8.here hx rfl (hb hby at_78) rfl rfl kq) ?_
      refine own_callV X8 hx hZ (y := (⟨"com/example/abeyance/abeyance/records/Event", "kind", "()Lcom/example/abeyance/abeyance/records/Event;"⟩ : MethodName)) (z := (⟨"com/example/abeyance/abeyance/records/Event", "kind", "()Lcom/example/abeyance/abeyance/records/Event;"⟩ : MethodName)) hown (hw _ (List.mem_of_getElem? (i := 4) rfl)) (hw _ (List.mem_of_getElem? (i := 5) rfl)) (own_nf (hw _ (List.mem_of_getElem? (i := 7) rfl))) (hw _ (List.mem_of_getElem? (i := 7) rfl)) (hw _ (List.mem_of_getElem? (i := 6) rfl)) (hw _ (List.mem_of_getElem? (i := 8) rfl)) (hw _ (List.mem_of_getElem? (i := 2) rfl)) (by decide) E_SEPARATION_FOR_CAUSE (own_rm1 l Z a0 hw [] aSEPARATION_FOR_CAUSE aSEPARATION_FOR_CAUSE aSEPARATION h0 n0 Z0 S_SEPARATION_FOR_CAUSE S_SEPARATION) (by decide) (by decide) e8 (g := (mkF m 79 #[.val (.int p0), .val (.int k), .val (.ref aSEPARATION_FOR_CAUSE), .val (.ref aSEPARATION), .unset] [(.ref aSEPARATION_FOR_CAUSE)])) rfl (by rw [hml]; rfl) (argsL := []) (rest := []) (lenOf own_pd__28_29Lcom_2fexample_2fabeyance_2fabeyance_2frecords_2fEvent_3b rfl) rfl (W := 0) (by show 2 * 0 + _ ≤ _; exact Nat.le_of_eq rfl) (hb hby at_79) rfl (by decide) (by decide) ?_
      rintro rv9 T9 L9 X9 ⟨hv9, Nq9, eh9⟩
      have N9 := Fr.app N0 Nq9
      rw [if_pos rfl] at hv9
      subst hv9
      show own_Fin p e below _ T9 (mkF m 82 #[.val (.int p0), .val (.int k), .val (.ref aSEPARATION_FOR_CAUSE), .val (.ref aSEPARATION), .unset] [(.ref aSEPARATION)])
      refine own_by (T' := T9) (g' := (mkF m 84 #[.val (.int p0), .val (.int k), .val (.ref aSEPARATION_FOR_CAUSE), .val (.ref aSEPARATION), .val (.ref aSEPARATION)] [])) (fun _ kq => XS.astore X9.here hx rfl (hb hby at_82) rfl rfl (l' := #[.val (.int p0), .val (.int k), .val (.ref aSEPARATION_FOR_CAUSE), .val (.ref aSEPARATION), .val (.ref aSEPARATION)]) rfl kq) ?_
      refine own_by (T' := T9) (g' := (mkF m 86 #[.val (.int p0), .val (.int k), .val (.ref aSEPARATION_FOR_CAUSE), .val (.ref aSEPARATION), .val (.ref aSEPARATION)] [(.ref aSEPARATION)])) (fun _ kq => XS.aload X9.here hx rfl (hb hby at_84) rfl rfl kq) ?_
      refine own_by (T' := T9) (g' := (mkF m 87 #[.val (.int p0), .val (.int k), .val (.ref aSEPARATION_FOR_CAUSE), .val (.ref aSEPARATION), .val (.ref aSEPARATION)] [(.ref aSEPARATION), (.ref aSEPARATION)])) (fun _ kq => XS.aloadN X9.here hx rfl (hb hby at_86) rfl rfl kq) ?_
      refine own_by (T' := T9) (g' := (mkF m 92 #[.val (.int p0), .val (.int k), .val (.ref aSEPARATION_FOR_CAUSE), .val (.ref aSEPARATION), .val (.ref aSEPARATION)] [])) (fun _ kq => Jvm.RoadKit.acmp (g := (mkF m 87 #[.val (.int p0), .val (.int k), .val (.ref aSEPARATION_FOR_CAUSE), .val (.ref aSEPARATION), .val (.ref aSEPARATION)] [(.ref aSEPARATION), (.ref aSEPARATION)])) X9 hx rfl rfl rfl (pc0 := 87) (pc' := 92) (same := true) rfl (hb hby at_87) rfl (decide_eq_true rfl) (by decide) (by decide) kq) ?_
      refine own_by (T' := T9) (g' := (mkF m 94 #[.val (.int p0), .val (.int k), .val (.ref aSEPARATION_FOR_CAUSE), .val (.ref aSEPARATION), .val (.ref aSEPARATION)] [(.ref aSEPARATION)])) (fun _ kq => XS.aload X9.here hx rfl (hb hby at_92) rfl rfl kq) ?_
      refine own_callV X9 hx hZ (y := (⟨"com/example/abeyance/abeyance/records/Event", "kind", "()Lcom/example/abeyance/abeyance/records/Event;"⟩ : MethodName)) (z := (⟨"com/example/abeyance/abeyance/records/Event", "kind", "()Lcom/example/abeyance/abeyance/records/Event;"⟩ : MethodName)) hown (hw _ (List.mem_of_getElem? (i := 4) rfl)) (hw _ (List.mem_of_getElem? (i := 5) rfl)) (own_nf (hw _ (List.mem_of_getElem? (i := 7) rfl))) (hw _ (List.mem_of_getElem? (i := 7) rfl)) (hw _ (List.mem_of_getElem? (i := 6) rfl)) (hw _ (List.mem_of_getElem? (i := 8) rfl)) (hw _ (List.mem_of_getElem? (i := 2) rfl)) (by decide) E_SEPARATION (own_rm1 l Z a0 hw [] aSEPARATION aSEPARATION_FOR_CAUSE aSEPARATION h0 n0 Z0 S_SEPARATION_FOR_CAUSE S_SEPARATION) (by decide) (by decide) eh9 (g := (mkF m 94 #[.val (.int p0), .val (.int k), .val (.ref aSEPARATION_FOR_CAUSE), .val (.ref aSEPARATION), .val (.ref aSEPARATION)] [(.ref aSEPARATION)])) rfl (by rw [hml]; rfl) (argsL := []) (rest := []) (lenOf own_pd__28_29Lcom_2fexample_2fabeyance_2fabeyance_2frecords_2fEvent_3b rfl) rfl (W := 0) (by show 2 * 0 + _ ≤ _; exact Nat.le_of_eq rfl) (hb hby at_94) rfl (by decide) (by decide) ?_
      rintro rv10 T10 L10 X10 ⟨hv10, Nq10, eh10⟩
      have N10 := Fr.app N9 Nq10
      rw [if_neg n_SEPARATION_SEPARATION_FOR_CAUSE] at hv10
      subst hv10
      show own_Fin p e below _ T10 (mkF m 97 #[.val (.int p0), .val (.int k), .val (.ref aSEPARATION_FOR_CAUSE), .val (.ref aSEPARATION), .val (.ref aSEPARATION)] [(.ref aSEPARATION)])
      refine own_by (T' := T10) (g' := (mkF m 99 #[.val (.int p0), .val (.int k), .val (.ref aSEPARATION_FOR_CAUSE), .val (.ref aSEPARATION), .val (.ref aSEPARATION)] [(.ref aSEPARATION), (.ref aSEPARATION)])) (fun _ kq => XS.aload X10.here hx rfl (hb hby at_97) rfl rfl kq) ?_
      refine own_by (T' := T10) (g' := (mkF m 102 #[.val (.int p0), .val (.int k), .val (.ref aSEPARATION_FOR_CAUSE), .val (.ref aSEPARATION), .val (.ref aSEPARATION)] [])) (fun _ kq => Jvm.RoadKit.acmp (g := (mkF m 99 #[.val (.int p0), .val (.int k), .val (.ref aSEPARATION_FOR_CAUSE), .val (.ref aSEPARATION), .val (.ref aSEPARATION)] [(.ref aSEPARATION), (.ref aSEPARATION)])) X10 hx rfl rfl rfl (pc0 := 99) (pc' := 102) (same := true) rfl (hb hby at_99) rfl (decide_eq_true rfl) (by decide) (by decide) kq) ?_
      refine own_by (T' := T10) (g' := (mkF m 103 #[.val (.int p0), .val (.int k), .val (.ref aSEPARATION_FOR_CAUSE), .val (.ref aSEPARATION), .val (.ref aSEPARATION)] [(.int (1 : Int32))])) (fun _ kq => XS.iconst X10.here hx rfl (hb hby at_102) kq) ?_
      refine own_by (T' := T10) (g' := (mkF m 107 #[.val (.int p0), .val (.int k), .val (.ref aSEPARATION_FOR_CAUSE), .val (.ref aSEPARATION), .val (.ref aSEPARATION)] [(.int (1 : Int32))])) (fun _ kq => XS.goto X10.here hx rfl (pc0 := 103) (pc' := 107) rfl (hb hby at_103) (by decide) (by decide) kq) ?_
      exact own_end X10 (v := some (.int (nar .boolean (1 : Int32)))) (fun h => by rw [Bd.returns] at h; cases h) hlk (fun hr => retN X10 hx (t := .boolean) Bd.returns (by simp) (hb hby at_107) hr) (by rw [eh10]; exact ⟨rfl, N10⟩) (by decide) (by decide)
    · refine own_by (T' := s₁) (g' := (mkF m 38 #[.val (.int p0), .val (.int k), .unset, .unset, .unset] [])) (fun _ kq => XS.icmpYes X0.here hx rfl (pc0 := 24) (pc' := 38) rfl (hb hby at_24) rfl (feq hc6).2 (by decide) (by decide) kq) ?_
      refine own_by (T' := s₁) (g' := (mkF m 39 #[.val (.int p0), .val (.int k), .unset, .unset, .unset] [(.int k)])) (fun _ kq => XS.iloadN X0.here hx rfl (hb hby at_38) rfl kq) ?_
      refine own_by (T' := s₁) (g' := (mkF m 40 #[.val (.int p0), .val (.int k), .unset, .unset, .unset] [(.int (2 : Int32)), (.int k)])) (fun _ kq => XS.iconst X0.here hx rfl (hb hby at_39) kq) ?_
      by_cases hc11 : k = (2 : Int32)
      · refine own_by (T' := s₁) (g' := (mkF m 43 #[.val (.int p0), .val (.int k), .unset, .unset, .unset] [])) (fun _ kq => XS.icmpNo X0.here hx rfl (hb hby at_40) rfl (teq hc11).2 kq) ?_
        obtain ⟨T12, X12, e12, st12⟩ := getS2 X0 hx hZ hown (host := "") (Or.inl (hw _ (List.mem_of_getElem? (i := 17) rfl))) Via.refl e0 S_DEATH (g := (mkF m 43 #[.val (.int p0), .val (.int k), .unset, .unset, .unset] [])) rfl (hb hby at_43)
        refine own_by (T' := T12) (g' := (mkF m 46 #[.val (.int p0), .val (.int k), .unset, .unset, .unset] [(.ref aDEATH)])) st12 ?_
        refine own_by (T' := T12) (g' := (mkF m 47 #[.val (.int p0), .val (.int k), .val (.ref aDEATH), .unset, .unset] [])) (fun _ kq => XS.astoreN X12.here hx rfl (hb hby at_46) rfl rfl (l' := #[.val (.int p0), .val (.int k), .val (.ref aDEATH), .unset, .unset]) rfl kq) ?_
        obtain ⟨T13, X13, e13, st13⟩ := getS2 X12 hx hZ hown (host := "") (Or.inl (hw _ (List.mem_of_getElem? (i := 17) rfl))) Via.refl e12 S_DEATH (g := (mkF m 47 #[.val (.int p0), .val (.int k), .val (.ref aDEATH), .unset, .unset] [])) rfl (hb hby at_47)
        refine own_by (T' := T13) (g' := (mkF m 50 #[.val (.int p0), .val (.int k), .val (.ref aDEATH), .unset, .unset] [(.ref aDEATH)])) st13 ?_
        refine own_by (T' := T13) (g' := (mkF m 51 #[.val (.int p0), .val (.int k), .val (.ref aDEATH), .val (.ref aDEATH), .unset] [])) (fun _ kq => XS.astoreN X13.here hx rfl (hb hby at_50) rfl rfl (l' := #[.val (.int p0), .val (.int k), .val (.ref aDEATH), .val (.ref aDEATH), .unset]) rfl kq) ?_
        refine own_by (T' := T13) (g' := (mkF m 78 #[.val (.int p0), .val (.int k), .val (.ref aDEATH), .val (.ref aDEATH), .unset] [])) (fun _ kq => XS.goto X13.here hx rfl (pc0 := 51) (pc' := 78) rfl (hb hby at_51) (by decide) (by decide) kq) ?_
        refine own_by (T' := T13) (g' := (mkF m 79 #[.val (.int p0), .val (.int k), .val (.ref aDEATH), .val (.ref aDEATH), .unset] [(.ref aDEATH)])) (fun _ kq => XS.aloadN X13.here hx rfl (hb hby at_78) rfl rfl kq) ?_
        refine own_callV X13 hx hZ (y := (⟨"com/example/abeyance/abeyance/records/Event", "kind", "()Lcom/example/abeyance/abeyance/records/Event;"⟩ : MethodName)) (z := (⟨"com/example/abeyance/abeyance/records/Event", "kind", "()Lcom/example/abeyance/abeyance/records/Event;"⟩ : MethodName)) hown (hw _ (List.mem_of_getElem? (i := 4) rfl)) (hw _ (List.mem_of_getElem? (i := 5) rfl)) (own_nf (hw _ (List.mem_of_getElem? (i := 7) rfl))) (hw _ (List.mem_of_getElem? (i := 7) rfl)) (hw _ (List.mem_of_getElem? (i := 6) rfl)) (hw _ (List.mem_of_getElem? (i := 8) rfl)) (hw _ (List.mem_of_getElem? (i := 2) rfl)) (by decide) E_DEATH (own_rm1 l Z a0 hw [] aDEATH aSEPARATION_FOR_CAUSE aSEPARATION h0 n0 Z0 S_SEPARATION_FOR_CAUSE S_SEPARATION) (by decide) (by decide) e13 (g := (mkF m 79 #[.val (.int p0), .val (.int k), .val (.ref aDEATH), .val (.ref aDEATH), .unset] [(.ref aDEATH)])) rfl (by rw [hml]; rfl) (argsL := []) (rest := []) (lenOf own_pd__28_29Lcom_2fexample_2fabeyance_2fabeyance_2frecords_2fEvent_3b rfl) rfl (W := 0) (by show 2 * 0 + _ ≤ _; exact Nat.le_of_eq rfl) (hb hby at_79) rfl (by decide) (by decide) ?_
        rintro rv14 T14 L14 X14 ⟨hv14, Nq14, eh14⟩
        have N14 := Fr.app N0 Nq14
        rw [if_neg n_DEATH_SEPARATION_FOR_CAUSE] at hv14
        subst hv14
        show own_Fin p e below _ T14 (mkF m 82 #[.val (.int p0), .val (.int k), .val (.ref aDEATH), .val (.ref aDEATH), .unset] [(.ref aDEATH)])
        refine own_by (T' := T14) (g' := (mkF m 84 #[.val (.int p0), .val (.int k), .val (.ref aDEATH), .val (.ref aDEATH), .val (.ref aDEATH)] [])) (fun _ kq => XS.astore X14.here hx rfl (hb hby at_82) rfl rfl (l' := #[.val (.int p0), .val (.int k), .val (.ref aDEATH), .val (.ref aDEATH), .val (.ref aDEATH)]) rfl kq) ?_
        refine own_by (T' := T14) (g' := (mkF m 86 #[.val (.int p0), .val (.int k), .val (.ref aDEATH), .val (.ref aDEATH), .val (.ref aDEATH)] [(.ref aDEATH)])) (fun _ kq => XS.aload X14.here hx rfl (hb hby at_84) rfl rfl kq) ?_
        refine own_by (T' := T14) (g' := (mkF m 87 #[.val (.int p0), .val (.int k), .val (.ref aDEATH), .val (.ref aDEATH), .val (.ref aDEATH)] [(.ref aDEATH), (.ref aDEATH)])) (fun _ kq => XS.aloadN X14.here hx rfl (hb hby at_86) rfl rfl kq) ?_
        refine own_by (T' := T14) (g' := (mkF m 92 #[.val (.int p0), .val (.int k), .val (.ref aDEATH), .val (.ref aDEATH), .val (.ref aDEATH)] [])) (fun _ kq => Jvm.RoadKit.acmp (g := (mkF m 87 #[.val (.int p0), .val (.int k), .val (.ref aDEATH), .val (.ref aDEATH), .val (.ref aDEATH)] [(.ref aDEATH), (.ref aDEATH)])) X14 hx rfl rfl rfl (pc0 := 87) (pc' := 92) (same := true) rfl (hb hby at_87) rfl (decide_eq_true rfl) (by decide) (by decide) kq) ?_
        refine own_by (T' := T14) (g' := (mkF m 94 #[.val (.int p0), .val (.int k), .val (.ref aDEATH), .val (.ref aDEATH), .val (.ref aDEATH)] [(.ref aDEATH)])) (fun _ kq => XS.aload X14.here hx rfl (hb hby at_92) rfl rfl kq) ?_
        refine own_callV X14 hx hZ (y := (⟨"com/example/abeyance/abeyance/records/Event", "kind", "()Lcom/example/abeyance/abeyance/records/Event;"⟩ : MethodName)) (z := (⟨"com/example/abeyance/abeyance/records/Event", "kind", "()Lcom/example/abeyance/abeyance/records/Event;"⟩ : MethodName)) hown (hw _ (List.mem_of_getElem? (i := 4) rfl)) (hw _ (List.mem_of_getElem? (i := 5) rfl)) (own_nf (hw _ (List.mem_of_getElem? (i := 7) rfl))) (hw _ (List.mem_of_getElem? (i := 7) rfl)) (hw _ (List.mem_of_getElem? (i := 6) rfl)) (hw _ (List.mem_of_getElem? (i := 8) rfl)) (hw _ (List.mem_of_getElem? (i := 2) rfl)) (by decide) E_DEATH (own_rm1 l Z a0 hw [] aDEATH aSEPARATION_FOR_CAUSE aSEPARATION h0 n0 Z0 S_SEPARATION_FOR_CAUSE S_SEPARATION) (by decide) (by decide) eh14 (g := (mkF m 94 #[.val (.int p0), .val (.int k), .val (.ref aDEATH), .val (.ref aDEATH), .val (.ref aDEATH)] [(.ref aDEATH)])) rfl (by rw [hml]; rfl) (argsL := []) (rest := []) (lenOf own_pd__28_29Lcom_2fexample_2fabeyance_2fabeyance_2frecords_2fEvent_3b rfl) rfl (W := 0) (by show 2 * 0 + _ ≤ _; exact Nat.le_of_eq rfl) (hb hby at_94) rfl (by decide) (by decide) ?_
        rintro rv15 T15 L15 X15 ⟨hv15, Nq15, eh15⟩
        have N15 := Fr.app N14 Nq15
        rw [if_neg n_DEATH_SEPARATION_FOR_CAUSE] at hv15
        subst hv15
        show own_Fin p e below _ T15 (mkF m 97 #[.val (.int p0), .val (.int k), .val (.ref aDEATH), .val (.ref aDEATH), .val (.ref aDEATH)] [(.ref aDEATH)])
        refine own_by (T' := T15) (g' := (mkF m 99 #[.val (.int p0), .val (.int k), .val (.ref aDEATH), .val (.ref aDEATH), .val (.ref aDEATH)] [(.ref aDEATH), (.ref aDEATH)])) (fun _ kq => XS.aload X15.here hx rfl (hb hby at_97) rfl rfl kq) ?_
        refine own_by (T' := T15) (g' := (mkF m 102 #[.val (.int p0), .val (.int k), .val (.ref aDEATH), .val (.ref aDEATH), .val (.ref aDEATH)] [])) (fun _ kq => Jvm.RoadKit.acmp (g := (mkF m 99 #[.val (.int p0), .val (.int k), .val (.ref aDEATH), .val (.ref aDEATH), .val (.ref aDEATH)] [(.ref aDEATH), (.ref aDEATH)])) X15 hx rfl rfl rfl (pc0 := 99) (pc' := 102) (same := true) rfl (hb hby at_99) rfl (decide_eq_true rfl) (by decide) (by decide) kq) ?_
        refine own_by (T' := T15) (g' := (mkF m 103 #[.val (.int p0), .val (.int k), .val (.ref aDEATH), .val (.ref aDEATH), .val (.ref aDEATH)] [(.int (1 : Int32))])) (fun _ kq => XS.iconst X15.here hx rfl (hb hby at_102) kq) ?_
        refine own_by (T' := T15) (g' := (mkF m 107 #[.val (.int p0), .val (.int k), .val (.ref aDEATH), .val (.ref aDEATH), .val (.ref aDEATH)] [(.int (1 : Int32))])) (fun _ kq => XS.goto X15.here hx rfl (pc0 := 103) (pc' := 107) rfl (hb hby at_103) (by decide) (by decide) kq) ?_
        exact own_end X15 (v := some (.int (nar .boolean (1 : Int32)))) (fun h => by rw [Bd.returns] at h; cases h) hlk (fun hr => retN X15 hx (t := .boolean) Bd.returns (by simp) (hb hby at_107) hr) (by rw [eh15]; exact ⟨rfl, N15⟩) (by decide) (by decide)
      · refine own_by (T' := s₁) (g' := (mkF m 54 #[.val (.int p0), .val (.int k), .unset, .unset, .unset] [])) (fun _ kq => XS.icmpYes X0.here hx rfl (pc0 := 40) (pc' := 54) rfl (hb hby at_40) rfl (feq hc11).2 (by decide) (by decide) kq) ?_
        refine own_by (T' := s₁) (g' := (mkF m 55 #[.val (.int p0), .val (.int k), .unset, .unset, .unset] [(.int k)])) (fun _ kq => XS.iloadN X0.here hx rfl (hb hby at_54) rfl kq) ?_
        refine own_by (T' := s₁) (g' := (mkF m 56 #[.val (.int p0), .val (.int k), .unset, .unset, .unset] [(.int (3 : Int32)), (.int k)])) (fun _ kq => XS.iconst X0.here hx rfl (hb hby at_55) kq) ?_
        by_cases hc16 : k = (3 : Int32)
        · refine own_by (T' := s₁) (g' := (mkF m 59 #[.val (.int p0), .val (.int k), .unset, .unset, .unset] [])) (fun _ kq => XS.icmpNo X0.here hx rfl (hb hby at_56) rfl (teq hc16).2 kq) ?_
          obtain ⟨T17, X17, e17, st17⟩ := getS2 X0 hx hZ hown (host := "") (Or.inl (hw _ (List.mem_of_getElem? (i := 11) rfl))) Via.refl e0 S_DISABILITY (g := (mkF m 59 #[.val (.int p0), .val (.int k), .unset, .unset, .unset] [])) rfl (hb hby at_59)
          refine own_by (T' := T17) (g' := (mkF m 62 #[.val (.int p0), .val (.int k), .unset, .unset, .unset] [(.ref aDISABILITY)])) st17 ?_
          refine own_by (T' := T17) (g' := (mkF m 63 #[.val (.int p0), .val (.int k), .val (.ref aDISABILITY), .unset, .unset] [])) (fun _ kq => XS.astoreN X17.here hx rfl (hb hby at_62) rfl rfl (l' := #[.val (.int p0), .val (.int k), .val (.ref aDISABILITY), .unset, .unset]) rfl kq) ?_
          obtain ⟨T18, X18, e18, st18⟩ := getS2 X17 hx hZ hown (host := "") (Or.inl (hw _ (List.mem_of_getElem? (i := 11) rfl))) Via.refl e17 S_DISABILITY (g := (mkF m 63 #[.val (.int p0), .val (.int k), .val (.ref aDISABILITY), .unset, .unset] [])) rfl (hb hby at_63)
          refine own_by (T' := T18) (g' := (mkF m 66 #[.val (.int p0), .val (.int k), .val (.ref aDISABILITY), .unset, .unset] [(.ref aDISABILITY)])) st18 ?_
          refine own_by (T' := T18) (g' := (mkF m 67 #[.val (.int p0), .val (.int k), .val (.ref aDISABILITY), .val (.ref aDISABILITY), .unset] [])) (fun _ kq => XS.astoreN X18.here hx rfl (hb hby at_66) rfl rfl (l' := #[.val (.int p0), .val (.int k), .val (.ref aDISABILITY), .val (.ref aDISABILITY), .unset]) rfl kq) ?_
          refine own_by (T' := T18) (g' := (mkF m 78 #[.val (.int p0), .val (.int k), .val (.ref aDISABILITY), .val (.ref aDISABILITY), .unset] [])) (fun _ kq => XS.goto X18.here hx rfl (pc0 := 67) (pc' := 78) rfl (hb hby at_67) (by decide) (by decide) kq) ?_
          refine own_by (T' := T18) (g' := (mkF m 79 #[.val (.int p0), .val (.int k), .val (.ref aDISABILITY), .val (.ref aDISABILITY), .unset] [(.ref aDISABILITY)])) (fun _ kq => XS.aloadN X18.here hx rfl (hb hby at_78) rfl rfl kq) ?_
          refine own_callV X18 hx hZ (y := (⟨"com/example/abeyance/abeyance/records/Event", "kind", "()Lcom/example/abeyance/abeyance/records/Event;"⟩ : MethodName)) (z := (⟨"com/example/abeyance/abeyance/records/Event", "kind", "()Lcom/example/abeyance/abeyance/records/Event;"⟩ : MethodName)) hown (hw _ (List.mem_of_getElem? (i := 4) rfl)) (hw _ (List.mem_of_getElem? (i := 5) rfl)) (own_nf (hw _ (List.mem_of_getElem? (i := 7) rfl))) (hw _ (List.mem_of_getElem? (i := 7) rfl)) (hw _ (List.mem_of_getElem? (i := 6) rfl)) (hw _ (List.mem_of_getElem? (i := 8) rfl)) (hw _ (List.mem_of_getElem? (i := 2) rfl)) (by decide) E_DISABILITY (own_rm1 l Z a0 hw [] aDISABILITY aSEPARATION_FOR_CAUSE aSEPARATION h0 n0 Z0 S_SEPARATION_FOR_CAUSE S_SEPARATION) (by decide) (by decide) e18 (g := (mkF m 79 #[.val (.int p0), .val (.int k), .val (.ref aDISABILITY), .val (.ref aDISABILITY), .unset] [(.ref aDISABILITY)])) rfl (by rw [hml]; rfl) (argsL := []) (rest := []) (lenOf own_pd__28_29Lcom_2fexample_2fabeyance_2fabeyance_2frecords_2fEvent_3b rfl) rfl (W := 0) (by show 2 * 0 + _ ≤ _; exact Nat.le_of_eq rfl) (hb hby at_79) rfl (by decide) (by decide) ?_
          rintro rv19 T19 L19 X19 ⟨hv19, Nq19, eh19⟩
          have N19 := Fr.app N0 Nq19
          rw [if_neg n_DISABILITY_SEPARATION_FOR_CAUSE] at hv19
          subst hv19
          show own_Fin p e below _ T19 (mkF m 82 #[.val (.int p0), .val (.int k), .val (.ref aDISABILITY), .val (.ref aDISABILITY), .unset] [(.ref aDISABILITY)])
          refine own_by (T' := T19) (g' := (mkF m 84 #[.val (.int p0), .val (.int k), .val (.ref aDISABILITY), .val (.ref aDISABILITY), .val (.ref aDISABILITY)] [])) (fun _ kq => XS.astore X19.here hx rfl (hb hby at_82) rfl rfl (l' := #[.val (.int p0), .val (.int k), .val (.ref aDISABILITY), .val (.ref aDISABILITY), .val (.ref aDISABILITY)]) rfl kq) ?_
          refine own_by (T' := T19) (g' := (mkF m 86 #[.val (.int p0), .val (.int k), .val (.ref aDISABILITY), .val (.ref aDISABILITY), .val (.ref aDISABILITY)] [(.ref aDISABILITY)])) (fun _ kq => XS.aload X19.here hx rfl (hb hby at_84) rfl rfl kq) ?_
          refine own_by (T' := T19) (g' := (mkF m 87 #[.val (.int p0), .val (.int k), .val (.ref aDISABILITY), .val (.ref aDISABILITY), .val (.ref aDISABILITY)] [(.ref aDISABILITY), (.ref aDISABILITY)])) (fun _ kq => XS.aloadN X19.here hx rfl (hb hby at_86) rfl rfl kq) ?_
          refine own_by (T' := T19) (g' := (mkF m 92 #[.val (.int p0), .val (.int k), .val (.ref aDISABILITY), .val (.ref aDISABILITY), .val (.ref aDISABILITY)] [])) (fun _ kq => Jvm.RoadKit.acmp (g := (mkF m 87 #[.val (.int p0), .val (.int k), .val (.ref aDISABILITY), .val (.ref aDISABILITY), .val (.ref aDISABILITY)] [(.ref aDISABILITY), (.ref aDISABILITY)])) X19 hx rfl rfl rfl (pc0 := 87) (pc' := 92) (same := true) rfl (hb hby at_87) rfl (decide_eq_true rfl) (by decide) (by decide) kq) ?_
          refine own_by (T' := T19) (g' := (mkF m 94 #[.val (.int p0), .val (.int k), .val (.ref aDISABILITY), .val (.ref aDISABILITY), .val (.ref aDISABILITY)] [(.ref aDISABILITY)])) (fun _ kq => XS.aload X19.here hx rfl (hb hby at_92) rfl rfl kq) ?_
          refine own_callV X19 hx hZ (y := (⟨"com/example/abeyance/abeyance/records/Event", "kind", "()Lcom/example/abeyance/abeyance/records/Event;"⟩ : MethodName)) (z := (⟨"com/example/abeyance/abeyance/records/Event", "kind", "()Lcom/example/abeyance/abeyance/records/Event;"⟩ : MethodName)) hown (hw _ (List.mem_of_getElem? (i := 4) rfl)) (hw _ (List.mem_of_getElem? (i := 5) rfl)) (own_nf (hw _ (List.mem_of_getElem? (i := 7) rfl))) (hw _ (List.mem_of_getElem? (i := 7) rfl)) (hw _ (List.mem_of_getElem? (i := 6) rfl)) (hw _ (List.mem_of_getElem? (i := 8) rfl)) (hw _ (List.mem_of_getElem? (i := 2) rfl)) (by decide) E_DISABILITY (own_rm1 l Z a0 hw [] aDISABILITY aSEPARATION_FOR_CAUSE aSEPARATION h0 n0 Z0 S_SEPARATION_FOR_CAUSE S_SEPARATION) (by decide) (by decide) eh19 (g := (mkF m 94 #[.val (.int p0), .val (.int k), .val (.ref aDISABILITY), .val (.ref aDISABILITY), .val (.ref aDISABILITY)] [(.ref aDISABILITY)])) rfl (by rw [hml]; rfl) (argsL := []) (rest := []) (lenOf own_pd__28_29Lcom_2fexample_2fabeyance_2fabeyance_2frecords_2fEvent_3b rfl) rfl (W := 0) (by show 2 * 0 + _ ≤ _; exact Nat.le_of_eq rfl) (hb hby at_94) rfl (by decide) (by decide) ?_
          rintro rv20 T20 L20 X20 ⟨hv20, Nq20, eh20⟩
          have N20 := Fr.app N19 Nq20
          rw [if_neg n_DISABILITY_SEPARATION_FOR_CAUSE] at hv20
          subst hv20
          show own_Fin p e below _ T20 (mkF m 97 #[.val (.int p0), .val (.int k), .val (.ref aDISABILITY), .val (.ref aDISABILITY), .val (.ref aDISABILITY)] [(.ref aDISABILITY)])
          refine own_by (T' := T20) (g' := (mkF m 99 #[.val (.int p0), .val (.int k), .val (.ref aDISABILITY), .val (.ref aDISABILITY), .val (.ref aDISABILITY)] [(.ref aDISABILITY), (.ref aDISABILITY)])) (fun _ kq => XS.aload X20.here hx rfl (hb hby at_97) rfl rfl kq) ?_
          refine own_by (T' := T20) (g' := (mkF m 102 #[.val (.int p0), .val (.int k), .val (.ref aDISABILITY), .val (.ref aDISABILITY), .val (.ref aDISABILITY)] [])) (fun _ kq => Jvm.RoadKit.acmp (g := (mkF m 99 #[.val (.int p0), .val (.int k), .val (.ref aDISABILITY), .val (.ref aDISABILITY), .val (.ref aDISABILITY)] [(.ref aDISABILITY), (.ref aDISABILITY)])) X20 hx rfl rfl rfl (pc0 := 99) (pc' := 102) (same := true) rfl (hb hby at_99) rfl (decide_eq_true rfl) (by decide) (by decide) kq) ?_
          refine own_by (T' := T20) (g' := (mkF m 103 #[.val (.int p0), .val (.int k), .val (.ref aDISABILITY), .val (.ref aDISABILITY), .val (.ref aDISABILITY)] [(.int (1 : Int32))])) (fun _ kq => XS.iconst X20.here hx rfl (hb hby at_102) kq) ?_
          refine own_by (T' := T20) (g' := (mkF m 107 #[.val (.int p0), .val (.int k), .val (.ref aDISABILITY), .val (.ref aDISABILITY), .val (.ref aDISABILITY)] [(.int (1 : Int32))])) (fun _ kq => XS.goto X20.here hx rfl (pc0 := 103) (pc' := 107) rfl (hb hby at_103) (by decide) (by decide) kq) ?_
          exact own_end X20 (v := some (.int (nar .boolean (1 : Int32)))) (fun h => by rw [Bd.returns] at h; cases h) hlk (fun hr => retN X20 hx (t := .boolean) Bd.returns (by simp) (hb hby at_107) hr) (by rw [eh20]; exact ⟨rfl, N20⟩) (by decide) (by decide)
        · refine own_by (T' := s₁) (g' := (mkF m 70 #[.val (.int p0), .val (.int k), .unset, .unset, .unset] [])) (fun _ kq => XS.icmpYes X0.here hx rfl (pc0 := 56) (pc' := 70) rfl (hb hby at_56) rfl (feq hc16).2 (by decide) (by decide) kq) ?_
          obtain ⟨T21, X21, e21, st21⟩ := getS2 X0 hx hZ hown (host := "") (Or.inl (hw _ (List.mem_of_getElem? (i := 15) rfl))) Via.refl e0 S_CHANGE_IN_CONTROL (g := (mkF m 70 #[.val (.int p0), .val (.int k), .unset, .unset, .unset] [])) rfl (hb hby at_70)
          refine own_by (T' := T21) (g' := (mkF m 73 #[.val (.int p0), .val (.int k), .unset, .unset, .unset] [(.ref aCHANGE_IN_CONTROL)])) st21 ?_
          refine own_by (T' := T21) (g' := (mkF m 74 #[.val (.int p0), .val (.int k), .val (.ref aCHANGE_IN_CONTROL), .unset, .unset] [])) (fun _ kq => XS.astoreN X21.here hx rfl (hb hby at_73) rfl rfl (l' := #[.val (.int p0), .val (.int k), .val (.ref aCHANGE_IN_CONTROL), .unset, .unset]) rfl kq) ?_
          obtain ⟨T22, X22, e22, st22⟩ := getS2 X21 hx hZ hown (host := "") (Or.inl (hw _ (List.mem_of_getElem? (i := 15) rfl))) Via.refl e21 S_CHANGE_IN_CONTROL (g := (mkF m 74 #[.val (.int p0), .val (.int k), .val (.ref aCHANGE_IN_CONTROL), .unset, .unset] [])) rfl (hb hby at_74)
          refine own_by (T' := T22) (g' := (mkF m 77 #[.val (.int p0), .val (.int k), .val (.ref aCHANGE_IN_CONTROL), .unset, .unset] [(.ref aCHANGE_IN_CONTROL)])) st22 ?_
          refine own_by (T' := T22) (g' := (mkF m 78 #[.val (.int p0), .val (.int k), .val (.ref aCHANGE_IN_CONTROL), .val (.ref aCHANGE_IN_CONTROL), .unset] [])) (fun _ kq => XS.astoreN X22.here hx rfl (hb hby at_77) rfl rfl (l' := #[.val (.int p0), .val (.int k), .val (.ref aCHANGE_IN_CONTROL), .val (.ref aCHANGE_IN_CONTROL), .unset]) rfl kq) ?_
          refine own_by (T' := T22) (g' := (mkF m 79 #[.val (.int p0), .val (.int k), .val (.ref aCHANGE_IN_CONTROL), .val (.ref aCHANGE_IN_CONTROL), .unset] [(.ref aCHANGE_IN_CONTROL)])) (fun _ kq => XS.aloadN X22.here hx rfl (hb hby at_78) rfl rfl kq) ?_
          refine own_callV X22 hx hZ (y := (⟨"com/example/abeyance/abeyance/records/Event", "kind", "()Lcom/example/abeyance/abeyance/records/Event;"⟩ : MethodName)) (z := (⟨"com/example/abeyance/abeyance/records/Event", "kind", "()Lcom/example/abeyance/abeyance/records/Event;"⟩ : MethodName)) hown (hw _ (List.mem_of_getElem? (i := 4) rfl)) (hw _ (List.mem_of_getElem? (i := 5) rfl)) (own_nf (hw _ (List.mem_of_getElem? (i := 7) rfl))) (hw _ (List.mem_of_getElem? (i := 7) rfl)) (hw _ (List.mem_of_getElem? (i := 6) rfl)) (hw _ (List.mem_of_getElem? (i := 8) rfl)) (hw _ (List.mem_of_getElem? (i := 2) rfl)) (by decide) E_CHANGE_IN_CONTROL (own_rm1 l Z a0 hw [] aCHANGE_IN_CONTROL aSEPARATION_FOR_CAUSE aSEPARATION h0 n0 Z0 S_SEPARATION_FOR_CAUSE S_SEPARATION) (by decide) (by decide) e22 (g := (mkF m 79 #[.val (.int p0), .val (.int k), .val (.ref aCHANGE_IN_CONTROL), .val (.ref aCHANGE_IN_CONTROL), .unset] [(.ref aCHANGE_IN_CONTROL)])) rfl (by rw [hml]; rfl) (argsL := []) (rest := []) (lenOf own_pd__28_29Lcom_2fexample_2fabeyance_2fabeyance_2frecords_2fEvent_3b rfl) rfl (W := 0) (by show 2 * 0 + _ ≤ _; exact Nat.le_of_eq rfl) (hb hby at_79) rfl (by decide) (by decide) ?_
          rintro rv23 T23 L23 X23 ⟨hv23, Nq23, eh23⟩
          have N23 := Fr.app N0 Nq23
          rw [if_neg n_CHANGE_IN_CONTROL_SEPARATION_FOR_CAUSE] at hv23
          subst hv23
          show own_Fin p e below _ T23 (mkF m 82 #[.val (.int p0), .val (.int k), .val (.ref aCHANGE_IN_CONTROL), .val (.ref aCHANGE_IN_CONTROL), .unset] [(.ref aCHANGE_IN_CONTROL)])
          refine own_by (T' := T23) (g' := (mkF m 84 #[.val (.int p0), .val (.int k), .val (.ref aCHANGE_IN_CONTROL), .val (.ref aCHANGE_IN_CONTROL), .val (.ref aCHANGE_IN_CONTROL)] [])) (fun _ kq => XS.astore X23.here hx rfl (hb hby at_82) rfl rfl (l' := #[.val (.int p0), .val (.int k), .val (.ref aCHANGE_IN_CONTROL), .val (.ref aCHANGE_IN_CONTROL), .val (.ref aCHANGE_IN_CONTROL)]) rfl kq) ?_
          refine own_by (T' := T23) (g' := (mkF m 86 #[.val (.int p0), .val (.int k), .val (.ref aCHANGE_IN_CONTROL), .val (.ref aCHANGE_IN_CONTROL), .val (.ref aCHANGE_IN_CONTROL)] [(.ref aCHANGE_IN_CONTROL)])) (fun _ kq => XS.aload X23.here hx rfl (hb hby at_84) rfl rfl kq) ?_
          refine own_by (T' := T23) (g' := (mkF m 87 #[.val (.int p0), .val (.int k), .val (.ref aCHANGE_IN_CONTROL), .val (.ref aCHANGE_IN_CONTROL), .val (.ref aCHANGE_IN_CONTROL)] [(.ref aCHANGE_IN_CONTROL), (.ref aCHANGE_IN_CONTROL)])) (fun _ kq => XS.aloadN X23.here hx rfl (hb hby at_86) rfl rfl kq) ?_
          refine own_by (T' := T23) (g' := (mkF m 92 #[.val (.int p0), .val (.int k), .val (.ref aCHANGE_IN_CONTROL), .val (.ref aCHANGE_IN_CONTROL), .val (.ref aCHANGE_IN_CONTROL)] [])) (fun _ kq => Jvm.RoadKit.acmp (g := (mkF m 87 #[.val (.int p0), .val (.int k), .val (.ref aCHANGE_IN_CONTROL), .val (.ref aCHANGE_IN_CONTROL), .val (.ref aCHANGE_IN_CONTROL)] [(.ref aCHANGE_IN_CONTROL), (.ref aCHANGE_IN_CONTROL)])) X23 hx rfl rfl rfl (pc0 := 87) (pc' := 92) (same := true) rfl (hb hby at_87) rfl (decide_eq_true rfl) (by decide) (by decide) kq) ?_
          refine own_by (T' := T23) (g' := (mkF m 94 #[.val (.int p0), .val (.int k), .val (.ref aCHANGE_IN_CONTROL), .val (.ref aCHANGE_IN_CONTROL), .val (.ref aCHANGE_IN_CONTROL)] [(.ref aCHANGE_IN_CONTROL)])) (fun _ kq => XS.aload X23.here hx rfl (hb hby at_92) rfl rfl kq) ?_
          refine own_callV X23 hx hZ (y := (⟨"com/example/abeyance/abeyance/records/Event", "kind", "()Lcom/example/abeyance/abeyance/records/Event;"⟩ : MethodName)) (z := (⟨"com/example/abeyance/abeyance/records/Event", "kind", "()Lcom/example/abeyance/abeyance/records/Event;"⟩ : MethodName)) hown (hw _ (List.mem_of_getElem? (i := 4) rfl)) (hw _ (List.mem_of_getElem? (i := 5) rfl)) (own_nf (hw _ (List.mem_of_getElem? (i := 7) rfl))) (hw _ (List.mem_of_getElem? (i := 7) rfl)) (hw _ (List.mem_of_getElem? (i := 6) rfl)) (hw _ (List.mem_of_getElem? (i := 8) rfl)) (hw _ (List.mem_of_getElem? (i := 2) rfl)) (by decide) E_CHANGE_IN_CONTROL (own_rm1 l Z a0 hw [] aCHANGE_IN_CONTROL aSEPARATION_FOR_CAUSE aSEPARATION h0 n0 Z0 S_SEPARATION_FOR_CAUSE S_SEPARATION) (by decide) (by decide) eh23 (g := (mkF m 94 #[.val (.int p0), .val (.int k), .val (.ref aCHANGE_IN_CONTROL), .val (.ref aCHANGE_IN_CONTROL), .val (.ref aCHANGE_IN_CONTROL)] [(.ref aCHANGE_IN_CONTROL)])) rfl (by rw [hml]; rfl) (argsL := []) (rest := []) (lenOf own_pd__28_29Lcom_2fexample_2fabeyance_2fabeyance_2frecords_2fEvent_3b rfl) rfl (W := 0) (by show 2 * 0 + _ ≤ _; exact Nat.le_of_eq rfl) (hb hby at_94) rfl (by decide) (by decide) ?_
          rintro rv24 T24 L24 X24 ⟨hv24, Nq24, eh24⟩
          have N24 := Fr.app N23 Nq24
          rw [if_neg n_CHANGE_IN_CONTROL_SEPARATION_FOR_CAUSE] at hv24
          subst hv24
          show own_Fin p e below _ T24 (mkF m 97 #[.val (.int p0), .val (.int k), .val (.ref aCHANGE_IN_CONTROL), .val (.ref aCHANGE_IN_CONTROL), .val (.ref aCHANGE_IN_CONTROL)] [(.ref aCHANGE_IN_CONTROL)])
          refine own_by (T' := T24) (g' := (mkF m 99 #[.val (.int p0), .val (.int k), .val (.ref aCHANGE_IN_CONTROL), .val (.ref aCHANGE_IN_CONTROL), .val (.ref aCHANGE_IN_CONTROL)] [(.ref aCHANGE_IN_CONTROL), (.ref aCHANGE_IN_CONTROL)])) (fun _ kq => XS.aload X24.here hx rfl (hb hby at_97) rfl rfl kq) ?_
          refine own_by (T' := T24) (g' := (mkF m 102 #[.val (.int p0), .val (.int k), .val (.ref aCHANGE_IN_CONTROL), .val (.ref aCHANGE_IN_CONTROL), .val (.ref aCHANGE_IN_CONTROL)] [])) (fun _ kq => Jvm.RoadKit.acmp (g := (mkF m 99 #[.val (.int p0), .val (.int k), .val (.ref aCHANGE_IN_CONTROL), .val (.ref aCHANGE_IN_CONTROL), .val (.ref aCHANGE_IN_CONTROL)] [(.ref aCHANGE_IN_CONTROL), (.ref aCHANGE_IN_CONTROL)])) X24 hx rfl rfl rfl (pc0 := 99) (pc' := 102) (same := true) rfl (hb hby at_99) rfl (decide_eq_true rfl) (by decide) (by decide) kq) ?_
          refine own_by (T' := T24) (g' := (mkF m 103 #[.val (.int p0), .val (.int k), .val (.ref aCHANGE_IN_CONTROL), .val (.ref aCHANGE_IN_CONTROL), .val (.ref aCHANGE_IN_CONTROL)] [(.int (1 : Int32))])) (fun _ kq => XS.iconst X24.here hx rfl (hb hby at_102) kq) ?_
          refine own_by (T' := T24) (g' := (mkF m 107 #[.val (.int p0), .val (.int k), .val (.ref aCHANGE_IN_CONTROL), .val (.ref aCHANGE_IN_CONTROL), .val (.ref aCHANGE_IN_CONTROL)] [(.int (1 : Int32))])) (fun _ kq => XS.goto X24.here hx rfl (pc0 := 103) (pc' := 107) rfl (hb hby at_103) (by decide) (by decide) kq) ?_
          exact own_end X24 (v := some (.int (nar .boolean (1 : Int32)))) (fun h => by rw [Bd.returns] at h; cases h) hlk (fun hr => retN X24 hx (t := .boolean) Bd.returns (by simp) (hb hby at_107) hr) (by rw [eh24]; exact ⟨rfl, N24⟩) (by decide) (by decide)
set_option maxRecDepth 65536 in
set_option maxHeartbeats 40000000 in
theorem own_comes {Post : Tables → Env → Array Value → State → Outcome → State → Prop} (hpost : ∀ tb e args s v u, (limb_1_1.after args s (.returned v) u = true ∧ limb_1_2.after args s (.returned v) u = true ∧ True) → FrameEnd s (.returned v) u (Jvm.fieldLocs frame_1_writes args s ++ Jvm.arrayLocs frame_1_arrays args s ++ Jvm.staticLocs frame_1_statics s) 0 0 → Post tb e args s (.returned v) u) :
    ArmFor flags0 classFile x code maxLocals ret World_1 tables_1 room_1 Calls_1 rest_1 Pre_1 Post := by
  intro l hfl _ _ p e ha hc hk s m args below hf hA hF happ hP
  obtain ⟨hcalls, hrest, hpre⟩ := hP
  obtain ⟨-, -, -, hnamed, -, -, -, hat⟩ := (Spec.applies_iff hf).mp happ
  obtain ⟨hg, hn⟩ := and_e (Cond.before_iff.mp (show (Jvm.Cond.and given_1 narrow_1).before args s = true from hpre))
  obtain ⟨g0, g1⟩ := and_e hg
  obtain ⟨w0, rfl⟩ : ∃ w0 : Value, args = #[w0] := by
    have hs : args.size = 1 := by simpa [Jvm.Cond.value, given_1] using g0
    obtain ⟨L⟩ := args
    match L, hs with
    | [w0], _ => exact ⟨w0, rfl⟩
  have hw := fun d (hd : d ∈ tables_1) => atoms_spec (ws := Jvm.Cond.code x code maxLocals ret :: tables_1) hat d (List.mem_cons_of_mem _ hd)
  have hfit : Fit s := fun {y c} hc i hi => by
    obtain ⟨ha, rfl⟩ := Array.getElem?_eq_some_iff.mp hc
    have q := List.all_eq_true.mp ((Array.all_eq_true_iff_forall_mem.mp hF) _ (Array.getElem_mem ha)) i (List.mem_range.mpr hi)
    simpa [Array.getElem?_eq_getElem hi] using q
  obtain ⟨i0, ei0⟩ := is_v g1
  obtain rfl : w0 = (.int i0) := Option.some.inj ei0
  obtain ⟨g2, g3⟩ := and_e hn
  obtain ⟨g4, g5⟩ := and_e g3
  obtain ⟨g6, g7⟩ := and_e g5
  obtain ⟨g8, g9⟩ := and_e g7
  obtain ⟨g10, g11⟩ := and_e g9
  obtain ⟨g12, g13⟩ := and_e g11
  obtain ⟨g14, g15⟩ := and_e g13
  obtain ⟨g16, g17⟩ := and_e g15
  obtain ⟨g18, g19⟩ := and_e g17
  obtain ⟨a_SEPARATION, ea_SEPARATION⟩ := exa_v g2
  have E_SEPARATION := Exa.start ea_SEPARATION g2
  have S_SEPARATION := Sta.start ea_SEPARATION (Or.inr ⟨(hw _ (List.mem_of_getElem? (i := 2) rfl)), (hw _ (List.mem_of_getElem? (i := 3) rfl))⟩)
  obtain ⟨a_SEPARATION_FOR_CAUSE, ea_SEPARATION_FOR_CAUSE⟩ := exa_v g4
  have E_SEPARATION_FOR_CAUSE := Exa.start ea_SEPARATION_FOR_CAUSE g4
  have S_SEPARATION_FOR_CAUSE := Sta.start ea_SEPARATION_FOR_CAUSE (Or.inr ⟨(hw _ (List.mem_of_getElem? (i := 2) rfl)), (hw _ (List.mem_of_getElem? (i := 10) rfl))⟩)
  obtain ⟨a_DISABILITY, ea_DISABILITY⟩ := exa_v g10
  have E_DISABILITY := Exa.start ea_DISABILITY g10
  have S_DISABILITY := Sta.start ea_DISABILITY (Or.inr ⟨(hw _ (List.mem_of_getElem? (i := 2) rfl)), (hw _ (List.mem_of_getElem? (i := 12) rfl))⟩)
  obtain ⟨a_CHANGE_IN_CONTROL, ea_CHANGE_IN_CONTROL⟩ := exa_v g14
  have E_CHANGE_IN_CONTROL := Exa.start ea_CHANGE_IN_CONTROL g14
  have S_CHANGE_IN_CONTROL := Sta.start ea_CHANGE_IN_CONTROL (Or.inr ⟨(hw _ (List.mem_of_getElem? (i := 2) rfl)), (hw _ (List.mem_of_getElem? (i := 16) rfl))⟩)
  obtain ⟨a_DEATH, ea_DEATH⟩ := exa_v g18
  have E_DEATH := Exa.start ea_DEATH g18
  have S_DEATH := Sta.start ea_DEATH (Or.inr ⟨(hw _ (List.mem_of_getElem? (i := 2) rfl)), (hw _ (List.mem_of_getElem? (i := 18) rfl))⟩)
  have O_SEPARATION := own_fldI g6 ea_SEPARATION
  have O_SEPARATION_FOR_CAUSE := own_fldI g8 ea_SEPARATION_FOR_CAUSE
  have O_DISABILITY := own_fldI g12 ea_DISABILITY
  have O_CHANGE_IN_CONTROL := own_fldI g16 ea_CHANGE_IN_CONTROL
  have O_DEATH := own_fldI g19 ea_DEATH
  obtain ⟨n, o, h1, h2, h3, _, L, rfl, ⟨rfl, N⟩, hq⟩ := own_rm0 l s _ hw tables_1 i0 a_SEPARATION a_SEPARATION_FOR_CAUSE a_DEATH a_DISABILITY a_CHANGE_IN_CONTROL s.heap s.heap.size (Nat.le_refl _) S_SEPARATION S_SEPARATION_FOR_CAUSE S_DEATH S_DISABILITY S_CHANGE_IN_CONTROL E_SEPARATION E_SEPARATION_FOR_CAUSE E_DEATH E_DISABILITY E_CHANGE_IN_CONTROL (O_SEPARATION.ne O_SEPARATION_FOR_CAUSE (by decide)) (O_DEATH.ne O_SEPARATION_FOR_CAUSE (by decide)) (O_DISABILITY.ne O_SEPARATION_FOR_CAUSE (by decide)) (O_CHANGE_IN_CONTROL.ne O_SEPARATION_FOR_CAUSE (by decide)) p e ha hc hk s m _ below hf ((Spec.applies_iff_loose hf).mp happ).1 ⟨rfl, State.Warmed39.refl s, rfl⟩ trivial
  refine ⟨n, _, h1, h2, h3, hpost _ _ _ _ _ _ ⟨Cond.after_iff.mpr rfl, Cond.after_iff.mpr (eq_i res_at (Term.int_eval (1)) rfl), trivial⟩ ⟨hq.1, hq.2.1, (hq.2.2.sift fun y hy => Or.inr (N y hy)).mono (by decide) (by decide)⟩⟩
theorem main_1_1 : Claimed_1_1 := own_comes fun _ _ _ _ _ _ h hF => ⟨h.1, hF⟩
theorem main_1_2 : Claimed_1_2 := own_comes fun _ _ _ _ _ _ h hF => ⟨h.2.1, hF⟩
end Jvm.Pilot.@@N@@
namespace Jvm.Pilot.@@N@@
open Jvm Jvm.ClassFile Sem Op Lib Jvm.Free Jvm.Stand Jvm.Pilot.@@N@@.Jvm.D
/-! MADE BY PROGRAM (witnessworld.py) out of the Statement's table words and the real class files: 13 classes; the members and pool entries that the words name. The judged class is class 1, her method 1. -/
namespace start1
open Jvm.ClassFile
def u (s : String) : CpInfo := .utf8 (stringToUtf16 s)
/-- a pool by its gaps: so many unusable entries, then the entry; so many at the end -/
def gap : Nat → List CpInfo → List CpInfo
  | 0, r => r
  | n + 1, r => .unusable :: gap n r
def poolList (es : List (Nat × CpInfo)) (last : Nat) : List CpInfo := es.foldr (fun e r => gap e.1 (e.2 :: r)) (gap last [])
def pool (es : List (Nat × CpInfo)) (last : Nat) : Array CpInfo := ⟨poolList es last⟩
def fileOf (pool : Array CpInfo) (this : Nat) (attrs : Array Attribute := #[]) (ms : Array MethodInfo := #[]) (fl : Nat := 33) (sup : Nat := 0) (ifs : Array Nat := #[]) (fds : Array FieldInfo := #[]) : ClassFile where
  minorVersion := 0
  majorVersion := 65
  constantPool := pool
  accessFlags := fl
  thisClass := this
  superClass := sup
  interfaces := ifs
  fields := fds
  methods := ms
  attributes := attrs
def plain (name : String) (sup : Option ClassId) : Class where
  name := name
  kind := .ordinary
  loader := none
  accessFlags := 33
  super := sup
  interfaces := #[]
  cf := none
  fields := #[]
  methods := #[]
  instanceTypes := #[]
  staticTypes := #[]
  resolved := #[]
  callSites := []
  init := .initialized
  statics := none
  mirror := none

def pool0 : Array CpInfo := pool [(5, u "<init>"), (0, u "()V"), (1, .class_ 10), (1, u "java/lang/Object")] 113

def k0m0 : Method := { name := "<init>", desc := "()V", sig := { parameters := [], returnType := none }, accessFlags := 1, code := none }
/-- java/lang/Object -/
def k0 : Class := { plain "java/lang/Object" none with
  accessFlags := 33
  interfaces := #[]
  cf := some (fileOf pool0 8 #[] #[{ accessFlags := 1, nameIndex := 5, descriptorIndex := 6, attributes := #[] }] 33 0 #[] #[])
  fields := #[]
  methods := #[k0m0]
  instanceTypes := #[]
  staticTypes := #[]
  resolved := Array.replicate 124 none
  statics := none }

def pool1 : Array CpInfo := pool [(2, .class_ 4), (1, u "java/lang/Object"), (0, u "<init>"), (0, u "()V"), (0, .integer 2147483647), (0, .fieldref 9 10), (0, .class_ 11), (0, .nameAndType 12 13), (0, u "com/example/abeyance/abeyance/records/Event"), (0, u "SEPARATION"), (0, u "Lcom/example/abeyance/abeyance/records/Event;"), (0, .fieldref 9 15), (0, .nameAndType 16 13), (0, u "SEPARATION_FOR_CAUSE"), (0, .fieldref 9 18), (0, .nameAndType 19 13), (0, u "DEATH"), (0, .fieldref 9 21), (0, .nameAndType 22 13), (0, u "DISABILITY"), (0, .fieldref 9 24), (0, .nameAndType 25 13), (0, u "CHANGE_IN_CONTROL"), (0, .methodref 9 27), (0, .nameAndType 28 29), (0, u "kind"), (0, u "()Lcom/example/abeyance/abeyance/records/Event;"), (0, .class_ 31), (0, u "com/example/abeyance/abeyance/records/EventKindPinLaw"), (2, u "law"), (0, u "(I)Z")] 3

def k1m0 : Method := { name := "<init>", desc := "()V", sig := { parameters := [], returnType := none }, accessFlags := 2, code := none }
def k1c1 : Code := { maxStack := 2, maxLocals := 5, code := code, exceptionTable := #[], attributes := #[] }
def k1m1 : Method := { name := "law", desc := "(I)Z", sig := { parameters := [.int], returnType := some .boolean }, accessFlags := 9, code := some k1c1 }
/-- com/example/abeyance/abeyance/records/EventKindPinLaw -/
def k1 : Class := { plain "com/example/abeyance/abeyance/records/EventKindPinLaw" (some 0) with
  accessFlags := 49
  interfaces := #[]
  cf := some (fileOf pool1 30 #[] #[{ accessFlags := 2, nameIndex := 5, descriptorIndex := 6, attributes := #[] }, { accessFlags := 9, nameIndex := 34, descriptorIndex := 35, attributes := #[] }] 49 2 #[] #[])
  fields := #[]
  methods := #[k1m0, k1m1]
  instanceTypes := #[]
  staticTypes := #[]
  resolved := Array.replicate 39 none
  statics := none }

def pool2 : Array CpInfo := pool [(1, .class_ 2), (0, u "java/lang/constant/Constable"), (0, .class_ 4), (0, u "java/lang/Object")] 6

/-- java/lang/constant/Constable -/
def k2 : Class := { plain "java/lang/constant/Constable" (some 0) with
  accessFlags := 1537
  interfaces := #[]
  cf := some (fileOf pool2 1 #[] #[] 1537 3 #[] #[])
  fields := #[]
  methods := #[]
  instanceTypes := #[]
  staticTypes := #[]
  resolved := Array.replicate 11 none
  statics := none }

def pool3 : Array CpInfo := pool [(1, .class_ 2), (0, u "java/lang/Comparable"), (0, .class_ 4), (0, u "java/lang/Object")] 7

/-- java/lang/Comparable -/
def k3 : Class := { plain "java/lang/Comparable" (some 0) with
  accessFlags := 1537
  interfaces := #[]
  cf := some (fileOf pool3 1 #[] #[] 1537 3 #[] #[])
  fields := #[]
  methods := #[]
  instanceTypes := #[]
  staticTypes := #[]
  resolved := Array.replicate 12 none
  statics := none }

def pool4 : Array CpInfo := pool [(1, .class_ 2), (0, u "java/io/Serializable"), (0, .class_ 4), (0, u "java/lang/Object")] 2

/-- java/io/Serializable -/
def k4 : Class := { plain "java/io/Serializable" (some 0) with
  accessFlags := 1537
  interfaces := #[]
  cf := some (fileOf pool4 1 #[] #[] 1537 3 #[] #[])
  fields := #[]
  methods := #[]
  instanceTypes := #[]
  staticTypes := #[]
  resolved := Array.replicate 7 none
  statics := none }

def pool5 : Array CpInfo := pool [(2, .class_ 4), (1, u "java/lang/Enum"), (0, u "name"), (0, u "Ljava/lang/String;"), (2, u "ordinal"), (0, u "I"), (1, .class_ 14), (1, u "java/lang/Object"), (4, u "hash"), (86, .class_ 108), (1, u "java/lang/Enum$EnumDesc"), (2, .class_ 112), (0, u "java/lang/constant/Constable"), (0, .class_ 114), (0, u "java/lang/Comparable"), (0, .class_ 116), (0, u "java/io/Serializable")] 87

/-- java/lang/Enum -/
def k5 : Class := { plain "java/lang/Enum" (some 0) with
  accessFlags := 1057
  interfaces := #[2, 3, 4]
  cf := some (fileOf pool5 2 #[.nestMembers #[106]] #[] 1057 12 #[111, 113, 115] #[{ accessFlags := 18, nameIndex := 5, descriptorIndex := 6, attributes := #[] }, { accessFlags := 18, nameIndex := 9, descriptorIndex := 10, attributes := #[] }, { accessFlags := 2, nameIndex := 19, descriptorIndex := 10, attributes := #[] }])
  fields := #[{ name := "name", type := (.object "java/lang/String"), accessFlags := 18, slot := 0, constantValue := 0 }, { name := "ordinal", type := .int, accessFlags := 18, slot := 1, constantValue := 0 }, { name := "hash", type := .int, accessFlags := 2, slot := 2, constantValue := 0 }]
  methods := #[]
  instanceTypes := #[(.object "java/lang/String"), .int, .int]
  staticTypes := #[]
  resolved := Array.replicate 204 none
  statics := none }

def pool6 : Array CpInfo := pool [(1, .class_ 2), (0, u "com/example/abeyance/abeyance/Keywords$Hyphenated"), (0, .class_ 4), (0, u "java/lang/Object"), (3, .class_ 9), (0, u "com/example/abeyance/abeyance/Keywords")] 2

/-- com/example/abeyance/abeyance/Keywords$Hyphenated -/
def k6 : Class := { plain "com/example/abeyance/abeyance/Keywords$Hyphenated" (some 0) with
  accessFlags := 1537
  interfaces := #[]
  cf := some (fileOf pool6 1 #[.nestHost 8] #[] 1537 3 #[] #[])
  fields := #[]
  methods := #[]
  instanceTypes := #[]
  staticTypes := #[]
  resolved := Array.replicate 12 none
  statics := none }

def pool7 : Array CpInfo := pool [(1, .class_ 2), (0, u "com/example/abeyance/abeyance/records/Event"), (0, .fieldref 1 4), (0, .nameAndType 5 6), (0, u "SEPARATION"), (0, u "Lcom/example/abeyance/abeyance/records/Event;"), (0, .fieldref 1 8), (0, .nameAndType 9 6), (0, u "SEPARATION_FOR_CAUSE"), (2, u "DEATH"), (2, u "DISABILITY"), (2, u "CHANGE_IN_CONTROL"), (2, u "$VALUES"), (0, u "[Lcom/example/abeyance/abeyance/records/Event;"), (6, .class_ 31), (1, u "java/lang/Enum"), (26, .class_ 59), (0, u "com/example/abeyance/abeyance/Keywords$Hyphenated"), (7, u "kind"), (0, u "()Lcom/example/abeyance/abeyance/records/Event;")] 7

def k7c0 : Code := { maxStack := 2, maxLocals := 1, code := prog_79_method_5_code, exceptionTable := #[], attributes := #[] }
def k7m0 : Method := { name := "kind", desc := "()Lcom/example/abeyance/abeyance/records/Event;", sig := { parameters := [], returnType := some (.object "com/example/abeyance/abeyance/records/Event") }, accessFlags := 1, code := some k7c0 }
/-- com/example/abeyance/abeyance/records/Event -/
def k7 : Class := { plain "com/example/abeyance/abeyance/records/Event" (some 5) with
  accessFlags := 16433
  interfaces := #[6]
  cf := some (fileOf pool7 1 #[] #[{ accessFlags := 1, nameIndex := 67, descriptorIndex := 68, attributes := #[] }] 16433 29 #[58] #[{ accessFlags := 16409, nameIndex := 5, descriptorIndex := 6, attributes := #[] }, { accessFlags := 16409, nameIndex := 9, descriptorIndex := 6, attributes := #[] }, { accessFlags := 16409, nameIndex := 12, descriptorIndex := 6, attributes := #[] }, { accessFlags := 16409, nameIndex := 15, descriptorIndex := 6, attributes := #[] }, { accessFlags := 16409, nameIndex := 18, descriptorIndex := 6, attributes := #[] }, { accessFlags := 4122, nameIndex := 21, descriptorIndex := 22, attributes := #[] }])
  fields := #[{ name := "SEPARATION", type := (.object "com/example/abeyance/abeyance/records/Event"), accessFlags := 16409, slot := 0, constantValue := 0 }, { name := "SEPARATION_FOR_CAUSE", type := (.object "com/example/abeyance/abeyance/records/Event"), accessFlags := 16409, slot := 1, constantValue := 0 }, { name := "DEATH", type := (.object "com/example/abeyance/abeyance/records/Event"), accessFlags := 16409, slot := 2, constantValue := 0 }, { name := "DISABILITY", type := (.object "com/example/abeyance/abeyance/records/Event"), accessFlags := 16409, slot := 3, constantValue := 0 }, { name := "CHANGE_IN_CONTROL", type := (.object "com/example/abeyance/abeyance/records/Event"), accessFlags := 16409, slot := 4, constantValue := 0 }, { name := "$VALUES", type := (.array (.object "com/example/abeyance/abeyance/records/Event")), accessFlags := 4122, slot := 5, constantValue := 0 }]
  methods := #[k7m0]
  instanceTypes := #[(.object "java/lang/String"), .int, .int]
  staticTypes := #[(.object "com/example/abeyance/abeyance/records/Event"), (.object "com/example/abeyance/abeyance/records/Event"), (.object "com/example/abeyance/abeyance/records/Event"), (.object "com/example/abeyance/abeyance/records/Event"), (.object "com/example/abeyance/abeyance/records/Event"), (.array (.object "com/example/abeyance/abeyance/records/Event"))]
  resolved := Array.replicate 76 none
  statics := some 0 }

def pool8 : Array CpInfo := pool [(1, u "java/lang/Cloneable"), (0, .class_ 1), (0, u "java/lang/Object"), (0, .class_ 3)] 3

/-- java/lang/Cloneable -/
def k8 : Class := { plain "java/lang/Cloneable" (some 0) with
  accessFlags := 1537
  interfaces := #[]
  cf := some (fileOf pool8 2 #[] #[] 1537 4 #[] #[])
  fields := #[]
  methods := #[]
  instanceTypes := #[]
  staticTypes := #[]
  resolved := Array.replicate 8 none
  statics := none }

/-- the primitive byte -/
def k9 : Class := { plain "byte" none with kind := .primitive 'B', accessFlags := 0x411 }
/-- [B -/
def k10 : Class := { plain "[B" (some 0) with kind := .array 9 .byte, interfaces := #[8, 4], accessFlags := 1041 }

/-- the primitive int -/
def k11 : Class := { plain "int" none with kind := .primitive 'I', accessFlags := 0x411 }
/-- [I -/
def k12 : Class := { plain "[I" (some 0) with kind := .array 11 .int, interfaces := #[8, 4], accessFlags := 1041 }

def heap : Heap := #[{ cls := 7, slots := #[.ref 1, .ref 2, .ref 5, .ref 3, .ref 4, .null], vm := .statics 7 },
  { cls := 7, slots := #[.null, .int 0, .int 0], vm := .none },
  { cls := 7, slots := #[.null, .int 1, .int 0], vm := .none },
  { cls := 7, slots := #[.null, .int 3, .int 0], vm := .none },
  { cls := 7, slots := #[.null, .int 4, .int 0], vm := .none },
  { cls := 7, slots := #[.null, .int 2, .int 0], vm := .none }]
def classes : Array Class := #[k0, k1, k2, k3, k4, k5, k6, k7, k8, k9, k10, k11, k12]
def interned : List (Array UInt16 × Addr) := []
def slotsUsed : Nat := 21
def theMethod : MethodId := ⟨1, 1⟩
def args0 : Array Value := #[.int 5]
def aboutOver (below : List Frame) : State where
  vm := { classes := classes, interned := interned.toArray }
  heap := heap
  slotsUsed := slotsUsed
  threads := #[{ frames := .invoking theMethod args0 :: below }]
def below0 : List Frame := [.native { method := ⟨0, 0⟩, args := #[] }]
def about1 : State := aboutOver below0
def p0 : Program := .bare "" "" ""
def e0 : Env := launch0.env 0 0 0
theorem w_frames : about1.frames = Frame.invoking theMethod args0 :: below0 := rfl
set_option maxRecDepth 65536 in
theorem w_args : argsFit about1.vm theMethod args0 = true := by decide +kernel
set_option maxRecDepth 65536 in
theorem w_heap : heapFits about1 = true := by decide +kernel
set_option maxRecDepth 65536 in
theorem w_runnable : about1.curStatus? = some .runnable := by decide +kernel
set_option maxRecDepth 65536 in
theorem w_alone : about1.alone = true := by decide +kernel
set_option maxRecDepth 65536 in
theorem w_named : about1.methodNamed? x = some theMethod := by decide +kernel
set_option maxRecDepth 65536 in
theorem w_hears : about1.hears theMethod below0 = true := by decide +kernel
set_option maxRecDepth 65536 in
theorem w_ripe : about1.ripe theMethod args0 below0 = true := by decide +kernel
theorem w_running : about1.status = .running := rfl
set_option maxRecDepth 65536 in
theorem w_room : about1.hasRoom e0.platform room_1 = true :=
  launch0.hasRoom_least _ room_1 (by decide +kernel) (by decide +kernel) (by decide +kernel) (by decide +kernel) (by decide +kernel) (by decide +kernel)
theorem allAtoms_all (ts : List Jvm.Cond) (a : Array Jvm.Value) (st : Jvm.State) : (allAtoms ts).before a st = ts.all (fun c => c.before a st) := by
  induction ts with
  | nil => rfl
  | cons c t ih =>
    show (Jvm.Cond.and c (allAtoms t)).before a st = _
    rw [Jvm.Cond.before_and, ih, List.all_cons]
def words1 : List Jvm.Cond := Jvm.Cond.code x code maxLocals ret :: tables_1
/-- a 'code' word, met by the world's own term for the bytes: nothing is compared byte by byte -/
theorem code_word {y : MethodName} {bytes : ByteArray} {mx : Nat} {rt : Option FieldType} {a : Array Value} {s : State} {m : MethodId} {meth : Method} {c : Code} (h1 : s.methodNamed? y = some m) (h2 : s.vm.method? m = some meth) (h3 : meth.code = some c) (h4 : c.code = bytes)
    (h5 : (c.maxLocals == mx && c.exceptionTable.isEmpty && decide (c.maxStack ≤ mostOperands) && decide (meth.sig.returnType = rt) && !meth.locks && decide (parseMethodDescriptor y.desc = some meth.sig)) = true) : (Jvm.Cond.code y bytes mx rt).before a s = true := by
  simp only [Bool.and_eq_true, beq_iff_eq, Bool.not_eq_true', decide_eq_true_eq] at h5
  obtain ⟨⟨⟨⟨⟨g1, g2⟩, g3⟩, g4⟩, g5⟩, g6⟩ := h5
  simp [Cond.before, Cond.holds, Cond.value, h1, h2, h3, h4, g1, g2, g3, g4, g5, g6]
def isCode : Jvm.Cond → Bool
  | .code _ _ _ _ => true
  | _ => false
theorem all_split {L : List Jvm.Cond} {P : Jvm.Cond → Bool} (h1 : L.all (fun c => isCode c || P c) = true) (h2 : ∀ c ∈ L.filter isCode, P c = true) : L.all P = true := by
  refine List.all_eq_true.mpr fun c hc => ?_
  have h := List.all_eq_true.mp h1 c hc
  rcases Bool.eq_false_or_eq_true (isCode c) with hi | hi
  · exact h2 c (List.mem_filter.mpr ⟨hc, hi⟩)
  · simpa [hi] using h
set_option maxRecDepth 65536 in
theorem w_c0 : (Jvm.Cond.code x code maxLocals ret).before args0 about1 = true := code_word (m := ⟨1, 1⟩) (meth := k1m1) (c := k1c1) (by decide +kernel) rfl rfl rfl (by decide +kernel)
set_option maxRecDepth 65536 in
theorem w_c1 : (Jvm.Cond.code ({ cls := "com/example/abeyance/abeyance/records/Event", name := "kind", desc := "()Lcom/example/abeyance/abeyance/records/Event;" } : Jvm.MethodName) prog_79_method_5_code (1 : Nat) (Option.some (Jvm.ClassFile.FieldType.object "com/example/abeyance/abeyance/records/Event"))).before args0 about1 = true := code_word (m := ⟨7, 0⟩) (meth := k7m0) (c := k7c0) (by decide +kernel) rfl rfl rfl (by decide +kernel)
def codes1 : List Jvm.Cond := [Jvm.Cond.code x code maxLocals ret, Jvm.Cond.code ({ cls := "com/example/abeyance/abeyance/records/Event", name := "kind", desc := "()Lcom/example/abeyance/abeyance/records/Event;" } : Jvm.MethodName) prog_79_method_5_code (1 : Nat) (Option.some (Jvm.ClassFile.FieldType.object "com/example/abeyance/abeyance/records/Event"))]
set_option maxRecDepth 65536 in
theorem codes_eq : words1.filter isCode = codes1 := rfl
theorem w_codes : ∀ c ∈ words1.filter isCode, c.before args0 about1 = true := by
  rw [codes_eq]
  intro c hc
  simp only [codes1, List.mem_cons, List.not_mem_nil, or_false] at hc
  rcases hc with rfl | rfl
  · exact w_c0
  · exact w_c1
set_option maxRecDepth 65536 in
theorem w_t1 : words1.all (fun c => isCode c || c.before args0 about1) = true := by decide +kernel
theorem w_tables : (allAtoms (Jvm.Cond.code x code maxLocals ret :: tables_1)).before args0 about1 = true := by
  rw [allAtoms_all]
  show words1.all (fun c => c.before args0 about1) = true
  refine all_split ?_ w_codes
  rw [w_t1]
set_option maxRecDepth 65536 in
theorem w_case : (Jvm.Cond.and given_1 narrow_1).before args0 about1 = true := by decide +kernel
theorem w_applies : (headSpec (Jvm.Cond.code x code maxLocals ret :: tables_1) room_1).applies x e0.platform about1 = true :=
  (Spec.applies_iff w_frames).mpr ⟨w_running, w_runnable, w_alone, w_named, w_hears, w_ripe, w_room, w_tables⟩
theorem atStart : AtStart classFile x code maxLocals ret World_1 tables_1 room_1 Calls_1 rest_1 Pre_1 launch0 p0 e0 about1 theMethod args0 below0 :=
  ⟨lists_1, trivial, launch0.admits_env _ _ _, launch0.least_env, fairChoices_fair.cas, fairChoices_fair.clock, w_frames, w_args, w_heap, w_applies, trivial, trivial, w_case⟩
end start1
theorem witness_1 : WitnessClaimed_1 := ⟨start1.p0, start1.e0, start1.about1, start1.theMethod, start1.args0, start1.below0, start1.atStart⟩
end Jvm.Pilot.@@N@@
