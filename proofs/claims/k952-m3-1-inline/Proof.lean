import JvmDerived
import JvmDerived.Pilot.@@N@@Statement
import JvmDerived.Pilot.@@N@@Code
set_option linter.unusedVariables false
set_option linter.unusedSimpArgs false
namespace Jvm.Pilot.@@N@@
open Jvm Jvm.ClassFile Sem Op Lib Jvm.Free Jvm.Stand Jvm.LawKit Jvm.RoadKit Bundle Jvm.Pilot.@@N@@.Jvm.D
section OwnKit
variable {p : Program} {l : Launch} {e : Env} {R : Room} {s : State} {m : MethodId} {args : Array Value} {below : List Frame} {meth : Method} {c : Code} {T T' : State} {locs : List Loc} {cells slots : Nat} {Z : State} {a0 : Array Value} {h : Heap}
def own_Fin (p : Program) (e : Env) (below : List Frame) (P : Outcome → State → Prop) (T : State) (g : JFrame) : Prop :=
  ∃ s₂ o, Steps p.tables e below (T.setTop g) s₂ ∧ s₂.status = .running ∧ Ended s₂ below o ∧ P o s₂
def own_P (s : State) (Q : Option Value → Heap → List Loc → Prop) (k n : Nat) (o : Outcome) (t : State) : Prop := ∃ v L, o = .returned v ∧ Q v t.heap L ∧ FrameEnd s o t L k n
theorem own_by {P : Outcome → State → Prop} {g g' : JFrame} (st : ∀ t, Steps p.tables e below (T'.setTop g') t → Steps p.tables e below (T.setTop g) t) (k : own_Fin p e below P T' g') : own_Fin p e below P T g := by
  obtain ⟨s₂, o, h1, h2⟩ := k
  exact ⟨s₂, o, st _ h1, h2⟩
theorem own_start {s₁ : State} {Q : Option Value → Heap → List Loc → Prop} {k n : Nat} {ml : Nat} {g : JFrame} (hef : entryFrame m args ml = g) (hk : own_Fin p e below (own_P s Q k n) s₁ g) :
    ∃ s₂ o, Steps p.tables e below (s₁.setTop (entryFrame m args ml)) s₂ ∧ s₂.status = .running ∧ Ended s₂ below o ∧ ∃ v L, o = .returned v ∧ Q v s₂.heap L ∧ FrameEnd s o s₂ L k n := by
  rw [hef]; exact hk
theorem own_end (X : Stand p l e R s m args below meth c T locs cells slots) {v : Option Value} (hv : meth.sig.returnType = none → v = none) (hlocks : meth.locks = false) {g : JFrame}
    (hret : ∀ {fs : List Frame}, (∀ (f : JFrame) (acts : List Action), f.method = m → f.locked = none → f.entered = [] → (doReturn e (T.setTop f) acts v).1 = T.setFrames fs) → Steps p.tables e below (T.setTop g) (T.setFrames fs))
    {Q : Option Value → Heap → List Loc → Prop} {k n : Nat} (hQ : Q v T.heap locs) (hk : cells ≤ k) (hn : slots ≤ n) : own_Fin p e below (own_P s Q k n) T g := by
  obtain ⟨fs, hr, hrun, hended, hW, hsame⟩ := X.leave hv hlocks
  exact ⟨_, _, hret hr, hrun, hended, _, _, rfl, hQ, ⟨_, rfl⟩, hW, hsame.mono hk hn⟩
theorem own_nf {C : String} {y : MethodName} (w : (Jvm.Cond.selects C y y).before a0 Z = true) : ∀ {s : State}, Z.Warmed39 s.vm → NotFace s y := fun hZ => notFace_of_selects (args := #[]) (mvT hZ w)
theorem own_callSB (X : Stand p l e R s m args below meth c T locs cells slots) (hx : p.tables.exec = Jvm.exec) (hZ : Z.Warmed39 s.vm) {own : String} {index : Nat} {y : MethodName} {bytes : ByteArray} {maxL W : Nat} {ret : Option FieldType} {kc ks : Nat} {as' : Array Value} {Q : Option Value → Heap → List Loc → Prop}
    (hown : s.vm.findClass own = some m.cls) (w1 : (Jvm.Cond.methodLink own index y).before a0 Z = true) (w2 : (Jvm.Cond.static y).before a0 Z = true) (w3 : (Jvm.Cond.initialized y.cls).before a0 Z = true) (w4 : (Jvm.Cond.code y bytes maxL ret).before a0 Z = true) (hy : y.cls ≠ "java/lang/invoke/MethodHandle" ∧ y.cls ≠ "java/lang/invoke/VarHandle")
    (hK : Back l R p e below s args y 3 W (fun A a => a = as' ∧ A.U.heap = h ∧ A.cells + kc ≤ R.cells ∧ A.slots + ks ≤ R.slots) (fun A _ v B => ∃ L, Q v B.U.heap L ∧ B.locs = A.locs ++ L ∧ B.cells = A.cells + kc ∧ B.slots = A.slots + ks))
    (eT : T.heap = h) {g : JFrame} (hg : g.method = m) (hsize : g.locals.size = c.maxLocals) {argsL rest : List Value} (hlen : ∀ sig, parseMethodDescriptor y.desc = some sig → argsL.length = sig.parameters.length)
    (hstack : g.stack = argsL.reverse ++ rest) (hW : 2 * g.monitorRoom + (rest.map fun v => v.category).sum ≤ W) (hdg : decode c.code g.pc = .ok (.invokestatic index, 3)) (has : argsL.toArray = as') (hc : cells + kc ≤ R.cells) (hs : slots + ks ≤ R.slots) {P : Outcome → State → Prop}
    (k : ∀ (v : Option Value) (T' : State) (L : List Loc), Stand p l e R s m args below meth c T' (locs ++ L) (cells + kc) (slots + ks) → Q v T'.heap L → own_Fin p e below P T' { g with pc := g.pc + 3, stack := v.toList ++ rest }) : own_Fin p e below P T g := by
  obtain ⟨v, _, ⟨U', L', k', n'⟩, -, X', ⟨Lc, hQ, l1, l2, l3⟩, st⟩ := Jvm.LawKit.callS X hx (y := y) hown (mvT hZ w1) (mvT hZ w2) (mvT hZ w3) (mvT hZ w4) hy hK hg hsize hlen hstack hW hdg (fun _ _ => ⟨has, eT, hc, hs⟩)
  dsimp only [Pt.U, Pt.locs, Pt.cells, Pt.slots] at X' l1 l2 l3 st hQ
  subst l1 l2 l3
  exact own_by st (k v U' Lc X' hQ)
theorem own_callS (X : Stand p l e R s m args below meth c T locs cells slots) (hx : p.tables.exec = Jvm.exec) (hZ : Z.Warmed39 s.vm) {own : String} {index : Nat} {y : MethodName} {bytes : ByteArray} {maxL W : Nat} {ret : Option FieldType} {rm : Room} {as' : Array Value} {Q : Option Value → Heap → List Loc → Prop}
    (hown : s.vm.findClass own = some m.cls) (w1 : (Jvm.Cond.methodLink own index y).before a0 Z = true) (w2 : (Jvm.Cond.static y).before a0 Z = true) (w3 : (Jvm.Cond.initialized y.cls).before a0 Z = true) (w4 : (Jvm.Cond.code y bytes maxL ret).before a0 Z = true) (hy : y.cls ≠ "java/lang/invoke/MethodHandle" ∧ y.cls ≠ "java/lang/invoke/VarHandle")
    (hM : MetFree l y (head1 [Jvm.Cond.code y bytes maxL ret] rm) (fun a U => a = as' ∧ Z.Warmed39 U.vm ∧ U.heap = h) (fun _ _ _ _ _ => True) (fun _ U o U' => ∃ v L, o = .returned v ∧ Q v U'.heap L ∧ FrameEnd U o U' L rm.cells rm.slots))
    (hf : rm.frames + 1 ≤ R.frames) (hl : W + (maxL + 11) + rm.locals ≤ R.locals) (eT : T.heap = h) {g : JFrame} (hg : g.method = m) (hsize : g.locals.size = c.maxLocals) {argsL rest : List Value} (hlen : ∀ sig, parseMethodDescriptor y.desc = some sig → argsL.length = sig.parameters.length)
    (hstack : g.stack = argsL.reverse ++ rest) (hW : 2 * g.monitorRoom + (rest.map fun v => v.category).sum ≤ W) (hdg : decode c.code g.pc = .ok (.invokestatic index, 3)) (has : argsL.toArray = as') (hc : cells + rm.cells ≤ R.cells) (hs : slots + rm.slots ≤ R.slots) {P : Outcome → State → Prop}
    (k : ∀ (v : Option Value) (T' : State) (L : List Loc), Stand p l e R s m args below meth c T' (locs ++ L) (cells + rm.cells) (slots + rm.slots) → Q v T'.heap L → own_Fin p e below P T' { g with pc := g.pc + 3, stack := v.toList ++ rest }) : own_Fin p e below P T g :=
  own_callSB X hx hZ hown w1 w2 w3 w4 hy (backOf (W := W) hM hZ w4 w3 hf hl) eT hg hsize hlen hstack hW hdg has hc hs k
theorem own_callIB (X : Stand p l e R s m args below meth c T locs cells slots) (hx : p.tables.exec = Jvm.exec) (hZ : Z.Warmed39 s.vm) {own : String} {index : Nat} {y : MethodName} {bytes : ByteArray} {maxL W : Nat} {kc ks : Nat} {as' : Array Value} {Q : Option Value → Heap → List Loc → Prop} (hin : y.name = "<init>")
    (hown : s.vm.findClass own = some m.cls) (w1 : (Jvm.Cond.methodLink own index y).before a0 Z = true) (w2 : (Jvm.Cond.instanceMethod y).before a0 Z = true) (w4 : (Jvm.Cond.code y bytes maxL none).before a0 Z = true) (hy : y.cls ≠ "java/lang/invoke/MethodHandle" ∧ y.cls ≠ "java/lang/invoke/VarHandle")
    (hK : Back l R p e below s args y 3 W (fun A a => a = as' ∧ A.U.heap = h ∧ A.cells + kc ≤ R.cells ∧ A.slots + ks ≤ R.slots) (fun A _ v B => ∃ L, Q v B.U.heap L ∧ B.locs = A.locs ++ L ∧ B.cells = A.cells + kc ∧ B.slots = A.slots + ks))
    (eT : T.heap = h) {g : JFrame} (hg : g.method = m) (hsize : g.locals.size = c.maxLocals) {a : Addr} {argsL rest : List Value} (hlen : ∀ sig, parseMethodDescriptor y.desc = some sig → argsL.length = sig.parameters.length)
    (hstack : g.stack = argsL.reverse ++ .ref a :: rest) (hW : 2 * g.monitorRoom + (rest.map fun v => v.category).sum ≤ W) (hdg : decode c.code g.pc = .ok (.invokespecial index, 3)) (has : (.ref a :: argsL).toArray = as') (hc : cells + kc ≤ R.cells) (hs : slots + ks ≤ R.slots) {P : Outcome → State → Prop}
    (k : ∀ (v : Option Value) (T' : State) (L : List Loc), Stand p l e R s m args below meth c T' (locs ++ L) (cells + kc) (slots + ks) → Q v T'.heap L → own_Fin p e below P T' { g with pc := g.pc + 3, stack := v.toList ++ rest }) : own_Fin p e below P T g := by
  obtain ⟨v, _, ⟨U', L', k', n'⟩, -, X', ⟨Lc, hQ, l1, l2, l3⟩, st⟩ := X.specialBack hx (y := y) hin hown (mvT hZ w1) (mvT hZ w2) (mvT hZ w4) hy hK hg hsize (Steps.refl _) (a := a) hlen hstack hW hdg (fun _ _ => ⟨has, eT, hc, hs⟩)
  dsimp only [Pt.U, Pt.locs, Pt.cells, Pt.slots] at X' l1 l2 l3 st hQ
  subst l1 l2 l3
  exact own_by (fun _ q => st.trans q) (k v U' Lc X' hQ)
theorem own_callI (X : Stand p l e R s m args below meth c T locs cells slots) (hx : p.tables.exec = Jvm.exec) (hZ : Z.Warmed39 s.vm) {own : String} {index : Nat} {y : MethodName} {bytes : ByteArray} {maxL W : Nat} {rm : Room} {as' : Array Value} {Q : Option Value → Heap → List Loc → Prop} (hin : y.name = "<init>")
    (hown : s.vm.findClass own = some m.cls) (w1 : (Jvm.Cond.methodLink own index y).before a0 Z = true) (w2 : (Jvm.Cond.instanceMethod y).before a0 Z = true) (w4 : (Jvm.Cond.code y bytes maxL none).before a0 Z = true) (w3 : (Jvm.Cond.initialized y.cls).before a0 Z = true) (hy : y.cls ≠ "java/lang/invoke/MethodHandle" ∧ y.cls ≠ "java/lang/invoke/VarHandle")
    (hM : MetFree l y (head1 [Jvm.Cond.code y bytes maxL none] rm) (fun a U => a = as' ∧ Z.Warmed39 U.vm ∧ U.heap = h) (fun _ _ _ _ _ => True) (fun _ U o U' => ∃ v L, o = .returned v ∧ Q v U'.heap L ∧ FrameEnd U o U' L rm.cells rm.slots))
    (hf : rm.frames + 1 ≤ R.frames) (hl : W + (maxL + 11) + rm.locals ≤ R.locals) (eT : T.heap = h) {g : JFrame} (hg : g.method = m) (hsize : g.locals.size = c.maxLocals) {a : Addr} {argsL rest : List Value} (hlen : ∀ sig, parseMethodDescriptor y.desc = some sig → argsL.length = sig.parameters.length)
    (hstack : g.stack = argsL.reverse ++ .ref a :: rest) (hW : 2 * g.monitorRoom + (rest.map fun v => v.category).sum ≤ W) (hdg : decode c.code g.pc = .ok (.invokespecial index, 3)) (has : (.ref a :: argsL).toArray = as') (hc : cells + rm.cells ≤ R.cells) (hs : slots + rm.slots ≤ R.slots) {P : Outcome → State → Prop}
    (k : ∀ (v : Option Value) (T' : State) (L : List Loc), Stand p l e R s m args below meth c T' (locs ++ L) (cells + rm.cells) (slots + rm.slots) → Q v T'.heap L → own_Fin p e below P T' { g with pc := g.pc + 3, stack := v.toList ++ rest }) : own_Fin p e below P T g :=
  own_callIB X hx hZ hin hown w1 w2 w4 hy (backOf (W := W) hM hZ w4 w3 hf hl) eT hg hsize hlen hstack hW hdg has hc hs k
theorem own_callVB (X : Stand p l e R s m args below meth c T locs cells slots) (hx : p.tables.exec = Jvm.exec) (hZ : Z.Warmed39 s.vm) {own C : String} {index : Nat} {y z : MethodName} {W : Nat} {kc ks : Nat} {as' : Array Value} {Q : Option Value → Heap → List Loc → Prop}
    (hown : s.vm.findClass own = some m.cls) (w1 : (Jvm.Cond.methodLink own index y).before a0 Z = true) (w2 : (Jvm.Cond.declares y).before a0 Z = true) (nf : ∀ {s : State}, Z.Warmed39 s.vm → NotFace s y) (w5 : (Jvm.Cond.selects C y z).before a0 Z = true) (w6 : (Jvm.Cond.instanceMethod z).before a0 Z = true) (hy : y.cls ≠ "java/lang/invoke/MethodHandle" ∧ y.cls ≠ "java/lang/invoke/VarHandle")
    {b : Addr} (E : Exa Z h b C)
    (hK : Back l R p e below s args z 3 W (fun A a => a = as' ∧ A.U.heap = h ∧ A.cells + kc ≤ R.cells ∧ A.slots + ks ≤ R.slots) (fun A _ v B => ∃ L, Q v B.U.heap L ∧ B.locs = A.locs ++ L ∧ B.cells = A.cells + kc ∧ B.slots = A.slots + ks))
    (eT : T.heap = h) {g : JFrame} (hg : g.method = m) (hsize : g.locals.size = c.maxLocals) {argsL rest : List Value} (hlen : ∀ sig, parseMethodDescriptor y.desc = some sig → argsL.length = sig.parameters.length)
    (hstack : g.stack = argsL.reverse ++ .ref b :: rest) (hW : 2 * g.monitorRoom + (rest.map fun v => v.category).sum ≤ W) (hdg : decode c.code g.pc = .ok (.invokevirtual index, 3)) (has : (.ref b :: argsL).toArray = as') (hc : cells + kc ≤ R.cells) (hs : slots + ks ≤ R.slots) {P : Outcome → State → Prop}
    (k : ∀ (v : Option Value) (T' : State) (L : List Loc), Stand p l e R s m args below meth c T' (locs ++ L) (cells + kc) (slots + ks) → Q v T'.heap L → own_Fin p e below P T' { g with pc := g.pc + 3, stack := v.toList ++ rest }) : own_Fin p e below P T g := by
  obtain ⟨cq, kq, qa, qb, qc⟩ := isOf hZ eT E
  obtain ⟨v, _, ⟨U', L', k', n'⟩, -, X', ⟨Lc, hQ, l1, l2, l3⟩, st⟩ := X.virtualBack hx (y := y) (z := z) hown (mvT hZ w1) (mvT hZ w2) (nf hZ) (mvT hZ w5) (mvT hZ w6) hy hK qa qc hg hsize (Steps.refl _) hlen hstack hW hdg (fun _ _ => ⟨has, eT, hc, hs⟩)
  dsimp only [Pt.U, Pt.locs, Pt.cells, Pt.slots] at X' l1 l2 l3 st hQ
  subst l1 l2 l3
  exact own_by (fun _ q => st.trans q) (k v U' Lc X' hQ)
theorem own_callV (X : Stand p l e R s m args below meth c T locs cells slots) (hx : p.tables.exec = Jvm.exec) (hZ : Z.Warmed39 s.vm) {own C : String} {index : Nat} {y z : MethodName} {bytes : ByteArray} {maxL W : Nat} {ret : Option FieldType} {rm : Room} {as' : Array Value} {Q : Option Value → Heap → List Loc → Prop}
    (hown : s.vm.findClass own = some m.cls) (w1 : (Jvm.Cond.methodLink own index y).before a0 Z = true) (w2 : (Jvm.Cond.declares y).before a0 Z = true) (nf : ∀ {s : State}, Z.Warmed39 s.vm → NotFace s y) (w5 : (Jvm.Cond.selects C y z).before a0 Z = true) (w6 : (Jvm.Cond.instanceMethod z).before a0 Z = true) (w4 : (Jvm.Cond.code z bytes maxL ret).before a0 Z = true) (w3 : (Jvm.Cond.initialized z.cls).before a0 Z = true) (hy : y.cls ≠ "java/lang/invoke/MethodHandle" ∧ y.cls ≠ "java/lang/invoke/VarHandle")
    {b : Addr} (E : Exa Z h b C)
    (hM : MetFree l z (head1 [Jvm.Cond.code z bytes maxL ret] rm) (fun a U => a = as' ∧ Z.Warmed39 U.vm ∧ U.heap = h) (fun _ _ _ _ _ => True) (fun _ U o U' => ∃ v L, o = .returned v ∧ Q v U'.heap L ∧ FrameEnd U o U' L rm.cells rm.slots))
    (hf : rm.frames + 1 ≤ R.frames) (hl : W + (maxL + 11) + rm.locals ≤ R.locals) (eT : T.heap = h) {g : JFrame} (hg : g.method = m) (hsize : g.locals.size = c.maxLocals) {argsL rest : List Value} (hlen : ∀ sig, parseMethodDescriptor y.desc = some sig → argsL.length = sig.parameters.length)
    (hstack : g.stack = argsL.reverse ++ .ref b :: rest) (hW : 2 * g.monitorRoom + (rest.map fun v => v.category).sum ≤ W) (hdg : decode c.code g.pc = .ok (.invokevirtual index, 3)) (has : (.ref b :: argsL).toArray = as') (hc : cells + rm.cells ≤ R.cells) (hs : slots + rm.slots ≤ R.slots) {P : Outcome → State → Prop}
    (k : ∀ (v : Option Value) (T' : State) (L : List Loc), Stand p l e R s m args below meth c T' (locs ++ L) (cells + rm.cells) (slots + rm.slots) → Q v T'.heap L → own_Fin p e below P T' { g with pc := g.pc + 3, stack := v.toList ++ rest }) : own_Fin p e below P T g :=
  own_callVB X hx hZ hown w1 w2 nf w5 w6 hy E (backOf (W := W) hM hZ w4 w3 hf hl) eT hg hsize hlen hstack hW hdg has hc hs k
theorem own_narR {t : FieldType} {w : Value} (ht : t.isReference = true) : narrow t w = w := by cases t <;> first | rfl | (cases ht)
theorem own_fldI {t : Term} {C n d : String} {k : Int32} {a : Addr} (hv : (Jvm.Cond.eq (.field t C n d) (.int k)).value args s none s [] = some true) (ht : t.eval args s none [] s = some (.ref a)) : Fld s s.heap a C n d (.int k) := by
  obtain ⟨x, y, e1, e2, k1, k2⟩ := cmp_v (Or.inl hv)
  rw [Term.int_eval] at e2
  cases e2
  obtain ⟨z, rfl⟩ := k2
  have q : z = k := by simpa [Jvm.Cond.value, e1, Term.int_eval] using hv
  rw [fld_at ht] at e1
  exact Fld.start (q ▸ e1)
theorem own_clash {x y z : Int32} (h : x = y) (n : ¬ y = z) : ¬ x = z := fun q => n (h.symm.trans q)
theorem own_rem (x y : Int32) (n : Int) (hy : y.toInt = n) (hn : 0 < n) : 0 ≤ ((x &&& (2147483647 : Int32)) % y).toInt ∧ ((x &&& (2147483647 : Int32)) % y).toInt < n := by
  have h0 := c_and x 2147483647 (by decide)
  have h1 := (c_irem (x &&& 2147483647) y n hy).1 h0.1
  rw [h1]
  exact ⟨Int.emod_nonneg _ (by omega), Int.emod_lt_of_pos _ hn⟩
theorem own_eqI {x y : Int32} (h : x.toInt = y.toInt) : x = y := Int32.toInt_inj.mp h
theorem own_neI {x y : Int32} (h : ¬ x = y) : x.toInt ≠ y.toInt := fun q => h (Int32.toInt_inj.mp q)
theorem own_fitsR {t : FieldType} {v : Value} (ht : t.isReference = true) (hv : v.isRef = true) : fits t v = true := by
  rcases ref_cases hv with rfl | ⟨a, rfl⟩ <;> cases t <;> first | rfl | (cases ht)
theorem own_cat {v : Value} (hv : v.isRef = true) : v.category = 1 := by
  rcases ref_cases hv with rfl | ⟨a, rfl⟩ <;> rfl
theorem own_store1 {L : Array Slot} {i : Nat} {v : Value} {o : Slot} {L' : Array Slot} (hold : L[i]? = some o) (ho : One o) (hv : v.category = 1) (e : L.setIfInBounds i (.val v) = L') : storeLocals L i v = some L' := by
  rw [← e]; exact XS.store1 hold ho hv
theorem own_h {Z : State} {a0 : Array Value} (hw : ∀ d ∈ tables_1, d.before a0 Z = true) (i : Nat) {d : Jvm.Cond} (h : tables_1[i]? = some d) : d.before a0 Z = true := hw d (List.mem_of_getElem? h)
end OwnKit
abbrev own_y0 : MethodName := ⟨"com/example/abeyance/abeyance/plan/PayDay", "<init>", "(Ljava/lang/Integer;Ljava/lang/Integer;)V"⟩
abbrev own_y1 : MethodName := ⟨"com/example/abeyance/abeyance/plan/PayDay", "canFallBefore", "(I)Z"⟩
abbrev own_y2 : MethodName := ⟨"com/example/abeyance/abeyance/plan/PlanTerms", "months", "(Ljava/lang/String;IILjava/lang/String;)V"⟩
abbrev own_y5 : MethodName := ⟨"java/lang/AbstractStringBuilder", "append", "(Ljava/lang/String;)Ljava/lang/AbstractStringBuilder;"⟩
abbrev own_y6 : MethodName := ⟨"java/lang/AbstractStringBuilder", "ensureCapacityInternal", "(I)V"⟩
abbrev own_y7 : MethodName := ⟨"java/lang/AbstractStringBuilder", "getValue", "()[B"⟩
abbrev own_y8 : MethodName := ⟨"java/lang/AbstractStringBuilder", "inflateIfNeededFor", "(Ljava/lang/String;)V"⟩
abbrev own_y9 : MethodName := ⟨"java/lang/AbstractStringBuilder", "isLatin1", "()Z"⟩
abbrev own_y10 : MethodName := ⟨"java/lang/AbstractStringBuilder", "length", "()I"⟩
abbrev own_y11 : MethodName := ⟨"java/lang/AbstractStringBuilder", "newCapacity", "(I)I"⟩
abbrev own_y12 : MethodName := ⟨"java/lang/AbstractStringBuilder", "putStringAt", "(ILjava/lang/String;)V"⟩
abbrev own_y14 : MethodName := ⟨"java/lang/Integer", "getChars", "(II[B)I"⟩
abbrev own_y15 : MethodName := ⟨"java/lang/Integer", "intValue", "()I"⟩
abbrev own_y16 : MethodName := ⟨"java/lang/Integer", "stringSize", "(I)I"⟩
abbrev own_y18 : MethodName := ⟨"java/lang/Integer", "toString", "(I)Ljava/lang/String;"⟩
abbrev own_y19 : MethodName := ⟨"java/lang/Integer", "valueOf", "(I)Ljava/lang/Integer;"⟩
abbrev own_y21 : MethodName := ⟨"java/lang/Math", "min", "(II)I"⟩
abbrev own_y24 : MethodName := ⟨"java/lang/Record", "<init>", "()V"⟩
abbrev own_y25 : MethodName := ⟨"java/lang/String", "<init>", "(Ljava/lang/AbstractStringBuilder;Ljava/lang/Void;)V"⟩
abbrev own_y26 : MethodName := ⟨"java/lang/String", "<init>", "(Ljava/lang/StringBuilder;)V"⟩
abbrev own_y27 : MethodName := ⟨"java/lang/String", "<init>", "([BB)V"⟩
abbrev own_y28 : MethodName := ⟨"java/lang/String", "coder", "()B"⟩
abbrev own_y29 : MethodName := ⟨"java/lang/String", "getBytes", "([BIB)V"⟩
abbrev own_y30 : MethodName := ⟨"java/lang/String", "length", "()I"⟩
abbrev own_y31 : MethodName := ⟨"java/lang/String", "valueOf", "(Ljava/lang/Object;)Ljava/lang/String;"⟩
abbrev own_y32 : MethodName := ⟨"java/lang/StringBuilder", "<init>", "()V"⟩
abbrev own_y33 : MethodName := ⟨"java/lang/StringBuilder", "append", "(Ljava/lang/Object;)Ljava/lang/StringBuilder;"⟩
abbrev own_y34 : MethodName := ⟨"java/lang/StringBuilder", "append", "(Ljava/lang/String;)Ljava/lang/StringBuilder;"⟩
abbrev own_y35 : MethodName := ⟨"java/lang/StringBuilder", "length", "()I"⟩
abbrev own_y36 : MethodName := ⟨"java/lang/StringBuilder", "toString", "()Ljava/lang/String;"⟩
abbrev own_y39 : MethodName := ⟨"java/util/Arrays", "copyOfRange", "([BII)[B"⟩
theorem own_g {p : Program} {e : Env} {below : List Frame} {T : State} {P : Outcome → State → Prop} {g : JFrame} (g' : JFrame) (st : ∀ t, Steps p.tables e below (T.setTop g') t → Steps p.tables e below (T.setTop g) t) (k : own_Fin p e below P T g') : own_Fin p e below P T g := own_by st k

section OwnKitW
variable {p : Program} {l : Launch} {e : Env} {R : Room} {s : State} {m : MethodId} {args : Array Value} {below : List Frame} {meth : Method} {c : Code} {T T' : State} {locs : List Loc} {cells slots : Nat} {Z : State} {a0 : Array Value} {h : Heap} {vm0 : Vm} {EL : List (String × Nat)}
def own_PW (Z : State) (EL : List (String × Nat)) (s : State) (Q : Option Value → Heap → List Loc → Prop) (k n : Nat) (o : Outcome) (t : State) : Prop := ∃ v L, o = .returned v ∧ Q v t.heap L ∧ CHr Z EL s.vm s.heap t.vm t.heap ∧ ReturnedEndW s o t L k n
theorem own_startW {s₁ : State} {Q : Option Value → Heap → List Loc → Prop} {k n : Nat} {ml : Nat} {g : JFrame} (hef : entryFrame m args ml = g) (hk : own_Fin p e below (own_PW Z EL s Q k n) s₁ g) :
    ∃ s₂ o, Steps p.tables e below (s₁.setTop (entryFrame m args ml)) s₂ ∧ s₂.status = .running ∧ Ended s₂ below o ∧ ∃ v L, o = .returned v ∧ Q v s₂.heap L ∧ CHr Z EL s.vm s.heap s₂.vm s₂.heap ∧ ReturnedEndW s o s₂ L k n := by
  rw [hef]; exact hk
theorem own_endW (X : Stand p l e R (s.setVm vm0) m args below meth c T locs cells slots) {k0 : Nat} (hS : s.Since vm0 k0) (hk0 : k0 ≤ T.heap.size) (hZ : Z.Warmed39 vm0) (hEL : EW Z a0 EL) (C : CHr Z EL s.vm s.heap vm0 T.heap) {v : Option Value} (hv : meth.sig.returnType = none → v = none) (hlocks : meth.locks = false) {g : JFrame}
    (hret : ∀ {fs : List Frame}, (∀ (f : JFrame) (acts : List Action), f.method = m → f.locked = none → f.entered = [] → (doReturn e (T.setTop f) acts v).1 = T.setFrames fs) → Steps p.tables e below (T.setTop g) (T.setFrames fs))
    {Q : Option Value → Heap → List Loc → Prop} {k n : Nat} (hQ : Q v T.heap locs) (hk : cells ≤ k) (hn : slots ≤ n) : own_Fin p e below (own_PW Z EL s Q k n) T g := by
  obtain ⟨fs, hr, hrun, hended, hW⟩ := X.leaveW hS hk0 hv hlocks
  have C2 : CHr Z EL s.vm s.heap T.vm T.heap := C.trans (CHv.at X hZ hEL C.1)
  exact ⟨_, _, hret hr, hrun, hended, _, _, rfl, hQ, C2, hW.1, hW.2.1, hW.2.2.1, hW.2.2.2.mono hk hn⟩
theorem own_callSW (X : Stand p l e R (s.setVm vm0) m args below meth c T locs cells slots) (hx : p.tables.exec = Jvm.exec) (hZ : Z.Warmed39 vm0) {own : String} {index : Nat} {y : MethodName} {bytes : ByteArray} {maxL W : Nat} {ret : Option FieldType} {rm : Room} {as' : Array Value} {Q : Option Value → Heap → List Loc → Prop}
    (hown : vm0.findClass own = some m.cls) (w1 : (Jvm.Cond.methodLink own index y).before a0 Z = true) (w2 : (Jvm.Cond.static y).before a0 Z = true) (w3 : (Jvm.Cond.initialized y.cls).before a0 Z = true) (w4 : (Jvm.Cond.code y bytes maxL ret).before a0 Z = true) (hy : y.cls ≠ "java/lang/invoke/MethodHandle" ∧ y.cls ≠ "java/lang/invoke/VarHandle")
    {k0 : Nat} (hS : s.Since vm0 k0) (hk0 : k0 ≤ h.size) (hEL : EW Z a0 EL) (H : CHv Z EL vm0 h)
    (hM : MetFree l y (head1 [Jvm.Cond.code y bytes maxL ret] rm) (fun a U => a = as' ∧ Z.Warmed39 U.vm ∧ U.heap = h ∧ CHv Z EL U.vm h) (fun _ _ _ _ _ => True) (fun _ U o U' => ∃ v L, o = .returned v ∧ Q v U'.heap L ∧ CHr Z EL U.vm U.heap U'.vm U'.heap ∧ ReturnedEndW U o U' L rm.cells rm.slots))
    (hf : rm.frames + 1 ≤ R.frames) (hl : W + (maxL + 11) + rm.locals ≤ R.locals) (eT : T.heap = h) {g : JFrame} (hg : g.method = m) (hsize : g.locals.size = c.maxLocals) {argsL rest : List Value} (hlen : ∀ sig, parseMethodDescriptor y.desc = some sig → argsL.length = sig.parameters.length)
    (hstack : g.stack = argsL.reverse ++ rest) (hW : 2 * g.monitorRoom + (rest.map fun v => v.category).sum ≤ W) (hdg : decode c.code g.pc = .ok (.invokestatic index, 3)) (has : argsL.toArray = as') (hc : cells + rm.cells ≤ R.cells) (hs : slots + rm.slots ≤ R.slots) {P : Outcome → State → Prop}
    (k : ∀ (v : Option Value) (T' : State) (L : List Loc), Stand p l e R (s.setVm T'.vm) m args below meth c T' (locs ++ L) (cells + rm.cells) (slots + rm.slots) → s.Since T'.vm T'.heap.size → Z.Warmed39 T'.vm → T'.vm.findClass own = some m.cls → CHr Z EL vm0 h T'.vm T'.heap → Q v T'.heap L → own_Fin p e below P T' { g with pc := g.pc + 3, stack := v.toList ++ rest }) : own_Fin p e below P T g := by
  obtain ⟨v, _, ⟨U', L', k', n'⟩, -, X', hS2, hgr, ⟨Lc, hQ, l1, l2, l3, hC⟩, st⟩ := callSS X hx (y := y) hown (mvT (s := s.setVm vm0) hZ w1) (mvT (s := s.setVm vm0) hZ w2) (mvT (s := s.setVm vm0) hZ w3) (mvT (s := s.setVm vm0) hZ w4) hy (backOfSH (W := W) hM hZ w4 w3 hf hl hEL H) hg hsize hlen hstack hW hdg (fun _ _ => ⟨has, eT, hc, hs⟩)
  dsimp only [Pt.U, Pt.locs, Pt.cells, Pt.slots] at X' l1 l2 l3 st hQ hC hS2 hgr
  subst l1 l2 l3
  exact own_by (fun _ q => st.trans q) (k v U' Lc X' (foldS hS (by rw [eT]; exact hk0) hS2 hgr) (State.Warmed39.trans (t := s.setVm vm0) hZ hS2.1) (by rw [hS2.1.alike.findClass]; exact hown) hC hQ)
theorem own_callIW (X : Stand p l e R (s.setVm vm0) m args below meth c T locs cells slots) (hx : p.tables.exec = Jvm.exec) (hZ : Z.Warmed39 vm0) {own : String} {index : Nat} {y : MethodName} {bytes : ByteArray} {maxL W : Nat} {rm : Room} {as' : Array Value} {Q : Option Value → Heap → List Loc → Prop} (hin : y.name = "<init>")
    (hown : vm0.findClass own = some m.cls) (w1 : (Jvm.Cond.methodLink own index y).before a0 Z = true) (w2 : (Jvm.Cond.instanceMethod y).before a0 Z = true) (w4 : (Jvm.Cond.code y bytes maxL none).before a0 Z = true) (w3 : (Jvm.Cond.initialized y.cls).before a0 Z = true) (hy : y.cls ≠ "java/lang/invoke/MethodHandle" ∧ y.cls ≠ "java/lang/invoke/VarHandle")
    {k0 : Nat} (hS : s.Since vm0 k0) (hk0 : k0 ≤ h.size) (hEL : EW Z a0 EL) (H : CHv Z EL vm0 h)
    (hM : MetFree l y (head1 [Jvm.Cond.code y bytes maxL none] rm) (fun a U => a = as' ∧ Z.Warmed39 U.vm ∧ U.heap = h ∧ CHv Z EL U.vm h) (fun _ _ _ _ _ => True) (fun _ U o U' => ∃ v L, o = .returned v ∧ Q v U'.heap L ∧ CHr Z EL U.vm U.heap U'.vm U'.heap ∧ ReturnedEndW U o U' L rm.cells rm.slots))
    (hf : rm.frames + 1 ≤ R.frames) (hl : W + (maxL + 11) + rm.locals ≤ R.locals) (eT : T.heap = h) {g : JFrame} (hg : g.method = m) (hsize : g.locals.size = c.maxLocals) {a : Addr} {argsL rest : List Value} (hlen : ∀ sig, parseMethodDescriptor y.desc = some sig → argsL.length = sig.parameters.length)
    (hstack : g.stack = argsL.reverse ++ .ref a :: rest) (hW : 2 * g.monitorRoom + (rest.map fun v => v.category).sum ≤ W) (hdg : decode c.code g.pc = .ok (.invokespecial index, 3)) (has : (.ref a :: argsL).toArray = as') (hc : cells + rm.cells ≤ R.cells) (hs : slots + rm.slots ≤ R.slots) {P : Outcome → State → Prop}
    (k : ∀ (v : Option Value) (T' : State) (L : List Loc), Stand p l e R (s.setVm T'.vm) m args below meth c T' (locs ++ L) (cells + rm.cells) (slots + rm.slots) → s.Since T'.vm T'.heap.size → Z.Warmed39 T'.vm → T'.vm.findClass own = some m.cls → CHr Z EL vm0 h T'.vm T'.heap → Q v T'.heap L → own_Fin p e below P T' { g with pc := g.pc + 3, stack := v.toList ++ rest }) : own_Fin p e below P T g := by
  obtain ⟨v, _, ⟨U', L', k', n'⟩, -, X', hS2, hgr, ⟨Lc, hQ, l1, l2, l3, hC⟩, st⟩ := X.specialBackS hx (y := y) hin hown (mvT (s := s.setVm vm0) hZ w1) (mvT (s := s.setVm vm0) hZ w2) (mvT (s := s.setVm vm0) hZ w4) hy (backOfSH (W := W) hM hZ w4 w3 hf hl hEL H) hg hsize (Steps.refl _) (a := a) hlen hstack hW hdg (fun _ _ => ⟨has, eT, hc, hs⟩)
  dsimp only [Pt.U, Pt.locs, Pt.cells, Pt.slots] at X' l1 l2 l3 st hQ hC hS2 hgr
  subst l1 l2 l3
  exact own_by (fun _ q => st.trans q) (k v U' Lc X' (foldS hS (by rw [eT]; exact hk0) hS2 hgr) (State.Warmed39.trans (t := s.setVm vm0) hZ hS2.1) (by rw [hS2.1.alike.findClass]; exact hown) hC hQ)
theorem own_callVW (X : Stand p l e R (s.setVm vm0) m args below meth c T locs cells slots) (hx : p.tables.exec = Jvm.exec) (hZ : Z.Warmed39 vm0) {own C : String} {index : Nat} {y z : MethodName} {bytes : ByteArray} {maxL W : Nat} {ret : Option FieldType} {rm : Room} {as' : Array Value} {Q : Option Value → Heap → List Loc → Prop}
    (hown : vm0.findClass own = some m.cls) (w1 : (Jvm.Cond.methodLink own index y).before a0 Z = true) (w2 : (Jvm.Cond.declares y).before a0 Z = true) (nf : ∀ {s : State}, Z.Warmed39 s.vm → NotFace s y) (w5 : (Jvm.Cond.selects C y z).before a0 Z = true) (w6 : (Jvm.Cond.instanceMethod z).before a0 Z = true) (w4 : (Jvm.Cond.code z bytes maxL ret).before a0 Z = true) (w3 : (Jvm.Cond.initialized z.cls).before a0 Z = true) (hy : y.cls ≠ "java/lang/invoke/MethodHandle" ∧ y.cls ≠ "java/lang/invoke/VarHandle")
    {b : Addr} (E : Exa Z h b C) {k0 : Nat} (hS : s.Since vm0 k0) (hk0 : k0 ≤ h.size) (hEL : EW Z a0 EL) (H : CHv Z EL vm0 h)
    (hM : MetFree l z (head1 [Jvm.Cond.code z bytes maxL ret] rm) (fun a U => a = as' ∧ Z.Warmed39 U.vm ∧ U.heap = h ∧ CHv Z EL U.vm h) (fun _ _ _ _ _ => True) (fun _ U o U' => ∃ v L, o = .returned v ∧ Q v U'.heap L ∧ CHr Z EL U.vm U.heap U'.vm U'.heap ∧ ReturnedEndW U o U' L rm.cells rm.slots))
    (hf : rm.frames + 1 ≤ R.frames) (hl : W + (maxL + 11) + rm.locals ≤ R.locals) (eT : T.heap = h) {g : JFrame} (hg : g.method = m) (hsize : g.locals.size = c.maxLocals) {argsL rest : List Value} (hlen : ∀ sig, parseMethodDescriptor y.desc = some sig → argsL.length = sig.parameters.length)
    (hstack : g.stack = argsL.reverse ++ .ref b :: rest) (hW : 2 * g.monitorRoom + (rest.map fun v => v.category).sum ≤ W) (hdg : decode c.code g.pc = .ok (.invokevirtual index, 3)) (has : (.ref b :: argsL).toArray = as') (hc : cells + rm.cells ≤ R.cells) (hs : slots + rm.slots ≤ R.slots) {P : Outcome → State → Prop}
    (k : ∀ (v : Option Value) (T' : State) (L : List Loc), Stand p l e R (s.setVm T'.vm) m args below meth c T' (locs ++ L) (cells + rm.cells) (slots + rm.slots) → s.Since T'.vm T'.heap.size → Z.Warmed39 T'.vm → T'.vm.findClass own = some m.cls → CHr Z EL vm0 h T'.vm T'.heap → Q v T'.heap L → own_Fin p e below P T' { g with pc := g.pc + 3, stack := v.toList ++ rest }) : own_Fin p e below P T g := by
  obtain ⟨cq, kq, qa, qb, qc⟩ := isOf (s := s.setVm vm0) hZ eT E
  obtain ⟨v, _, ⟨U', L', k', n'⟩, -, X', hS2, hgr, ⟨Lc, hQ, l1, l2, l3, hC⟩, st⟩ := X.virtualBackS hx (y := y) (z := z) hown (mvT (s := s.setVm vm0) hZ w1) (mvT (s := s.setVm vm0) hZ w2) (nf (s := s.setVm vm0) hZ) (mvT (s := s.setVm vm0) hZ w5) (mvT (s := s.setVm vm0) hZ w6) hy (backOfSH (W := W) hM hZ w4 w3 hf hl hEL H) qa qc hg hsize (Steps.refl _) hlen hstack hW hdg (fun _ _ => ⟨has, eT, hc, hs⟩)
  dsimp only [Pt.U, Pt.locs, Pt.cells, Pt.slots] at X' l1 l2 l3 st hQ hC hS2 hgr
  subst l1 l2 l3
  exact own_by (fun _ q => st.trans q) (k v U' Lc X' (foldS hS (by rw [eT]; exact hk0) hS2 hgr) (State.Warmed39.trans (t := s.setVm vm0) hZ hS2.1) (by rw [hS2.1.alike.findClass]; exact hown) hC hQ)
theorem own_safeNull {vm : Vm} {x : Addr} (hal : Z.vm.Alike vm) (E : Exa Z h x "java/lang/String") (F : Fld Z h x "java/lang/String" "value" "[B" .null) : Safe Z EL vm h x := fun B => by
  obtain ⟨p, -, u, a, -, q, -, G, rfl | rfl⟩ := B
  · obtain ⟨cell, cf, k, i, f, h1, h2, -, -, -, -, h7⟩ := F
    cases (show h[q.sa]? = some q.sC from G.ha).symm.trans h1
    obtain ⟨cS, ⟨⟨-, -, -, ⟨cv, kv, iv, s4, -⟩, -, -, -, s8, -⟩, -, -⟩, -⟩ := G
    obtain ⟨k', z4⟩ := ff_back (U := Wst Z vm h) hal s4
    cases h2.symm.trans z4
    rw [s8] at h7
    cases h7
  · obtain ⟨cell, k, e1, e2, e3, -, -⟩ := E
    cases (show h[q.sd]? = some q.SA from G.hd).symm.trans e1
    obtain ⟨cS, -, -, f, -⟩ := G
    have f' : vm.findClass "[B" = some q.SA.cls := f
    rw [hal.findClass] at f'
    obtain ⟨k1, q1, q2⟩ := Vm.findClass_spec f'
    obtain ⟨k2, q3, q4⟩ := Vm.findClass_spec e2
    cases q1.symm.trans q3
    exact absurd (q2.symm.trans q4) (by decide)
end OwnKitW

theorem own_hEL {Z : State} {a0 : Array Value} (hw : ∀ d ∈ tables_1, d.before a0 Z = true) : EW Z a0 consts_1 := (EW.cons (own_h hw 220 rfl) (by decide) (EW.cons (own_h hw 222 rfl) (by decide) (EW.cons (own_h hw 43 rfl) (by decide) (EW.cons (own_h hw 200 rfl) (by decide) (EW.cons (own_h hw 206 rfl) (by decide) EW.nil)))))
theorem own_wSin : ∀ d ∈ Bundle.stringAtoms, d ∈ tables_1 := by decide +kernel
theorem own_wS {Z : State} {a0 : Array Value} (hw : ∀ d ∈ tables_1, d.before a0 Z = true) : ∀ d ∈ Bundle.stringAtoms, d.before a0 Z = true := fun d hd => hw d (own_wSin d hd)
section OwnKitU
variable {p : Program} {l : Launch} {e : Env} {R : Room} {s : State} {m : MethodId} {args : Array Value} {below : List Frame} {meth : Method} {c : Code} {T T' : State} {locs : List Loc} {cells slots : Nat} {Z : State} {a0 : Array Value} {h : Heap}
theorem own_callU (X : Stand p l e R s m args below meth c T locs cells slots) (hx : p.tables.exec = Jvm.exec) (hZ : Z.Warmed39 s.vm) {own C : String} {index : Nat} {y z : MethodName} {bytes : ByteArray} {maxL W : Nat} {ret : Option FieldType} {rm : Room} {as' : Array Value} {Q : Option Value → Heap → List Loc → Prop}
    (hown : s.vm.findClass own = some m.cls) (w1 : (Jvm.Cond.methodLink own index y).before a0 Z = true) (w7 : (Jvm.Cond.sameMethod y.cls z.cls y.name y.desc).before a0 Z = true) (w2 : (Jvm.Cond.declares ⟨z.cls, y.name, y.desc⟩).before a0 Z = true) (w5 : (Jvm.Cond.selects C y z).before a0 Z = true) (w6 : (Jvm.Cond.instanceMethod z).before a0 Z = true) (w4 : (Jvm.Cond.code z bytes maxL ret).before a0 Z = true) (w3 : (Jvm.Cond.initialized z.cls).before a0 Z = true) (hy : z.cls ≠ "java/lang/invoke/MethodHandle" ∧ z.cls ≠ "java/lang/invoke/VarHandle")
    {b : Addr} (E : Exa Z h b C)
    (hM : MetFree l z (head1 [Jvm.Cond.code z bytes maxL ret] rm) (fun a U => a = as' ∧ Z.Warmed39 U.vm ∧ U.heap = h) (fun _ _ _ _ _ => True) (fun _ U o U' => ∃ v L, o = .returned v ∧ Q v U'.heap L ∧ FrameEnd U o U' L rm.cells rm.slots))
    (hf : rm.frames + 1 ≤ R.frames) (hl : W + (maxL + 11) + rm.locals ≤ R.locals) (eT : T.heap = h) {g : JFrame} (hg : g.method = m) (hsize : g.locals.size = c.maxLocals) {argsL rest : List Value} (hlen : ∀ sig, parseMethodDescriptor y.desc = some sig → argsL.length = sig.parameters.length)
    (hstack : g.stack = argsL.reverse ++ .ref b :: rest) (hW : 2 * g.monitorRoom + (rest.map fun v => v.category).sum ≤ W) (hdg : decode c.code g.pc = .ok (.invokevirtual index, 3)) (has : (.ref b :: argsL).toArray = as') (hc : cells + rm.cells ≤ R.cells) (hs : slots + rm.slots ≤ R.slots) {P : Outcome → State → Prop}
    (k : ∀ (v : Option Value) (T' : State) (L : List Loc), Stand p l e R s m args below meth c T' (locs ++ L) (cells + rm.cells) (slots + rm.slots) → Q v T'.heap L → own_Fin p e below P T' { g with pc := g.pc + 3, stack := v.toList ++ rest }) : own_Fin p e below P T g := by
  obtain ⟨cq, kq, qa, qb, qc⟩ := isOf hZ eT E
  obtain ⟨v, _, ⟨U', L', k', n'⟩, -, X', ⟨Lc, hQ, l1, l2, l3⟩, st⟩ := X.virtualBackUp hx (x := y) (y := z) (owner := z.cls) hown (mvT hZ w1) (mvT hZ w7) (mvT hZ w2) hy (mvT hZ w5) (mvT hZ w6) (backOf (W := W) hM hZ w4 w3 hf hl) qa qc hg hsize (Steps.refl _) hlen hstack hW hdg (fun _ _ => ⟨has, eT, hc, hs⟩)
  dsimp only [Pt.U, Pt.locs, Pt.cells, Pt.slots] at X' l1 l2 l3 st hQ
  subst l1 l2 l3
  exact own_by (fun _ q => st.trans q) (k v U' Lc X' hQ)
end OwnKitU
section OwnKitP
variable {p : Program} {l : Launch} {e : Env} {R : Room} {s : State} {m : MethodId} {args : Array Value} {below : List Frame} {meth : Method} {c : Code} {T T' : State} {locs : List Loc} {cells slots : Nat} {Z : State} {a0 : Array Value} {h : Heap}
theorem own_nfc {C : String} {y z : MethodName} (w : (Jvm.Cond.selects C y z).before a0 Z = true) {y' : MethodName} (hc : y'.cls = z.cls) : ∀ {s : State}, Z.Warmed39 s.vm → NotFace s y' := fun {s} hZ r0 h0 => by
  have w' : (Jvm.Cond.selects C y z).before #[] s = true := mvT hZ w
  obtain ⟨c2, r2, m2, q1, q2, q3, q4, kP, hkP, hkPi⟩ := Cond.selects_spec w'
  have e1 := findClass_of_methodNamed h0
  have e2 := findClass_of_methodNamed q3
  rw [hc, e2] at e1
  have e3 : m2.cls = r0.cls := Option.some.inj e1
  exact ⟨kP, by rw [← e3]; exact hkP, hkPi⟩
theorem own_decl {y : MethodName} {bytes : ByteArray} {maxL : Nat} {ret : Option FieldType} (w1 : (Jvm.Cond.instanceMethod y).before a0 Z = true) (w2 : (Jvm.Cond.code y bytes maxL ret).before a0 Z = true) : (Jvm.Cond.declares y).before a0 Z = true := by
  obtain ⟨mk, methM, hn, hm, hst, hab⟩ := Cond.instanceMethod_spec w1
  obtain ⟨m2, cM, q1, -, -, -, -, -, -, hsig⟩ := Cond.code_spec hn w2
  cases hm.symm.trans q1
  simp [Cond.before, Cond.holds, Cond.value, hn, hm, hst, hsig]
theorem own_same {y : MethodName} (w : (Jvm.Cond.declares y).before a0 Z = true) (nf : NotFace Z y) (hy : y.cls ≠ "java/lang/invoke/MethodHandle" ∧ y.cls ≠ "java/lang/invoke/VarHandle") : (Jvm.Cond.sameMethod y.cls y.cls y.name y.desc).before a0 Z = true := by
  obtain ⟨r0, r, hn, -, -, -⟩ := Cond.declares_spec w
  obtain ⟨kr, hk, hni⟩ := nf r0 hn
  have e1 := findClass_of_methodNamed hn
  have e2 := State.methodFound?_of_named hn hy
  have hn' : Z.methodNamed? ⟨y.cls, y.name, y.desc⟩ = some r0 := hn
  simp [Cond.before, Cond.holds, Cond.value, e1, e2, hn', hk, hni]
theorem own_callP (X : Stand p l e R s m args below meth c T locs cells slots) (hx : p.tables.exec = Jvm.exec) (hZ : Z.Warmed39 s.vm) {own K : String} {index : Nat} {y : MethodName} {bytes : ByteArray} {maxL W : Nat} {ret : Option FieldType} {rm : Room} {as' : Array Value} {Q : Option Value → Heap → List Loc → Prop}
    (hown : s.vm.findClass own = some m.cls) (w1 : (Jvm.Cond.methodLink own index y).before a0 Z = true) (w2 : (Jvm.Cond.declares y).before a0 Z = true) (nf : ∀ {s : State}, Z.Warmed39 s.vm → NotFace s y) (w6 : (Jvm.Cond.instanceMethod y).before a0 Z = true) (w7 : (Jvm.Cond.superclass own y.cls).before a0 Z = true) (w4 : (Jvm.Cond.code y bytes maxL ret).before a0 Z = true) (w3 : (Jvm.Cond.initialized y.cls).before a0 Z = true) (hi : y.name ≠ "<init>") (hy : y.cls ≠ "java/lang/invoke/MethodHandle" ∧ y.cls ≠ "java/lang/invoke/VarHandle")
    {b : Addr} (E : Exa Z h b K)
    (hM : MetFree l y (head1 [Jvm.Cond.code y bytes maxL ret] rm) (fun a U => a = as' ∧ Z.Warmed39 U.vm ∧ U.heap = h) (fun _ _ _ _ _ => True) (fun _ U o U' => ∃ v L, o = .returned v ∧ Q v U'.heap L ∧ FrameEnd U o U' L rm.cells rm.slots))
    (hf : rm.frames + 1 ≤ R.frames) (hl : W + (maxL + 11) + rm.locals ≤ R.locals) (eT : T.heap = h) {g : JFrame} (hg : g.method = m) (hsize : g.locals.size = c.maxLocals) {argsL rest : List Value} (hlen : ∀ sig, parseMethodDescriptor y.desc = some sig → argsL.length = sig.parameters.length)
    (hstack : g.stack = argsL.reverse ++ .ref b :: rest) (hW : 2 * g.monitorRoom + (rest.map fun v => v.category).sum ≤ W) (hdg : decode c.code g.pc = .ok (.invokespecial index, 3)) (has : (.ref b :: argsL).toArray = as') (hc : cells + rm.cells ≤ R.cells) (hs : slots + rm.slots ≤ R.slots) {P : Outcome → State → Prop}
    (k : ∀ (v : Option Value) (T' : State) (L : List Loc), Stand p l e R s m args below meth c T' (locs ++ L) (cells + rm.cells) (slots + rm.slots) → Q v T'.heap L → own_Fin p e below P T' { g with pc := g.pc + 3, stack := v.toList ++ rest }) : own_Fin p e below P T g := by
  obtain ⟨v, _, ⟨U', L', k', n'⟩, -, X', ⟨Lc, hQ, l1, l2, l3⟩, st⟩ := superBack X hx hZ (y := y) hown w1 (own_same w2 (nf (State.Warmed39.refl Z)) hy) w6 w7 hi (backOf (W := W) hM hZ w4 w3 hf hl) eT (Ins.self E) hg hsize w4 hlen hstack hW hdg (fun _ _ => ⟨has, eT, hc, hs⟩)
  dsimp only [Pt.U, Pt.locs, Pt.cells, Pt.slots] at X' l1 l2 l3 st hQ
  subst l1 l2 l3
  exact own_by (fun _ q => st.trans q) (k v U' Lc X' hQ)
end OwnKitP

section OwnBytes
variable {Z : State} {h h' : Heap} {a b : Addr} {n : Int32} {ws : List Addr} {sl : Nat} {v : Value}
/-- a byte[] of length n, whatever it holds -/
def own_By (Z : State) (h : Heap) (a : Addr) (n : Int32) : Prop := ∃ (k : ClassId) (vs : List Value), Arv Z h a k .byte n vs (.int 0) ∧ vs.length = n.toNatClampNeg
theorem own_By.lt (F : own_By Z h a n) : a < h.size := by obtain ⟨k, vs, A, q⟩ := F; exact A.lt
theorem own_By.ext (F : own_By Z h a n) (E : Ext h h') : own_By Z h' a n := by obtain ⟨k, vs, A, q⟩ := F; exact ⟨k, vs, A.ext E, q⟩
theorem own_By.keep (F : own_By Z h a n) (K : Keep h h' ws) (q : a ∉ ws) : own_By Z h' a n := by obtain ⟨k, vs, A, r⟩ := F; exact ⟨k, vs, A.keep K q, r⟩
theorem own_By.other (F : own_By Z h b n) (W : Wr h h' a sl v) (q : b ≠ a) : own_By Z h' b n := by obtain ⟨k, vs, A, r⟩ := F; exact ⟨k, vs, A.other W q, r⟩
theorem own_By.pos (F : own_By Z h a n) : ¬ n < 0 := by obtain ⟨k, vs, ⟨cn, -, -, -, q, -⟩, -⟩ := F; exact q
theorem own_By.of {k : ClassId} {vs : List Value} {dv : Value} (A : Arv Z h a k .byte n vs dv) : own_By Z h a n := by
  obtain ⟨cn, Ar, q1, S, P, H, G⟩ := A
  have e : ∀ i, i < cn.slots.size → ((List.range n.toNatClampNeg).map fun i => vs.getD i dv).getD i (.int 0) = vs.getD i dv := fun i hi => by
    rw [S] at hi
    simp [List.getD_eq_getElem?_getD, hi]
  exact ⟨k, _, ⟨cn, Ar, q1, S, P, fun i hi => by rw [e i hi]; exact H i hi, fun i hi => by rw [e i hi]; exact G i hi⟩, by simp⟩
theorem own_By.put {k : ClassId} {cl : Cell} {j : Int32} {vs : List Value} (Ar : Arr Z h a cl .byte) (q1 : cl.cls = k) (S : cl.slots.size = n.toNatClampNeg) (P : ¬ n < 0) (H : Has cl vs (.int 0)) (G : ∀ i, i < cl.slots.size → fits .byte (vs.getD i (.int 0)) = true) (hl : vs.length = n.toNatClampNeg) (hin : ¬ (j < 0 ∨ cl.slots.size ≤ j.toNatClampNeg)) (hv : fits .byte v = true) (W : Wr h h' a j.toNatClampNeg v) : own_By Z h' a n :=
  own_By.of (Arv.set Ar q1 S P H G hv W j.toNatClampNeg rfl (by rw [hl, ← S]; exact Nat.lt_of_not_le fun q => hin (Or.inr q)))
theorem own_shr0 (x : Int32) : x >>> ((0 : Int32) &&& 31) = x := by simp
theorem own_shl0 (x : Int32) : x <<< ((0 : Int32) &&& 31) = x := by simp
theorem own_sub0 (x : Int32) : x - (0 : Int32) = x := by simp
/-- what is told of the JDK's statics -/
def own_C (Z : State) (zCS : Int32) (dO dT ca : Addr) (cO cT cc : Cell) : Prop :=
  Sta Z Z.heap "java/lang/String" "COMPACT_STRINGS" "Z" (.int zCS) ∧ ¬ zCS = (0 : Int32) ∧ Sta Z Z.heap "java/lang/Integer" "DigitOnes" "[B" (.ref dO) ∧ Sta Z Z.heap "java/lang/Integer" "DigitTens" "[B" (.ref dT) ∧
  Tab Z Z.heap dO cO .byte (100 : Int32) ∧ Tab Z Z.heap dT cT .byte (100 : Int32) ∧ Sta Z Z.heap "java/lang/Integer$IntegerCache" "high" "I" (.int 127) ∧ Sta Z Z.heap "java/lang/Integer$IntegerCache" "cache" "[Ljava/lang/Integer;" (.ref ca) ∧ Bxs Z ca cc "java/lang/Integer" "I" (256 : Int32) (fun j => .int (j - (128 : Int32)))
theorem own_nl {x y : Int32} (q : ¬ x.toInt < y.toInt) : ¬ x < y := fun z => q (Int32.lt_iff_toInt_lt.mp z)
theorem own_lt {x y : Int32} (q : x.toInt < y.toInt) : x < y := Int32.lt_iff_toInt_lt.mpr q
theorem own_neg {y : Int32} (q : -1000000 < y.toInt ∧ y.toInt < 1000000) : (-y).toInt = -y.toInt := by
  have a := c_ineg y
  have b := rng32 (-y)
  omega
theorem own_qd {y : Int32} (q : -1000000 < y.toInt ∧ y.toInt ≤ 0) : (y / (100 : Int32)).toInt = -((-y.toInt) / 100) := by
  have a := c_idiv y 100 100 (by decide) (by decide)
  by_cases z : y.toInt = 0
  · rw [a.1 (by omega), z]; decide
  · exact a.2 (by omega)
theorem own_rd {y : Int32} (q : -1000000 < y.toInt ∧ y.toInt ≤ 0) : (((y / (100 : Int32)) * (100 : Int32)) - y).toInt = (-y.toInt) % 100 := by
  have a := own_qd q
  have b := c_imul (y / 100) 100
  have cn := c_isub ((y / 100) * 100) y
  have r1 := rng32 ((y / 100) * 100)
  have r2 := rng32 (((y / 100) * 100) - y)
  have e : (100 : Int32).toInt = 100 := by decide
  rw [a, e] at b
  omega
def own_dz (d : Int32) : Prop := 1 ≤ d.toInt ∧ d.toInt ≤ 6
theorem own_cl {x : Int32} (q : 0 ≤ x.toInt) : (x.toNatClampNeg : Int) = x.toInt := by simp only [Int32.toNatClampNeg]; omega
theorem own_add {x y : Int32} (q : 0 ≤ x.toInt ∧ x.toInt < 1000 ∧ 0 ≤ y.toInt ∧ y.toInt < 1000) : (x + y).toInt = x.toInt + y.toInt := by
  have a := c_iadd x y
  have b := rng32 (x + y)
  omega
theorem own_sub {x y : Int32} (q : -1000000 < x.toInt ∧ x.toInt < 1000000 ∧ -1000000 < y.toInt ∧ y.toInt < 1000000) : (x - y).toInt = x.toInt - y.toInt := by
  have a := c_isub x y
  have b := rng32 (x - y)
  omega
theorem own_iadd {x y : Int32} (q : -1000000 < x.toInt ∧ x.toInt < 1000000 ∧ -1000000 < y.toInt ∧ y.toInt < 1000000) : (x + y).toInt = x.toInt + y.toInt := by
  have a := c_iadd x y
  have b := rng32 (x + y)
  omega
theorem own_len {args : Array Value} {t : Term} {z : Int32} (h : (Jvm.Cond.eq (.length t) (.int z)).value args Z none Z [] = some true) : ∃ (a : Addr) (cl : Cell), t.eval args Z none [] Z = some (.ref a) ∧ Z.arrayAt? a = some cl ∧ cl.slots.size < 2 ^ 31 ∧ cl.slots.size.toInt32 = z := by
  have e := eqv_i (Term.int_eval z) h
  obtain ⟨a, cl, e1, e2, e3⟩ := Term.length_spec e
  refine ⟨a, cl, e1, e2, ?_, (Value.int.inj e3).symm⟩
  by_cases q : cl.slots.size < 2 ^ 31
  · exact q
  · simp [Term.eval, e1, e2, q] at e
theorem own_tabB {args : Array Value} {t : Term} {z : Int32} (hf : Fit Z) (wa : (Jvm.Cond.arrayClass .byte).before args Z = true) (hx : (Jvm.Cond.exactly t "[B").value args Z none Z [] = some true) (h : (Jvm.Cond.eq (.length t) (.int z)).value args Z none Z [] = some true) (hz : ¬ z < 0) : ∃ (a : Addr) (cl : Cell), t.eval args Z none [] Z = some (.ref a) ∧ Tab Z Z.heap a cl .byte z := by
  obtain ⟨a, cl, e1, e2, e3, e4⟩ := own_len h
  obtain ⟨c1, k1, h1, h2, h3, h4, -⟩ := Exa.start e1 hx
  obtain ⟨g1, g2, g3, -⟩ := State.arrayAt?_spec e2
  cases g1.symm.trans h1
  obtain ⟨cn, k', comp', f1, f2, f3⟩ := Cond.arrayClass_spec wa
  have f1' : Z.vm.findClass "[B" = some cn := f1
  cases h2.symm.trans f1'
  exact ⟨a, cl, e1, Tab.start hf ⟨h1, ⟨fun k q => (by rw [q] at g3; cases g3), k', f2, comp', f3⟩, g2⟩ (by simp) e3 e4 hz⟩
theorem own_bxs {args : Array Value} {t : Term} (et : ∀ idx, t.eval args Z none idx Z = some (.ref a)) (ha : (Jvm.Cond.arrayOf t (.object "java/lang/Integer")).value args Z none Z [] = some true) (hl : (Jvm.Cond.eq (.length t) (.int 256)).value args Z none Z [] = some true)
    (hall : (Jvm.Cond.all t (.and (.exactly (.elem t (.index 0)) "java/lang/Integer") (.eq (.field (.elem t (.index 0)) "java/lang/Integer" "value" "I") (.sub (.index 0) (.int 128))))).value args Z none Z [] = some true) : ∃ cn : Cell, Bxs Z a cn "java/lang/Integer" "I" (256 : Int32) (fun j => .int (j - (128 : Int32))) := by
  obtain ⟨a', cl, e1, e2, e3, e4⟩ := own_len hl
  cases (et []).symm.trans e1
  obtain ⟨cn, A⟩ := Arr.start (et []) ha
  have e5 := (State.arrayAt?_spec e2).1
  cases A.1.symm.trans e5
  refine ⟨_, Bxs.start et A e3 e4 (by decide) hall fun X j nn hq => ?_⟩
  refine eqv_i ?_ hq
  have q := idx_at (args := args) (s := Z) (first := Z) (o := none) nn
  simp [Term.eval, q, Term.int_eval] at q ⊢
  first | done | (rw [q]; rfl) | simp [q]
end OwnBytes
theorem own_d10_0 : decode jdk_42_method_152_code 0 = .ok (.getstatic 38, 3) := by decide +kernel
theorem own_d10_3 : decode jdk_42_method_152_code 3 = .ok (.ifCond .eq 10, 3) := by decide +kernel
theorem own_d10_6 : decode jdk_42_method_152_code 6 = .ok (.aload_n 0, 1) := by decide +kernel
theorem own_d10_7 : decode jdk_42_method_152_code 7 = .ok (.getfield 15, 3) := by decide +kernel
theorem own_d10_10 : decode jdk_42_method_152_code 10 = .ok (.goto 4, 3) := by decide +kernel
theorem own_d10_14 : decode jdk_42_method_152_code 14 = .ok (.ireturn, 1) := by decide +kernel
theorem own_cod_ef (m : MethodId) (s0 : Addr) : entryFrame m #[(.ref s0)] 1 = mkF m 0 #[.val (.ref s0)] [] := by  first | (simp [entryFrame, mkF, argsToLocals, Value.category]; done) | rfl
def own_cod_Q (Z : State) (s0 : Addr) (zCS : Int32) (dO : Addr) (dT : Addr) (ca : Addr) (cO : Cell) (cT : Cell) (cc : Cell) (h0 : Heap) (n0 : Nat) (v : Option Value) (h : Heap) (L : List Loc) : Prop := v = some (.int 0) ∧ Fr n0 L ∧ h = h0
theorem own_pn_java_lang_String : plainName "java/lang/String" = true := by first | (simp [plainName, overriddenIn]; done) | decide +kernel
set_option maxRecDepth 65536 in
set_option maxHeartbeats 40000000 in
theorem own_cod (l : Launch) (Z : State) (a0 : Array Value) (hw : ∀ d ∈ tables_1, d.before a0 Z = true) (ws : List Jvm.Cond) (s0 : Addr) (zCS : Int32) (dO : Addr) (dT : Addr) (ca : Addr) (cO : Cell) (cT : Cell) (cc : Cell) (h0 : Heap) (n0 : Nat) (Z0 : n0 ≤ h0.size) (Cq : own_C Z zCS dO dT ca cO cT cc) (O0 : Old Z n0 h0) (C_s : Fld Z h0 s0 "java/lang/String" "coder" "B" (.int 0)) :
    MetFree l own_y28 (head1 (Jvm.Cond.code own_y28 jdk_42_method_152_code 1 (some .byte) :: ws) (⟨0, 0, 0, 0⟩ : Room)) (fun aa U => aa = #[(.ref s0)] ∧ Z.Warmed39 U.vm ∧ U.heap = h0) (fun _ _ _ _ _ => True) (fun _ U o U' => ∃ v L, o = .returned v ∧ own_cod_Q Z s0 zCS dO dT ca cO cT cc h0 n0 v U'.heap L ∧ FrameEnd U o U' L (⟨0, 0, 0, 0⟩ : Room).cells (⟨0, 0, 0, 0⟩ : Room).slots) := by
  refine MetFree.of_bodySF (plainFor_of_name own_pn_java_lang_String) hisR ?_
  intro p e s m args below meth c s₁ Bd hml0 hP hK
  obtain ⟨rfl, hZ, hh⟩ := hP
  have hx := Bd.exec
  have hby := Bd.bytes
  have hml : c.maxLocals = 1 := hml0
  have hown : s.vm.findClass "java/lang/String" = some m.cls := findClass_of_methodNamed Bd.named
  have hnm := (name_of_methodNamed Bd.named Bd.method).1
  have hlk := Bd.notSynchronized
  have X0 : Stand p l e (⟨0, 0, 0, 0⟩ : Room) s m #[(.ref s0)] below meth c s₁ [] 0 0 := Stand.of_body Bd
  have e0 : s₁.heap = h0 := by rw [← hh, Bd.state]; rfl
  have N0 := Fr.nil n0
  refine own_start (Q := own_cod_Q Z s0 zCS dO dT ca cO cT cc h0 n0) (own_cod_ef m s0) ?_
  obtain ⟨T1, X1, e1, st1⟩ := getS2 X0 hx hZ hown (host := "") (Or.inl (own_h hw 70 rfl)) Via.refl e0 (Sta.ext O0.2 Cq.1) (g := (mkF m 0 #[.val (.ref s0)] [])) rfl (hb hby own_d10_0)
  refine own_by (g' := (mkF m 3 #[.val (.ref s0)] [(.int zCS)])) st1 ?_
  refine own_g (mkF m 7 #[.val (.ref s0)] [(.ref s0)]) (fun _ q => XS.ifNo X1.here hx rfl (hb hby own_d10_3) rfl ((if0 _ _).trans (feq Cq.2.1).1) (XS.aloadN X1.here hx rfl (hb hby own_d10_6) rfl rfl q)) ?_
  obtain ⟨T2, X2, e2, st2⟩ := getF X1 hx hZ hown (host := "") (Or.inl (own_h hw 71 rfl)) Via.refl e1 C_s (g := (mkF m 7 #[.val (.ref s0)] [(.ref s0)])) rfl rfl (hb hby own_d10_7)
  refine own_by (g' := (mkF m 10 #[.val (.ref s0)] [(.int 0)])) st2 ?_
  refine own_g (mkF m 14 #[.val (.ref s0)] [(.int 0)]) (fun _ q => XS.goto X2.here hx rfl (pc0 := 10) (pc' := 14) rfl (hb hby own_d10_10) (by decide) (by decide) q) ?_
  exact own_end X2 (v := some (.int (nar .byte (0 : Int32)))) (fun h => by rw [Bd.returns] at h; cases h) hlk (fun hr => retN X2 hx (t := .byte) Bd.returns (by simp) (hb hby own_d10_14) hr) (by rw [e2]; exact ⟨rfl, N0, rfl⟩) (by decide) (by decide)
theorem own_d9_0 : decode jdk_42_method_54_code 0 = .ok (.aload_n 0, 1) := by decide +kernel
theorem own_d9_1 : decode jdk_42_method_54_code 1 = .ok (.getfield 9, 3) := by decide +kernel
theorem own_d9_4 : decode jdk_42_method_54_code 4 = .ok (.arraylength, 1) := by decide +kernel
theorem own_d9_5 : decode jdk_42_method_54_code 5 = .ok (.aload_n 0, 1) := by decide +kernel
theorem own_d9_6 : decode jdk_42_method_54_code 6 = .ok (.invokevirtual 335, 3) := by decide +kernel
theorem own_pd__28_29B : parseMethodDescriptor "()B" = some ⟨[], some .byte⟩ := by decide +kernel
theorem own_d9_9 : decode jdk_42_method_54_code 9 = .ok (.ishr, 1) := by decide +kernel
theorem own_d9_10 : decode jdk_42_method_54_code 10 = .ok (.ireturn, 1) := by decide +kernel
theorem own_len1_ef (m : MethodId) (s0 : Addr) : entryFrame m #[(.ref s0)] 1 = mkF m 0 #[.val (.ref s0)] [] := by  first | (simp [entryFrame, mkF, argsToLocals, Value.category]; done) | rfl
def own_len1_Q (Z : State) (s0 : Addr) (b : Addr) (n : Int32) (zCS : Int32) (dO : Addr) (dT : Addr) (ca : Addr) (cO : Cell) (cT : Cell) (cc : Cell) (h0 : Heap) (n0 : Nat) (v : Option Value) (h : Heap) (L : List Loc) : Prop := v = some (.int n) ∧ Fr n0 L ∧ h = h0
set_option maxRecDepth 65536 in
set_option maxHeartbeats 40000000 in
theorem own_len1 (l : Launch) (Z : State) (a0 : Array Value) (hw : ∀ d ∈ tables_1, d.before a0 Z = true) (ws : List Jvm.Cond) (s0 : Addr) (b : Addr) (n : Int32) (zCS : Int32) (dO : Addr) (dT : Addr) (ca : Addr) (cO : Cell) (cT : Cell) (cc : Cell) (h0 : Heap) (n0 : Nat) (Z0 : n0 ≤ h0.size) (Cq : own_C Z zCS dO dT ca cO cT cc) (O0 : Old Z n0 h0) (E_s0 : Exa Z h0 s0 "java/lang/String") (V_s0 : Fld Z h0 s0 "java/lang/String" "value" "[B" (.ref b)) (C_s0 : Fld Z h0 s0 "java/lang/String" "coder" "B" (.int 0)) (R_b : own_By Z h0 b n) :
    MetFree l own_y30 (head1 (Jvm.Cond.code own_y30 jdk_42_method_54_code 1 (some .int) :: ws) (⟨1, 0, 0, 13⟩ : Room)) (fun aa U => aa = #[(.ref s0)] ∧ Z.Warmed39 U.vm ∧ U.heap = h0) (fun _ _ _ _ _ => True) (fun _ U o U' => ∃ v L, o = .returned v ∧ own_len1_Q Z s0 b n zCS dO dT ca cO cT cc h0 n0 v U'.heap L ∧ FrameEnd U o U' L (⟨1, 0, 0, 13⟩ : Room).cells (⟨1, 0, 0, 13⟩ : Room).slots) := by
  refine MetFree.of_bodySF (plainFor_of_name own_pn_java_lang_String) hisR ?_
  intro p e s m args below meth c s₁ Bd hml0 hP hK
  obtain ⟨rfl, hZ, hh⟩ := hP
  have hx := Bd.exec
  have hby := Bd.bytes
  have hml : c.maxLocals = 1 := hml0
  have hown : s.vm.findClass "java/lang/String" = some m.cls := findClass_of_methodNamed Bd.named
  have hnm := (name_of_methodNamed Bd.named Bd.method).1
  have hlk := Bd.notSynchronized
  have X0 : Stand p l e (⟨1, 0, 0, 13⟩ : Room) s m #[(.ref s0)] below meth c s₁ [] 0 0 := Stand.of_body Bd
  have e0 : s₁.heap = h0 := by rw [← hh, Bd.state]; rfl
  have N0 := Fr.nil n0
  refine own_start (Q := own_len1_Q Z s0 b n zCS dO dT ca cO cT cc h0 n0) (own_len1_ef m s0) ?_
  refine own_g (mkF m 1 #[.val (.ref s0)] [(.ref s0)]) (fun _ q => XS.aloadN X0.here hx rfl (hb hby own_d9_0) rfl rfl q) ?_
  obtain ⟨T1, X1, e1, st1⟩ := getF X0 hx hZ hown (host := "") (Or.inl (own_h hw 64 rfl)) Via.refl e0 V_s0 (g := (mkF m 1 #[.val (.ref s0)] [(.ref s0)])) rfl rfl (hb hby own_d9_1)
  refine own_by (g' := (mkF m 4 #[.val (.ref s0)] [(.ref b)])) st1 ?_
  obtain ⟨kk2, vs2, ⟨cl2, Ar2, q2, S2, P2, H2, G2⟩, hl2⟩ := id R_b
  refine own_by (g' := (mkF m 5 #[.val (.ref s0)] [(.int n)])) (fun _ kq => X1.arraylength hx (by rw [e1]; exact Ar2.1) (State.isArrayOf_alike hZ.alike Ar2.2.1) (g := (mkF m 4 #[.val (.ref s0)] [(.ref b)])) rfl rfl (hb hby own_d9_4) _ (by rw [len_of S2 P2]; exact kq)) ?_
  refine own_g (mkF m 6 #[.val (.ref s0)] [(.ref s0), (.int n)]) (fun _ q => XS.aloadN X1.here hx rfl (hb hby own_d9_5) rfl rfl q) ?_
  refine own_callV X1 hx hZ (y := own_y28) (z := own_y28) hown (own_h hw 65 rfl) (own_h hw 66 rfl) (own_nf (own_h hw 68 rfl)) (own_h hw 68 rfl) (own_h hw 67 rfl) (own_h hw 69 rfl) (own_h hw 37 rfl) (by decide) E_s0 (own_cod l Z a0 hw [] s0 zCS dO dT ca cO cT cc h0 n0 Z0 Cq O0 C_s0) (by decide) (by decide) e1 (g := (mkF m 6 #[.val (.ref s0)] [(.ref s0), (.int n)])) rfl (by rw [hml]; rfl) (argsL := []) (rest := [(.int n)]) (lenOf own_pd__28_29B rfl) rfl (W := 1) (by show 2 * 0 + _ ≤ _; exact Nat.le_of_eq rfl) (hb hby own_d9_6) rfl (by decide) (by decide) ?_
  rintro rv3 T3 L3 X3 ⟨rfl, Nq3, eh3⟩
  have N3 := Fr.app N0 Nq3
  refine own_g (mkF m 10 #[.val (.ref s0)] [(.int (n >>> ((0 : Int32) &&& 31)))]) (fun _ q => XS.ishr X3.here hx rfl (hb hby own_d9_9) rfl q) ?_
  rw [own_shr0]
  show own_Fin p e below _ T3 (mkF m 10 #[.val (.ref s0)] [(.int n)])
  exact own_end X3 (v := some (.int n)) (fun h => by rw [Bd.returns] at h; cases h) hlk (fun hr => retOut X3 hx Bd.returns rfl (Or.inl ⟨rfl, Or.inl rfl, _, rfl⟩) (hb hby own_d9_10) hr) (by rw [eh3]; exact ⟨rfl, N3, rfl⟩) (by decide) (by decide)
theorem own_d14_0 : decode jdk_42_method_147_code 0 = .ok (.aload_n 0, 1) := by decide +kernel
theorem own_d14_1 : decode jdk_42_method_147_code 1 = .ok (.invokevirtual 335, 3) := by decide +kernel
theorem own_d14_4 : decode jdk_42_method_147_code 4 = .ok (.iload_n 3, 1) := by decide +kernel
theorem own_d14_5 : decode jdk_42_method_147_code 5 = .ok (.if_icmp .ne 23, 3) := by decide +kernel
theorem own_d14_8 : decode jdk_42_method_147_code 8 = .ok (.aload_n 0, 1) := by decide +kernel
theorem own_d14_9 : decode jdk_42_method_147_code 9 = .ok (.getfield 9, 3) := by decide +kernel
theorem own_d14_12 : decode jdk_42_method_147_code 12 = .ok (.iconst 0, 1) := by decide +kernel
theorem own_d14_13 : decode jdk_42_method_147_code 13 = .ok (.aload_n 1, 1) := by decide +kernel
theorem own_d14_14 : decode jdk_42_method_147_code 14 = .ok (.iload_n 2, 1) := by decide +kernel
theorem own_d14_15 : decode jdk_42_method_147_code 15 = .ok (.iload_n 3, 1) := by decide +kernel
theorem own_d14_16 : decode jdk_42_method_147_code 16 = .ok (.ishl, 1) := by decide +kernel
theorem own_d14_17 : decode jdk_42_method_147_code 17 = .ok (.aload_n 0, 1) := by decide +kernel
theorem own_d14_18 : decode jdk_42_method_147_code 18 = .ok (.getfield 9, 3) := by decide +kernel
theorem own_d14_21 : decode jdk_42_method_147_code 21 = .ok (.arraylength, 1) := by decide +kernel
theorem own_d14_22 : decode jdk_42_method_147_code 22 = .ok (.invokestatic 212, 3) := by decide +kernel
theorem own_d14_25 : decode jdk_42_method_147_code 25 = .ok (.goto 18, 3) := by decide +kernel
theorem own_d14_43 : decode jdk_42_method_147_code 43 = .ok (.return_, 1) := by decide +kernel
theorem own_gb_ef (m : MethodId) (s0 : Addr) (d0 : Addr) (ix : Int32) : entryFrame m #[(.ref s0), (.ref d0), (.int ix), (.int 0)] 4 = mkF m 0 #[.val (.ref s0), .val (.ref d0), .val (.int ix), .val (.int 0)] [] := by  first | (simp [entryFrame, mkF, argsToLocals, Value.category]; done) | rfl
def own_gb_Q (Z : State) (s0 : Addr) (d0 : Addr) (ix : Int32) (b : Addr) (n : Int32) (z : Int32) (zCS : Int32) (dO : Addr) (dT : Addr) (ca : Addr) (cO : Cell) (cT : Cell) (cc : Cell) (h0 : Heap) (n0 : Nat) (v : Option Value) (h : Heap) (L : List Loc) : Prop := v = none ∧ Fr n0 L ∧ Keep h0 h [d0] ∧ own_By Z h d0 z
set_option maxRecDepth 65536 in
set_option maxHeartbeats 40000000 in
theorem own_gb (l : Launch) (Z : State) (a0 : Array Value) (hw : ∀ d ∈ tables_1, d.before a0 Z = true) (ws : List Jvm.Cond) (s0 : Addr) (d0 : Addr) (ix : Int32) (b : Addr) (n : Int32) (z : Int32) (zCS : Int32) (dO : Addr) (dT : Addr) (ca : Addr) (cO : Cell) (cT : Cell) (cc : Cell) (h0 : Heap) (n0 : Nat) (Z0 : n0 ≤ h0.size) (Cq : own_C Z zCS dO dT ca cO cT cc) (O0 : Old Z n0 h0) (E_s0 : Exa Z h0 s0 "java/lang/String") (V_s0 : Fld Z h0 s0 "java/lang/String" "value" "[B" (.ref b)) (C_s0 : Fld Z h0 s0 "java/lang/String" "coder" "B" (.int 0)) (R_b : own_By Z h0 b n) (R_d : own_By Z h0 d0 z) (g_d : n0 ≤ d0) (hi : ¬ ix < 0) (h5 : ix.toNatClampNeg + n.toNatClampNeg ≤ z.toNatClampNeg) :
    MetFree l own_y29 (head1 (Jvm.Cond.code own_y29 jdk_42_method_147_code 4 none :: ws) (⟨1, 0, 0, 18⟩ : Room)) (fun aa U => aa = #[(.ref s0), (.ref d0), (.int ix), (.int 0)] ∧ Z.Warmed39 U.vm ∧ U.heap = h0) (fun _ _ _ _ _ => True) (fun _ U o U' => ∃ v L, o = .returned v ∧ own_gb_Q Z s0 d0 ix b n z zCS dO dT ca cO cT cc h0 n0 v U'.heap L ∧ FrameEnd U o U' L (⟨1, 0, 0, 18⟩ : Room).cells (⟨1, 0, 0, 18⟩ : Room).slots) := by
  refine MetFree.of_bodySF (plainFor_of_name own_pn_java_lang_String) hisR ?_
  intro p e s m args below meth c s₁ Bd hml0 hP hK
  obtain ⟨rfl, hZ, hh⟩ := hP
  have hx := Bd.exec
  have hby := Bd.bytes
  have hml : c.maxLocals = 4 := hml0
  have hown : s.vm.findClass "java/lang/String" = some m.cls := findClass_of_methodNamed Bd.named
  have hnm := (name_of_methodNamed Bd.named Bd.method).1
  have hlk := Bd.notSynchronized
  have X0 : Stand p l e (⟨1, 0, 0, 18⟩ : Room) s m #[(.ref s0), (.ref d0), (.int ix), (.int 0)] below meth c s₁ [] 0 0 := Stand.of_body Bd
  have e0 : s₁.heap = h0 := by rw [← hh, Bd.state]; rfl
  have N0 := Fr.nil n0
  refine own_start (Q := own_gb_Q Z s0 d0 ix b n z zCS dO dT ca cO cT cc h0 n0) (own_gb_ef m s0 d0 ix) ?_
  refine own_g (mkF m 1 #[.val (.ref s0), .val (.ref d0), .val (.int ix), .val (.int 0)] [(.ref s0)]) (fun _ q => XS.aloadN X0.here hx rfl (hb hby own_d14_0) rfl rfl q) ?_
  refine own_callV X0 hx hZ (y := own_y28) (z := own_y28) hown (own_h hw 65 rfl) (own_h hw 66 rfl) (own_nf (own_h hw 68 rfl)) (own_h hw 68 rfl) (own_h hw 67 rfl) (own_h hw 69 rfl) (own_h hw 37 rfl) (by decide) E_s0 (own_cod l Z a0 hw [] s0 zCS dO dT ca cO cT cc h0 n0 (Nat.le_trans Z0 (Keep.refl h0 [d0]).1) Cq O0 C_s0) (by decide) (by decide) e0 (g := (mkF m 1 #[.val (.ref s0), .val (.ref d0), .val (.int ix), .val (.int 0)] [(.ref s0)])) rfl (by rw [hml]; rfl) (argsL := []) (rest := []) (lenOf own_pd__28_29B rfl) rfl (W := 0) (by show 2 * 0 + _ ≤ _; exact Nat.le_of_eq rfl) (hb hby own_d14_1) rfl (by decide) (by decide) ?_
  rintro rv1 T1 L1 X1 ⟨rfl, Nq1, eh1⟩
  have N1 := Fr.app N0 Nq1
  refine own_g (mkF m 9 #[.val (.ref s0), .val (.ref d0), .val (.int ix), .val (.int 0)] [(.ref s0)]) (fun _ q => XS.iloadN X1.here hx rfl (hb hby own_d14_4) rfl (XS.icmpNo X1.here hx rfl (hb hby own_d14_5) rfl (teq (by decide : (0 : Int32) = (0 : Int32))).2 (XS.aloadN X1.here hx rfl (hb hby own_d14_8) rfl rfl q))) ?_
  obtain ⟨T2, X2, e2, st2⟩ := getF X1 hx hZ hown (host := "") (Or.inl (own_h hw 64 rfl)) Via.refl eh1 V_s0 (g := (mkF m 9 #[.val (.ref s0), .val (.ref d0), .val (.int ix), .val (.int 0)] [(.ref s0)])) rfl rfl (hb hby own_d14_9)
  refine own_by (g' := (mkF m 12 #[.val (.ref s0), .val (.ref d0), .val (.int ix), .val (.int 0)] [(.ref b)])) st2 ?_
  refine own_g (mkF m 17 #[.val (.ref s0), .val (.ref d0), .val (.int ix), .val (.int 0)] [(.int (ix <<< ((0 : Int32) &&& 31))), (.ref d0), (.int 0), (.ref b)]) (fun _ q => XS.iconst X2.here hx rfl (hb hby own_d14_12) (XS.aloadN X2.here hx rfl (hb hby own_d14_13) rfl rfl (XS.iloadN X2.here hx rfl (hb hby own_d14_14) rfl (XS.iloadN X2.here hx rfl (hb hby own_d14_15) rfl (XS.ishl X2.here hx rfl (hb hby own_d14_16) rfl q))))) ?_
  rw [own_shl0]
  refine own_g (mkF m 18 #[.val (.ref s0), .val (.ref d0), .val (.int ix), .val (.int 0)] [(.ref s0), (.int ix), (.ref d0), (.int 0), (.ref b)]) (fun _ q => XS.aloadN X2.here hx rfl (hb hby own_d14_17) rfl rfl q) ?_
  obtain ⟨T3, X3, e3, st3⟩ := getF X2 hx hZ hown (host := "") (Or.inl (own_h hw 64 rfl)) Via.refl e2 V_s0 (g := (mkF m 18 #[.val (.ref s0), .val (.ref d0), .val (.int ix), .val (.int 0)] [(.ref s0), (.int ix), (.ref d0), (.int 0), (.ref b)])) rfl rfl (hb hby own_d14_18)
  refine own_by (g' := (mkF m 21 #[.val (.ref s0), .val (.ref d0), .val (.int ix), .val (.int 0)] [(.ref b), (.int ix), (.ref d0), (.int 0), (.ref b)])) st3 ?_
  obtain ⟨kk4, vs4, ⟨cl4, Ar4, q4, S4, P4, H4, G4⟩, hl4⟩ := id R_b
  refine own_by (g' := (mkF m 22 #[.val (.ref s0), .val (.ref d0), .val (.int ix), .val (.int 0)] [(.int n), (.int ix), (.ref d0), (.int 0), (.ref b)])) (fun _ kq => X3.arraylength hx (by rw [e3]; exact Ar4.1) (State.isArrayOf_alike hZ.alike Ar4.2.1) (g := (mkF m 21 #[.val (.ref s0), .val (.ref d0), .val (.int ix), .val (.int 0)] [(.ref b), (.int ix), (.ref d0), (.int 0), (.ref b)])) rfl rfl (hb hby own_d14_21) _ (by rw [len_of S4 P4]; exact kq)) ?_
  obtain ⟨ka5, va5, Aa5, la5⟩ := id R_b
  obtain ⟨kb5, vb5, Ab5, lb5⟩ := id R_d
  obtain ⟨T6, h6, L6, X6, e6, N6, Kc6, Ac6, st6⟩ := cpA X3 hx hZ hown (own_h hw 95 rfl) (own_h hw 98 rfl) (own_h hw 96 rfl) (own_h hw 97 rfl) e3 Aa5 Ab5 (Or.inl ⟨rfl, rfl⟩) (sp := (0 : Int32)) (dp := ix) (nn := n) (by decide) hi R_b.pos (by show 0 + _ ≤ _; omega) h5 rfl (by rw [lb5]; exact h5) N1 g_d (g := (mkF m 22 #[.val (.ref s0), .val (.ref d0), .val (.int ix), .val (.int 0)] [(.int n), (.int ix), (.ref d0), (.int 0), (.ref b)])) rfl (by rw [hml]; rfl) rfl (hb hby own_d14_22) (by decide) (W := 0) (by show 2 * 0 + _ ≤ _; exact Nat.le_of_eq rfl) (by decide)
  have R6 := own_By.of Ac6
  refine own_by (g' := (mkF m 25 #[.val (.ref s0), .val (.ref d0), .val (.int ix), .val (.int 0)] [])) st6 ?_
  refine own_g (mkF m 43 #[.val (.ref s0), .val (.ref d0), .val (.int ix), .val (.int 0)] []) (fun _ q => XS.goto X6.here hx rfl (pc0 := 25) (pc' := 43) rfl (hb hby own_d14_25) (by decide) (by decide) q) ?_
  have k7_ := ((Keep.refl h0 [d0]).trans Kc6 (allS (Or.inl (List.mem_of_getElem? (i := 0) rfl)) all0))
  exact own_end X6 (v := none) (fun _ => rfl) hlk (fun hr => X6.returnOut hx Bd.returns (hb hby own_d14_43) hr) (by rw [e6]; exact ⟨rfl, N6, k7_, R6⟩) (by decide) (by decide)
theorem own_d13_0 : decode jdk_68_method_71_code 0 = .ok (.getstatic 18, 3) := by decide +kernel
theorem own_d13_3 : decode jdk_68_method_71_code 3 = .ok (.ifCond .eq 18, 3) := by decide +kernel
theorem own_d13_6 : decode jdk_68_method_71_code 6 = .ok (.aload_n 0, 1) := by decide +kernel
theorem own_d13_7 : decode jdk_68_method_71_code 7 = .ok (.getfield 22, 3) := by decide +kernel
theorem own_d13_10 : decode jdk_68_method_71_code 10 = .ok (.aload_n 1, 1) := by decide +kernel
theorem own_d13_11 : decode jdk_68_method_71_code 11 = .ok (.invokevirtual 40, 3) := by decide +kernel
theorem own_d13_14 : decode jdk_68_method_71_code 14 = .ok (.if_icmp .eq 7, 3) := by decide +kernel
theorem own_d13_21 : decode jdk_68_method_71_code 21 = .ok (.return_, 1) := by decide +kernel
theorem own_inf_ef (m : MethodId) (sb : Addr) (s0 : Addr) : entryFrame m #[(.ref sb), (.ref s0)] 2 = mkF m 0 #[.val (.ref sb), .val (.ref s0)] [] := by  first | (simp [entryFrame, mkF, argsToLocals, Value.category]; done) | rfl
def own_inf_Q (Z : State) (sb : Addr) (s0 : Addr) (zCS : Int32) (dO : Addr) (dT : Addr) (ca : Addr) (cO : Cell) (cT : Cell) (cc : Cell) (h0 : Heap) (n0 : Nat) (v : Option Value) (h : Heap) (L : List Loc) : Prop := v = none ∧ Fr n0 L ∧ h = h0
theorem own_pn_java_lang_AbstractStringBuilder : plainName "java/lang/AbstractStringBuilder" = true := by first | (simp [plainName, overriddenIn]; done) | decide +kernel
set_option maxRecDepth 65536 in
set_option maxHeartbeats 40000000 in
theorem own_inf (l : Launch) (Z : State) (a0 : Array Value) (hw : ∀ d ∈ tables_1, d.before a0 Z = true) (ws : List Jvm.Cond) (sb : Addr) (s0 : Addr) (zCS : Int32) (dO : Addr) (dT : Addr) (ca : Addr) (cO : Cell) (cT : Cell) (cc : Cell) (h0 : Heap) (n0 : Nat) (Z0 : n0 ≤ h0.size) (Cq : own_C Z zCS dO dT ca cO cT cc) (O0 : Old Z n0 h0) (C_sb : Fld Z h0 sb "java/lang/AbstractStringBuilder" "coder" "B" (.int 0)) (E_s0 : Exa Z h0 s0 "java/lang/String") (C_s0 : Fld Z h0 s0 "java/lang/String" "coder" "B" (.int 0)) :
    MetFree l own_y8 (head1 (Jvm.Cond.code own_y8 jdk_68_method_71_code 2 none :: ws) (⟨1, 0, 0, 13⟩ : Room)) (fun aa U => aa = #[(.ref sb), (.ref s0)] ∧ Z.Warmed39 U.vm ∧ U.heap = h0) (fun _ _ _ _ _ => True) (fun _ U o U' => ∃ v L, o = .returned v ∧ own_inf_Q Z sb s0 zCS dO dT ca cO cT cc h0 n0 v U'.heap L ∧ FrameEnd U o U' L (⟨1, 0, 0, 13⟩ : Room).cells (⟨1, 0, 0, 13⟩ : Room).slots) := by
  refine MetFree.of_bodySF (plainFor_of_name own_pn_java_lang_AbstractStringBuilder) hisR ?_
  intro p e s m args below meth c s₁ Bd hml0 hP hK
  obtain ⟨rfl, hZ, hh⟩ := hP
  have hx := Bd.exec
  have hby := Bd.bytes
  have hml : c.maxLocals = 2 := hml0
  have hown : s.vm.findClass "java/lang/AbstractStringBuilder" = some m.cls := findClass_of_methodNamed Bd.named
  have hnm := (name_of_methodNamed Bd.named Bd.method).1
  have hlk := Bd.notSynchronized
  have X0 : Stand p l e (⟨1, 0, 0, 13⟩ : Room) s m #[(.ref sb), (.ref s0)] below meth c s₁ [] 0 0 := Stand.of_body Bd
  have e0 : s₁.heap = h0 := by rw [← hh, Bd.state]; rfl
  have N0 := Fr.nil n0
  refine own_start (Q := own_inf_Q Z sb s0 zCS dO dT ca cO cT cc h0 n0) (own_inf_ef m sb s0) ?_
  obtain ⟨T1, X1, e1, st1⟩ := getS2 X0 hx hZ hown (host := "") (Or.inl (own_h hw 36 rfl)) Via.refl e0 (Sta.ext O0.2 Cq.1) (g := (mkF m 0 #[.val (.ref sb), .val (.ref s0)] [])) rfl (hb hby own_d13_0)
  refine own_by (g' := (mkF m 3 #[.val (.ref sb), .val (.ref s0)] [(.int zCS)])) st1 ?_
  refine own_g (mkF m 7 #[.val (.ref sb), .val (.ref s0)] [(.ref sb)]) (fun _ q => XS.ifNo X1.here hx rfl (hb hby own_d13_3) rfl ((if0 _ _).trans (feq Cq.2.1).1) (XS.aloadN X1.here hx rfl (hb hby own_d13_6) rfl rfl q)) ?_
  obtain ⟨T2, X2, e2, st2⟩ := getF X1 hx hZ hown (host := "") (Or.inl (own_h hw 41 rfl)) Via.refl e1 C_sb (g := (mkF m 7 #[.val (.ref sb), .val (.ref s0)] [(.ref sb)])) rfl rfl (hb hby own_d13_7)
  refine own_by (g' := (mkF m 10 #[.val (.ref sb), .val (.ref s0)] [(.int 0)])) st2 ?_
  refine own_g (mkF m 11 #[.val (.ref sb), .val (.ref s0)] [(.ref s0), (.int 0)]) (fun _ q => XS.aloadN X2.here hx rfl (hb hby own_d13_10) rfl rfl q) ?_
  refine own_callV X2 hx hZ (y := own_y28) (z := own_y28) hown (own_h hw 89 rfl) (own_h hw 66 rfl) (own_nf (own_h hw 68 rfl)) (own_h hw 68 rfl) (own_h hw 67 rfl) (own_h hw 69 rfl) (own_h hw 37 rfl) (by decide) E_s0 (own_cod l Z a0 hw [] s0 zCS dO dT ca cO cT cc h0 n0 Z0 Cq O0 C_s0) (by decide) (by decide) e2 (g := (mkF m 11 #[.val (.ref sb), .val (.ref s0)] [(.ref s0), (.int 0)])) rfl (by rw [hml]; rfl) (argsL := []) (rest := [(.int 0)]) (lenOf own_pd__28_29B rfl) rfl (W := 1) (by show 2 * 0 + _ ≤ _; exact Nat.le_of_eq rfl) (hb hby own_d13_11) rfl (by decide) (by decide) ?_
  rintro rv3 T3 L3 X3 ⟨rfl, Nq3, eh3⟩
  have N3 := Fr.app N0 Nq3
  refine own_g (mkF m 21 #[.val (.ref sb), .val (.ref s0)] []) (fun _ q => XS.icmpYes X3.here hx rfl (pc0 := 14) (pc' := 21) rfl (hb hby own_d13_14) rfl (teq (by decide : (0 : Int32) = (0 : Int32))).1 (by decide) (by decide) q) ?_
  exact own_end X3 (v := none) (fun _ => rfl) hlk (fun hr => X3.returnOut hx Bd.returns (hb hby own_d13_21) hr) (by rw [eh3]; exact ⟨rfl, N3, rfl⟩) (by decide) (by decide)
theorem own_d12_0 : decode jdk_68_method_73_code 0 = .ok (.aload_n 0, 1) := by decide +kernel
theorem own_d12_1 : decode jdk_68_method_73_code 1 = .ok (.aload_n 2, 1) := by decide +kernel
theorem own_d12_2 : decode jdk_68_method_73_code 2 = .ok (.invokevirtual 397, 3) := by decide +kernel
theorem own_pd__28Ljava_2flang_2fString_3b_29V : parseMethodDescriptor "(Ljava/lang/String;)V" = some ⟨[(.object "java/lang/String")], none⟩ := by decide +kernel
theorem own_d12_5 : decode jdk_68_method_73_code 5 = .ok (.aload_n 2, 1) := by decide +kernel
theorem own_d12_6 : decode jdk_68_method_73_code 6 = .ok (.aload_n 0, 1) := by decide +kernel
theorem own_d12_7 : decode jdk_68_method_73_code 7 = .ok (.getfield 15, 3) := by decide +kernel
theorem own_d12_10 : decode jdk_68_method_73_code 10 = .ok (.iload_n 1, 1) := by decide +kernel
theorem own_d12_11 : decode jdk_68_method_73_code 11 = .ok (.aload_n 0, 1) := by decide +kernel
theorem own_d12_12 : decode jdk_68_method_73_code 12 = .ok (.getfield 22, 3) := by decide +kernel
theorem own_d12_15 : decode jdk_68_method_73_code 15 = .ok (.invokevirtual 399, 3) := by decide +kernel
theorem own_pd__28_5bBIB_29V : parseMethodDescriptor "([BIB)V" = some ⟨[(.array .byte), .int, .byte], none⟩ := by decide +kernel
theorem own_d12_18 : decode jdk_68_method_73_code 18 = .ok (.return_, 1) := by decide +kernel
theorem own_ps_ef (m : MethodId) (sb : Addr) (ix : Int32) (s0 : Addr) : entryFrame m #[(.ref sb), (.int ix), (.ref s0)] 3 = mkF m 0 #[.val (.ref sb), .val (.int ix), .val (.ref s0)] [] := by  first | (simp [entryFrame, mkF, argsToLocals, Value.category]; done) | rfl
def own_ps_Q (Z : State) (sb : Addr) (ix : Int32) (s0 : Addr) (bv : Addr) (b : Addr) (n : Int32) (z : Int32) (cn : Int32) (zCS : Int32) (dO : Addr) (dT : Addr) (ca : Addr) (cO : Cell) (cT : Cell) (cc : Cell) (h0 : Heap) (n0 : Nat) (v : Option Value) (h : Heap) (L : List Loc) : Prop := v = none ∧ Fr n0 L ∧ Keep h0 h [bv] ∧ own_By Z h bv z
set_option maxRecDepth 65536 in
set_option maxHeartbeats 40000000 in
theorem own_ps (l : Launch) (Z : State) (a0 : Array Value) (hw : ∀ d ∈ tables_1, d.before a0 Z = true) (ws : List Jvm.Cond) (sb : Addr) (ix : Int32) (s0 : Addr) (bv : Addr) (b : Addr) (n : Int32) (z : Int32) (cn : Int32) (zCS : Int32) (dO : Addr) (dT : Addr) (ca : Addr) (cO : Cell) (cT : Cell) (cc : Cell) (h0 : Heap) (n0 : Nat) (Z0 : n0 ≤ h0.size) (Cq : own_C Z zCS dO dT ca cO cT cc) (O0 : Old Z n0 h0) (E_sb : Exa Z h0 sb "java/lang/StringBuilder") (V_sb : Fld Z h0 sb "java/lang/AbstractStringBuilder" "value" "[B" (.ref bv)) (C_sb : Fld Z h0 sb "java/lang/AbstractStringBuilder" "coder" "B" (.int 0)) (N_sb : Fld Z h0 sb "java/lang/AbstractStringBuilder" "count" "I" (.int cn)) (E_s0 : Exa Z h0 s0 "java/lang/String") (V_s0 : Fld Z h0 s0 "java/lang/String" "value" "[B" (.ref b)) (C_s0 : Fld Z h0 s0 "java/lang/String" "coder" "B" (.int 0)) (R_b : own_By Z h0 b n) (R_v : own_By Z h0 bv z) (g_v : n0 ≤ bv) (hi : ¬ ix < 0) (h5 : ix.toNatClampNeg + n.toNatClampNeg ≤ z.toNatClampNeg) :
    MetFree l own_y12 (head1 (Jvm.Cond.code own_y12 jdk_68_method_73_code 3 none :: ws) (⟨2, 0, 0, 33⟩ : Room)) (fun aa U => aa = #[(.ref sb), (.int ix), (.ref s0)] ∧ Z.Warmed39 U.vm ∧ U.heap = h0) (fun _ _ _ _ _ => True) (fun _ U o U' => ∃ v L, o = .returned v ∧ own_ps_Q Z sb ix s0 bv b n z cn zCS dO dT ca cO cT cc h0 n0 v U'.heap L ∧ FrameEnd U o U' L (⟨2, 0, 0, 33⟩ : Room).cells (⟨2, 0, 0, 33⟩ : Room).slots) := by
  refine MetFree.of_bodySF (plainFor_of_name own_pn_java_lang_AbstractStringBuilder) hisR ?_
  intro p e s m args below meth c s₁ Bd hml0 hP hK
  obtain ⟨rfl, hZ, hh⟩ := hP
  have hx := Bd.exec
  have hby := Bd.bytes
  have hml : c.maxLocals = 3 := hml0
  have hown : s.vm.findClass "java/lang/AbstractStringBuilder" = some m.cls := findClass_of_methodNamed Bd.named
  have hnm := (name_of_methodNamed Bd.named Bd.method).1
  have hlk := Bd.notSynchronized
  have X0 : Stand p l e (⟨2, 0, 0, 33⟩ : Room) s m #[(.ref sb), (.int ix), (.ref s0)] below meth c s₁ [] 0 0 := Stand.of_body Bd
  have e0 : s₁.heap = h0 := by rw [← hh, Bd.state]; rfl
  have N0 := Fr.nil n0
  refine own_start (Q := own_ps_Q Z sb ix s0 bv b n z cn zCS dO dT ca cO cT cc h0 n0) (own_ps_ef m sb ix s0) ?_
  refine own_g (mkF m 2 #[.val (.ref sb), .val (.int ix), .val (.ref s0)] [(.ref s0), (.ref sb)]) (fun _ q => XS.aloadN X0.here hx rfl (hb hby own_d12_0) rfl rfl (XS.aloadN X0.here hx rfl (hb hby own_d12_1) rfl rfl q)) ?_
  refine own_callV X0 hx hZ (y := own_y8) (z := own_y8) hown (own_h hw 84 rfl) (own_decl (own_h hw 85 rfl) (own_h hw 88 rfl)) (own_nf (own_h hw 87 rfl)) (own_h hw 87 rfl) (own_h hw 85 rfl) (own_h hw 88 rfl) (own_h hw 33 rfl) (by decide) E_sb (own_inf l Z a0 hw [] sb s0 zCS dO dT ca cO cT cc h0 n0 (Nat.le_trans Z0 (Keep.refl h0 [bv]).1) Cq O0 C_sb E_s0 C_s0) (by decide) (by decide) e0 (g := (mkF m 2 #[.val (.ref sb), .val (.int ix), .val (.ref s0)] [(.ref s0), (.ref sb)])) rfl (by rw [hml]; rfl) (argsL := [(.ref s0)]) (rest := []) (lenOf own_pd__28Ljava_2flang_2fString_3b_29V rfl) rfl (W := 0) (by show 2 * 0 + _ ≤ _; exact Nat.le_of_eq rfl) (hb hby own_d12_2) rfl (by decide) (by decide) ?_
  rintro rv1 T1 L1 X1 ⟨rfl, Nq1, eh1⟩
  have N1 := Fr.app N0 Nq1
  refine own_g (mkF m 7 #[.val (.ref sb), .val (.int ix), .val (.ref s0)] [(.ref sb), (.ref s0)]) (fun _ q => XS.aloadN X1.here hx rfl (hb hby own_d12_5) rfl rfl (XS.aloadN X1.here hx rfl (hb hby own_d12_6) rfl rfl q)) ?_
  obtain ⟨T2, X2, e2, st2⟩ := getF X1 hx hZ hown (host := "") (Or.inl (own_h hw 39 rfl)) Via.refl eh1 V_sb (g := (mkF m 7 #[.val (.ref sb), .val (.int ix), .val (.ref s0)] [(.ref sb), (.ref s0)])) rfl rfl (hb hby own_d12_7)
  refine own_by (g' := (mkF m 10 #[.val (.ref sb), .val (.int ix), .val (.ref s0)] [(.ref bv), (.ref s0)])) st2 ?_
  refine own_g (mkF m 12 #[.val (.ref sb), .val (.int ix), .val (.ref s0)] [(.ref sb), (.int ix), (.ref bv), (.ref s0)]) (fun _ q => XS.iloadN X2.here hx rfl (hb hby own_d12_10) rfl (XS.aloadN X2.here hx rfl (hb hby own_d12_11) rfl rfl q)) ?_
  obtain ⟨T3, X3, e3, st3⟩ := getF X2 hx hZ hown (host := "") (Or.inl (own_h hw 41 rfl)) Via.refl e2 C_sb (g := (mkF m 12 #[.val (.ref sb), .val (.int ix), .val (.ref s0)] [(.ref sb), (.int ix), (.ref bv), (.ref s0)])) rfl rfl (hb hby own_d12_12)
  refine own_by (g' := (mkF m 15 #[.val (.ref sb), .val (.int ix), .val (.ref s0)] [(.int 0), (.int ix), (.ref bv), (.ref s0)])) st3 ?_
  refine own_callV X3 hx hZ (y := own_y29) (z := own_y29) hown (own_h hw 90 rfl) (own_h hw 91 rfl) (own_nf (own_h hw 93 rfl)) (own_h hw 93 rfl) (own_h hw 92 rfl) (own_h hw 94 rfl) (own_h hw 37 rfl) (by decide) E_s0 (own_gb l Z a0 hw [] s0 bv ix b n z zCS dO dT ca cO cT cc h0 n0 (Nat.le_trans Z0 (Keep.refl h0 [bv]).1) Cq O0 E_s0 V_s0 C_s0 R_b R_v g_v hi h5) (by decide) (by decide) e3 (g := (mkF m 15 #[.val (.ref sb), .val (.int ix), .val (.ref s0)] [(.int 0), (.int ix), (.ref bv), (.ref s0)])) rfl (by rw [hml]; rfl) (argsL := [(.ref bv), (.int ix), (.int 0)]) (rest := []) (lenOf own_pd__28_5bBIB_29V rfl) rfl (W := 0) (by show 2 * 0 + _ ≤ _; exact Nat.le_of_eq rfl) (hb hby own_d12_15) rfl (by decide) (by decide) ?_
  rintro rv4 T4 L4 X4 ⟨rfl, Nq4, Kq4, Rq4⟩
  have N4 := Fr.app N1 Nq4
  show own_Fin p e below _ T4 (mkF m 18 #[.val (.ref sb), .val (.int ix), .val (.ref s0)] [])
  have k5_ := ((Keep.refl h0 [bv]).trans Kq4 (allS (Or.inl (List.mem_of_getElem? (i := 0) rfl)) all0))
  exact own_end X4 (v := none) (fun _ => rfl) hlk (fun hr => X4.returnOut hx Bd.returns (hb hby own_d12_18) hr) (⟨rfl, N4, k5_, Rq4⟩) (by decide) (by decide)
theorem own_d11_0 : decode jdk_68_method_9_code 0 = .ok (.aload_n 0, 1) := by decide +kernel
theorem own_d11_1 : decode jdk_68_method_9_code 1 = .ok (.getfield 15, 3) := by decide +kernel
theorem own_d11_4 : decode jdk_68_method_9_code 4 = .ok (.arraylength, 1) := by decide +kernel
theorem own_d11_5 : decode jdk_68_method_9_code 5 = .ok (.aload_n 0, 1) := by decide +kernel
theorem own_d11_6 : decode jdk_68_method_9_code 6 = .ok (.getfield 22, 3) := by decide +kernel
theorem own_d11_9 : decode jdk_68_method_9_code 9 = .ok (.ishr, 1) := by decide +kernel
theorem own_d11_10 : decode jdk_68_method_9_code 10 = .ok (.istore_n 2, 1) := by decide +kernel
theorem own_d11_11 : decode jdk_68_method_9_code 11 = .ok (.iload_n 1, 1) := by decide +kernel
theorem own_d11_12 : decode jdk_68_method_9_code 12 = .ok (.iload_n 2, 1) := by decide +kernel
theorem own_d11_13 : decode jdk_68_method_9_code 13 = .ok (.isub, 1) := by decide +kernel
theorem own_d11_14 : decode jdk_68_method_9_code 14 = .ok (.ifCond .le 24, 3) := by decide +kernel
theorem own_d11_38 : decode jdk_68_method_9_code 38 = .ok (.return_, 1) := by decide +kernel
theorem own_ecN_ef (m : MethodId) (sb : Addr) (mc : Int32) : entryFrame m #[(.ref sb), (.int mc)] 3 = mkF m 0 #[.val (.ref sb), .val (.int mc), .unset] [] := by  first | (simp [entryFrame, mkF, argsToLocals, Value.category]; done) | rfl
def own_ecN_Q (Z : State) (sb : Addr) (mc : Int32) (bv : Addr) (z : Int32) (cn : Int32) (zCS : Int32) (dO : Addr) (dT : Addr) (ca : Addr) (cO : Cell) (cT : Cell) (cc : Cell) (h0 : Heap) (n0 : Nat) (v : Option Value) (h : Heap) (L : List Loc) : Prop := v = none ∧ Fr n0 L ∧ h = h0
set_option maxRecDepth 65536 in
set_option maxHeartbeats 40000000 in
theorem own_ecN (l : Launch) (Z : State) (a0 : Array Value) (hw : ∀ d ∈ tables_1, d.before a0 Z = true) (ws : List Jvm.Cond) (sb : Addr) (mc : Int32) (bv : Addr) (z : Int32) (cn : Int32) (zCS : Int32) (dO : Addr) (dT : Addr) (ca : Addr) (cO : Cell) (cT : Cell) (cc : Cell) (h0 : Heap) (n0 : Nat) (Z0 : n0 ≤ h0.size) (Cq : own_C Z zCS dO dT ca cO cT cc) (O0 : Old Z n0 h0) (E_sb : Exa Z h0 sb "java/lang/StringBuilder") (V_sb : Fld Z h0 sb "java/lang/AbstractStringBuilder" "value" "[B" (.ref bv)) (C_sb : Fld Z h0 sb "java/lang/AbstractStringBuilder" "coder" "B" (.int 0)) (N_sb : Fld Z h0 sb "java/lang/AbstractStringBuilder" "count" "I" (.int cn)) (R_v : own_By Z h0 bv z) (hng : ¬ (0 : Int32) < (mc - z)) :
    MetFree l own_y6 (head1 (Jvm.Cond.code own_y6 jdk_68_method_9_code 3 none :: ws) (⟨0, 0, 0, 0⟩ : Room)) (fun aa U => aa = #[(.ref sb), (.int mc)] ∧ Z.Warmed39 U.vm ∧ U.heap = h0) (fun _ _ _ _ _ => True) (fun _ U o U' => ∃ v L, o = .returned v ∧ own_ecN_Q Z sb mc bv z cn zCS dO dT ca cO cT cc h0 n0 v U'.heap L ∧ FrameEnd U o U' L (⟨0, 0, 0, 0⟩ : Room).cells (⟨0, 0, 0, 0⟩ : Room).slots) := by
  refine MetFree.of_bodySF (plainFor_of_name own_pn_java_lang_AbstractStringBuilder) hisR ?_
  intro p e s m args below meth c s₁ Bd hml0 hP hK
  obtain ⟨rfl, hZ, hh⟩ := hP
  have hx := Bd.exec
  have hby := Bd.bytes
  have hml : c.maxLocals = 3 := hml0
  have hown : s.vm.findClass "java/lang/AbstractStringBuilder" = some m.cls := findClass_of_methodNamed Bd.named
  have hnm := (name_of_methodNamed Bd.named Bd.method).1
  have hlk := Bd.notSynchronized
  have X0 : Stand p l e (⟨0, 0, 0, 0⟩ : Room) s m #[(.ref sb), (.int mc)] below meth c s₁ [] 0 0 := Stand.of_body Bd
  have e0 : s₁.heap = h0 := by rw [← hh, Bd.state]; rfl
  have N0 := Fr.nil n0
  refine own_start (Q := own_ecN_Q Z sb mc bv z cn zCS dO dT ca cO cT cc h0 n0) (own_ecN_ef m sb mc) ?_
  refine own_g (mkF m 1 #[.val (.ref sb), .val (.int mc), .unset] [(.ref sb)]) (fun _ q => XS.aloadN X0.here hx rfl (hb hby own_d11_0) rfl rfl q) ?_
  obtain ⟨T1, X1, e1, st1⟩ := getF X0 hx hZ hown (host := "") (Or.inl (own_h hw 39 rfl)) Via.refl e0 V_sb (g := (mkF m 1 #[.val (.ref sb), .val (.int mc), .unset] [(.ref sb)])) rfl rfl (hb hby own_d11_1)
  refine own_by (g' := (mkF m 4 #[.val (.ref sb), .val (.int mc), .unset] [(.ref bv)])) st1 ?_
  obtain ⟨kk2, vs2, ⟨cl2, Ar2, q2, S2, P2, H2, G2⟩, hl2⟩ := id R_v
  refine own_by (g' := (mkF m 5 #[.val (.ref sb), .val (.int mc), .unset] [(.int z)])) (fun _ kq => X1.arraylength hx (by rw [e1]; exact Ar2.1) (State.isArrayOf_alike hZ.alike Ar2.2.1) (g := (mkF m 4 #[.val (.ref sb), .val (.int mc), .unset] [(.ref bv)])) rfl rfl (hb hby own_d11_4) _ (by rw [len_of S2 P2]; exact kq)) ?_
  refine own_g (mkF m 6 #[.val (.ref sb), .val (.int mc), .unset] [(.ref sb), (.int z)]) (fun _ q => XS.aloadN X1.here hx rfl (hb hby own_d11_5) rfl rfl q) ?_
  obtain ⟨T3, X3, e3, st3⟩ := getF X1 hx hZ hown (host := "") (Or.inl (own_h hw 41 rfl)) Via.refl e1 C_sb (g := (mkF m 6 #[.val (.ref sb), .val (.int mc), .unset] [(.ref sb), (.int z)])) rfl rfl (hb hby own_d11_6)
  refine own_by (g' := (mkF m 9 #[.val (.ref sb), .val (.int mc), .unset] [(.int 0), (.int z)])) st3 ?_
  refine own_g (mkF m 10 #[.val (.ref sb), .val (.int mc), .unset] [(.int (z >>> ((0 : Int32) &&& 31)))]) (fun _ q => XS.ishr X3.here hx rfl (hb hby own_d11_9) rfl q) ?_
  rw [own_shr0]
  refine own_g (mkF m 38 #[.val (.ref sb), .val (.int mc), .val (.int z)] []) (fun _ q => XS.istoreN X3.here hx rfl (hb hby own_d11_10) rfl (l' := #[.val (.ref sb), .val (.int mc), .val (.int z)]) rfl (XS.iloadN X3.here hx rfl (hb hby own_d11_11) rfl (XS.iloadN X3.here hx rfl (hb hby own_d11_12) rfl (XS.isub X3.here hx rfl (hb hby own_d11_13) rfl (XS.ifYes X3.here hx rfl (pc0 := 14) (pc' := 38) rfl (hb hby own_d11_14) rfl ((if0 _ _).trans (flt hng).2.2.2) (by decide) (by decide) q))))) ?_
  exact own_end X3 (v := none) (fun _ => rfl) hlk (fun hr => X3.returnOut hx Bd.returns (hb hby own_d11_38) hr) (by rw [e3]; exact ⟨rfl, N0, rfl⟩) (by decide) (by decide)
theorem own_d24_0 : decode jdk_29_method_65_code 0 = .ok (.iload_n 0, 1) := by decide +kernel
theorem own_d24_1 : decode jdk_29_method_65_code 1 = .ok (.iload_n 1, 1) := by decide +kernel
theorem own_d24_2 : decode jdk_29_method_65_code 2 = .ok (.if_icmp .lt 7, 3) := by decide +kernel
theorem own_d24_9 : decode jdk_29_method_65_code 9 = .ok (.iload_n 1, 1) := by decide +kernel
theorem own_d24_10 : decode jdk_29_method_65_code 10 = .ok (.ireturn, 1) := by decide +kernel
theorem own_mx_ef (m : MethodId) (a : Int32) (b : Int32) : entryFrame m #[(.int a), (.int b)] 2 = mkF m 0 #[.val (.int a), .val (.int b)] [] := by  first | (simp [entryFrame, mkF, argsToLocals, Value.category]; done) | rfl
def own_mx_Q (Z : State) (a : Int32) (b : Int32) (zCS : Int32) (dO : Addr) (dT : Addr) (ca : Addr) (cO : Cell) (cT : Cell) (cc : Cell) (h0 : Heap) (n0 : Nat) (v : Option Value) (h : Heap) (L : List Loc) : Prop := v = some (.int b) ∧ Fr n0 L ∧ h = h0
set_option maxRecDepth 65536 in
set_option maxHeartbeats 40000000 in
theorem own_mx (l : Launch) (Z : State) (a0 : Array Value) (hw : ∀ d ∈ tables_1, d.before a0 Z = true) (ws : List Jvm.Cond) (a : Int32) (b : Int32) (zCS : Int32) (dO : Addr) (dT : Addr) (ca : Addr) (cO : Cell) (cT : Cell) (cc : Cell) (h0 : Heap) (n0 : Nat) (Z0 : n0 ≤ h0.size) (Cq : own_C Z zCS dO dT ca cO cT cc) (O0 : Old Z n0 h0) (hq : a < b) :
    MetFree l (⟨"java/lang/Math", "max", "(II)I"⟩ : MethodName) (head1 (Jvm.Cond.code (⟨"java/lang/Math", "max", "(II)I"⟩ : MethodName) jdk_29_method_65_code 2 (some .int) :: ws) (⟨0, 0, 0, 0⟩ : Room)) (fun aa U => aa = #[(.int a), (.int b)] ∧ Z.Warmed39 U.vm ∧ U.heap = h0) (fun _ _ _ _ _ => True) (fun _ U o U' => ∃ v L, o = .returned v ∧ own_mx_Q Z a b zCS dO dT ca cO cT cc h0 n0 v U'.heap L ∧ FrameEnd U o U' L (⟨0, 0, 0, 0⟩ : Room).cells (⟨0, 0, 0, 0⟩ : Room).slots) := by
  refine MetFree.of_bodySF (Jvm.Free.JP.mathPlain rfl (by decide +kernel)) hisR ?_
  intro p e s m args below meth c s₁ Bd hml0 hP hK
  obtain ⟨rfl, hZ, hh⟩ := hP
  have hx := Bd.exec
  have hby := Bd.bytes
  have hml : c.maxLocals = 2 := hml0
  have hown : s.vm.findClass "java/lang/Math" = some m.cls := findClass_of_methodNamed Bd.named
  have hnm := (name_of_methodNamed Bd.named Bd.method).1
  have hlk := Bd.notSynchronized
  have X0 : Stand p l e (⟨0, 0, 0, 0⟩ : Room) s m #[(.int a), (.int b)] below meth c s₁ [] 0 0 := Stand.of_body Bd
  have e0 : s₁.heap = h0 := by rw [← hh, Bd.state]; rfl
  have N0 := Fr.nil n0
  refine own_start (Q := own_mx_Q Z a b zCS dO dT ca cO cT cc h0 n0) (own_mx_ef m a b) ?_
  refine own_g (mkF m 10 #[.val (.int a), .val (.int b)] [(.int b)]) (fun _ q => XS.iloadN X0.here hx rfl (hb hby own_d24_0) rfl (XS.iloadN X0.here hx rfl (hb hby own_d24_1) rfl (XS.icmpYes X0.here hx rfl (pc0 := 2) (pc' := 9) rfl (hb hby own_d24_2) rfl (tlt hq).1 (by decide) (by decide) (XS.iloadN X0.here hx rfl (hb hby own_d24_9) rfl q)))) ?_
  exact own_end X0 (v := some (.int b)) (fun h => by rw [Bd.returns] at h; cases h) hlk (fun hr => retOut X0 hx Bd.returns rfl (Or.inl ⟨rfl, Or.inl rfl, _, rfl⟩) (hb hby own_d24_10) hr) (by rw [e0]; exact ⟨rfl, N0, rfl⟩) (by decide) (by decide)
theorem own_d26_0 : decode jdk_29_method_69_code 0 = .ok (.iload_n 0, 1) := by decide +kernel
theorem own_d26_1 : decode jdk_29_method_69_code 1 = .ok (.iload_n 1, 1) := by decide +kernel
theorem own_d26_2 : decode jdk_29_method_69_code 2 = .ok (.if_icmp .gt 7, 3) := by decide +kernel
theorem own_d26_5 : decode jdk_29_method_69_code 5 = .ok (.iload_n 0, 1) := by decide +kernel
theorem own_d26_6 : decode jdk_29_method_69_code 6 = .ok (.goto 4, 3) := by decide +kernel
theorem own_d26_10 : decode jdk_29_method_69_code 10 = .ok (.ireturn, 1) := by decide +kernel
theorem own_mnA_ef (m : MethodId) (a : Int32) (b : Int32) : entryFrame m #[(.int a), (.int b)] 2 = mkF m 0 #[.val (.int a), .val (.int b)] [] := by  first | (simp [entryFrame, mkF, argsToLocals, Value.category]; done) | rfl
def own_mnA_Q (Z : State) (a : Int32) (b : Int32) (zCS : Int32) (dO : Addr) (dT : Addr) (ca : Addr) (cO : Cell) (cT : Cell) (cc : Cell) (h0 : Heap) (n0 : Nat) (v : Option Value) (h : Heap) (L : List Loc) : Prop := v = some (.int a) ∧ Fr n0 L ∧ h = h0
set_option maxRecDepth 65536 in
set_option maxHeartbeats 40000000 in
theorem own_mnA (l : Launch) (Z : State) (a0 : Array Value) (hw : ∀ d ∈ tables_1, d.before a0 Z = true) (ws : List Jvm.Cond) (a : Int32) (b : Int32) (zCS : Int32) (dO : Addr) (dT : Addr) (ca : Addr) (cO : Cell) (cT : Cell) (cc : Cell) (h0 : Heap) (n0 : Nat) (Z0 : n0 ≤ h0.size) (Cq : own_C Z zCS dO dT ca cO cT cc) (O0 : Old Z n0 h0) (hq : ¬ b < a) :
    MetFree l own_y21 (head1 (Jvm.Cond.code own_y21 jdk_29_method_69_code 2 (some .int) :: ws) (⟨0, 0, 0, 0⟩ : Room)) (fun aa U => aa = #[(.int a), (.int b)] ∧ Z.Warmed39 U.vm ∧ U.heap = h0) (fun _ _ _ _ _ => True) (fun _ U o U' => ∃ v L, o = .returned v ∧ own_mnA_Q Z a b zCS dO dT ca cO cT cc h0 n0 v U'.heap L ∧ FrameEnd U o U' L (⟨0, 0, 0, 0⟩ : Room).cells (⟨0, 0, 0, 0⟩ : Room).slots) := by
  refine MetFree.of_bodySF (Jvm.Free.JP.mathPlain rfl (by decide +kernel)) hisR ?_
  intro p e s m args below meth c s₁ Bd hml0 hP hK
  obtain ⟨rfl, hZ, hh⟩ := hP
  have hx := Bd.exec
  have hby := Bd.bytes
  have hml : c.maxLocals = 2 := hml0
  have hown : s.vm.findClass "java/lang/Math" = some m.cls := findClass_of_methodNamed Bd.named
  have hnm := (name_of_methodNamed Bd.named Bd.method).1
  have hlk := Bd.notSynchronized
  have X0 : Stand p l e (⟨0, 0, 0, 0⟩ : Room) s m #[(.int a), (.int b)] below meth c s₁ [] 0 0 := Stand.of_body Bd
  have e0 : s₁.heap = h0 := by rw [← hh, Bd.state]; rfl
  have N0 := Fr.nil n0
  refine own_start (Q := own_mnA_Q Z a b zCS dO dT ca cO cT cc h0 n0) (own_mnA_ef m a b) ?_
  refine own_g (mkF m 10 #[.val (.int a), .val (.int b)] [(.int a)]) (fun _ q => XS.iloadN X0.here hx rfl (hb hby own_d26_0) rfl (XS.iloadN X0.here hx rfl (hb hby own_d26_1) rfl (XS.icmpNo X0.here hx rfl (hb hby own_d26_2) rfl (flt hq).2.2.1 (XS.iloadN X0.here hx rfl (hb hby own_d26_5) rfl (XS.goto X0.here hx rfl (pc0 := 6) (pc' := 10) rfl (hb hby own_d26_6) (by decide) (by decide) q))))) ?_
  exact own_end X0 (v := some (.int a)) (fun h => by rw [Bd.returns] at h; cases h) hlk (fun hr => retOut X0 hx Bd.returns rfl (Or.inl ⟨rfl, Or.inl rfl, _, rfl⟩) (hb hby own_d26_10) hr) (by rw [e0]; exact ⟨rfl, N0, rfl⟩) (by decide) (by decide)
theorem own_d26_9 : decode jdk_29_method_69_code 9 = .ok (.iload_n 1, 1) := by decide +kernel
theorem own_mnB_ef (m : MethodId) (a : Int32) (b : Int32) : entryFrame m #[(.int a), (.int b)] 2 = mkF m 0 #[.val (.int a), .val (.int b)] [] := by  first | (simp [entryFrame, mkF, argsToLocals, Value.category]; done) | rfl
def own_mnB_Q (Z : State) (a : Int32) (b : Int32) (zCS : Int32) (dO : Addr) (dT : Addr) (ca : Addr) (cO : Cell) (cT : Cell) (cc : Cell) (h0 : Heap) (n0 : Nat) (v : Option Value) (h : Heap) (L : List Loc) : Prop := v = some (.int b) ∧ Fr n0 L ∧ h = h0
set_option maxRecDepth 65536 in
set_option maxHeartbeats 40000000 in
theorem own_mnB (l : Launch) (Z : State) (a0 : Array Value) (hw : ∀ d ∈ tables_1, d.before a0 Z = true) (ws : List Jvm.Cond) (a : Int32) (b : Int32) (zCS : Int32) (dO : Addr) (dT : Addr) (ca : Addr) (cO : Cell) (cT : Cell) (cc : Cell) (h0 : Heap) (n0 : Nat) (Z0 : n0 ≤ h0.size) (Cq : own_C Z zCS dO dT ca cO cT cc) (O0 : Old Z n0 h0) (hq : b < a) :
    MetFree l own_y21 (head1 (Jvm.Cond.code own_y21 jdk_29_method_69_code 2 (some .int) :: ws) (⟨0, 0, 0, 0⟩ : Room)) (fun aa U => aa = #[(.int a), (.int b)] ∧ Z.Warmed39 U.vm ∧ U.heap = h0) (fun _ _ _ _ _ => True) (fun _ U o U' => ∃ v L, o = .returned v ∧ own_mnB_Q Z a b zCS dO dT ca cO cT cc h0 n0 v U'.heap L ∧ FrameEnd U o U' L (⟨0, 0, 0, 0⟩ : Room).cells (⟨0, 0, 0, 0⟩ : Room).slots) := by
  refine MetFree.of_bodySF (Jvm.Free.JP.mathPlain rfl (by decide +kernel)) hisR ?_
  intro p e s m args below meth c s₁ Bd hml0 hP hK
  obtain ⟨rfl, hZ, hh⟩ := hP
  have hx := Bd.exec
  have hby := Bd.bytes
  have hml : c.maxLocals = 2 := hml0
  have hown : s.vm.findClass "java/lang/Math" = some m.cls := findClass_of_methodNamed Bd.named
  have hnm := (name_of_methodNamed Bd.named Bd.method).1
  have hlk := Bd.notSynchronized
  have X0 : Stand p l e (⟨0, 0, 0, 0⟩ : Room) s m #[(.int a), (.int b)] below meth c s₁ [] 0 0 := Stand.of_body Bd
  have e0 : s₁.heap = h0 := by rw [← hh, Bd.state]; rfl
  have N0 := Fr.nil n0
  refine own_start (Q := own_mnB_Q Z a b zCS dO dT ca cO cT cc h0 n0) (own_mnB_ef m a b) ?_
  refine own_g (mkF m 10 #[.val (.int a), .val (.int b)] [(.int b)]) (fun _ q => XS.iloadN X0.here hx rfl (hb hby own_d26_0) rfl (XS.iloadN X0.here hx rfl (hb hby own_d26_1) rfl (XS.icmpYes X0.here hx rfl (pc0 := 2) (pc' := 9) rfl (hb hby own_d26_2) rfl (tlt hq).2.2.1 (by decide) (by decide) (XS.iloadN X0.here hx rfl (hb hby own_d26_9) rfl q)))) ?_
  exact own_end X0 (v := some (.int b)) (fun h => by rw [Bd.returns] at h; cases h) hlk (fun hr => retOut X0 hx Bd.returns rfl (Or.inl ⟨rfl, Or.inl rfl, _, rfl⟩) (hb hby own_d26_10) hr) (by rw [e0]; exact ⟨rfl, N0, rfl⟩) (by decide) (by decide)
theorem own_d23_0 : decode jdk_48_method_27_code 0 = .ok (.iload_n 0, 1) := by decide +kernel
theorem own_d23_1 : decode jdk_48_method_27_code 1 = .ok (.iload_n 1, 1) := by decide +kernel
theorem own_d23_2 : decode jdk_48_method_27_code 2 = .ok (.iload_n 2, 1) := by decide +kernel
theorem own_d23_3 : decode jdk_48_method_27_code 3 = .ok (.invokestatic 194, 3) := by decide +kernel
theorem own_pd__28II_29I : parseMethodDescriptor "(II)I" = some ⟨[.int, .int], some .int⟩ := by decide +kernel
theorem own_d23_6 : decode jdk_48_method_27_code 6 = .ok (.iadd, 1) := by decide +kernel
theorem own_d23_7 : decode jdk_48_method_27_code 7 = .ok (.istore_n 3, 1) := by decide +kernel
theorem own_d23_8 : decode jdk_48_method_27_code 8 = .ok (.iconst 0, 1) := by decide +kernel
theorem own_d23_9 : decode jdk_48_method_27_code 9 = .ok (.iload_n 3, 1) := by decide +kernel
theorem own_d23_10 : decode jdk_48_method_27_code 10 = .ok (.if_icmp .ge 11, 3) := by decide +kernel
theorem own_d23_13 : decode jdk_48_method_27_code 13 = .ok (.iload_n 3, 1) := by decide +kernel
theorem own_d23_14 : decode jdk_48_method_27_code 14 = .ok (.ldc 200, 2) := by decide +kernel
theorem own_d23_16 : decode jdk_48_method_27_code 16 = .ok (.if_icmp .gt 5, 3) := by decide +kernel
theorem own_d23_19 : decode jdk_48_method_27_code 19 = .ok (.iload_n 3, 1) := by decide +kernel
theorem own_d23_20 : decode jdk_48_method_27_code 20 = .ok (.ireturn, 1) := by decide +kernel
theorem own_nl2_ef (m : MethodId) (gr : Int32) : entryFrame m #[(.int 16), (.int gr), (.int 18)] 4 = mkF m 0 #[.val (.int 16), .val (.int gr), .val (.int 18), .unset] [] := by  first | (simp [entryFrame, mkF, argsToLocals, Value.category]; done) | rfl
def own_nl2_Q (Z : State) (gr : Int32) (zCS : Int32) (dO : Addr) (dT : Addr) (ca : Addr) (cO : Cell) (cT : Cell) (cc : Cell) (h0 : Heap) (n0 : Nat) (v : Option Value) (h : Heap) (L : List Loc) : Prop := v = some (.int 34) ∧ Fr n0 L ∧ h = h0
theorem own_pn_jdk_internal_util_ArraysSupport : plainName "jdk/internal/util/ArraysSupport" = true := by first | (simp [plainName, overriddenIn]; done) | decide +kernel
set_option maxRecDepth 65536 in
set_option maxHeartbeats 40000000 in
theorem own_nl2 (l : Launch) (Z : State) (a0 : Array Value) (hw : ∀ d ∈ tables_1, d.before a0 Z = true) (ws : List Jvm.Cond) (gr : Int32) (zCS : Int32) (dO : Addr) (dT : Addr) (ca : Addr) (cO : Cell) (cT : Cell) (cc : Cell) (h0 : Heap) (n0 : Nat) (Z0 : n0 ≤ h0.size) (Cq : own_C Z zCS dO dT ca cO cT cc) (O0 : Old Z n0 h0) (hg : gr < (18 : Int32)) :
    MetFree l (⟨"jdk/internal/util/ArraysSupport", "newLength", "(III)I"⟩ : MethodName) (head1 (Jvm.Cond.code (⟨"jdk/internal/util/ArraysSupport", "newLength", "(III)I"⟩ : MethodName) jdk_48_method_27_code 4 (some .int) :: ws) (⟨1, 0, 0, 14⟩ : Room)) (fun aa U => aa = #[(.int 16), (.int gr), (.int 18)] ∧ Z.Warmed39 U.vm ∧ U.heap = h0) (fun _ _ _ _ _ => True) (fun _ U o U' => ∃ v L, o = .returned v ∧ own_nl2_Q Z gr zCS dO dT ca cO cT cc h0 n0 v U'.heap L ∧ FrameEnd U o U' L (⟨1, 0, 0, 14⟩ : Room).cells (⟨1, 0, 0, 14⟩ : Room).slots) := by
  refine MetFree.of_bodySF (plainFor_of_name own_pn_jdk_internal_util_ArraysSupport) hisR ?_
  intro p e s m args below meth c s₁ Bd hml0 hP hK
  obtain ⟨rfl, hZ, hh⟩ := hP
  have hx := Bd.exec
  have hby := Bd.bytes
  have hml : c.maxLocals = 4 := hml0
  have hown : s.vm.findClass "jdk/internal/util/ArraysSupport" = some m.cls := findClass_of_methodNamed Bd.named
  have hnm := (name_of_methodNamed Bd.named Bd.method).1
  have hlk := Bd.notSynchronized
  have X0 : Stand p l e (⟨1, 0, 0, 14⟩ : Room) s m #[(.int 16), (.int gr), (.int 18)] below meth c s₁ [] 0 0 := Stand.of_body Bd
  have e0 : s₁.heap = h0 := by rw [← hh, Bd.state]; rfl
  have N0 := Fr.nil n0
  refine own_start (Q := own_nl2_Q Z gr zCS dO dT ca cO cT cc h0 n0) (own_nl2_ef m gr) ?_
  refine own_g (mkF m 3 #[.val (.int 16), .val (.int gr), .val (.int 18), .unset] [(.int 18), (.int gr), (.int 16)]) (fun _ q => XS.iloadN X0.here hx rfl (hb hby own_d23_0) rfl (XS.iloadN X0.here hx rfl (hb hby own_d23_1) rfl (XS.iloadN X0.here hx rfl (hb hby own_d23_2) rfl q))) ?_
  refine own_callS X0 hx hZ (y := (⟨"java/lang/Math", "max", "(II)I"⟩ : MethodName)) hown (own_h hw 142 rfl) (own_h hw 143 rfl) (own_h hw 144 rfl) (own_h hw 145 rfl) (by decide) (own_mx l Z a0 hw [] gr (18 : Int32) zCS dO dT ca cO cT cc h0 n0 Z0 Cq O0 hg) (by decide) (by decide) e0 (g := (mkF m 3 #[.val (.int 16), .val (.int gr), .val (.int 18), .unset] [(.int 18), (.int gr), (.int 16)])) rfl (by rw [hml]; rfl) (argsL := [(.int gr), (.int 18)]) (rest := [(.int 16)]) (lenOf own_pd__28II_29I rfl) rfl (W := 1) (by show 2 * 0 + _ ≤ _; exact Nat.le_of_eq rfl) (hb hby own_d23_3) rfl (by decide) (by decide) ?_
  rintro rv1 T1 L1 X1 ⟨rfl, Nq1, eh1⟩
  have N1 := Fr.app N0 Nq1
  refine own_g (mkF m 14 #[.val (.int 16), .val (.int gr), .val (.int 18), .val (.int 34)] [(.int 34)]) (fun _ q => XS.iadd X1.here hx rfl (hb hby own_d23_6) rfl (XS.istoreN X1.here hx rfl (hb hby own_d23_7) rfl (l' := #[.val (.int 16), .val (.int gr), .val (.int 18), .val (.int 34)]) rfl (XS.iconst X1.here hx rfl (hb hby own_d23_8) (XS.iloadN X1.here hx rfl (hb hby own_d23_9) rfl (XS.icmpNo X1.here hx rfl (hb hby own_d23_10) rfl (tlt (by decide : (0 : Int32) < (34 : Int32))).2.1 (XS.iloadN X1.here hx rfl (hb hby own_d23_13) rfl q)))))) ?_
  refine own_by (g' := (mkF m 16 #[.val (.int 16), .val (.int gr), .val (.int 18), .val (.int 34)] [(.int 2147483639), (.int 34)])) (fun _ kq => X1.ldcInt hx hown (mvT hZ (own_h hw 146 rfl)) (g := (mkF m 14 #[.val (.int 16), .val (.int gr), .val (.int 18), .val (.int 34)] [(.int 34)])) rfl (hb hby own_d23_14) _ kq) ?_
  refine own_g (mkF m 20 #[.val (.int 16), .val (.int gr), .val (.int 18), .val (.int 34)] [(.int 34)]) (fun _ q => XS.icmpNo X1.here hx rfl (hb hby own_d23_16) rfl (flt (by decide : ¬ ((2147483639 : Int32) < (34 : Int32)))).2.2.1 (XS.iloadN X1.here hx rfl (hb hby own_d23_19) rfl q)) ?_
  exact own_end X1 (v := some (.int 34)) (fun h => by rw [Bd.returns] at h; cases h) hlk (fun hr => retOut X1 hx Bd.returns rfl (Or.inl ⟨rfl, Or.inl rfl, _, rfl⟩) (hb hby own_d23_20) hr) (by rw [eh1]; exact ⟨rfl, N1, rfl⟩) (by decide) (by decide)
theorem own_d22_0 : decode jdk_68_method_10_code 0 = .ok (.aload_n 0, 1) := by decide +kernel
theorem own_d22_1 : decode jdk_68_method_10_code 1 = .ok (.getfield 15, 3) := by decide +kernel
theorem own_d22_4 : decode jdk_68_method_10_code 4 = .ok (.arraylength, 1) := by decide +kernel
theorem own_d22_5 : decode jdk_68_method_10_code 5 = .ok (.istore_n 2, 1) := by decide +kernel
theorem own_d22_6 : decode jdk_68_method_10_code 6 = .ok (.iload_n 1, 1) := by decide +kernel
theorem own_d22_7 : decode jdk_68_method_10_code 7 = .ok (.aload_n 0, 1) := by decide +kernel
theorem own_d22_8 : decode jdk_68_method_10_code 8 = .ok (.getfield 22, 3) := by decide +kernel
theorem own_d22_11 : decode jdk_68_method_10_code 11 = .ok (.ishl, 1) := by decide +kernel
theorem own_d22_12 : decode jdk_68_method_10_code 12 = .ok (.istore_n 3, 1) := by decide +kernel
theorem own_d22_13 : decode jdk_68_method_10_code 13 = .ok (.iload_n 3, 1) := by decide +kernel
theorem own_d22_14 : decode jdk_68_method_10_code 14 = .ok (.iload_n 2, 1) := by decide +kernel
theorem own_d22_15 : decode jdk_68_method_10_code 15 = .ok (.isub, 1) := by decide +kernel
theorem own_d22_16 : decode jdk_68_method_10_code 16 = .ok (.istore 4, 2) := by decide +kernel
theorem own_d22_18 : decode jdk_68_method_10_code 18 = .ok (.iload_n 2, 1) := by decide +kernel
theorem own_d22_19 : decode jdk_68_method_10_code 19 = .ok (.iload 4, 2) := by decide +kernel
theorem own_d22_21 : decode jdk_68_method_10_code 21 = .ok (.iload_n 2, 1) := by decide +kernel
theorem own_d22_22 : decode jdk_68_method_10_code 22 = .ok (.iconst 2, 1) := by decide +kernel
theorem own_d22_23 : decode jdk_68_method_10_code 23 = .ok (.aload_n 0, 1) := by decide +kernel
theorem own_d22_24 : decode jdk_68_method_10_code 24 = .ok (.getfield 22, 3) := by decide +kernel
theorem own_d22_27 : decode jdk_68_method_10_code 27 = .ok (.ishl, 1) := by decide +kernel
theorem own_d22_28 : decode jdk_68_method_10_code 28 = .ok (.iadd, 1) := by decide +kernel
theorem own_d22_29 : decode jdk_68_method_10_code 29 = .ok (.invokestatic 114, 3) := by decide +kernel
theorem own_pd__28III_29I : parseMethodDescriptor "(III)I" = some ⟨[.int, .int, .int], some .int⟩ := by decide +kernel
theorem own_d22_32 : decode jdk_68_method_10_code 32 = .ok (.istore 5, 2) := by decide +kernel
theorem own_d22_34 : decode jdk_68_method_10_code 34 = .ok (.iload 5, 2) := by decide +kernel
theorem own_d22_36 : decode jdk_68_method_10_code 36 = .ok (.ldc 39, 2) := by decide +kernel
theorem own_d22_38 : decode jdk_68_method_10_code 38 = .ok (.if_icmp .ne 13, 3) := by decide +kernel
theorem own_d22_51 : decode jdk_68_method_10_code 51 = .ok (.iload 5, 2) := by decide +kernel
theorem own_d22_53 : decode jdk_68_method_10_code 53 = .ok (.aload_n 0, 1) := by decide +kernel
theorem own_d22_54 : decode jdk_68_method_10_code 54 = .ok (.getfield 22, 3) := by decide +kernel
theorem own_d22_57 : decode jdk_68_method_10_code 57 = .ok (.ishr, 1) := by decide +kernel
theorem own_d22_58 : decode jdk_68_method_10_code 58 = .ok (.ireturn, 1) := by decide +kernel
theorem own_nc_ef (m : MethodId) (sb : Addr) (mc : Int32) : entryFrame m #[(.ref sb), (.int mc)] 6 = mkF m 0 #[.val (.ref sb), .val (.int mc), .unset, .unset, .unset, .unset] [] := by  first | (simp [entryFrame, mkF, argsToLocals, Value.category]; done) | rfl
def own_nc_Q (Z : State) (sb : Addr) (mc : Int32) (bv : Addr) (cn : Int32) (zCS : Int32) (dO : Addr) (dT : Addr) (ca : Addr) (cO : Cell) (cT : Cell) (cc : Cell) (h0 : Heap) (n0 : Nat) (v : Option Value) (h : Heap) (L : List Loc) : Prop := v = some (.int 34) ∧ Fr n0 L ∧ h = h0
set_option maxRecDepth 65536 in
set_option maxHeartbeats 40000000 in
theorem own_nc (l : Launch) (Z : State) (a0 : Array Value) (hw : ∀ d ∈ tables_1, d.before a0 Z = true) (ws : List Jvm.Cond) (sb : Addr) (mc : Int32) (bv : Addr) (cn : Int32) (zCS : Int32) (dO : Addr) (dT : Addr) (ca : Addr) (cO : Cell) (cT : Cell) (cc : Cell) (h0 : Heap) (n0 : Nat) (Z0 : n0 ≤ h0.size) (Cq : own_C Z zCS dO dT ca cO cT cc) (O0 : Old Z n0 h0) (E_sb : Exa Z h0 sb "java/lang/StringBuilder") (V_sb : Fld Z h0 sb "java/lang/AbstractStringBuilder" "value" "[B" (.ref bv)) (C_sb : Fld Z h0 sb "java/lang/AbstractStringBuilder" "coder" "B" (.int 0)) (N_sb : Fld Z h0 sb "java/lang/AbstractStringBuilder" "count" "I" (.int cn)) (R_v : own_By Z h0 bv (16 : Int32)) (hg : (mc - (16 : Int32)) < (18 : Int32)) :
    MetFree l own_y11 (head1 (Jvm.Cond.code own_y11 jdk_68_method_10_code 6 (some .int) :: ws) (⟨2, 0, 0, 29⟩ : Room)) (fun aa U => aa = #[(.ref sb), (.int mc)] ∧ Z.Warmed39 U.vm ∧ U.heap = h0) (fun _ _ _ _ _ => True) (fun _ U o U' => ∃ v L, o = .returned v ∧ own_nc_Q Z sb mc bv cn zCS dO dT ca cO cT cc h0 n0 v U'.heap L ∧ FrameEnd U o U' L (⟨2, 0, 0, 29⟩ : Room).cells (⟨2, 0, 0, 29⟩ : Room).slots) := by
  refine MetFree.of_bodySF (plainFor_of_name own_pn_java_lang_AbstractStringBuilder) hisR ?_
  intro p e s m args below meth c s₁ Bd hml0 hP hK
  obtain ⟨rfl, hZ, hh⟩ := hP
  have hx := Bd.exec
  have hby := Bd.bytes
  have hml : c.maxLocals = 6 := hml0
  have hown : s.vm.findClass "java/lang/AbstractStringBuilder" = some m.cls := findClass_of_methodNamed Bd.named
  have hnm := (name_of_methodNamed Bd.named Bd.method).1
  have hlk := Bd.notSynchronized
  have X0 : Stand p l e (⟨2, 0, 0, 29⟩ : Room) s m #[(.ref sb), (.int mc)] below meth c s₁ [] 0 0 := Stand.of_body Bd
  have e0 : s₁.heap = h0 := by rw [← hh, Bd.state]; rfl
  have N0 := Fr.nil n0
  refine own_start (Q := own_nc_Q Z sb mc bv cn zCS dO dT ca cO cT cc h0 n0) (own_nc_ef m sb mc) ?_
  refine own_g (mkF m 1 #[.val (.ref sb), .val (.int mc), .unset, .unset, .unset, .unset] [(.ref sb)]) (fun _ q => XS.aloadN X0.here hx rfl (hb hby own_d22_0) rfl rfl q) ?_
  obtain ⟨T1, X1, e1, st1⟩ := getF X0 hx hZ hown (host := "") (Or.inl (own_h hw 39 rfl)) Via.refl e0 V_sb (g := (mkF m 1 #[.val (.ref sb), .val (.int mc), .unset, .unset, .unset, .unset] [(.ref sb)])) rfl rfl (hb hby own_d22_1)
  refine own_by (g' := (mkF m 4 #[.val (.ref sb), .val (.int mc), .unset, .unset, .unset, .unset] [(.ref bv)])) st1 ?_
  obtain ⟨kk2, vs2, ⟨cl2, Ar2, q2, S2, P2, H2, G2⟩, hl2⟩ := id R_v
  refine own_by (g' := (mkF m 5 #[.val (.ref sb), .val (.int mc), .unset, .unset, .unset, .unset] [(.int 16)])) (fun _ kq => X1.arraylength hx (by rw [e1]; exact Ar2.1) (State.isArrayOf_alike hZ.alike Ar2.2.1) (g := (mkF m 4 #[.val (.ref sb), .val (.int mc), .unset, .unset, .unset, .unset] [(.ref bv)])) rfl rfl (hb hby own_d22_4) _ (by rw [len_of S2 P2]; exact kq)) ?_
  refine own_g (mkF m 8 #[.val (.ref sb), .val (.int mc), .val (.int 16), .unset, .unset, .unset] [(.ref sb), (.int mc)]) (fun _ q => XS.istoreN X1.here hx rfl (hb hby own_d22_5) rfl (l' := #[.val (.ref sb), .val (.int mc), .val (.int 16), .unset, .unset, .unset]) rfl (XS.iloadN X1.here hx rfl (hb hby own_d22_6) rfl (XS.aloadN X1.here hx rfl (hb hby own_d22_7) rfl rfl q))) ?_
  obtain ⟨T3, X3, e3, st3⟩ := getF X1 hx hZ hown (host := "") (Or.inl (own_h hw 41 rfl)) Via.refl e1 C_sb (g := (mkF m 8 #[.val (.ref sb), .val (.int mc), .val (.int 16), .unset, .unset, .unset] [(.ref sb), (.int mc)])) rfl rfl (hb hby own_d22_8)
  refine own_by (g' := (mkF m 11 #[.val (.ref sb), .val (.int mc), .val (.int 16), .unset, .unset, .unset] [(.int 0), (.int mc)])) st3 ?_
  refine own_g (mkF m 12 #[.val (.ref sb), .val (.int mc), .val (.int 16), .unset, .unset, .unset] [(.int (mc <<< ((0 : Int32) &&& 31)))]) (fun _ q => XS.ishl X3.here hx rfl (hb hby own_d22_11) rfl q) ?_
  rw [own_shl0]
  refine own_g (mkF m 22 #[.val (.ref sb), .val (.int mc), .val (.int 16), .val (.int mc), .val (.int (mc - (16 : Int32))), .unset] [(.int 16), (.int (mc - (16 : Int32))), (.int 16)]) (fun _ q => XS.istoreN X3.here hx rfl (hb hby own_d22_12) rfl (l' := #[.val (.ref sb), .val (.int mc), .val (.int 16), .val (.int mc), .unset, .unset]) rfl (XS.iloadN X3.here hx rfl (hb hby own_d22_13) rfl (XS.iloadN X3.here hx rfl (hb hby own_d22_14) rfl (XS.isub X3.here hx rfl (hb hby own_d22_15) rfl (XS.istore X3.here hx rfl (hb hby own_d22_16) rfl (l' := #[.val (.ref sb), .val (.int mc), .val (.int 16), .val (.int mc), .val (.int (mc - (16 : Int32))), .unset]) rfl (XS.iloadN X3.here hx rfl (hb hby own_d22_18) rfl (XS.iload X3.here hx rfl (hb hby own_d22_19) rfl (XS.iloadN X3.here hx rfl (hb hby own_d22_21) rfl q)))))))) ?_
  refine own_g (mkF m 24 #[.val (.ref sb), .val (.int mc), .val (.int 16), .val (.int mc), .val (.int (mc - (16 : Int32))), .unset] [(.ref sb), (.int 2), (.int 16), (.int (mc - (16 : Int32))), (.int 16)]) (fun _ q => XS.iconst X3.here hx rfl (hb hby own_d22_22) (XS.aloadN X3.here hx rfl (hb hby own_d22_23) rfl rfl q)) ?_
  obtain ⟨T4, X4, e4, st4⟩ := getF X3 hx hZ hown (host := "") (Or.inl (own_h hw 41 rfl)) Via.refl e3 C_sb (g := (mkF m 24 #[.val (.ref sb), .val (.int mc), .val (.int 16), .val (.int mc), .val (.int (mc - (16 : Int32))), .unset] [(.ref sb), (.int 2), (.int 16), (.int (mc - (16 : Int32))), (.int 16)])) rfl rfl (hb hby own_d22_24)
  refine own_by (g' := (mkF m 27 #[.val (.ref sb), .val (.int mc), .val (.int 16), .val (.int mc), .val (.int (mc - (16 : Int32))), .unset] [(.int 0), (.int 2), (.int 16), (.int (mc - (16 : Int32))), (.int 16)])) st4 ?_
  refine own_g (mkF m 29 #[.val (.ref sb), .val (.int mc), .val (.int 16), .val (.int mc), .val (.int (mc - (16 : Int32))), .unset] [(.int 18), (.int (mc - (16 : Int32))), (.int 16)]) (fun _ q => XS.ishl X4.here hx rfl (hb hby own_d22_27) rfl (XS.iadd X4.here hx rfl (hb hby own_d22_28) rfl q)) ?_
  refine own_callS X4 hx hZ (y := (⟨"jdk/internal/util/ArraysSupport", "newLength", "(III)I"⟩ : MethodName)) hown (own_h hw 138 rfl) (own_h hw 139 rfl) (own_h hw 140 rfl) (own_h hw 141 rfl) (by decide) (own_nl2 l Z a0 hw [] (mc - (16 : Int32)) zCS dO dT ca cO cT cc h0 n0 Z0 Cq O0 hg) (by decide) (by decide) e4 (g := (mkF m 29 #[.val (.ref sb), .val (.int mc), .val (.int 16), .val (.int mc), .val (.int (mc - (16 : Int32))), .unset] [(.int 18), (.int (mc - (16 : Int32))), (.int 16)])) rfl (by rw [hml]; rfl) (argsL := [(.int 16), (.int (mc - (16 : Int32))), (.int 18)]) (rest := []) (lenOf own_pd__28III_29I rfl) rfl (W := 0) (by show 2 * 0 + _ ≤ _; exact Nat.le_of_eq rfl) (hb hby own_d22_29) rfl (by decide) (by decide) ?_
  rintro rv5 T5 L5 X5 ⟨rfl, Nq5, eh5⟩
  have N5 := Fr.app N0 Nq5
  refine own_g (mkF m 36 #[.val (.ref sb), .val (.int mc), .val (.int 16), .val (.int mc), .val (.int (mc - (16 : Int32))), .val (.int 34)] [(.int 34)]) (fun _ q => XS.istore X5.here hx rfl (hb hby own_d22_32) rfl (l' := #[.val (.ref sb), .val (.int mc), .val (.int 16), .val (.int mc), .val (.int (mc - (16 : Int32))), .val (.int 34)]) rfl (XS.iload X5.here hx rfl (hb hby own_d22_34) rfl q)) ?_
  refine own_by (g' := (mkF m 38 #[.val (.ref sb), .val (.int mc), .val (.int 16), .val (.int mc), .val (.int (mc - (16 : Int32))), .val (.int 34)] [(.int 2147483647), (.int 34)])) (fun _ kq => X5.ldcInt hx hown (mvT hZ (own_h hw 147 rfl)) (g := (mkF m 36 #[.val (.ref sb), .val (.int mc), .val (.int 16), .val (.int mc), .val (.int (mc - (16 : Int32))), .val (.int 34)] [(.int 34)])) rfl (hb hby own_d22_36) _ kq) ?_
  refine own_g (mkF m 54 #[.val (.ref sb), .val (.int mc), .val (.int 16), .val (.int mc), .val (.int (mc - (16 : Int32))), .val (.int 34)] [(.ref sb), (.int 34)]) (fun _ q => XS.icmpYes X5.here hx rfl (pc0 := 38) (pc' := 51) rfl (hb hby own_d22_38) rfl (feq (by decide : ¬ ((34 : Int32) = (2147483647 : Int32)))).2 (by decide) (by decide) (XS.iload X5.here hx rfl (hb hby own_d22_51) rfl (XS.aloadN X5.here hx rfl (hb hby own_d22_53) rfl rfl q))) ?_
  obtain ⟨T6, X6, e6, st6⟩ := getF X5 hx hZ hown (host := "") (Or.inl (own_h hw 41 rfl)) Via.refl eh5 C_sb (g := (mkF m 54 #[.val (.ref sb), .val (.int mc), .val (.int 16), .val (.int mc), .val (.int (mc - (16 : Int32))), .val (.int 34)] [(.ref sb), (.int 34)])) rfl rfl (hb hby own_d22_54)
  refine own_by (g' := (mkF m 57 #[.val (.ref sb), .val (.int mc), .val (.int 16), .val (.int mc), .val (.int (mc - (16 : Int32))), .val (.int 34)] [(.int 0), (.int 34)])) st6 ?_
  refine own_g (mkF m 58 #[.val (.ref sb), .val (.int mc), .val (.int 16), .val (.int mc), .val (.int (mc - (16 : Int32))), .val (.int 34)] [(.int 34)]) (fun _ q => XS.ishr X6.here hx rfl (hb hby own_d22_57) rfl q) ?_
  exact own_end X6 (v := some (.int 34)) (fun h => by rw [Bd.returns] at h; cases h) hlk (fun hr => retOut X6 hx Bd.returns rfl (Or.inl ⟨rfl, Or.inl rfl, _, rfl⟩) (hb hby own_d22_58) hr) (by rw [e6]; exact ⟨rfl, N5, rfl⟩) (by decide) (by decide)
theorem own_d25_0 : decode jdk_65_method_121_code 0 = .ok (.iload_n 1, 1) := by decide +kernel
theorem own_d25_1 : decode jdk_65_method_121_code 1 = .ok (.aload_n 0, 1) := by decide +kernel
theorem own_d25_2 : decode jdk_65_method_121_code 2 = .ok (.arraylength, 1) := by decide +kernel
theorem own_d25_3 : decode jdk_65_method_121_code 3 = .ok (.if_icmp .ne 11, 3) := by decide +kernel
theorem own_d25_14 : decode jdk_65_method_121_code 14 = .ok (.iload_n 1, 1) := by decide +kernel
theorem own_d25_15 : decode jdk_65_method_121_code 15 = .ok (.newarray .byte, 2) := by decide +kernel
theorem own_d25_17 : decode jdk_65_method_121_code 17 = .ok (.astore_n 2, 1) := by decide +kernel
theorem own_d25_18 : decode jdk_65_method_121_code 18 = .ok (.aload_n 0, 1) := by decide +kernel
theorem own_d25_19 : decode jdk_65_method_121_code 19 = .ok (.iconst 0, 1) := by decide +kernel
theorem own_d25_20 : decode jdk_65_method_121_code 20 = .ok (.aload_n 2, 1) := by decide +kernel
theorem own_d25_21 : decode jdk_65_method_121_code 21 = .ok (.iconst 0, 1) := by decide +kernel
theorem own_d25_22 : decode jdk_65_method_121_code 22 = .ok (.aload_n 0, 1) := by decide +kernel
theorem own_d25_23 : decode jdk_65_method_121_code 23 = .ok (.arraylength, 1) := by decide +kernel
theorem own_d25_24 : decode jdk_65_method_121_code 24 = .ok (.iload_n 1, 1) := by decide +kernel
theorem own_d25_25 : decode jdk_65_method_121_code 25 = .ok (.invokestatic 304, 3) := by decide +kernel
theorem own_d25_28 : decode jdk_65_method_121_code 28 = .ok (.invokestatic 150, 3) := by decide +kernel
theorem own_d25_31 : decode jdk_65_method_121_code 31 = .ok (.aload_n 2, 1) := by decide +kernel
theorem own_d25_32 : decode jdk_65_method_121_code 32 = .ok (.areturn, 1) := by decide +kernel
theorem own_co_ef (m : MethodId) (a : Addr) : entryFrame m #[(.ref a), (.int 34)] 3 = mkF m 0 #[.val (.ref a), .val (.int 34), .unset] [] := by  first | (simp [entryFrame, mkF, argsToLocals, Value.category]; done) | rfl
def own_co_Q (Z : State) (a : Addr) (zCS : Int32) (dO : Addr) (dT : Addr) (ca : Addr) (cO : Cell) (cT : Cell) (cc : Cell) (h0 : Heap) (n0 : Nat) (v : Option Value) (h : Heap) (L : List Loc) : Prop := ∃ t : Addr, v = some (.ref t) ∧ Fr n0 L ∧ Keep h0 h [] ∧ h0.size ≤ t ∧ n0 ≤ t ∧ Exa Z h t "[B" ∧ own_By Z h t (34 : Int32)
theorem own_pn_java_util_Arrays : plainName "java/util/Arrays" = true := by first | (simp [plainName, overriddenIn]; done) | decide +kernel
set_option maxRecDepth 65536 in
set_option maxHeartbeats 40000000 in
theorem own_co (l : Launch) (Z : State) (a0 : Array Value) (hw : ∀ d ∈ tables_1, d.before a0 Z = true) (ws : List Jvm.Cond) (a : Addr) (zCS : Int32) (dO : Addr) (dT : Addr) (ca : Addr) (cO : Cell) (cT : Cell) (cc : Cell) (h0 : Heap) (n0 : Nat) (Z0 : n0 ≤ h0.size) (Cq : own_C Z zCS dO dT ca cO cT cc) (O0 : Old Z n0 h0) (R_a : own_By Z h0 a (16 : Int32)) :
    MetFree l (⟨"java/util/Arrays", "copyOf", "([BI)[B"⟩ : MethodName) (head1 (Jvm.Cond.code (⟨"java/util/Arrays", "copyOf", "([BI)[B"⟩ : MethodName) jdk_65_method_121_code 3 (some (.array .byte)) :: ws) (⟨1, 1, 34, 18⟩ : Room)) (fun aa U => aa = #[(.ref a), (.int 34)] ∧ Z.Warmed39 U.vm ∧ U.heap = h0) (fun _ _ _ _ _ => True) (fun _ U o U' => ∃ v L, o = .returned v ∧ own_co_Q Z a zCS dO dT ca cO cT cc h0 n0 v U'.heap L ∧ FrameEnd U o U' L (⟨1, 1, 34, 18⟩ : Room).cells (⟨1, 1, 34, 18⟩ : Room).slots) := by
  refine MetFree.of_bodySF (plainFor_of_name own_pn_java_util_Arrays) hisR ?_
  intro p e s m args below meth c s₁ Bd hml0 hP hK
  obtain ⟨rfl, hZ, hh⟩ := hP
  have hx := Bd.exec
  have hby := Bd.bytes
  have hml : c.maxLocals = 3 := hml0
  have hown : s.vm.findClass "java/util/Arrays" = some m.cls := findClass_of_methodNamed Bd.named
  have hnm := (name_of_methodNamed Bd.named Bd.method).1
  have hlk := Bd.notSynchronized
  have X0 : Stand p l e (⟨1, 1, 34, 18⟩ : Room) s m #[(.ref a), (.int 34)] below meth c s₁ [] 0 0 := Stand.of_body Bd
  have e0 : s₁.heap = h0 := by rw [← hh, Bd.state]; rfl
  have N0 := Fr.nil n0
  refine own_start (Q := own_co_Q Z a zCS dO dT ca cO cT cc h0 n0) (own_co_ef m a) ?_
  refine own_g (mkF m 2 #[.val (.ref a), .val (.int 34), .unset] [(.ref a), (.int 34)]) (fun _ q => XS.iloadN X0.here hx rfl (hb hby own_d25_0) rfl (XS.aloadN X0.here hx rfl (hb hby own_d25_1) rfl rfl q)) ?_
  obtain ⟨kk1, vs1, ⟨cl1, Ar1, q1, S1, P1, H1, G1⟩, hl1⟩ := id R_a
  refine own_by (g' := (mkF m 3 #[.val (.ref a), .val (.int 34), .unset] [(.int 16), (.int 34)])) (fun _ kq => X0.arraylength hx (by rw [e0]; exact Ar1.1) (State.isArrayOf_alike hZ.alike Ar1.2.1) (g := (mkF m 2 #[.val (.ref a), .val (.int 34), .unset] [(.ref a), (.int 34)])) rfl rfl (hb hby own_d25_2) _ (by rw [len_of S1 P1]; exact kq)) ?_
  refine own_g (mkF m 15 #[.val (.ref a), .val (.int 34), .unset] [(.int 34)]) (fun _ q => XS.icmpYes X0.here hx rfl (pc0 := 3) (pc' := 14) rfl (hb hby own_d25_3) rfl (feq (by decide : ¬ ((34 : Int32) = (16 : Int32)))).2 (by decide) (by decide) (XS.iloadN X0.here hx rfl (hb hby own_d25_14) rfl q)) ?_
  obtain ⟨T2, h2, k2, X2, e2, E2, A2, Ex2, st2⟩ := newPE X0 hx hZ (own_h hw 38 rfl) e0 (g := (mkF m 15 #[.val (.ref a), .val (.int 34), .unset] [(.int 34)])) rfl (hb hby own_d25_15) rfl (by decide) (cap := 34) (by decide) (by decide) (by decide) (by decide) (ad := "[B") (by decide)
  obtain ⟨b2, g2⟩ : ∃ z, z = h0.size := ⟨_, rfl⟩
  rw [← g2] at A2 Ex2 st2
  have g_b2 : n0 ≤ b2 := Nat.le_trans Z0 (Nat.le_of_eq g2.symm)
  have sz_b2 : h0.size ≤ b2 := Nat.le_trans (Keep.refl h0 []).1 (Nat.le_of_eq g2.symm)
  have ne_a_b2 : a ≠ b2 := Nat.ne_of_lt (Nat.lt_of_lt_of_le R_a.lt (Nat.le_of_eq g2.symm))
  have R_b2 := own_By.of (Arv.new A2 (by decide))
  refine own_by (g' := (mkF m 17 #[.val (.ref a), .val (.int 34), .unset] [(.ref b2)])) st2 ?_
  refine own_g (mkF m 23 #[.val (.ref a), .val (.int 34), .val (.ref b2)] [(.ref a), (.int 0), (.ref b2), (.int 0), (.ref a)]) (fun _ q => XS.astoreN X2.here hx rfl (hb hby own_d25_17) rfl rfl (l' := #[.val (.ref a), .val (.int 34), .val (.ref b2)]) rfl (XS.aloadN X2.here hx rfl (hb hby own_d25_18) rfl rfl (XS.iconst X2.here hx rfl (hb hby own_d25_19) (XS.aloadN X2.here hx rfl (hb hby own_d25_20) rfl rfl (XS.iconst X2.here hx rfl (hb hby own_d25_21) (XS.aloadN X2.here hx rfl (hb hby own_d25_22) rfl rfl q)))))) ?_
  have r3_a := (R_a.ext E2)
  obtain ⟨kk4, vs4, ⟨cl4, Ar4, q4, S4, P4, H4, G4⟩, hl4⟩ := id r3_a
  refine own_by (g' := (mkF m 24 #[.val (.ref a), .val (.int 34), .val (.ref b2)] [(.int 16), (.int 0), (.ref b2), (.int 0), (.ref a)])) (fun _ kq => X2.arraylength hx (by rw [e2]; exact Ar4.1) (State.isArrayOf_alike hZ.alike Ar4.2.1) (g := (mkF m 23 #[.val (.ref a), .val (.int 34), .val (.ref b2)] [(.ref a), (.int 0), (.ref b2), (.int 0), (.ref a)])) rfl rfl (hb hby own_d25_23) _ (by rw [len_of S4 P4]; exact kq)) ?_
  refine own_g (mkF m 25 #[.val (.ref a), .val (.int 34), .val (.ref b2)] [(.int 34), (.int 16), (.int 0), (.ref b2), (.int 0), (.ref a)]) (fun _ q => XS.iloadN X2.here hx rfl (hb hby own_d25_24) rfl q) ?_
  have k5_ := ((Keep.refl h0 []).ext E2)
  have o6_ := (O0.ext E2)
  refine own_callS X2 hx hZ (y := own_y21) hown (own_h hw 152 rfl) (own_h hw 153 rfl) (own_h hw 144 rfl) (own_h hw 154 rfl) (by decide) (own_mnA l Z a0 hw [] (16 : Int32) (34 : Int32) zCS dO dT ca cO cT cc h2 n0 (Nat.le_trans Z0 k5_.1) Cq o6_ (by decide)) (by decide) (by decide) e2 (g := (mkF m 25 #[.val (.ref a), .val (.int 34), .val (.ref b2)] [(.int 34), (.int 16), (.int 0), (.ref b2), (.int 0), (.ref a)])) rfl (by rw [hml]; rfl) (argsL := [(.int 16), (.int 34)]) (rest := [(.int 0), (.ref b2), (.int 0), (.ref a)]) (lenOf own_pd__28II_29I rfl) rfl (W := 4) (by show 2 * 0 + _ ≤ _; exact Nat.le_of_eq rfl) (hb hby own_d25_25) rfl (by decide) (by decide) ?_
  rintro rv7 T7 L7 X7 ⟨rfl, Nq7, eh7⟩
  have N7 := Fr.app N0 Nq7
  show own_Fin p e below _ T7 (mkF m 28 #[.val (.ref a), .val (.int 34), .val (.ref b2)] [(.int 16), (.int 0), (.ref b2), (.int 0), (.ref a)])
  obtain ⟨ka8, va8, Aa8, la8⟩ := id r3_a
  obtain ⟨kb8, vb8, Ab8, lb8⟩ := id R_b2
  obtain ⟨T9, h9, L9, X9, e9, N9, Kc9, Ac9, st9⟩ := cpA X7 hx hZ hown (own_h hw 155 rfl) (own_h hw 98 rfl) (own_h hw 96 rfl) (own_h hw 97 rfl) eh7 Aa8 Ab8 (Or.inl ⟨rfl, rfl⟩) (sp := (0 : Int32)) (dp := (0 : Int32)) (nn := (16 : Int32)) (by decide) (by decide) (by decide) (by decide) (by decide) rfl (by rw [lb8]; exact (by decide)) N7 g_b2 (g := (mkF m 28 #[.val (.ref a), .val (.int 34), .val (.ref b2)] [(.int 16), (.int 0), (.ref b2), (.int 0), (.ref a)])) rfl (by rw [hml]; rfl) rfl (hb hby own_d25_28) (by decide) (W := 0) (by show 2 * 0 + _ ≤ _; exact Nat.le_of_eq rfl) (by decide)
  have R9 := own_By.of Ac9
  refine own_by (g' := (mkF m 31 #[.val (.ref a), .val (.int 34), .val (.ref b2)] [])) st9 ?_
  refine own_g (mkF m 32 #[.val (.ref a), .val (.int 34), .val (.ref b2)] [(.ref b2)]) (fun _ q => XS.aloadN X9.here hx rfl (hb hby own_d25_31) rfl rfl q) ?_
  have k10_ := (k5_.trans Kc9 (allS (Or.inr sz_b2) all0))
  have e11_b2 := (Ex2.keep Kc9)
  exact own_end X9 (v := some (.ref b2)) (fun h => by rw [Bd.returns] at h; cases h) hlk (fun hr => retOut X9 hx Bd.returns (own_narR rfl) (Or.inr (Or.inr (Or.inr (Or.inr ⟨rfl, rfl, rfl⟩)))) (hb hby own_d25_32) hr) (by rw [e9]; exact ⟨b2, rfl, N9, k10_, sz_b2, g_b2, e11_b2, R9⟩) (by decide) (by decide)
theorem own_d11_17 : decode jdk_68_method_9_code 17 = .ok (.aload_n 0, 1) := by decide +kernel
theorem own_d11_18 : decode jdk_68_method_9_code 18 = .ok (.aload_n 0, 1) := by decide +kernel
theorem own_d11_19 : decode jdk_68_method_9_code 19 = .ok (.getfield 15, 3) := by decide +kernel
theorem own_d11_22 : decode jdk_68_method_9_code 22 = .ok (.aload_n 0, 1) := by decide +kernel
theorem own_d11_23 : decode jdk_68_method_9_code 23 = .ok (.iload_n 1, 1) := by decide +kernel
theorem own_d11_24 : decode jdk_68_method_9_code 24 = .ok (.invokevirtual 104, 3) := by decide +kernel
theorem own_pd__28I_29I : parseMethodDescriptor "(I)I" = some ⟨[.int], some .int⟩ := by decide +kernel
theorem own_d11_27 : decode jdk_68_method_9_code 27 = .ok (.aload_n 0, 1) := by decide +kernel
theorem own_d11_28 : decode jdk_68_method_9_code 28 = .ok (.getfield 22, 3) := by decide +kernel
theorem own_d11_31 : decode jdk_68_method_9_code 31 = .ok (.ishl, 1) := by decide +kernel
theorem own_d11_32 : decode jdk_68_method_9_code 32 = .ok (.invokestatic 108, 3) := by decide +kernel
theorem own_pd__28_5bBI_29_5bB : parseMethodDescriptor "([BI)[B" = some ⟨[(.array .byte), .int], some (.array .byte)⟩ := by decide +kernel
theorem own_d11_35 : decode jdk_68_method_9_code 35 = .ok (.putfield 15, 3) := by decide +kernel
theorem own_ecG_ef (m : MethodId) (sb : Addr) (mc : Int32) : entryFrame m #[(.ref sb), (.int mc)] 3 = mkF m 0 #[.val (.ref sb), .val (.int mc), .unset] [] := by  first | (simp [entryFrame, mkF, argsToLocals, Value.category]; done) | rfl
def own_ecG_Q (Z : State) (sb : Addr) (mc : Int32) (bv : Addr) (cn : Int32) (zCS : Int32) (dO : Addr) (dT : Addr) (ca : Addr) (cO : Cell) (cT : Cell) (cc : Cell) (h0 : Heap) (n0 : Nat) (v : Option Value) (h : Heap) (L : List Loc) : Prop := v = none ∧ Fr n0 L ∧ Keep h0 h [sb] ∧ ∃ t : Addr, h0.size ≤ t ∧ n0 ≤ t ∧ Exa Z h t "[B" ∧ own_By Z h t (34 : Int32) ∧ Fld Z h sb "java/lang/AbstractStringBuilder" "value" "[B" (.ref t) ∧ Fld Z h sb "java/lang/AbstractStringBuilder" "coder" "B" (.int 0) ∧ Fld Z h sb "java/lang/AbstractStringBuilder" "count" "I" (.int cn)
set_option maxRecDepth 65536 in
set_option maxHeartbeats 40000000 in
theorem own_ecG (l : Launch) (Z : State) (a0 : Array Value) (hw : ∀ d ∈ tables_1, d.before a0 Z = true) (ws : List Jvm.Cond) (sb : Addr) (mc : Int32) (bv : Addr) (cn : Int32) (zCS : Int32) (dO : Addr) (dT : Addr) (ca : Addr) (cO : Cell) (cT : Cell) (cc : Cell) (h0 : Heap) (n0 : Nat) (Z0 : n0 ≤ h0.size) (Cq : own_C Z zCS dO dT ca cO cT cc) (O0 : Old Z n0 h0) (E_sb : Exa Z h0 sb "java/lang/StringBuilder") (V_sb : Fld Z h0 sb "java/lang/AbstractStringBuilder" "value" "[B" (.ref bv)) (C_sb : Fld Z h0 sb "java/lang/AbstractStringBuilder" "coder" "B" (.int 0)) (N_sb : Fld Z h0 sb "java/lang/AbstractStringBuilder" "count" "I" (.int cn)) (R_v : own_By Z h0 bv (16 : Int32)) (g_sb : n0 ≤ sb) (hgr : (0 : Int32) < (mc - (16 : Int32))) (hg : (mc - (16 : Int32)) < (18 : Int32)) :
    MetFree l own_y6 (head1 (Jvm.Cond.code own_y6 jdk_68_method_9_code 3 none :: ws) (⟨3, 1, 34, 48⟩ : Room)) (fun aa U => aa = #[(.ref sb), (.int mc)] ∧ Z.Warmed39 U.vm ∧ U.heap = h0) (fun _ _ _ _ _ => True) (fun _ U o U' => ∃ v L, o = .returned v ∧ own_ecG_Q Z sb mc bv cn zCS dO dT ca cO cT cc h0 n0 v U'.heap L ∧ FrameEnd U o U' L (⟨3, 1, 34, 48⟩ : Room).cells (⟨3, 1, 34, 48⟩ : Room).slots) := by
  refine MetFree.of_bodySF (plainFor_of_name own_pn_java_lang_AbstractStringBuilder) hisR ?_
  intro p e s m args below meth c s₁ Bd hml0 hP hK
  obtain ⟨rfl, hZ, hh⟩ := hP
  have hx := Bd.exec
  have hby := Bd.bytes
  have hml : c.maxLocals = 3 := hml0
  have hown : s.vm.findClass "java/lang/AbstractStringBuilder" = some m.cls := findClass_of_methodNamed Bd.named
  have hnm := (name_of_methodNamed Bd.named Bd.method).1
  have hlk := Bd.notSynchronized
  have X0 : Stand p l e (⟨3, 1, 34, 48⟩ : Room) s m #[(.ref sb), (.int mc)] below meth c s₁ [] 0 0 := Stand.of_body Bd
  have e0 : s₁.heap = h0 := by rw [← hh, Bd.state]; rfl
  have N0 := Fr.nil n0
  refine own_start (Q := own_ecG_Q Z sb mc bv cn zCS dO dT ca cO cT cc h0 n0) (own_ecG_ef m sb mc) ?_
  refine own_g (mkF m 1 #[.val (.ref sb), .val (.int mc), .unset] [(.ref sb)]) (fun _ q => XS.aloadN X0.here hx rfl (hb hby own_d11_0) rfl rfl q) ?_
  obtain ⟨T1, X1, e1, st1⟩ := getF X0 hx hZ hown (host := "") (Or.inl (own_h hw 39 rfl)) Via.refl e0 V_sb (g := (mkF m 1 #[.val (.ref sb), .val (.int mc), .unset] [(.ref sb)])) rfl rfl (hb hby own_d11_1)
  refine own_by (g' := (mkF m 4 #[.val (.ref sb), .val (.int mc), .unset] [(.ref bv)])) st1 ?_
  obtain ⟨kk2, vs2, ⟨cl2, Ar2, q2, S2, P2, H2, G2⟩, hl2⟩ := id R_v
  refine own_by (g' := (mkF m 5 #[.val (.ref sb), .val (.int mc), .unset] [(.int 16)])) (fun _ kq => X1.arraylength hx (by rw [e1]; exact Ar2.1) (State.isArrayOf_alike hZ.alike Ar2.2.1) (g := (mkF m 4 #[.val (.ref sb), .val (.int mc), .unset] [(.ref bv)])) rfl rfl (hb hby own_d11_4) _ (by rw [len_of S2 P2]; exact kq)) ?_
  refine own_g (mkF m 6 #[.val (.ref sb), .val (.int mc), .unset] [(.ref sb), (.int 16)]) (fun _ q => XS.aloadN X1.here hx rfl (hb hby own_d11_5) rfl rfl q) ?_
  obtain ⟨T3, X3, e3, st3⟩ := getF X1 hx hZ hown (host := "") (Or.inl (own_h hw 41 rfl)) Via.refl e1 C_sb (g := (mkF m 6 #[.val (.ref sb), .val (.int mc), .unset] [(.ref sb), (.int 16)])) rfl rfl (hb hby own_d11_6)
  refine own_by (g' := (mkF m 9 #[.val (.ref sb), .val (.int mc), .unset] [(.int 0), (.int 16)])) st3 ?_
  refine own_g (mkF m 19 #[.val (.ref sb), .val (.int mc), .val (.int 16)] [(.ref sb), (.ref sb)]) (fun _ q => XS.ishr X3.here hx rfl (hb hby own_d11_9) rfl (XS.istoreN X3.here hx rfl (hb hby own_d11_10) rfl (l' := #[.val (.ref sb), .val (.int mc), .val (.int 16)]) rfl (XS.iloadN X3.here hx rfl (hb hby own_d11_11) rfl (XS.iloadN X3.here hx rfl (hb hby own_d11_12) rfl (XS.isub X3.here hx rfl (hb hby own_d11_13) rfl (XS.ifNo X3.here hx rfl (hb hby own_d11_14) rfl ((if0 _ _).trans (tlt hgr).2.2.2) (XS.aloadN X3.here hx rfl (hb hby own_d11_17) rfl rfl (XS.aloadN X3.here hx rfl (hb hby own_d11_18) rfl rfl q)))))))) ?_
  obtain ⟨T4, X4, e4, st4⟩ := getF X3 hx hZ hown (host := "") (Or.inl (own_h hw 39 rfl)) Via.refl e3 V_sb (g := (mkF m 19 #[.val (.ref sb), .val (.int mc), .val (.int 16)] [(.ref sb), (.ref sb)])) rfl rfl (hb hby own_d11_19)
  refine own_by (g' := (mkF m 22 #[.val (.ref sb), .val (.int mc), .val (.int 16)] [(.ref bv), (.ref sb)])) st4 ?_
  refine own_g (mkF m 24 #[.val (.ref sb), .val (.int mc), .val (.int 16)] [(.int mc), (.ref sb), (.ref bv), (.ref sb)]) (fun _ q => XS.aloadN X4.here hx rfl (hb hby own_d11_22) rfl rfl (XS.iloadN X4.here hx rfl (hb hby own_d11_23) rfl q)) ?_
  refine own_callV X4 hx hZ (y := own_y11) (z := own_y11) hown (own_h hw 133 rfl) (own_decl (own_h hw 134 rfl) (own_h hw 137 rfl)) (own_nf (own_h hw 136 rfl)) (own_h hw 136 rfl) (own_h hw 134 rfl) (own_h hw 137 rfl) (own_h hw 33 rfl) (by decide) E_sb (own_nc l Z a0 hw [] sb mc bv cn zCS dO dT ca cO cT cc h0 n0 (Nat.le_trans Z0 (Keep.refl h0 [sb]).1) Cq O0 E_sb V_sb C_sb N_sb R_v hg) (by decide) (by decide) e4 (g := (mkF m 24 #[.val (.ref sb), .val (.int mc), .val (.int 16)] [(.int mc), (.ref sb), (.ref bv), (.ref sb)])) rfl (by rw [hml]; rfl) (argsL := [(.int mc)]) (rest := [(.ref bv), (.ref sb)]) (lenOf own_pd__28I_29I rfl) rfl (W := 2) (by show 2 * 0 + _ ≤ _; exact Nat.le_of_eq rfl) (hb hby own_d11_24) rfl (by decide) (by decide) ?_
  rintro rv5 T5 L5 X5 ⟨rfl, Nq5, eh5⟩
  have N5 := Fr.app N0 Nq5
  refine own_g (mkF m 28 #[.val (.ref sb), .val (.int mc), .val (.int 16)] [(.ref sb), (.int 34), (.ref bv), (.ref sb)]) (fun _ q => XS.aloadN X5.here hx rfl (hb hby own_d11_27) rfl rfl q) ?_
  obtain ⟨T6, X6, e6, st6⟩ := getF X5 hx hZ hown (host := "") (Or.inl (own_h hw 41 rfl)) Via.refl eh5 C_sb (g := (mkF m 28 #[.val (.ref sb), .val (.int mc), .val (.int 16)] [(.ref sb), (.int 34), (.ref bv), (.ref sb)])) rfl rfl (hb hby own_d11_28)
  refine own_by (g' := (mkF m 31 #[.val (.ref sb), .val (.int mc), .val (.int 16)] [(.int 0), (.int 34), (.ref bv), (.ref sb)])) st6 ?_
  refine own_g (mkF m 32 #[.val (.ref sb), .val (.int mc), .val (.int 16)] [(.int 34), (.ref bv), (.ref sb)]) (fun _ q => XS.ishl X6.here hx rfl (hb hby own_d11_31) rfl q) ?_
  refine own_callS X6 hx hZ (y := (⟨"java/util/Arrays", "copyOf", "([BI)[B"⟩ : MethodName)) hown (own_h hw 148 rfl) (own_h hw 149 rfl) (own_h hw 150 rfl) (own_h hw 151 rfl) (by decide) (own_co l Z a0 hw [] bv zCS dO dT ca cO cT cc h0 n0 (Nat.le_trans Z0 (Keep.refl h0 [sb]).1) Cq O0 R_v) (by decide) (by decide) e6 (g := (mkF m 32 #[.val (.ref sb), .val (.int mc), .val (.int 16)] [(.int 34), (.ref bv), (.ref sb)])) rfl (by rw [hml]; rfl) (argsL := [(.ref bv), (.int 34)]) (rest := [(.ref sb)]) (lenOf own_pd__28_5bBI_29_5bB rfl) rfl (W := 1) (by show 2 * 0 + _ ≤ _; exact Nat.le_of_eq rfl) (hb hby own_d11_32) rfl (by decide) (by decide) ?_
  rintro rv7 T7 L7 X7 ⟨t0, rfl, Nq7, Kq7, sz7, g7, Et7, Rt7⟩
  have N7 := Fr.app N5 Nq7
  show own_Fin p e below _ T7 (mkF m 35 #[.val (.ref sb), .val (.int mc), .val (.int 16)] [(.ref t0), (.ref sb)])
  have ne_sb_t0 : sb ≠ t0 := Nat.ne_of_lt (Nat.lt_of_lt_of_le E_sb.lt sz7)
  have ne_bv_t0 : bv ≠ t0 := Nat.ne_of_lt (Nat.lt_of_lt_of_le R_v.lt sz7)
  have sz_t0 := Nat.le_trans (Keep.refl h0 [sb]).1 sz7
  have e8_sb := (E_sb.keep Kq7)
  have f9_sb := (V_sb.keep Kq7 nin0)
  obtain ⟨T10, h10, X10, e10, W10, st10⟩ := putF X7 hx hZ hown (host := "") (Or.inl (own_h hw 39 rfl)) Via.refl rfl f9_sb e8_sb (Or.inl (own_h hw 40 rfl)) (own_h hw 24 rfl) (ty := (.array .byte)) (by decide) (rfl) (rfl) (g := (mkF m 35 #[.val (.ref sb), .val (.int mc), .val (.int 16)] [(.ref t0), (.ref sb)])) rfl rfl (hb hby own_d11_35)
  have Fw10 := f9_sb.same W10
  have N10 := Fr.snoc X10 N7 g_sb
  refine own_by (g' := (mkF m 38 #[.val (.ref sb), .val (.int mc), .val (.int 16)] [])) st10 ?_
  have k11_ := (((Keep.refl h0 [sb]).trans Kq7 all0).wr W10 (Or.inl (List.mem_of_getElem? (i := 0) rfl)))
  have e12_t0 := (Et7.wr W10)
  have r13_t0 := (Rt7.other W10 (Ne.symm ne_sb_t0))
  have f14_sb := ((C_sb.keep Kq7 nin0).other W10 (Or.inr (slot_ne (Or.inl (own_h hw 42 rfl)) (Or.inl (own_h hw 40 rfl)) (by decide) (t := .byte) (t' := (.array .byte)) (by decide) (by decide))))
  have f15_sb := ((N_sb.keep Kq7 nin0).other W10 (Or.inr (slot_ne (Or.inl (own_h hw 73 rfl)) (Or.inl (own_h hw 40 rfl)) (by decide) (t := .int) (t' := (.array .byte)) (by decide) (by decide))))
  exact own_end X10 (v := none) (fun _ => rfl) hlk (fun hr => X10.returnOut hx Bd.returns (hb hby own_d11_38) hr) (by rw [e10]; exact ⟨rfl, N10, k11_, t0, sz_t0, g7, e12_t0, r13_t0, Fw10, f14_sb, f15_sb⟩) (by decide) (by decide)
theorem own_d8_0 : decode jdk_68_method_22_code 0 = .ok (.aload_n 1, 1) := by decide +kernel
theorem own_d8_1 : decode jdk_68_method_22_code 1 = .ok (.ifnonnull 8, 3) := by decide +kernel
theorem own_d8_9 : decode jdk_68_method_22_code 9 = .ok (.aload_n 1, 1) := by decide +kernel
theorem own_d8_10 : decode jdk_68_method_22_code 10 = .ok (.invokevirtual 32, 3) := by decide +kernel
theorem own_pd__28_29I : parseMethodDescriptor "()I" = some ⟨[], some .int⟩ := by decide +kernel
theorem own_d8_13 : decode jdk_68_method_22_code 13 = .ok (.istore_n 2, 1) := by decide +kernel
theorem own_d8_14 : decode jdk_68_method_22_code 14 = .ok (.aload_n 0, 1) := by decide +kernel
theorem own_d8_15 : decode jdk_68_method_22_code 15 = .ok (.aload_n 0, 1) := by decide +kernel
theorem own_d8_16 : decode jdk_68_method_22_code 16 = .ok (.getfield 79, 3) := by decide +kernel
theorem own_d8_19 : decode jdk_68_method_22_code 19 = .ok (.iload_n 2, 1) := by decide +kernel
theorem own_d8_20 : decode jdk_68_method_22_code 20 = .ok (.iadd, 1) := by decide +kernel
theorem own_d8_21 : decode jdk_68_method_22_code 21 = .ok (.invokevirtual 100, 3) := by decide +kernel
theorem own_pd__28I_29V : parseMethodDescriptor "(I)V" = some ⟨[.int], none⟩ := by decide +kernel
theorem own_d8_24 : decode jdk_68_method_22_code 24 = .ok (.aload_n 0, 1) := by decide +kernel
theorem own_d8_25 : decode jdk_68_method_22_code 25 = .ok (.aload_n 0, 1) := by decide +kernel
theorem own_d8_26 : decode jdk_68_method_22_code 26 = .ok (.getfield 79, 3) := by decide +kernel
theorem own_d8_29 : decode jdk_68_method_22_code 29 = .ok (.aload_n 1, 1) := by decide +kernel
theorem own_d8_30 : decode jdk_68_method_22_code 30 = .ok (.invokevirtual 208, 3) := by decide +kernel
theorem own_pd__28ILjava_2flang_2fString_3b_29V : parseMethodDescriptor "(ILjava/lang/String;)V" = some ⟨[.int, (.object "java/lang/String")], none⟩ := by decide +kernel
theorem own_d8_33 : decode jdk_68_method_22_code 33 = .ok (.aload_n 0, 1) := by decide +kernel
theorem own_d8_34 : decode jdk_68_method_22_code 34 = .ok (.dup, 1) := by decide +kernel
theorem own_d8_35 : decode jdk_68_method_22_code 35 = .ok (.getfield 79, 3) := by decide +kernel
theorem own_d8_38 : decode jdk_68_method_22_code 38 = .ok (.iload_n 2, 1) := by decide +kernel
theorem own_d8_39 : decode jdk_68_method_22_code 39 = .ok (.iadd, 1) := by decide +kernel
theorem own_d8_40 : decode jdk_68_method_22_code 40 = .ok (.putfield 79, 3) := by decide +kernel
theorem own_d8_43 : decode jdk_68_method_22_code 43 = .ok (.aload_n 0, 1) := by decide +kernel
theorem own_d8_44 : decode jdk_68_method_22_code 44 = .ok (.areturn, 1) := by decide +kernel
theorem own_apN_ef (m : MethodId) (sb : Addr) (s0 : Addr) : entryFrame m #[(.ref sb), (.ref s0)] 3 = mkF m 0 #[.val (.ref sb), .val (.ref s0), .unset] [] := by  first | (simp [entryFrame, mkF, argsToLocals, Value.category]; done) | rfl
def own_apN_Q (Z : State) (sb : Addr) (s0 : Addr) (bv : Addr) (b : Addr) (n : Int32) (z : Int32) (cn : Int32) (zCS : Int32) (dO : Addr) (dT : Addr) (ca : Addr) (cO : Cell) (cT : Cell) (cc : Cell) (h0 : Heap) (n0 : Nat) (v : Option Value) (h : Heap) (L : List Loc) : Prop := v = some (.ref sb) ∧ Fr n0 L ∧ Keep h0 h [sb, bv] ∧ Fld Z h sb "java/lang/AbstractStringBuilder" "value" "[B" (.ref bv) ∧ Fld Z h sb "java/lang/AbstractStringBuilder" "coder" "B" (.int 0) ∧ Fld Z h sb "java/lang/AbstractStringBuilder" "count" "I" (.int (cn + n)) ∧ own_By Z h bv z
set_option maxRecDepth 65536 in
set_option maxHeartbeats 40000000 in
theorem own_apN (l : Launch) (Z : State) (a0 : Array Value) (hw : ∀ d ∈ tables_1, d.before a0 Z = true) (ws : List Jvm.Cond) (sb : Addr) (s0 : Addr) (bv : Addr) (b : Addr) (n : Int32) (z : Int32) (cn : Int32) (zCS : Int32) (dO : Addr) (dT : Addr) (ca : Addr) (cO : Cell) (cT : Cell) (cc : Cell) (h0 : Heap) (n0 : Nat) (Z0 : n0 ≤ h0.size) (Cq : own_C Z zCS dO dT ca cO cT cc) (O0 : Old Z n0 h0) (E_sb : Exa Z h0 sb "java/lang/StringBuilder") (V_sb : Fld Z h0 sb "java/lang/AbstractStringBuilder" "value" "[B" (.ref bv)) (C_sb : Fld Z h0 sb "java/lang/AbstractStringBuilder" "coder" "B" (.int 0)) (N_sb : Fld Z h0 sb "java/lang/AbstractStringBuilder" "count" "I" (.int cn)) (E_s0 : Exa Z h0 s0 "java/lang/String") (V_s0 : Fld Z h0 s0 "java/lang/String" "value" "[B" (.ref b)) (C_s0 : Fld Z h0 s0 "java/lang/String" "coder" "B" (.int 0)) (R_b : own_By Z h0 b n) (g_sb : n0 ≤ sb) (R_v : own_By Z h0 bv z) (g_v : n0 ≤ bv) (n_sv : sb ≠ bv) (hi : ¬ cn < 0) (h5 : cn.toNatClampNeg + n.toNatClampNeg ≤ z.toNatClampNeg) (hng : ¬ (0 : Int32) < ((cn + n) - z)) :
    MetFree l own_y5 (head1 (Jvm.Cond.code own_y5 jdk_68_method_22_code 3 (some (.object "java/lang/AbstractStringBuilder")) :: ws) (⟨3, 0, 0, 47⟩ : Room)) (fun aa U => aa = #[(.ref sb), (.ref s0)] ∧ Z.Warmed39 U.vm ∧ U.heap = h0) (fun _ _ _ _ _ => True) (fun _ U o U' => ∃ v L, o = .returned v ∧ own_apN_Q Z sb s0 bv b n z cn zCS dO dT ca cO cT cc h0 n0 v U'.heap L ∧ FrameEnd U o U' L (⟨3, 0, 0, 47⟩ : Room).cells (⟨3, 0, 0, 47⟩ : Room).slots) := by
  refine MetFree.of_bodySF (plainFor_of_name own_pn_java_lang_AbstractStringBuilder) hisR ?_
  intro p e s m args below meth c s₁ Bd hml0 hP hK
  obtain ⟨rfl, hZ, hh⟩ := hP
  have hx := Bd.exec
  have hby := Bd.bytes
  have hml : c.maxLocals = 3 := hml0
  have hown : s.vm.findClass "java/lang/AbstractStringBuilder" = some m.cls := findClass_of_methodNamed Bd.named
  have hnm := (name_of_methodNamed Bd.named Bd.method).1
  have hlk := Bd.notSynchronized
  have X0 : Stand p l e (⟨3, 0, 0, 47⟩ : Room) s m #[(.ref sb), (.ref s0)] below meth c s₁ [] 0 0 := Stand.of_body Bd
  have e0 : s₁.heap = h0 := by rw [← hh, Bd.state]; rfl
  have N0 := Fr.nil n0
  refine own_start (Q := own_apN_Q Z sb s0 bv b n z cn zCS dO dT ca cO cT cc h0 n0) (own_apN_ef m sb s0) ?_
  refine own_g (mkF m 10 #[.val (.ref sb), .val (.ref s0), .unset] [(.ref s0)]) (fun _ q => XS.aloadN X0.here hx rfl (hb hby own_d8_0) rfl rfl (XS.ifnonnullYes X0.here hx rfl (pc0 := 1) (pc' := 9) rfl (hb hby own_d8_1) rfl (by decide) (by decide) (XS.aloadN X0.here hx rfl (hb hby own_d8_9) rfl rfl q))) ?_
  refine own_callV X0 hx hZ (y := own_y30) (z := own_y30) hown (own_h hw 59 rfl) (own_h hw 60 rfl) (own_nf (own_h hw 62 rfl)) (own_h hw 62 rfl) (own_h hw 61 rfl) (own_h hw 63 rfl) (own_h hw 37 rfl) (by decide) E_s0 (own_len1 l Z a0 hw [] s0 b n zCS dO dT ca cO cT cc h0 n0 (Nat.le_trans Z0 (Keep.refl h0 [sb, bv]).1) Cq O0 E_s0 V_s0 C_s0 R_b) (by decide) (by decide) e0 (g := (mkF m 10 #[.val (.ref sb), .val (.ref s0), .unset] [(.ref s0)])) rfl (by rw [hml]; rfl) (argsL := []) (rest := []) (lenOf own_pd__28_29I rfl) rfl (W := 0) (by show 2 * 0 + _ ≤ _; exact Nat.le_of_eq rfl) (hb hby own_d8_10) rfl (by decide) (by decide) ?_
  rintro rv1 T1 L1 X1 ⟨rfl, Nq1, eh1⟩
  have N1 := Fr.app N0 Nq1
  refine own_g (mkF m 16 #[.val (.ref sb), .val (.ref s0), .val (.int n)] [(.ref sb), (.ref sb)]) (fun _ q => XS.istoreN X1.here hx rfl (hb hby own_d8_13) rfl (l' := #[.val (.ref sb), .val (.ref s0), .val (.int n)]) rfl (XS.aloadN X1.here hx rfl (hb hby own_d8_14) rfl rfl (XS.aloadN X1.here hx rfl (hb hby own_d8_15) rfl rfl q))) ?_
  obtain ⟨T2, X2, e2, st2⟩ := getF X1 hx hZ hown (host := "") (Or.inl (own_h hw 72 rfl)) Via.refl eh1 N_sb (g := (mkF m 16 #[.val (.ref sb), .val (.ref s0), .val (.int n)] [(.ref sb), (.ref sb)])) rfl rfl (hb hby own_d8_16)
  refine own_by (g' := (mkF m 19 #[.val (.ref sb), .val (.ref s0), .val (.int n)] [(.int cn), (.ref sb)])) st2 ?_
  refine own_g (mkF m 21 #[.val (.ref sb), .val (.ref s0), .val (.int n)] [(.int (cn + n)), (.ref sb)]) (fun _ q => XS.iloadN X2.here hx rfl (hb hby own_d8_19) rfl (XS.iadd X2.here hx rfl (hb hby own_d8_20) rfl q)) ?_
  refine own_callV X2 hx hZ (y := own_y6) (z := own_y6) hown (own_h hw 74 rfl) (own_decl (own_h hw 75 rfl) (own_h hw 78 rfl)) (own_nf (own_h hw 77 rfl)) (own_h hw 77 rfl) (own_h hw 75 rfl) (own_h hw 78 rfl) (own_h hw 33 rfl) (by decide) E_sb (own_ecN l Z a0 hw [] sb (cn + n) bv z cn zCS dO dT ca cO cT cc h0 n0 (Nat.le_trans Z0 (Keep.refl h0 [sb, bv]).1) Cq O0 E_sb V_sb C_sb N_sb R_v hng) (by decide) (by decide) e2 (g := (mkF m 21 #[.val (.ref sb), .val (.ref s0), .val (.int n)] [(.int (cn + n)), (.ref sb)])) rfl (by rw [hml]; rfl) (argsL := [(.int (cn + n))]) (rest := []) (lenOf own_pd__28I_29V rfl) rfl (W := 0) (by show 2 * 0 + _ ≤ _; exact Nat.le_of_eq rfl) (hb hby own_d8_21) rfl (by decide) (by decide) ?_
  rintro rv3 T3 L3 X3 ⟨rfl, Nq3, eh3⟩
  have N3 := Fr.app N1 Nq3
  refine own_g (mkF m 26 #[.val (.ref sb), .val (.ref s0), .val (.int n)] [(.ref sb), (.ref sb)]) (fun _ q => XS.aloadN X3.here hx rfl (hb hby own_d8_24) rfl rfl (XS.aloadN X3.here hx rfl (hb hby own_d8_25) rfl rfl q)) ?_
  obtain ⟨T4, X4, e4, st4⟩ := getF X3 hx hZ hown (host := "") (Or.inl (own_h hw 72 rfl)) Via.refl eh3 N_sb (g := (mkF m 26 #[.val (.ref sb), .val (.ref s0), .val (.int n)] [(.ref sb), (.ref sb)])) rfl rfl (hb hby own_d8_26)
  refine own_by (g' := (mkF m 29 #[.val (.ref sb), .val (.ref s0), .val (.int n)] [(.int cn), (.ref sb)])) st4 ?_
  refine own_g (mkF m 30 #[.val (.ref sb), .val (.ref s0), .val (.int n)] [(.ref s0), (.int cn), (.ref sb)]) (fun _ q => XS.aloadN X4.here hx rfl (hb hby own_d8_29) rfl rfl q) ?_
  refine own_callV X4 hx hZ (y := own_y12) (z := own_y12) hown (own_h hw 79 rfl) (own_decl (own_h hw 80 rfl) (own_h hw 83 rfl)) (own_nf (own_h hw 82 rfl)) (own_h hw 82 rfl) (own_h hw 80 rfl) (own_h hw 83 rfl) (own_h hw 33 rfl) (by decide) E_sb (own_ps l Z a0 hw [] sb cn s0 bv b n z cn zCS dO dT ca cO cT cc h0 n0 (Nat.le_trans Z0 (Keep.refl h0 [sb, bv]).1) Cq O0 E_sb V_sb C_sb N_sb E_s0 V_s0 C_s0 R_b R_v g_v hi h5) (by decide) (by decide) e4 (g := (mkF m 30 #[.val (.ref sb), .val (.ref s0), .val (.int n)] [(.ref s0), (.int cn), (.ref sb)])) rfl (by rw [hml]; rfl) (argsL := [(.int cn), (.ref s0)]) (rest := []) (lenOf own_pd__28ILjava_2flang_2fString_3b_29V rfl) rfl (W := 0) (by show 2 * 0 + _ ≤ _; exact Nat.le_of_eq rfl) (hb hby own_d8_30) rfl (by decide) (by decide) ?_
  rintro rv5 T5 L5 X5 ⟨rfl, Nq5, Kq5, Rq5⟩
  have N5 := Fr.app N3 Nq5
  refine own_g (mkF m 35 #[.val (.ref sb), .val (.ref s0), .val (.int n)] [(.ref sb), (.ref sb)]) (fun _ q => XS.aloadN X5.here hx rfl (hb hby own_d8_33) rfl rfl (XS.dup X5.here hx rfl (hb hby own_d8_34) rfl rfl q)) ?_
  have f6_sb := (N_sb.keep Kq5 (ninS n_sv nin0))
  obtain ⟨T7, X7, e7, st7⟩ := getF X5 hx hZ hown (host := "") (Or.inl (own_h hw 72 rfl)) Via.refl rfl f6_sb (g := (mkF m 35 #[.val (.ref sb), .val (.ref s0), .val (.int n)] [(.ref sb), (.ref sb)])) rfl rfl (hb hby own_d8_35)
  refine own_by (g' := (mkF m 38 #[.val (.ref sb), .val (.ref s0), .val (.int n)] [(.int cn), (.ref sb)])) st7 ?_
  refine own_g (mkF m 40 #[.val (.ref sb), .val (.ref s0), .val (.int n)] [(.int (cn + n)), (.ref sb)]) (fun _ q => XS.iloadN X7.here hx rfl (hb hby own_d8_38) rfl (XS.iadd X7.here hx rfl (hb hby own_d8_39) rfl q)) ?_
  have e8_sb := (E_sb.keep Kq5)
  obtain ⟨T9, h9, X9, e9, W9, st9⟩ := putF X7 hx hZ hown (host := "") (Or.inl (own_h hw 72 rfl)) Via.refl e7 f6_sb e8_sb (Or.inl (own_h hw 73 rfl)) (own_h hw 24 rfl) (ty := .int) (by decide) (rfl) (rfl) (g := (mkF m 40 #[.val (.ref sb), .val (.ref s0), .val (.int n)] [(.int (cn + n)), (.ref sb)])) rfl rfl (hb hby own_d8_40)
  have Fw9 := f6_sb.same W9
  have N9 := Fr.snoc X9 N5 g_sb
  refine own_by (g' := (mkF m 43 #[.val (.ref sb), .val (.ref s0), .val (.int n)] [])) st9 ?_
  refine own_g (mkF m 44 #[.val (.ref sb), .val (.ref s0), .val (.int n)] [(.ref sb)]) (fun _ q => XS.aloadN X9.here hx rfl (hb hby own_d8_43) rfl rfl q) ?_
  have k10_ := (((Keep.refl h0 [sb, bv]).trans Kq5 (allS (Or.inl (List.mem_of_getElem? (i := 1) rfl)) all0)).wr W9 (Or.inl (List.mem_of_getElem? (i := 0) rfl)))
  have f11_sb := ((V_sb.keep Kq5 (ninS n_sv nin0)).other W9 (Or.inr (slot_ne (Or.inl (own_h hw 40 rfl)) (Or.inl (own_h hw 73 rfl)) (by decide) (t := (.array .byte)) (t' := .int) (by decide) (by decide))))
  have f12_sb := ((C_sb.keep Kq5 (ninS n_sv nin0)).other W9 (Or.inr (slot_ne (Or.inl (own_h hw 42 rfl)) (Or.inl (own_h hw 73 rfl)) (by decide) (t := .byte) (t' := .int) (by decide) (by decide))))
  have r13_bv := (Rq5.other W9 (Ne.symm n_sv))
  exact own_end X9 (v := some (.ref sb)) (fun h => by rw [Bd.returns] at h; cases h) hlk (fun hr => retOut X9 hx Bd.returns (own_narR rfl) (Or.inr (Or.inr (Or.inr (Or.inr ⟨rfl, rfl, rfl⟩)))) (hb hby own_d8_44) hr) (by rw [e9]; exact ⟨rfl, N9, k10_, f11_sb, f12_sb, Fw9, r13_bv⟩) (by decide) (by decide)
theorem own_apG_ef (m : MethodId) (sb : Addr) (s0 : Addr) : entryFrame m #[(.ref sb), (.ref s0)] 3 = mkF m 0 #[.val (.ref sb), .val (.ref s0), .unset] [] := by  first | (simp [entryFrame, mkF, argsToLocals, Value.category]; done) | rfl
def own_apG_Q (Z : State) (sb : Addr) (s0 : Addr) (bv : Addr) (b : Addr) (n : Int32) (cn : Int32) (zCS : Int32) (dO : Addr) (dT : Addr) (ca : Addr) (cO : Cell) (cT : Cell) (cc : Cell) (h0 : Heap) (n0 : Nat) (v : Option Value) (h : Heap) (L : List Loc) : Prop := v = some (.ref sb) ∧ Fr n0 L ∧ Keep h0 h [sb] ∧ ∃ t : Addr, h0.size ≤ t ∧ n0 ≤ t ∧ Exa Z h t "[B" ∧ own_By Z h t (34 : Int32) ∧ Fld Z h sb "java/lang/AbstractStringBuilder" "value" "[B" (.ref t) ∧ Fld Z h sb "java/lang/AbstractStringBuilder" "coder" "B" (.int 0) ∧ Fld Z h sb "java/lang/AbstractStringBuilder" "count" "I" (.int (cn + n))
set_option maxRecDepth 65536 in
set_option maxHeartbeats 40000000 in
theorem own_apG (l : Launch) (Z : State) (a0 : Array Value) (hw : ∀ d ∈ tables_1, d.before a0 Z = true) (ws : List Jvm.Cond) (sb : Addr) (s0 : Addr) (bv : Addr) (b : Addr) (n : Int32) (cn : Int32) (zCS : Int32) (dO : Addr) (dT : Addr) (ca : Addr) (cO : Cell) (cT : Cell) (cc : Cell) (h0 : Heap) (n0 : Nat) (Z0 : n0 ≤ h0.size) (Cq : own_C Z zCS dO dT ca cO cT cc) (O0 : Old Z n0 h0) (E_sb : Exa Z h0 sb "java/lang/StringBuilder") (V_sb : Fld Z h0 sb "java/lang/AbstractStringBuilder" "value" "[B" (.ref bv)) (C_sb : Fld Z h0 sb "java/lang/AbstractStringBuilder" "coder" "B" (.int 0)) (N_sb : Fld Z h0 sb "java/lang/AbstractStringBuilder" "count" "I" (.int cn)) (E_s0 : Exa Z h0 s0 "java/lang/String") (V_s0 : Fld Z h0 s0 "java/lang/String" "value" "[B" (.ref b)) (C_s0 : Fld Z h0 s0 "java/lang/String" "coder" "B" (.int 0)) (R_b : own_By Z h0 b n) (g_sb : n0 ≤ sb) (R_v : own_By Z h0 bv (16 : Int32)) (n_ss : s0 ≠ sb) (n_bs : b ≠ sb) (hi : ¬ cn < 0) (h5 : cn.toNatClampNeg + n.toNatClampNeg ≤ (34 : Int32).toNatClampNeg) (hgr : (0 : Int32) < ((cn + n) - (16 : Int32))) (hg : ((cn + n) - (16 : Int32)) < (18 : Int32)) :
    MetFree l own_y5 (head1 (Jvm.Cond.code own_y5 jdk_68_method_22_code 3 (some (.object "java/lang/AbstractStringBuilder")) :: ws) (⟨4, 1, 34, 62⟩ : Room)) (fun aa U => aa = #[(.ref sb), (.ref s0)] ∧ Z.Warmed39 U.vm ∧ U.heap = h0) (fun _ _ _ _ _ => True) (fun _ U o U' => ∃ v L, o = .returned v ∧ own_apG_Q Z sb s0 bv b n cn zCS dO dT ca cO cT cc h0 n0 v U'.heap L ∧ FrameEnd U o U' L (⟨4, 1, 34, 62⟩ : Room).cells (⟨4, 1, 34, 62⟩ : Room).slots) := by
  refine MetFree.of_bodySF (plainFor_of_name own_pn_java_lang_AbstractStringBuilder) hisR ?_
  intro p e s m args below meth c s₁ Bd hml0 hP hK
  obtain ⟨rfl, hZ, hh⟩ := hP
  have hx := Bd.exec
  have hby := Bd.bytes
  have hml : c.maxLocals = 3 := hml0
  have hown : s.vm.findClass "java/lang/AbstractStringBuilder" = some m.cls := findClass_of_methodNamed Bd.named
  have hnm := (name_of_methodNamed Bd.named Bd.method).1
  have hlk := Bd.notSynchronized
  have X0 : Stand p l e (⟨4, 1, 34, 62⟩ : Room) s m #[(.ref sb), (.ref s0)] below meth c s₁ [] 0 0 := Stand.of_body Bd
  have e0 : s₁.heap = h0 := by rw [← hh, Bd.state]; rfl
  have N0 := Fr.nil n0
  refine own_start (Q := own_apG_Q Z sb s0 bv b n cn zCS dO dT ca cO cT cc h0 n0) (own_apG_ef m sb s0) ?_
  refine own_g (mkF m 10 #[.val (.ref sb), .val (.ref s0), .unset] [(.ref s0)]) (fun _ q => XS.aloadN X0.here hx rfl (hb hby own_d8_0) rfl rfl (XS.ifnonnullYes X0.here hx rfl (pc0 := 1) (pc' := 9) rfl (hb hby own_d8_1) rfl (by decide) (by decide) (XS.aloadN X0.here hx rfl (hb hby own_d8_9) rfl rfl q))) ?_
  refine own_callV X0 hx hZ (y := own_y30) (z := own_y30) hown (own_h hw 59 rfl) (own_h hw 60 rfl) (own_nf (own_h hw 62 rfl)) (own_h hw 62 rfl) (own_h hw 61 rfl) (own_h hw 63 rfl) (own_h hw 37 rfl) (by decide) E_s0 (own_len1 l Z a0 hw [] s0 b n zCS dO dT ca cO cT cc h0 n0 (Nat.le_trans Z0 (Keep.refl h0 [sb]).1) Cq O0 E_s0 V_s0 C_s0 R_b) (by decide) (by decide) e0 (g := (mkF m 10 #[.val (.ref sb), .val (.ref s0), .unset] [(.ref s0)])) rfl (by rw [hml]; rfl) (argsL := []) (rest := []) (lenOf own_pd__28_29I rfl) rfl (W := 0) (by show 2 * 0 + _ ≤ _; exact Nat.le_of_eq rfl) (hb hby own_d8_10) rfl (by decide) (by decide) ?_
  rintro rv1 T1 L1 X1 ⟨rfl, Nq1, eh1⟩
  have N1 := Fr.app N0 Nq1
  refine own_g (mkF m 16 #[.val (.ref sb), .val (.ref s0), .val (.int n)] [(.ref sb), (.ref sb)]) (fun _ q => XS.istoreN X1.here hx rfl (hb hby own_d8_13) rfl (l' := #[.val (.ref sb), .val (.ref s0), .val (.int n)]) rfl (XS.aloadN X1.here hx rfl (hb hby own_d8_14) rfl rfl (XS.aloadN X1.here hx rfl (hb hby own_d8_15) rfl rfl q))) ?_
  obtain ⟨T2, X2, e2, st2⟩ := getF X1 hx hZ hown (host := "") (Or.inl (own_h hw 72 rfl)) Via.refl eh1 N_sb (g := (mkF m 16 #[.val (.ref sb), .val (.ref s0), .val (.int n)] [(.ref sb), (.ref sb)])) rfl rfl (hb hby own_d8_16)
  refine own_by (g' := (mkF m 19 #[.val (.ref sb), .val (.ref s0), .val (.int n)] [(.int cn), (.ref sb)])) st2 ?_
  refine own_g (mkF m 21 #[.val (.ref sb), .val (.ref s0), .val (.int n)] [(.int (cn + n)), (.ref sb)]) (fun _ q => XS.iloadN X2.here hx rfl (hb hby own_d8_19) rfl (XS.iadd X2.here hx rfl (hb hby own_d8_20) rfl q)) ?_
  refine own_callV X2 hx hZ (y := own_y6) (z := own_y6) hown (own_h hw 74 rfl) (own_decl (own_h hw 75 rfl) (own_h hw 78 rfl)) (own_nf (own_h hw 77 rfl)) (own_h hw 77 rfl) (own_h hw 75 rfl) (own_h hw 78 rfl) (own_h hw 33 rfl) (by decide) E_sb (own_ecG l Z a0 hw [] sb (cn + n) bv cn zCS dO dT ca cO cT cc h0 n0 (Nat.le_trans Z0 (Keep.refl h0 [sb]).1) Cq O0 E_sb V_sb C_sb N_sb R_v g_sb hgr hg) (by decide) (by decide) e2 (g := (mkF m 21 #[.val (.ref sb), .val (.ref s0), .val (.int n)] [(.int (cn + n)), (.ref sb)])) rfl (by rw [hml]; rfl) (argsL := [(.int (cn + n))]) (rest := []) (lenOf own_pd__28I_29V rfl) rfl (W := 0) (by show 2 * 0 + _ ≤ _; exact Nat.le_of_eq rfl) (hb hby own_d8_21) rfl (by decide) (by decide) ?_
  rintro rv3 T3 L3 X3 ⟨rfl, Nq3, Kq3, t0, sz3, g3, Et3, Rt3, Fv3, Fc3, Fn3⟩
  have N3 := Fr.app N1 Nq3
  show own_Fin p e below _ T3 (mkF m 24 #[.val (.ref sb), .val (.ref s0), .val (.int n)] [])
  have ne_sb_t0 : sb ≠ t0 := Nat.ne_of_lt (Nat.lt_of_lt_of_le E_sb.lt sz3)
  have ne_s0_t0 : s0 ≠ t0 := Nat.ne_of_lt (Nat.lt_of_lt_of_le E_s0.lt sz3)
  have ne_b_t0 : b ≠ t0 := Nat.ne_of_lt (Nat.lt_of_lt_of_le R_b.lt sz3)
  have ne_bv_t0 : bv ≠ t0 := Nat.ne_of_lt (Nat.lt_of_lt_of_le R_v.lt sz3)
  have sz_t0 := Nat.le_trans (Keep.refl h0 [sb]).1 sz3
  refine own_g (mkF m 26 #[.val (.ref sb), .val (.ref s0), .val (.int n)] [(.ref sb), (.ref sb)]) (fun _ q => XS.aloadN X3.here hx rfl (hb hby own_d8_24) rfl rfl (XS.aloadN X3.here hx rfl (hb hby own_d8_25) rfl rfl q)) ?_
  obtain ⟨T4, X4, e4, st4⟩ := getF X3 hx hZ hown (host := "") (Or.inl (own_h hw 72 rfl)) Via.refl rfl Fn3 (g := (mkF m 26 #[.val (.ref sb), .val (.ref s0), .val (.int n)] [(.ref sb), (.ref sb)])) rfl rfl (hb hby own_d8_26)
  refine own_by (g' := (mkF m 29 #[.val (.ref sb), .val (.ref s0), .val (.int n)] [(.int cn), (.ref sb)])) st4 ?_
  refine own_g (mkF m 30 #[.val (.ref sb), .val (.ref s0), .val (.int n)] [(.ref s0), (.int cn), (.ref sb)]) (fun _ q => XS.aloadN X4.here hx rfl (hb hby own_d8_29) rfl rfl q) ?_
  have e5_sb := (E_sb.keep Kq3)
  have e6_s0 := (E_s0.keep Kq3)
  have f7_s0 := (V_s0.keep Kq3 (ninS n_ss nin0))
  have f8_s0 := (C_s0.keep Kq3 (ninS n_ss nin0))
  have r9_b := (R_b.keep Kq3 (ninS n_bs nin0))
  have k10_ := ((Keep.refl h0 [sb]).trans Kq3 (allS (Or.inl (List.mem_of_getElem? (i := 0) rfl)) all0))
  have o11_ := (O0.keep Kq3 (allS g_sb all0))
  refine own_callV X4 hx hZ (y := own_y12) (z := own_y12) hown (own_h hw 79 rfl) (own_decl (own_h hw 80 rfl) (own_h hw 83 rfl)) (own_nf (own_h hw 82 rfl)) (own_h hw 82 rfl) (own_h hw 80 rfl) (own_h hw 83 rfl) (own_h hw 33 rfl) (by decide) e5_sb (own_ps l Z a0 hw [] sb cn s0 t0 b n (34 : Int32) cn zCS dO dT ca cO cT cc T3.heap n0 (Nat.le_trans Z0 k10_.1) Cq o11_ e5_sb Fv3 Fc3 Fn3 e6_s0 f7_s0 f8_s0 r9_b Rt3 g3 hi h5) (by decide) (by decide) e4 (g := (mkF m 30 #[.val (.ref sb), .val (.ref s0), .val (.int n)] [(.ref s0), (.int cn), (.ref sb)])) rfl (by rw [hml]; rfl) (argsL := [(.int cn), (.ref s0)]) (rest := []) (lenOf own_pd__28ILjava_2flang_2fString_3b_29V rfl) rfl (W := 0) (by show 2 * 0 + _ ≤ _; exact Nat.le_of_eq rfl) (hb hby own_d8_30) rfl (by decide) (by decide) ?_
  rintro rv12 T12 L12 X12 ⟨rfl, Nq12, Kq12, Rq12⟩
  have N12 := Fr.app N3 Nq12
  refine own_g (mkF m 35 #[.val (.ref sb), .val (.ref s0), .val (.int n)] [(.ref sb), (.ref sb)]) (fun _ q => XS.aloadN X12.here hx rfl (hb hby own_d8_33) rfl rfl (XS.dup X12.here hx rfl (hb hby own_d8_34) rfl rfl q)) ?_
  have f13_sb := (Fn3.keep Kq12 (ninS ne_sb_t0 nin0))
  obtain ⟨T14, X14, e14, st14⟩ := getF X12 hx hZ hown (host := "") (Or.inl (own_h hw 72 rfl)) Via.refl rfl f13_sb (g := (mkF m 35 #[.val (.ref sb), .val (.ref s0), .val (.int n)] [(.ref sb), (.ref sb)])) rfl rfl (hb hby own_d8_35)
  refine own_by (g' := (mkF m 38 #[.val (.ref sb), .val (.ref s0), .val (.int n)] [(.int cn), (.ref sb)])) st14 ?_
  refine own_g (mkF m 40 #[.val (.ref sb), .val (.ref s0), .val (.int n)] [(.int (cn + n)), (.ref sb)]) (fun _ q => XS.iloadN X14.here hx rfl (hb hby own_d8_38) rfl (XS.iadd X14.here hx rfl (hb hby own_d8_39) rfl q)) ?_
  have e15_sb := (e5_sb.keep Kq12)
  obtain ⟨T16, h16, X16, e16, W16, st16⟩ := putF X14 hx hZ hown (host := "") (Or.inl (own_h hw 72 rfl)) Via.refl e14 f13_sb e15_sb (Or.inl (own_h hw 73 rfl)) (own_h hw 24 rfl) (ty := .int) (by decide) (rfl) (rfl) (g := (mkF m 40 #[.val (.ref sb), .val (.ref s0), .val (.int n)] [(.int (cn + n)), (.ref sb)])) rfl rfl (hb hby own_d8_40)
  have Fw16 := f13_sb.same W16
  have N16 := Fr.snoc X16 N12 g_sb
  refine own_by (g' := (mkF m 43 #[.val (.ref sb), .val (.ref s0), .val (.int n)] [])) st16 ?_
  refine own_g (mkF m 44 #[.val (.ref sb), .val (.ref s0), .val (.int n)] [(.ref sb)]) (fun _ q => XS.aloadN X16.here hx rfl (hb hby own_d8_43) rfl rfl q) ?_
  have k17_ := ((k10_.trans Kq12 (allS (Or.inr sz_t0) all0)).wr W16 (Or.inl (List.mem_of_getElem? (i := 0) rfl)))
  have e18_t0 := ((Et3.keep Kq12).wr W16)
  have r19_t0 := (Rq12.other W16 (Ne.symm ne_sb_t0))
  have f20_sb := ((Fv3.keep Kq12 (ninS ne_sb_t0 nin0)).other W16 (Or.inr (slot_ne (Or.inl (own_h hw 40 rfl)) (Or.inl (own_h hw 73 rfl)) (by decide) (t := (.array .byte)) (t' := .int) (by decide) (by decide))))
  have f21_sb := ((Fc3.keep Kq12 (ninS ne_sb_t0 nin0)).other W16 (Or.inr (slot_ne (Or.inl (own_h hw 42 rfl)) (Or.inl (own_h hw 73 rfl)) (by decide) (t := .byte) (t' := .int) (by decide) (by decide))))
  exact own_end X16 (v := some (.ref sb)) (fun h => by rw [Bd.returns] at h; cases h) hlk (fun hr => retOut X16 hx Bd.returns (own_narR rfl) (Or.inr (Or.inr (Or.inr (Or.inr ⟨rfl, rfl, rfl⟩)))) (hb hby own_d8_44) hr) (by rw [e16]; exact ⟨rfl, N16, k17_, t0, sz_t0, g3, e18_t0, r19_t0, f20_sb, f21_sb, Fw16⟩) (by decide) (by decide)
theorem own_d7_0 : decode jdk_67_method_7_code 0 = .ok (.aload_n 0, 1) := by decide +kernel
theorem own_d7_1 : decode jdk_67_method_7_code 1 = .ok (.aload_n 1, 1) := by decide +kernel
theorem own_d7_2 : decode jdk_67_method_7_code 2 = .ok (.invokespecial 29, 3) := by decide +kernel
theorem own_pd__28Ljava_2flang_2fString_3b_29Ljava_2flang_2fAbstractStringBuilder_3b : parseMethodDescriptor "(Ljava/lang/String;)Ljava/lang/AbstractStringBuilder;" = some ⟨[(.object "java/lang/String")], some (.object "java/lang/AbstractStringBuilder")⟩ := by decide +kernel
theorem own_d7_5 : decode jdk_67_method_7_code 5 = .ok (.pop, 1) := by decide +kernel
theorem own_d7_6 : decode jdk_67_method_7_code 6 = .ok (.aload_n 0, 1) := by decide +kernel
theorem own_d7_7 : decode jdk_67_method_7_code 7 = .ok (.areturn, 1) := by decide +kernel
theorem own_saN_ef (m : MethodId) (sb : Addr) (s0 : Addr) : entryFrame m #[(.ref sb), (.ref s0)] 2 = mkF m 0 #[.val (.ref sb), .val (.ref s0)] [] := by  first | (simp [entryFrame, mkF, argsToLocals, Value.category]; done) | rfl
def own_saN_Q (Z : State) (sb : Addr) (s0 : Addr) (bv : Addr) (b : Addr) (n : Int32) (z : Int32) (cn : Int32) (zCS : Int32) (dO : Addr) (dT : Addr) (ca : Addr) (cO : Cell) (cT : Cell) (cc : Cell) (h0 : Heap) (n0 : Nat) (v : Option Value) (h : Heap) (L : List Loc) : Prop := v = some (.ref sb) ∧ Fr n0 L ∧ Keep h0 h [sb, bv] ∧ Fld Z h sb "java/lang/AbstractStringBuilder" "value" "[B" (.ref bv) ∧ Fld Z h sb "java/lang/AbstractStringBuilder" "coder" "B" (.int 0) ∧ Fld Z h sb "java/lang/AbstractStringBuilder" "count" "I" (.int (cn + n)) ∧ own_By Z h bv z
theorem own_pn_java_lang_StringBuilder : plainName "java/lang/StringBuilder" = true := by first | (simp [plainName, overriddenIn]; done) | decide +kernel
set_option maxRecDepth 65536 in
set_option maxHeartbeats 40000000 in
theorem own_saN (l : Launch) (Z : State) (a0 : Array Value) (hw : ∀ d ∈ tables_1, d.before a0 Z = true) (ws : List Jvm.Cond) (sb : Addr) (s0 : Addr) (bv : Addr) (b : Addr) (n : Int32) (z : Int32) (cn : Int32) (zCS : Int32) (dO : Addr) (dT : Addr) (ca : Addr) (cO : Cell) (cT : Cell) (cc : Cell) (h0 : Heap) (n0 : Nat) (Z0 : n0 ≤ h0.size) (Cq : own_C Z zCS dO dT ca cO cT cc) (O0 : Old Z n0 h0) (E_sb : Exa Z h0 sb "java/lang/StringBuilder") (V_sb : Fld Z h0 sb "java/lang/AbstractStringBuilder" "value" "[B" (.ref bv)) (C_sb : Fld Z h0 sb "java/lang/AbstractStringBuilder" "coder" "B" (.int 0)) (N_sb : Fld Z h0 sb "java/lang/AbstractStringBuilder" "count" "I" (.int cn)) (E_s0 : Exa Z h0 s0 "java/lang/String") (V_s0 : Fld Z h0 s0 "java/lang/String" "value" "[B" (.ref b)) (C_s0 : Fld Z h0 s0 "java/lang/String" "coder" "B" (.int 0)) (R_b : own_By Z h0 b n) (g_sb : n0 ≤ sb) (R_v : own_By Z h0 bv z) (g_v : n0 ≤ bv) (n_sv : sb ≠ bv) (hi : ¬ cn < 0) (h5 : cn.toNatClampNeg + n.toNatClampNeg ≤ z.toNatClampNeg) (hng : ¬ (0 : Int32) < ((cn + n) - z)) :
    MetFree l own_y34 (head1 (Jvm.Cond.code own_y34 jdk_67_method_7_code 2 (some (.object "java/lang/StringBuilder")) :: ws) (⟨4, 0, 0, 61⟩ : Room)) (fun aa U => aa = #[(.ref sb), (.ref s0)] ∧ Z.Warmed39 U.vm ∧ U.heap = h0) (fun _ _ _ _ _ => True) (fun _ U o U' => ∃ v L, o = .returned v ∧ own_saN_Q Z sb s0 bv b n z cn zCS dO dT ca cO cT cc h0 n0 v U'.heap L ∧ FrameEnd U o U' L (⟨4, 0, 0, 61⟩ : Room).cells (⟨4, 0, 0, 61⟩ : Room).slots) := by
  refine MetFree.of_bodySF (plainFor_of_name own_pn_java_lang_StringBuilder) hisR ?_
  intro p e s m args below meth c s₁ Bd hml0 hP hK
  obtain ⟨rfl, hZ, hh⟩ := hP
  have hx := Bd.exec
  have hby := Bd.bytes
  have hml : c.maxLocals = 2 := hml0
  have hown : s.vm.findClass "java/lang/StringBuilder" = some m.cls := findClass_of_methodNamed Bd.named
  have hnm := (name_of_methodNamed Bd.named Bd.method).1
  have hlk := Bd.notSynchronized
  have X0 : Stand p l e (⟨4, 0, 0, 61⟩ : Room) s m #[(.ref sb), (.ref s0)] below meth c s₁ [] 0 0 := Stand.of_body Bd
  have e0 : s₁.heap = h0 := by rw [← hh, Bd.state]; rfl
  have N0 := Fr.nil n0
  refine own_start (Q := own_saN_Q Z sb s0 bv b n z cn zCS dO dT ca cO cT cc h0 n0) (own_saN_ef m sb s0) ?_
  refine own_g (mkF m 2 #[.val (.ref sb), .val (.ref s0)] [(.ref s0), (.ref sb)]) (fun _ q => XS.aloadN X0.here hx rfl (hb hby own_d7_0) rfl rfl (XS.aloadN X0.here hx rfl (hb hby own_d7_1) rfl rfl q)) ?_
  refine own_callP X0 hx hZ (y := own_y5) hown (own_h hw 54 rfl) (own_h hw 57 rfl) (own_nfc (y' := own_y5) (own_h hw 77 rfl) rfl) (own_h hw 55 rfl) (own_h hw 56 rfl) (own_h hw 58 rfl) (own_h hw 33 rfl) (by decide) (by decide) E_sb (own_apN l Z a0 hw [] sb s0 bv b n z cn zCS dO dT ca cO cT cc h0 n0 (Nat.le_trans Z0 (Keep.refl h0 [sb, bv]).1) Cq O0 E_sb V_sb C_sb N_sb E_s0 V_s0 C_s0 R_b g_sb R_v g_v n_sv hi h5 hng) (by decide) (by decide) e0 (g := (mkF m 2 #[.val (.ref sb), .val (.ref s0)] [(.ref s0), (.ref sb)])) rfl (by rw [hml]; rfl) (argsL := [(.ref s0)]) (rest := []) (lenOf own_pd__28Ljava_2flang_2fString_3b_29Ljava_2flang_2fAbstractStringBuilder_3b rfl) rfl (W := 0) (by show 2 * 0 + _ ≤ _; exact Nat.le_of_eq rfl) (hb hby own_d7_2) rfl (by decide) (by decide) ?_
  rintro rv1 T1 L1 X1 ⟨rfl, Nq1, Kq1, Fv1, Fc1, Fn1, Rv1⟩
  have N1 := Fr.app N0 Nq1
  refine own_g (mkF m 7 #[.val (.ref sb), .val (.ref s0)] [(.ref sb)]) (fun _ q => XS.pop X1.here hx rfl (hb hby own_d7_5) rfl rfl (XS.aloadN X1.here hx rfl (hb hby own_d7_6) rfl rfl q)) ?_
  have k2_ := ((Keep.refl h0 [sb, bv]).trans Kq1 (allS (Or.inl (List.mem_of_getElem? (i := 0) rfl)) (allS (Or.inl (List.mem_of_getElem? (i := 1) rfl)) all0)))
  exact own_end X1 (v := some (.ref sb)) (fun h => by rw [Bd.returns] at h; cases h) hlk (fun hr => retOut X1 hx Bd.returns (own_narR rfl) (Or.inr (Or.inr (Or.inr (Or.inr ⟨rfl, rfl, rfl⟩)))) (hb hby own_d7_7) hr) (⟨rfl, N1, k2_, Fv1, Fc1, Fn1, Rv1⟩) (by decide) (by decide)
theorem own_saG_ef (m : MethodId) (sb : Addr) (s0 : Addr) : entryFrame m #[(.ref sb), (.ref s0)] 2 = mkF m 0 #[.val (.ref sb), .val (.ref s0)] [] := by  first | (simp [entryFrame, mkF, argsToLocals, Value.category]; done) | rfl
def own_saG_Q (Z : State) (sb : Addr) (s0 : Addr) (bv : Addr) (b : Addr) (n : Int32) (cn : Int32) (zCS : Int32) (dO : Addr) (dT : Addr) (ca : Addr) (cO : Cell) (cT : Cell) (cc : Cell) (h0 : Heap) (n0 : Nat) (v : Option Value) (h : Heap) (L : List Loc) : Prop := v = some (.ref sb) ∧ Fr n0 L ∧ Keep h0 h [sb] ∧ ∃ t : Addr, h0.size ≤ t ∧ n0 ≤ t ∧ Exa Z h t "[B" ∧ own_By Z h t (34 : Int32) ∧ Fld Z h sb "java/lang/AbstractStringBuilder" "value" "[B" (.ref t) ∧ Fld Z h sb "java/lang/AbstractStringBuilder" "coder" "B" (.int 0) ∧ Fld Z h sb "java/lang/AbstractStringBuilder" "count" "I" (.int (cn + n))
set_option maxRecDepth 65536 in
set_option maxHeartbeats 40000000 in
theorem own_saG (l : Launch) (Z : State) (a0 : Array Value) (hw : ∀ d ∈ tables_1, d.before a0 Z = true) (ws : List Jvm.Cond) (sb : Addr) (s0 : Addr) (bv : Addr) (b : Addr) (n : Int32) (cn : Int32) (zCS : Int32) (dO : Addr) (dT : Addr) (ca : Addr) (cO : Cell) (cT : Cell) (cc : Cell) (h0 : Heap) (n0 : Nat) (Z0 : n0 ≤ h0.size) (Cq : own_C Z zCS dO dT ca cO cT cc) (O0 : Old Z n0 h0) (E_sb : Exa Z h0 sb "java/lang/StringBuilder") (V_sb : Fld Z h0 sb "java/lang/AbstractStringBuilder" "value" "[B" (.ref bv)) (C_sb : Fld Z h0 sb "java/lang/AbstractStringBuilder" "coder" "B" (.int 0)) (N_sb : Fld Z h0 sb "java/lang/AbstractStringBuilder" "count" "I" (.int cn)) (E_s0 : Exa Z h0 s0 "java/lang/String") (V_s0 : Fld Z h0 s0 "java/lang/String" "value" "[B" (.ref b)) (C_s0 : Fld Z h0 s0 "java/lang/String" "coder" "B" (.int 0)) (R_b : own_By Z h0 b n) (g_sb : n0 ≤ sb) (R_v : own_By Z h0 bv (16 : Int32)) (n_ss : s0 ≠ sb) (n_bs : b ≠ sb) (hi : ¬ cn < 0) (h5 : cn.toNatClampNeg + n.toNatClampNeg ≤ (34 : Int32).toNatClampNeg) (hgr : (0 : Int32) < ((cn + n) - (16 : Int32))) (hg : ((cn + n) - (16 : Int32)) < (18 : Int32)) :
    MetFree l own_y34 (head1 (Jvm.Cond.code own_y34 jdk_67_method_7_code 2 (some (.object "java/lang/StringBuilder")) :: ws) (⟨5, 1, 34, 76⟩ : Room)) (fun aa U => aa = #[(.ref sb), (.ref s0)] ∧ Z.Warmed39 U.vm ∧ U.heap = h0) (fun _ _ _ _ _ => True) (fun _ U o U' => ∃ v L, o = .returned v ∧ own_saG_Q Z sb s0 bv b n cn zCS dO dT ca cO cT cc h0 n0 v U'.heap L ∧ FrameEnd U o U' L (⟨5, 1, 34, 76⟩ : Room).cells (⟨5, 1, 34, 76⟩ : Room).slots) := by
  refine MetFree.of_bodySF (plainFor_of_name own_pn_java_lang_StringBuilder) hisR ?_
  intro p e s m args below meth c s₁ Bd hml0 hP hK
  obtain ⟨rfl, hZ, hh⟩ := hP
  have hx := Bd.exec
  have hby := Bd.bytes
  have hml : c.maxLocals = 2 := hml0
  have hown : s.vm.findClass "java/lang/StringBuilder" = some m.cls := findClass_of_methodNamed Bd.named
  have hnm := (name_of_methodNamed Bd.named Bd.method).1
  have hlk := Bd.notSynchronized
  have X0 : Stand p l e (⟨5, 1, 34, 76⟩ : Room) s m #[(.ref sb), (.ref s0)] below meth c s₁ [] 0 0 := Stand.of_body Bd
  have e0 : s₁.heap = h0 := by rw [← hh, Bd.state]; rfl
  have N0 := Fr.nil n0
  refine own_start (Q := own_saG_Q Z sb s0 bv b n cn zCS dO dT ca cO cT cc h0 n0) (own_saG_ef m sb s0) ?_
  refine own_g (mkF m 2 #[.val (.ref sb), .val (.ref s0)] [(.ref s0), (.ref sb)]) (fun _ q => XS.aloadN X0.here hx rfl (hb hby own_d7_0) rfl rfl (XS.aloadN X0.here hx rfl (hb hby own_d7_1) rfl rfl q)) ?_
  refine own_callP X0 hx hZ (y := own_y5) hown (own_h hw 54 rfl) (own_h hw 57 rfl) (own_nfc (y' := own_y5) (own_h hw 77 rfl) rfl) (own_h hw 55 rfl) (own_h hw 56 rfl) (own_h hw 58 rfl) (own_h hw 33 rfl) (by decide) (by decide) E_sb (own_apG l Z a0 hw [] sb s0 bv b n cn zCS dO dT ca cO cT cc h0 n0 (Nat.le_trans Z0 (Keep.refl h0 [sb]).1) Cq O0 E_sb V_sb C_sb N_sb E_s0 V_s0 C_s0 R_b g_sb R_v n_ss n_bs hi h5 hgr hg) (by decide) (by decide) e0 (g := (mkF m 2 #[.val (.ref sb), .val (.ref s0)] [(.ref s0), (.ref sb)])) rfl (by rw [hml]; rfl) (argsL := [(.ref s0)]) (rest := []) (lenOf own_pd__28Ljava_2flang_2fString_3b_29Ljava_2flang_2fAbstractStringBuilder_3b rfl) rfl (W := 0) (by show 2 * 0 + _ ≤ _; exact Nat.le_of_eq rfl) (hb hby own_d7_2) rfl (by decide) (by decide) ?_
  rintro rv1 T1 L1 X1 ⟨rfl, Nq1, Kq1, t0, sz1, g1, Et1, Rt1, Fv1, Fc1, Fn1⟩
  have N1 := Fr.app N0 Nq1
  show own_Fin p e below _ T1 (mkF m 5 #[.val (.ref sb), .val (.ref s0)] [(.ref sb)])
  have ne_sb_t0 : sb ≠ t0 := Nat.ne_of_lt (Nat.lt_of_lt_of_le E_sb.lt sz1)
  have ne_s0_t0 : s0 ≠ t0 := Nat.ne_of_lt (Nat.lt_of_lt_of_le E_s0.lt sz1)
  have ne_b_t0 : b ≠ t0 := Nat.ne_of_lt (Nat.lt_of_lt_of_le R_b.lt sz1)
  have ne_bv_t0 : bv ≠ t0 := Nat.ne_of_lt (Nat.lt_of_lt_of_le R_v.lt sz1)
  have sz_t0 := Nat.le_trans (Keep.refl h0 [sb]).1 sz1
  refine own_g (mkF m 7 #[.val (.ref sb), .val (.ref s0)] [(.ref sb)]) (fun _ q => XS.pop X1.here hx rfl (hb hby own_d7_5) rfl rfl (XS.aloadN X1.here hx rfl (hb hby own_d7_6) rfl rfl q)) ?_
  have k2_ := ((Keep.refl h0 [sb]).trans Kq1 (allS (Or.inl (List.mem_of_getElem? (i := 0) rfl)) all0))
  exact own_end X1 (v := some (.ref sb)) (fun h => by rw [Bd.returns] at h; cases h) hlk (fun hr => retOut X1 hx Bd.returns (own_narR rfl) (Or.inr (Or.inr (Or.inr (Or.inr ⟨rfl, rfl, rfl⟩)))) (hb hby own_d7_7) hr) (⟨rfl, N1, k2_, t0, sz_t0, g1, Et1, Rt1, Fv1, Fc1, Fn1⟩) (by decide) (by decide)
theorem own_d21_0 : decode jdk_42_method_151_code 0 = .ok (.aload_n 0, 1) := by decide +kernel
theorem own_d21_1 : decode jdk_42_method_151_code 1 = .ok (.invokespecial 1, 3) := by decide +kernel
theorem own_d21_4 : decode jdk_42_method_151_code 4 = .ok (.aload_n 0, 1) := by decide +kernel
theorem own_d21_5 : decode jdk_42_method_151_code 5 = .ok (.aload_n 1, 1) := by decide +kernel
theorem own_d21_6 : decode jdk_42_method_151_code 6 = .ok (.putfield 9, 3) := by decide +kernel
theorem own_d21_9 : decode jdk_42_method_151_code 9 = .ok (.aload_n 0, 1) := by decide +kernel
theorem own_d21_10 : decode jdk_42_method_151_code 10 = .ok (.iload_n 2, 1) := by decide +kernel
theorem own_d21_11 : decode jdk_42_method_151_code 11 = .ok (.putfield 15, 3) := by decide +kernel
theorem own_d21_14 : decode jdk_42_method_151_code 14 = .ok (.return_, 1) := by decide +kernel
theorem own_sbb_ef (m : MethodId) (x0 : Addr) (b : Addr) : entryFrame m #[(.ref x0), (.ref b), (.int 0)] 3 = mkF m 0 #[.val (.ref x0), .val (.ref b), .val (.int 0)] [] := by  first | (simp [entryFrame, mkF, argsToLocals, Value.category]; done) | rfl
def own_sbb_Q (Z : State) (x0 : Addr) (b : Addr) (zCS : Int32) (dO : Addr) (dT : Addr) (ca : Addr) (cO : Cell) (cT : Cell) (cc : Cell) (h0 : Heap) (n0 : Nat) (v : Option Value) (h : Heap) (L : List Loc) : Prop := v = none ∧ Fr n0 L ∧ Keep h0 h [x0] ∧ Fld Z h x0 "java/lang/String" "value" "[B" (.ref b) ∧ Fld Z h x0 "java/lang/String" "coder" "B" (.int 0)
set_option maxRecDepth 65536 in
set_option maxHeartbeats 40000000 in
theorem own_sbb (l : Launch) (Z : State) (a0 : Array Value) (hw : ∀ d ∈ tables_1, d.before a0 Z = true) (ws : List Jvm.Cond) (x0 : Addr) (b : Addr) (zCS : Int32) (dO : Addr) (dT : Addr) (ca : Addr) (cO : Cell) (cT : Cell) (cc : Cell) (h0 : Heap) (n0 : Nat) (Z0 : n0 ≤ h0.size) (Cq : own_C Z zCS dO dT ca cO cT cc) (O0 : Old Z n0 h0) (E_x : Exa Z h0 x0 "java/lang/String") (V_x : Fld Z h0 x0 "java/lang/String" "value" "[B" .null) (C_x : Fld Z h0 x0 "java/lang/String" "coder" "B" (.int 0)) (g_x : n0 ≤ x0) :
    MetFree l own_y27 (head1 (Jvm.Cond.code own_y27 jdk_42_method_151_code 3 none :: ws) (⟨1, 0, 0, 12⟩ : Room)) (fun aa U => aa = #[(.ref x0), (.ref b), (.int 0)] ∧ Z.Warmed39 U.vm ∧ U.heap = h0) (fun _ _ _ _ _ => True) (fun _ U o U' => ∃ v L, o = .returned v ∧ own_sbb_Q Z x0 b zCS dO dT ca cO cT cc h0 n0 v U'.heap L ∧ FrameEnd U o U' L (⟨1, 0, 0, 12⟩ : Room).cells (⟨1, 0, 0, 12⟩ : Room).slots) := by
  refine MetFree.of_bodySF (plainFor_of_name own_pn_java_lang_String) hisR ?_
  intro p e s m args below meth c s₁ Bd hml0 hP hK
  obtain ⟨rfl, hZ, hh⟩ := hP
  have hx := Bd.exec
  have hby := Bd.bytes
  have hml : c.maxLocals = 3 := hml0
  have hown : s.vm.findClass "java/lang/String" = some m.cls := findClass_of_methodNamed Bd.named
  have hnm := (name_of_methodNamed Bd.named Bd.method).1
  have hlk := Bd.notSynchronized
  have X0 : Stand p l e (⟨1, 0, 0, 12⟩ : Room) s m #[(.ref x0), (.ref b), (.int 0)] below meth c s₁ [] 0 0 := Stand.of_body Bd
  have e0 : s₁.heap = h0 := by rw [← hh, Bd.state]; rfl
  have N0 := Fr.nil n0
  refine own_start (Q := own_sbb_Q Z x0 b zCS dO dT ca cO cT cc h0 n0) (own_sbb_ef m x0 b) ?_
  refine own_g (mkF m 1 #[.val (.ref x0), .val (.ref b), .val (.int 0)] [(.ref x0)]) (fun _ q => XS.aloadN X0.here hx rfl (hb hby own_d21_0) rfl rfl q) ?_
  obtain ⟨T1, X1, e1, st1⟩ := initO X0 hx hZ hown (own_h hw 131 rfl) (own_h hw 21 rfl) (own_h hw 22 rfl) e0 (g := (mkF m 1 #[.val (.ref x0), .val (.ref b), .val (.int 0)] [(.ref x0)])) rfl (by rw [hml]; rfl) rfl (hb hby own_d21_1) (by decide) (W := 0) (by show 2 * 0 + _ ≤ _; exact Nat.le_of_eq rfl) (by decide)
  refine own_by (g' := (mkF m 4 #[.val (.ref x0), .val (.ref b), .val (.int 0)] [])) st1 ?_
  refine own_g (mkF m 6 #[.val (.ref x0), .val (.ref b), .val (.int 0)] [(.ref b), (.ref x0)]) (fun _ q => XS.aloadN X1.here hx rfl (hb hby own_d21_4) rfl rfl (XS.aloadN X1.here hx rfl (hb hby own_d21_5) rfl rfl q)) ?_
  obtain ⟨T2, h2, X2, e2, W2, st2⟩ := putF X1 hx hZ hown (host := "") (Or.inl (own_h hw 64 rfl)) Via.refl e1 V_x E_x (Or.inr ⟨(own_h hw 45 rfl), rfl, hnm⟩) (own_h hw 44 rfl) (ty := (.array .byte)) (by decide) (rfl) (rfl) (g := (mkF m 6 #[.val (.ref x0), .val (.ref b), .val (.int 0)] [(.ref b), (.ref x0)])) rfl rfl (hb hby own_d21_6)
  have Fw2 := V_x.same W2
  have N2 := Fr.snoc X2 N0 g_x
  refine own_by (g' := (mkF m 9 #[.val (.ref x0), .val (.ref b), .val (.int 0)] [])) st2 ?_
  refine own_g (mkF m 11 #[.val (.ref x0), .val (.ref b), .val (.int 0)] [(.int 0), (.ref x0)]) (fun _ q => XS.aloadN X2.here hx rfl (hb hby own_d21_9) rfl rfl (XS.iloadN X2.here hx rfl (hb hby own_d21_10) rfl q)) ?_
  have e3_x0 := (E_x.wr W2)
  have f4_x0 := (C_x.other W2 (Or.inr (slot_ne (Or.inr (own_h hw 46 rfl)) (Or.inr (own_h hw 45 rfl)) (by decide) (t := .byte) (t' := (.array .byte)) (by decide) (by decide))))
  obtain ⟨T5, h5, X5, e5, W5, st5⟩ := putFN X2 hx hZ hown (own_h hw 71 rfl) Via.refl e2 f4_x0 e3_x0 (Or.inr ⟨(own_h hw 46 rfl), rfl, hnm⟩) (own_h hw 44 rfl) (ty := .byte) (v' := (.int 0)) (by decide) rfl (by decide) (g := (mkF m 11 #[.val (.ref x0), .val (.ref b), .val (.int 0)] [(.int 0), (.ref x0)])) rfl rfl (hb hby own_d21_11)
  have Fw5 := f4_x0.same W5
  have N5 := Fr.snoc X5 N2 g_x
  refine own_by (g' := (mkF m 14 #[.val (.ref x0), .val (.ref b), .val (.int 0)] [])) st5 ?_
  have k6_ := (((Keep.refl h0 [x0]).wr W2 (Or.inl (List.mem_of_getElem? (i := 0) rfl))).wr W5 (Or.inl (List.mem_of_getElem? (i := 0) rfl)))
  have f7_x0 := (Fw2.other W5 (Or.inr (slot_ne (Or.inr (own_h hw 45 rfl)) (Or.inr (own_h hw 46 rfl)) (by decide) (t := (.array .byte)) (t' := .byte) (by decide) (by decide))))
  exact own_end X5 (v := none) (fun _ => rfl) hlk (fun hr => X5.returnOut hx Bd.returns (hb hby own_d21_14) hr) (by rw [e5]; exact ⟨rfl, N5, k6_, f7_x0, Fw5⟩) (by decide) (by decide)
theorem own_d19_0 : decode jdk_33_method_13_code 0 = .ok (.iconst 1, 1) := by decide +kernel
theorem own_d19_1 : decode jdk_33_method_13_code 1 = .ok (.istore_n 1, 1) := by decide +kernel
theorem own_d19_2 : decode jdk_33_method_13_code 2 = .ok (.iload_n 0, 1) := by decide +kernel
theorem own_d19_3 : decode jdk_33_method_13_code 3 = .ok (.ifCond .lt 8, 3) := by decide +kernel
theorem own_d19_6 : decode jdk_33_method_13_code 6 = .ok (.iconst 0, 1) := by decide +kernel
theorem own_d19_7 : decode jdk_33_method_13_code 7 = .ok (.istore_n 1, 1) := by decide +kernel
theorem own_d19_8 : decode jdk_33_method_13_code 8 = .ok (.iload_n 0, 1) := by decide +kernel
theorem own_d19_9 : decode jdk_33_method_13_code 9 = .ok (.ineg, 1) := by decide +kernel
theorem own_d19_10 : decode jdk_33_method_13_code 10 = .ok (.istore_n 0, 1) := by decide +kernel
theorem own_d19_11 : decode jdk_33_method_13_code 11 = .ok (.bipush (-10), 2) := by decide +kernel
theorem own_d19_13 : decode jdk_33_method_13_code 13 = .ok (.istore_n 2, 1) := by decide +kernel
theorem own_d19_14 : decode jdk_33_method_13_code 14 = .ok (.iconst 1, 1) := by decide +kernel
theorem own_d19_15 : decode jdk_33_method_13_code 15 = .ok (.istore_n 3, 1) := by decide +kernel
theorem own_d19_16 : decode jdk_33_method_13_code 16 = .ok (.iload_n 3, 1) := by decide +kernel
theorem own_d19_17 : decode jdk_33_method_13_code 17 = .ok (.bipush 10, 2) := by decide +kernel
theorem own_d19_19 : decode jdk_33_method_13_code 19 = .ok (.if_icmp .ge 23, 3) := by decide +kernel
theorem own_d19_22 : decode jdk_33_method_13_code 22 = .ok (.iload_n 0, 1) := by decide +kernel
theorem own_d19_23 : decode jdk_33_method_13_code 23 = .ok (.iload_n 2, 1) := by decide +kernel
theorem own_d19_24 : decode jdk_33_method_13_code 24 = .ok (.if_icmp .le 7, 3) := by decide +kernel
theorem own_d19_27 : decode jdk_33_method_13_code 27 = .ok (.iload_n 3, 1) := by decide +kernel
theorem own_d19_28 : decode jdk_33_method_13_code 28 = .ok (.iload_n 1, 1) := by decide +kernel
theorem own_d19_29 : decode jdk_33_method_13_code 29 = .ok (.iadd, 1) := by decide +kernel
theorem own_d19_30 : decode jdk_33_method_13_code 30 = .ok (.ireturn, 1) := by decide +kernel
theorem own_ss1_ef (m : MethodId) (x : Int32) : entryFrame m #[(.int x)] 4 = mkF m 0 #[.val (.int x), .unset, .unset, .unset] [] := by  first | (simp [entryFrame, mkF, argsToLocals, Value.category]; done) | rfl
def own_ss1_Q (Z : State) (x : Int32) (zCS : Int32) (dO : Addr) (dT : Addr) (ca : Addr) (cO : Cell) (cT : Cell) (cc : Cell) (h0 : Heap) (n0 : Nat) (v : Option Value) (h : Heap) (L : List Loc) : Prop := v = some (.int 1) ∧ Fr n0 L ∧ h = h0
theorem own_pn_java_lang_Integer : plainName "java/lang/Integer" = true := by first | (simp [plainName, overriddenIn]; done) | decide +kernel
set_option maxRecDepth 65536 in
set_option maxHeartbeats 40000000 in
theorem own_ss1 (l : Launch) (Z : State) (a0 : Array Value) (hw : ∀ d ∈ tables_1, d.before a0 Z = true) (ws : List Jvm.Cond) (x : Int32) (zCS : Int32) (dO : Addr) (dT : Addr) (ca : Addr) (cO : Cell) (cT : Cell) (cc : Cell) (h0 : Heap) (n0 : Nat) (Z0 : n0 ≤ h0.size) (Cq : own_C Z zCS dO dT ca cO cT cc) (O0 : Old Z n0 h0) (hbd : 0 ≤ x.toInt ∧ x.toInt < 10) :
    MetFree l own_y16 (head1 (Jvm.Cond.code own_y16 jdk_33_method_13_code 4 (some .int) :: ws) (⟨0, 0, 0, 0⟩ : Room)) (fun aa U => aa = #[(.int x)] ∧ Z.Warmed39 U.vm ∧ U.heap = h0) (fun _ _ _ _ _ => True) (fun _ U o U' => ∃ v L, o = .returned v ∧ own_ss1_Q Z x zCS dO dT ca cO cT cc h0 n0 v U'.heap L ∧ FrameEnd U o U' L (⟨0, 0, 0, 0⟩ : Room).cells (⟨0, 0, 0, 0⟩ : Room).slots) := by
  refine MetFree.of_bodySF (plainFor_of_name own_pn_java_lang_Integer) hisR ?_
  intro p e s m args below meth c s₁ Bd hml0 hP hK
  obtain ⟨rfl, hZ, hh⟩ := hP
  have hx := Bd.exec
  have hby := Bd.bytes
  have hml : c.maxLocals = 4 := hml0
  have hown : s.vm.findClass "java/lang/Integer" = some m.cls := findClass_of_methodNamed Bd.named
  have hnm := (name_of_methodNamed Bd.named Bd.method).1
  have hlk := Bd.notSynchronized
  have X0 : Stand p l e (⟨0, 0, 0, 0⟩ : Room) s m #[(.int x)] below meth c s₁ [] 0 0 := Stand.of_body Bd
  have e0 : s₁.heap = h0 := by rw [← hh, Bd.state]; rfl
  have N0 := Fr.nil n0
  refine own_start (Q := own_ss1_Q Z x zCS dO dT ca cO cT cc h0 n0) (own_ss1_ef m x) ?_
  have en0 := own_neg (y := x) (by omega)
  have c_0 : (0 : Int32).toInt = 0 := by decide
  have hx0 : ¬ x < (0 : Int32) := own_nl (by omega)
  have c_m10 : (-10 : Int32).toInt = -10 := by decide
  have hs1 : (-10 : Int32) < (-x) := own_lt (by omega)
  refine own_g (mkF m 10 #[.val (.int x), .val (.int 0), .unset, .unset] [(.int (-x))]) (fun _ q => XS.iconst X0.here hx rfl (hb hby own_d19_0) (XS.istoreN X0.here hx rfl (hb hby own_d19_1) rfl (l' := #[.val (.int x), .val (.int 1), .unset, .unset]) rfl (XS.iloadN X0.here hx rfl (hb hby own_d19_2) rfl (XS.ifNo X0.here hx rfl (hb hby own_d19_3) rfl ((if0 _ _).trans (flt hx0).1) (XS.iconst X0.here hx rfl (hb hby own_d19_6) (XS.istoreN X0.here hx rfl (hb hby own_d19_7) rfl (l' := #[.val (.int x), .val (.int 0), .unset, .unset]) rfl (XS.iloadN X0.here hx rfl (hb hby own_d19_8) rfl (XS.ineg X0.here hx rfl (hb hby own_d19_9) rfl q)))))))) ?_
  refine own_g (mkF m 22 #[.val (.int (-x)), .val (.int 0), .val (.int (-10)), .val (.int 1)] []) (fun _ q => XS.istoreN X0.here hx rfl (hb hby own_d19_10) rfl (l' := #[.val (.int (-x)), .val (.int 0), .unset, .unset]) rfl (XS.bipush X0.here hx rfl (hb hby own_d19_11) (XS.istoreN X0.here hx rfl (hb hby own_d19_13) rfl (l' := #[.val (.int (-x)), .val (.int 0), .val (.int (-10)), .unset]) rfl (XS.iconst X0.here hx rfl (hb hby own_d19_14) (XS.istoreN X0.here hx rfl (hb hby own_d19_15) rfl (l' := #[.val (.int (-x)), .val (.int 0), .val (.int (-10)), .val (.int 1)]) rfl (XS.iloadN X0.here hx rfl (hb hby own_d19_16) rfl (XS.bipush X0.here hx rfl (hb hby own_d19_17) (XS.icmpNo X0.here hx rfl (hb hby own_d19_19) rfl (tlt (by decide : (1 : Int32) < (10 : Int32))).2.1 q)))))))) ?_
  refine own_g (mkF m 30 #[.val (.int (-x)), .val (.int 0), .val (.int (-10)), .val (.int 1)] [(.int 1)]) (fun _ q => XS.iloadN X0.here hx rfl (hb hby own_d19_22) rfl (XS.iloadN X0.here hx rfl (hb hby own_d19_23) rfl (XS.icmpNo X0.here hx rfl (hb hby own_d19_24) rfl (tlt hs1).2.2.2 (XS.iloadN X0.here hx rfl (hb hby own_d19_27) rfl (XS.iloadN X0.here hx rfl (hb hby own_d19_28) rfl (XS.iadd X0.here hx rfl (hb hby own_d19_29) rfl q)))))) ?_
  exact own_end X0 (v := some (.int 1)) (fun h => by rw [Bd.returns] at h; cases h) hlk (fun hr => retOut X0 hx Bd.returns rfl (Or.inl ⟨rfl, Or.inl rfl, _, rfl⟩) (hb hby own_d19_30) hr) (by rw [e0]; exact ⟨rfl, N0, rfl⟩) (by decide) (by decide)
theorem own_d20_0 : decode jdk_33_method_12_code 0 = .ok (.iload_n 1, 1) := by decide +kernel
theorem own_d20_1 : decode jdk_33_method_12_code 1 = .ok (.istore 5, 2) := by decide +kernel
theorem own_d20_3 : decode jdk_33_method_12_code 3 = .ok (.iload_n 0, 1) := by decide +kernel
theorem own_d20_4 : decode jdk_33_method_12_code 4 = .ok (.ifCond .ge 7, 3) := by decide +kernel
theorem own_d20_11 : decode jdk_33_method_12_code 11 = .ok (.iconst 0, 1) := by decide +kernel
theorem own_d20_12 : decode jdk_33_method_12_code 12 = .ok (.istore 6, 2) := by decide +kernel
theorem own_d20_14 : decode jdk_33_method_12_code 14 = .ok (.iload 6, 2) := by decide +kernel
theorem own_d20_16 : decode jdk_33_method_12_code 16 = .ok (.ifCond .ne 6, 3) := by decide +kernel
theorem own_d20_19 : decode jdk_33_method_12_code 19 = .ok (.iload_n 0, 1) := by decide +kernel
theorem own_d20_20 : decode jdk_33_method_12_code 20 = .ok (.ineg, 1) := by decide +kernel
theorem own_d20_21 : decode jdk_33_method_12_code 21 = .ok (.istore_n 0, 1) := by decide +kernel
theorem own_d20_22 : decode jdk_33_method_12_code 22 = .ok (.iload_n 0, 1) := by decide +kernel
theorem own_d20_23 : decode jdk_33_method_12_code 23 = .ok (.bipush (-100), 2) := by decide +kernel
theorem own_d20_25 : decode jdk_33_method_12_code 25 = .ok (.if_icmp .gt 47, 3) := by decide +kernel
theorem own_d20_72 : decode jdk_33_method_12_code 72 = .ok (.aload_n 2, 1) := by decide +kernel
theorem own_d20_73 : decode jdk_33_method_12_code 73 = .ok (.iinc 5 (-1), 3) := by decide +kernel
theorem own_d20_76 : decode jdk_33_method_12_code 76 = .ok (.iload 5, 2) := by decide +kernel
theorem own_d20_78 : decode jdk_33_method_12_code 78 = .ok (.getstatic 83, 3) := by decide +kernel
theorem own_d20_81 : decode jdk_33_method_12_code 81 = .ok (.iload_n 0, 1) := by decide +kernel
theorem own_d20_82 : decode jdk_33_method_12_code 82 = .ok (.ineg, 1) := by decide +kernel
theorem own_d20_83 : decode jdk_33_method_12_code 83 = .ok (.baload, 1) := by decide +kernel
theorem own_d20_84 : decode jdk_33_method_12_code 84 = .ok (.bastore, 1) := by decide +kernel
theorem own_d20_85 : decode jdk_33_method_12_code 85 = .ok (.iload_n 0, 1) := by decide +kernel
theorem own_d20_86 : decode jdk_33_method_12_code 86 = .ok (.bipush (-9), 2) := by decide +kernel
theorem own_d20_88 : decode jdk_33_method_12_code 88 = .ok (.if_icmp .ge 16, 3) := by decide +kernel
theorem own_d20_104 : decode jdk_33_method_12_code 104 = .ok (.iload 6, 2) := by decide +kernel
theorem own_d20_106 : decode jdk_33_method_12_code 106 = .ok (.ifCond .eq 12, 3) := by decide +kernel
theorem own_d20_118 : decode jdk_33_method_12_code 118 = .ok (.iload 5, 2) := by decide +kernel
theorem own_d20_120 : decode jdk_33_method_12_code 120 = .ok (.ireturn, 1) := by decide +kernel
theorem own_gc1_ef (m : MethodId) (x : Int32) (bb : Addr) : entryFrame m #[(.int x), (.int 1), (.ref bb)] 7 = mkF m 0 #[.val (.int x), .val (.int 1), .val (.ref bb), .unset, .unset, .unset, .unset] [] := by  first | (simp [entryFrame, mkF, argsToLocals, Value.category]; done) | rfl
def own_gc1_Q (Z : State) (x : Int32) (bb : Addr) (zCS : Int32) (dO : Addr) (dT : Addr) (ca : Addr) (cO : Cell) (cT : Cell) (cc : Cell) (h0 : Heap) (n0 : Nat) (v : Option Value) (h : Heap) (L : List Loc) : Prop := (∃ r, v = some (.int r)) ∧ Fr n0 L ∧ Keep h0 h [bb] ∧ own_By Z h bb (1 : Int32)
set_option maxRecDepth 65536 in
set_option maxHeartbeats 40000000 in
theorem own_gc1 (l : Launch) (Z : State) (a0 : Array Value) (hw : ∀ d ∈ tables_1, d.before a0 Z = true) (ws : List Jvm.Cond) (x : Int32) (bb : Addr) (zCS : Int32) (dO : Addr) (dT : Addr) (ca : Addr) (cO : Cell) (cT : Cell) (cc : Cell) (h0 : Heap) (n0 : Nat) (Z0 : n0 ≤ h0.size) (Cq : own_C Z zCS dO dT ca cO cT cc) (O0 : Old Z n0 h0) (hbd : 0 ≤ x.toInt ∧ x.toInt < 10) (R_b : own_By Z h0 bb (1 : Int32)) (g_b : n0 ≤ bb) :
    MetFree l own_y14 (head1 (Jvm.Cond.code own_y14 jdk_33_method_12_code 7 (some .int) :: ws) (⟨0, 0, 0, 0⟩ : Room)) (fun aa U => aa = #[(.int x), (.int 1), (.ref bb)] ∧ Z.Warmed39 U.vm ∧ U.heap = h0) (fun _ _ _ _ _ => True) (fun _ U o U' => ∃ v L, o = .returned v ∧ own_gc1_Q Z x bb zCS dO dT ca cO cT cc h0 n0 v U'.heap L ∧ FrameEnd U o U' L (⟨0, 0, 0, 0⟩ : Room).cells (⟨0, 0, 0, 0⟩ : Room).slots) := by
  refine MetFree.of_bodySF (plainFor_of_name own_pn_java_lang_Integer) hisR ?_
  intro p e s m args below meth c s₁ Bd hml0 hP hK
  obtain ⟨rfl, hZ, hh⟩ := hP
  have hx := Bd.exec
  have hby := Bd.bytes
  have hml : c.maxLocals = 7 := hml0
  have hown : s.vm.findClass "java/lang/Integer" = some m.cls := findClass_of_methodNamed Bd.named
  have hnm := (name_of_methodNamed Bd.named Bd.method).1
  have hlk := Bd.notSynchronized
  have X0 : Stand p l e (⟨0, 0, 0, 0⟩ : Room) s m #[(.int x), (.int 1), (.ref bb)] below meth c s₁ [] 0 0 := Stand.of_body Bd
  have e0 : s₁.heap = h0 := by rw [← hh, Bd.state]; rfl
  have N0 := Fr.nil n0
  refine own_start (Q := own_gc1_Q Z x bb zCS dO dT ca cO cT cc h0 n0) (own_gc1_ef m x bb) ?_
  have en0 := own_neg (y := x) (by omega)
  have c_0 : (0 : Int32).toInt = 0 := by decide
  have c_m100 : (-100 : Int32).toInt = -100 := by decide
  have c_m9 : (-9 : Int32).toInt = -9 := by decide
  have c_100 : (100 : Int32).toInt = 100 := by decide
  have hx0 : ¬ x < (0 : Int32) := own_nl (by omega)
  have hlp0 : (-100 : Int32) < (-x) := own_lt (by omega)
  have nz := own_neg (y := (-x)) (by omega)
  have il : ¬ (-(-x)) < 0 ∧ (-(-x)) < (100 : Int32) := ⟨own_nl (by omega), own_lt (by omega)⟩
  have hn9 : ¬ ((-x) < (-9 : Int32)) := own_nl (by omega)
  refine own_g (mkF m 19 #[.val (.int x), .val (.int 1), .val (.ref bb), .unset, .unset, .val (.int 1), .val (.int 0)] []) (fun _ q => XS.iloadN X0.here hx rfl (hb hby own_d20_0) rfl (XS.istore X0.here hx rfl (hb hby own_d20_1) rfl (l' := #[.val (.int x), .val (.int 1), .val (.ref bb), .unset, .unset, .val (.int 1), .unset]) rfl (XS.iloadN X0.here hx rfl (hb hby own_d20_3) rfl (XS.ifYes X0.here hx rfl (pc0 := 4) (pc' := 11) rfl (hb hby own_d20_4) rfl ((if0 _ _).trans (flt hx0).2.1) (by decide) (by decide) (XS.iconst X0.here hx rfl (hb hby own_d20_11) (XS.istore X0.here hx rfl (hb hby own_d20_12) rfl (l' := #[.val (.int x), .val (.int 1), .val (.ref bb), .unset, .unset, .val (.int 1), .val (.int 0)]) rfl (XS.iload X0.here hx rfl (hb hby own_d20_14) rfl (XS.ifNo X0.here hx rfl (hb hby own_d20_16) rfl ((if0 _ _).trans (teq (by decide : (0 : Int32) = (0 : Int32))).2) q)))))))) ?_
  refine own_g (mkF m 76 #[.val (.int (-x)), .val (.int 1), .val (.ref bb), .unset, .unset, .val (.int 0), .val (.int 0)] [(.ref bb)]) (fun _ q => XS.iloadN X0.here hx rfl (hb hby own_d20_19) rfl (XS.ineg X0.here hx rfl (hb hby own_d20_20) rfl (XS.istoreN X0.here hx rfl (hb hby own_d20_21) rfl (l' := #[.val (.int (-x)), .val (.int 1), .val (.ref bb), .unset, .unset, .val (.int 1), .val (.int 0)]) rfl (XS.iloadN X0.here hx rfl (hb hby own_d20_22) rfl (XS.bipush X0.here hx rfl (hb hby own_d20_23) (XS.icmpYes X0.here hx rfl (pc0 := 25) (pc' := 72) rfl (hb hby own_d20_25) rfl (tlt hlp0).2.2.1 (by decide) (by decide) (XS.aloadN X0.here hx rfl (hb hby own_d20_72) rfl rfl (XS.iinc X0.here hx rfl (hb hby own_d20_73) rfl (l' := #[.val (.int (-x)), .val (.int 1), .val (.ref bb), .unset, .unset, .val (.int 0), .val (.int 0)]) rfl q)))))))) ?_
  refine own_g (mkF m 78 #[.val (.int (-x)), .val (.int 1), .val (.ref bb), .unset, .unset, .val (.int 0), .val (.int 0)] [(.int 0), (.ref bb)]) (fun _ q => XS.iload X0.here hx rfl (hb hby own_d20_76) rfl q) ?_
  obtain ⟨T1, X1, e1, st1⟩ := getS2 X0 hx hZ hown (host := "") (Or.inl (own_h hw 125 rfl)) Via.refl e0 (Sta.ext O0.2 Cq.2.2.1) (g := (mkF m 78 #[.val (.int (-x)), .val (.int 1), .val (.ref bb), .unset, .unset, .val (.int 0), .val (.int 0)] [(.int 0), (.ref bb)])) rfl (hb hby own_d20_78)
  refine own_by (g' := (mkF m 81 #[.val (.int (-x)), .val (.int 1), .val (.ref bb), .unset, .unset, .val (.int 0), .val (.int 0)] [(.ref dO), (.int 0), (.ref bb)])) st1 ?_
  refine own_g (mkF m 83 #[.val (.int (-x)), .val (.int 1), .val (.ref bb), .unset, .unset, .val (.int 0), .val (.int 0)] [(.int (-(-x))), (.ref dO), (.int 0), (.ref bb)]) (fun _ q => XS.iloadN X1.here hx rfl (hb hby own_d20_81) rfl (XS.ineg X1.here hx rfl (hb hby own_d20_82) rfl q)) ?_
  have TB2 := Tab.ext Cq.2.2.2.2.1 O0.2
  have hin2 := inb_of TB2.2.1 il
  refine own_by (g' := (mkF m 84 #[.val (.int (-x)), .val (.int 1), .val (.ref bb), .unset, .unset, .val (.int 0), .val (.int 0)] [(.int (atv cO (-(-x)))), (.int 0), (.ref bb)])) (fun _ kq => X1.baloadBytes hx (j := (-(-x))) (v := (.int (atv cO (-(-x))))) (by rw [e1]; exact TB2.1.1) (State.isArrayOf_alike hZ.alike TB2.1.2.1) TB2.1.2.2 hin2 (TB2.2.2.2 _ hin2) (g := (mkF m 83 #[.val (.int (-x)), .val (.int 1), .val (.ref bb), .unset, .unset, .val (.int 0), .val (.int 0)] [(.int (-(-x))), (.ref dO), (.int 0), (.ref bb)])) rfl rfl (hb hby own_d20_83) _ kq) ?_
  obtain ⟨kk3, vs3, ⟨cl3, Ar3, q3, S3, P3, H3, G3⟩, hl3⟩ := id R_b
  have hin3 : ¬ ((0 : Int32) < 0 ∨ cl3.slots.size ≤ ((0 : Int32)).toNatClampNeg) := inb_of S3 ⟨by decide, by decide⟩
  obtain ⟨T4, h4, X4, e4, W4, st4⟩ := stB X1 hx hZ e1 Ar3 (j := (0 : Int32)) hin3 (g := (mkF m 84 #[.val (.int (-x)), .val (.int 1), .val (.ref bb), .unset, .unset, .val (.int 0), .val (.int 0)] [(.int (atv cO (-(-x)))), (.int 0), (.ref bb)])) rfl rfl (hb hby own_d20_84)
  have R4 := own_By.put Ar3 q3 S3 P3 H3 G3 hl3 hin3 (fits_nar_byte _) W4
  have N4 := Fr.snoc X4 N0 g_b
  refine own_by (g' := (mkF m 85 #[.val (.int (-x)), .val (.int 1), .val (.ref bb), .unset, .unset, .val (.int 0), .val (.int 0)] [])) st4 ?_
  refine own_g (mkF m 120 #[.val (.int (-x)), .val (.int 1), .val (.ref bb), .unset, .unset, .val (.int 0), .val (.int 0)] [(.int 0)]) (fun _ q => XS.iloadN X4.here hx rfl (hb hby own_d20_85) rfl (XS.bipush X4.here hx rfl (hb hby own_d20_86) (XS.icmpYes X4.here hx rfl (pc0 := 88) (pc' := 104) rfl (hb hby own_d20_88) rfl (flt hn9).2.1 (by decide) (by decide) (XS.iload X4.here hx rfl (hb hby own_d20_104) rfl (XS.ifYes X4.here hx rfl (pc0 := 106) (pc' := 118) rfl (hb hby own_d20_106) rfl ((if0 _ _).trans (teq (by decide : (0 : Int32) = (0 : Int32))).1) (by decide) (by decide) (XS.iload X4.here hx rfl (hb hby own_d20_118) rfl q)))))) ?_
  have k5_ := ((Keep.refl h0 [bb]).wr W4 (Or.inl (List.mem_of_getElem? (i := 0) rfl)))
  exact own_end X4 (v := some (.int 0)) (fun h => by rw [Bd.returns] at h; cases h) hlk (fun hr => retOut X4 hx Bd.returns rfl (Or.inl ⟨rfl, Or.inl rfl, _, rfl⟩) (hb hby own_d20_120) hr) (by rw [e4]; exact ⟨⟨_, rfl⟩, N4, k5_, R4⟩) (by decide) (by decide)
theorem own_d18_0 : decode jdk_33_method_10_code 0 = .ok (.iload_n 0, 1) := by decide +kernel
theorem own_d18_1 : decode jdk_33_method_10_code 1 = .ok (.invokestatic 72, 3) := by decide +kernel
theorem own_d18_4 : decode jdk_33_method_10_code 4 = .ok (.istore_n 1, 1) := by decide +kernel
theorem own_d18_5 : decode jdk_33_method_10_code 5 = .ok (.getstatic 13, 3) := by decide +kernel
theorem own_d18_8 : decode jdk_33_method_10_code 8 = .ok (.ifCond .eq 24, 3) := by decide +kernel
theorem own_d18_11 : decode jdk_33_method_10_code 11 = .ok (.iload_n 1, 1) := by decide +kernel
theorem own_d18_12 : decode jdk_33_method_10_code 12 = .ok (.newarray .byte, 2) := by decide +kernel
theorem own_d18_14 : decode jdk_33_method_10_code 14 = .ok (.astore_n 2, 1) := by decide +kernel
theorem own_d18_15 : decode jdk_33_method_10_code 15 = .ok (.iload_n 0, 1) := by decide +kernel
theorem own_d18_16 : decode jdk_33_method_10_code 16 = .ok (.iload_n 1, 1) := by decide +kernel
theorem own_d18_17 : decode jdk_33_method_10_code 17 = .ok (.aload_n 2, 1) := by decide +kernel
theorem own_d18_18 : decode jdk_33_method_10_code 18 = .ok (.invokestatic 75, 3) := by decide +kernel
theorem own_pd__28II_5bB_29I : parseMethodDescriptor "(II[B)I" = some ⟨[.int, .int, (.array .byte)], some .int⟩ := by decide +kernel
theorem own_d18_21 : decode jdk_33_method_10_code 21 = .ok (.pop, 1) := by decide +kernel
theorem own_d18_22 : decode jdk_33_method_10_code 22 = .ok (.new 5, 3) := by decide +kernel
theorem own_d18_25 : decode jdk_33_method_10_code 25 = .ok (.dup, 1) := by decide +kernel
theorem own_d18_26 : decode jdk_33_method_10_code 26 = .ok (.aload_n 2, 1) := by decide +kernel
theorem own_d18_27 : decode jdk_33_method_10_code 27 = .ok (.iconst 0, 1) := by decide +kernel
theorem own_d18_28 : decode jdk_33_method_10_code 28 = .ok (.invokespecial 65, 3) := by decide +kernel
theorem own_pd__28_5bBB_29V : parseMethodDescriptor "([BB)V" = some ⟨[(.array .byte), .byte], none⟩ := by decide +kernel
theorem own_d18_31 : decode jdk_33_method_10_code 31 = .ok (.areturn, 1) := by decide +kernel
theorem own_is1_ef (m : MethodId) (x : Int32) : entryFrame m #[(.int x)] 3 = mkF m 0 #[.val (.int x), .unset, .unset] [] := by  first | (simp [entryFrame, mkF, argsToLocals, Value.category]; done) | rfl
def own_is1_Q (Z : State) (x : Int32) (zCS : Int32) (dO : Addr) (dT : Addr) (ca : Addr) (cO : Cell) (cT : Cell) (cc : Cell) (h0 : Heap) (n0 : Nat) (v : Option Value) (h : Heap) (L : List Loc) : Prop := ∃ r b : Addr, v = some (.ref r) ∧ Fr n0 L ∧ Keep h0 h [] ∧ h0.size ≤ r ∧ n0 ≤ r ∧ h0.size ≤ b ∧ Exa Z h r "java/lang/String" ∧ Fld Z h r "java/lang/String" "value" "[B" (.ref b) ∧ Fld Z h r "java/lang/String" "coder" "B" (.int 0) ∧ own_By Z h b (1 : Int32)
set_option maxRecDepth 65536 in
set_option maxHeartbeats 40000000 in
theorem own_is1 (l : Launch) (Z : State) (a0 : Array Value) (hw : ∀ d ∈ tables_1, d.before a0 Z = true) (ws : List Jvm.Cond) (x : Int32) (zCS : Int32) (dO : Addr) (dT : Addr) (ca : Addr) (cO : Cell) (cT : Cell) (cc : Cell) (h0 : Heap) (n0 : Nat) (Z0 : n0 ≤ h0.size) (Cq : own_C Z zCS dO dT ca cO cT cc) (O0 : Old Z n0 h0) (hbd : 0 ≤ x.toInt ∧ x.toInt < 10) :
    MetFree l own_y18 (head1 (Jvm.Cond.code own_y18 jdk_33_method_10_code 3 (some (.object "java/lang/String")) :: ws) (⟨2, 2, 5, 27⟩ : Room)) (fun aa U => aa = #[(.int x)] ∧ Z.Warmed39 U.vm ∧ U.heap = h0) (fun _ _ _ _ _ => True) (fun _ U o U' => ∃ v L, o = .returned v ∧ own_is1_Q Z x zCS dO dT ca cO cT cc h0 n0 v U'.heap L ∧ FrameEnd U o U' L (⟨2, 2, 5, 27⟩ : Room).cells (⟨2, 2, 5, 27⟩ : Room).slots) := by
  refine MetFree.of_bodySF (plainFor_of_name own_pn_java_lang_Integer) hisR ?_
  intro p e s m args below meth c s₁ Bd hml0 hP hK
  obtain ⟨rfl, hZ, hh⟩ := hP
  have hx := Bd.exec
  have hby := Bd.bytes
  have hml : c.maxLocals = 3 := hml0
  have hown : s.vm.findClass "java/lang/Integer" = some m.cls := findClass_of_methodNamed Bd.named
  have hnm := (name_of_methodNamed Bd.named Bd.method).1
  have hlk := Bd.notSynchronized
  have X0 : Stand p l e (⟨2, 2, 5, 27⟩ : Room) s m #[(.int x)] below meth c s₁ [] 0 0 := Stand.of_body Bd
  have e0 : s₁.heap = h0 := by rw [← hh, Bd.state]; rfl
  have N0 := Fr.nil n0
  refine own_start (Q := own_is1_Q Z x zCS dO dT ca cO cT cc h0 n0) (own_is1_ef m x) ?_
  refine own_g (mkF m 1 #[.val (.int x), .unset, .unset] [(.int x)]) (fun _ q => XS.iloadN X0.here hx rfl (hb hby own_d18_0) rfl q) ?_
  refine own_callS X0 hx hZ (y := own_y16) hown (own_h hw 118 rfl) (own_h hw 119 rfl) (own_h hw 7 rfl) (own_h hw 120 rfl) (by decide) (own_ss1 l Z a0 hw [] x zCS dO dT ca cO cT cc h0 n0 Z0 Cq O0 hbd) (by decide) (by decide) e0 (g := (mkF m 1 #[.val (.int x), .unset, .unset] [(.int x)])) rfl (by rw [hml]; rfl) (argsL := [(.int x)]) (rest := []) (lenOf own_pd__28I_29I rfl) rfl (W := 0) (by show 2 * 0 + _ ≤ _; exact Nat.le_of_eq rfl) (hb hby own_d18_1) rfl (by decide) (by decide) ?_
  rintro rv1 T1 L1 X1 ⟨rfl, Nq1, eh1⟩
  have N1 := Fr.app N0 Nq1
  refine own_g (mkF m 5 #[.val (.int x), .val (.int 1), .unset] []) (fun _ q => XS.istoreN X1.here hx rfl (hb hby own_d18_4) rfl (l' := #[.val (.int x), .val (.int 1), .unset]) rfl q) ?_
  obtain ⟨T2, X2, e2, st2⟩ := getS2 X1 hx hZ hown (host := "") (Or.inl (own_h hw 121 rfl)) Via.refl eh1 (Sta.ext O0.2 Cq.1) (g := (mkF m 5 #[.val (.int x), .val (.int 1), .unset] [])) rfl (hb hby own_d18_5)
  refine own_by (g' := (mkF m 8 #[.val (.int x), .val (.int 1), .unset] [(.int zCS)])) st2 ?_
  refine own_g (mkF m 12 #[.val (.int x), .val (.int 1), .unset] [(.int 1)]) (fun _ q => XS.ifNo X2.here hx rfl (hb hby own_d18_8) rfl ((if0 _ _).trans (feq Cq.2.1).1) (XS.iloadN X2.here hx rfl (hb hby own_d18_11) rfl q)) ?_
  obtain ⟨T3, h3, k3, X3, e3, E3, A3, Ex3, st3⟩ := newPE X2 hx hZ (own_h hw 38 rfl) e2 (g := (mkF m 12 #[.val (.int x), .val (.int 1), .unset] [(.int 1)])) rfl (hb hby own_d18_12) rfl (by decide) (cap := 1) (by decide) (by decide) (by decide) (by decide) (ad := "[B") (by decide)
  obtain ⟨b3, g3⟩ : ∃ z, z = h0.size := ⟨_, rfl⟩
  rw [← g3] at A3 Ex3 st3
  have g_b3 : n0 ≤ b3 := Nat.le_trans Z0 (Nat.le_of_eq g3.symm)
  have sz_b3 : h0.size ≤ b3 := Nat.le_trans (Keep.refl h0 []).1 (Nat.le_of_eq g3.symm)
  have R_b3 := own_By.of (Arv.new A3 (by decide))
  refine own_by (g' := (mkF m 14 #[.val (.int x), .val (.int 1), .unset] [(.ref b3)])) st3 ?_
  refine own_g (mkF m 18 #[.val (.int x), .val (.int 1), .val (.ref b3)] [(.ref b3), (.int 1), (.int x)]) (fun _ q => XS.astoreN X3.here hx rfl (hb hby own_d18_14) rfl rfl (l' := #[.val (.int x), .val (.int 1), .val (.ref b3)]) rfl (XS.iloadN X3.here hx rfl (hb hby own_d18_15) rfl (XS.iloadN X3.here hx rfl (hb hby own_d18_16) rfl (XS.aloadN X3.here hx rfl (hb hby own_d18_17) rfl rfl q)))) ?_
  have k4_ := ((Keep.refl h0 []).ext E3)
  have o5_ := (O0.ext E3)
  refine own_callS X3 hx hZ (y := own_y14) hown (own_h hw 122 rfl) (own_h hw 123 rfl) (own_h hw 7 rfl) (own_h hw 124 rfl) (by decide) (own_gc1 l Z a0 hw [] x b3 zCS dO dT ca cO cT cc h3 n0 (Nat.le_trans Z0 k4_.1) Cq o5_ hbd R_b3 g_b3) (by decide) (by decide) e3 (g := (mkF m 18 #[.val (.int x), .val (.int 1), .val (.ref b3)] [(.ref b3), (.int 1), (.int x)])) rfl (by rw [hml]; rfl) (argsL := [(.int x), (.int 1), (.ref b3)]) (rest := []) (lenOf own_pd__28II_5bB_29I rfl) rfl (W := 0) (by show 2 * 0 + _ ≤ _; exact Nat.le_of_eq rfl) (hb hby own_d18_18) rfl (by decide) (by decide) ?_
  rintro rv6 T6 L6 X6 ⟨⟨rr6, rfl⟩, Nq6, Kq6, Rq6⟩
  have N6 := Fr.app N1 Nq6
  refine own_g (mkF m 22 #[.val (.int x), .val (.int 1), .val (.ref b3)] []) (fun _ q => XS.pop X6.here hx rfl (hb hby own_d18_21) rfl rfl q) ?_
  obtain ⟨T7, h7, X7, e7, E7, A7, D7, U7, st7⟩ := newO X6 hx hZ hown (own_h hw 126 rfl) (own_h hw 44 rfl) (own_h hw 37 rfl) rfl (g := (mkF m 22 #[.val (.int x), .val (.int 1), .val (.ref b3)] [])) rfl (hb hby own_d18_22) (by decide) (by decide)
  obtain ⟨b7, g7⟩ : ∃ z, z = T6.heap.size := ⟨_, rfl⟩
  rw [← g7] at A7 D7 U7 st7
  have k8_ := (k4_.trans Kq6 (allS (Or.inr sz_b3) all0))
  have g_b7 : n0 ≤ b7 := Nat.le_trans (Nat.le_trans Z0 k8_.1) (Nat.le_of_eq g7.symm)
  have sz_b7 : h0.size ≤ b7 := Nat.le_trans k8_.1 (Nat.le_of_eq g7.symm)
  have ne_b3_b7 : b3 ≠ b7 := Nat.ne_of_lt (Nat.lt_of_lt_of_le Rq6.lt (Nat.le_of_eq g7.symm))
  have F_value_b7 : Fld Z h7 b7 "java/lang/String" "value" "[B" .null := D7 (Or.inr (own_h hw 45 rfl)) (ty := (.array .byte)) (by decide)
  have F_coder_b7 : Fld Z h7 b7 "java/lang/String" "coder" "B" (.int 0) := D7 (Or.inr (own_h hw 46 rfl)) (ty := .byte) (by decide)
  refine own_by (g' := (mkF m 25 #[.val (.int x), .val (.int 1), .val (.ref b3)] [(.ref b7)])) st7 ?_
  refine own_g (mkF m 28 #[.val (.int x), .val (.int 1), .val (.ref b3)] [(.int 0), (.ref b3), (.ref b7), (.ref b7)]) (fun _ q => XS.dup X7.here hx rfl (hb hby own_d18_25) rfl rfl (XS.aloadN X7.here hx rfl (hb hby own_d18_26) rfl rfl (XS.iconst X7.here hx rfl (hb hby own_d18_27) q))) ?_
  have k9_ := (k8_.ext E7)
  have o10_ := ((o5_.keep Kq6 (allS g_b3 all0)).ext E7)
  refine own_callI X7 hx hZ (y := own_y27) rfl hown (own_h hw 127 rfl) (own_h hw 128 rfl) (own_h hw 130 rfl) (own_h hw 37 rfl) (by decide) (own_sbb l Z a0 hw [] b7 b3 zCS dO dT ca cO cT cc h7 n0 (Nat.le_trans Z0 k9_.1) Cq o10_ A7 F_value_b7 F_coder_b7 g_b7) (by decide) (by decide) e7 (g := (mkF m 28 #[.val (.int x), .val (.int 1), .val (.ref b3)] [(.int 0), (.ref b3), (.ref b7), (.ref b7)])) rfl (by rw [hml]; rfl) (argsL := [(.ref b3), (.int 0)]) (rest := [(.ref b7)]) (lenOf own_pd__28_5bBB_29V rfl) rfl (W := 1) (by show 2 * 0 + _ ≤ _; exact Nat.le_of_eq rfl) (hb hby own_d18_28) rfl (by decide) (by decide) ?_
  rintro rv11 T11 L11 X11 ⟨rfl, Nq11, Kq11, Fv11, Fc11⟩
  have N11 := Fr.app N6 Nq11
  show own_Fin p e below _ T11 (mkF m 31 #[.val (.int x), .val (.int 1), .val (.ref b3)] [(.ref b7)])
  have k12_ := (k9_.trans Kq11 (allS (Or.inr sz_b7) all0))
  have e13_b7 := (A7.keep Kq11)
  have r14_b3 := ((Rq6.ext E7).keep Kq11 (ninS ne_b3_b7 nin0))
  exact own_end X11 (v := some (.ref b7)) (fun h => by rw [Bd.returns] at h; cases h) hlk (fun hr => retOut X11 hx Bd.returns (own_narR rfl) (Or.inr (Or.inr (Or.inr (Or.inr ⟨rfl, rfl, rfl⟩)))) (hb hby own_d18_31) hr) (⟨b7, b3, rfl, N11, k12_, sz_b7, g_b7, sz_b3, e13_b7, Fv11, Fc11, r14_b3⟩) (by decide) (by decide)
theorem own_d19_31 : decode jdk_33_method_13_code 31 = .ok (.bipush 10, 2) := by decide +kernel
theorem own_d19_33 : decode jdk_33_method_13_code 33 = .ok (.iload_n 2, 1) := by decide +kernel
theorem own_d19_34 : decode jdk_33_method_13_code 34 = .ok (.imul, 1) := by decide +kernel
theorem own_d19_35 : decode jdk_33_method_13_code 35 = .ok (.istore_n 2, 1) := by decide +kernel
theorem own_d19_36 : decode jdk_33_method_13_code 36 = .ok (.iinc 3 1, 3) := by decide +kernel
theorem own_d19_39 : decode jdk_33_method_13_code 39 = .ok (.goto (-23), 3) := by decide +kernel
theorem own_ss2_ef (m : MethodId) (x : Int32) : entryFrame m #[(.int x)] 4 = mkF m 0 #[.val (.int x), .unset, .unset, .unset] [] := by  first | (simp [entryFrame, mkF, argsToLocals, Value.category]; done) | rfl
def own_ss2_Q (Z : State) (x : Int32) (zCS : Int32) (dO : Addr) (dT : Addr) (ca : Addr) (cO : Cell) (cT : Cell) (cc : Cell) (h0 : Heap) (n0 : Nat) (v : Option Value) (h : Heap) (L : List Loc) : Prop := v = some (.int 2) ∧ Fr n0 L ∧ h = h0
set_option maxRecDepth 65536 in
set_option maxHeartbeats 40000000 in
theorem own_ss2 (l : Launch) (Z : State) (a0 : Array Value) (hw : ∀ d ∈ tables_1, d.before a0 Z = true) (ws : List Jvm.Cond) (x : Int32) (zCS : Int32) (dO : Addr) (dT : Addr) (ca : Addr) (cO : Cell) (cT : Cell) (cc : Cell) (h0 : Heap) (n0 : Nat) (Z0 : n0 ≤ h0.size) (Cq : own_C Z zCS dO dT ca cO cT cc) (O0 : Old Z n0 h0) (hbd : 10 ≤ x.toInt ∧ x.toInt < 100) :
    MetFree l own_y16 (head1 (Jvm.Cond.code own_y16 jdk_33_method_13_code 4 (some .int) :: ws) (⟨0, 0, 0, 0⟩ : Room)) (fun aa U => aa = #[(.int x)] ∧ Z.Warmed39 U.vm ∧ U.heap = h0) (fun _ _ _ _ _ => True) (fun _ U o U' => ∃ v L, o = .returned v ∧ own_ss2_Q Z x zCS dO dT ca cO cT cc h0 n0 v U'.heap L ∧ FrameEnd U o U' L (⟨0, 0, 0, 0⟩ : Room).cells (⟨0, 0, 0, 0⟩ : Room).slots) := by
  refine MetFree.of_bodySF (plainFor_of_name own_pn_java_lang_Integer) hisR ?_
  intro p e s m args below meth c s₁ Bd hml0 hP hK
  obtain ⟨rfl, hZ, hh⟩ := hP
  have hx := Bd.exec
  have hby := Bd.bytes
  have hml : c.maxLocals = 4 := hml0
  have hown : s.vm.findClass "java/lang/Integer" = some m.cls := findClass_of_methodNamed Bd.named
  have hnm := (name_of_methodNamed Bd.named Bd.method).1
  have hlk := Bd.notSynchronized
  have X0 : Stand p l e (⟨0, 0, 0, 0⟩ : Room) s m #[(.int x)] below meth c s₁ [] 0 0 := Stand.of_body Bd
  have e0 : s₁.heap = h0 := by rw [← hh, Bd.state]; rfl
  have N0 := Fr.nil n0
  refine own_start (Q := own_ss2_Q Z x zCS dO dT ca cO cT cc h0 n0) (own_ss2_ef m x) ?_
  have en0 := own_neg (y := x) (by omega)
  have c_0 : (0 : Int32).toInt = 0 := by decide
  have hx0 : ¬ x < (0 : Int32) := own_nl (by omega)
  have c_m10 : (-10 : Int32).toInt = -10 := by decide
  have hs1 : ¬ ((-10 : Int32) < (-x)) := own_nl (by omega)
  have c_m100 : (-100 : Int32).toInt = -100 := by decide
  have hs2 : (-100 : Int32) < (-x) := own_lt (by omega)
  refine own_g (mkF m 10 #[.val (.int x), .val (.int 0), .unset, .unset] [(.int (-x))]) (fun _ q => XS.iconst X0.here hx rfl (hb hby own_d19_0) (XS.istoreN X0.here hx rfl (hb hby own_d19_1) rfl (l' := #[.val (.int x), .val (.int 1), .unset, .unset]) rfl (XS.iloadN X0.here hx rfl (hb hby own_d19_2) rfl (XS.ifNo X0.here hx rfl (hb hby own_d19_3) rfl ((if0 _ _).trans (flt hx0).1) (XS.iconst X0.here hx rfl (hb hby own_d19_6) (XS.istoreN X0.here hx rfl (hb hby own_d19_7) rfl (l' := #[.val (.int x), .val (.int 0), .unset, .unset]) rfl (XS.iloadN X0.here hx rfl (hb hby own_d19_8) rfl (XS.ineg X0.here hx rfl (hb hby own_d19_9) rfl q)))))))) ?_
  refine own_g (mkF m 22 #[.val (.int (-x)), .val (.int 0), .val (.int (-10)), .val (.int 1)] []) (fun _ q => XS.istoreN X0.here hx rfl (hb hby own_d19_10) rfl (l' := #[.val (.int (-x)), .val (.int 0), .unset, .unset]) rfl (XS.bipush X0.here hx rfl (hb hby own_d19_11) (XS.istoreN X0.here hx rfl (hb hby own_d19_13) rfl (l' := #[.val (.int (-x)), .val (.int 0), .val (.int (-10)), .unset]) rfl (XS.iconst X0.here hx rfl (hb hby own_d19_14) (XS.istoreN X0.here hx rfl (hb hby own_d19_15) rfl (l' := #[.val (.int (-x)), .val (.int 0), .val (.int (-10)), .val (.int 1)]) rfl (XS.iloadN X0.here hx rfl (hb hby own_d19_16) rfl (XS.bipush X0.here hx rfl (hb hby own_d19_17) (XS.icmpNo X0.here hx rfl (hb hby own_d19_19) rfl (tlt (by decide : (1 : Int32) < (10 : Int32))).2.1 q)))))))) ?_
  refine own_g (mkF m 39 #[.val (.int (-x)), .val (.int 0), .val (.int (-100)), .val (.int 2)] []) (fun _ q => XS.iloadN X0.here hx rfl (hb hby own_d19_22) rfl (XS.iloadN X0.here hx rfl (hb hby own_d19_23) rfl (XS.icmpYes X0.here hx rfl (pc0 := 24) (pc' := 31) rfl (hb hby own_d19_24) rfl (flt hs1).2.2.2 (by decide) (by decide) (XS.bipush X0.here hx rfl (hb hby own_d19_31) (XS.iloadN X0.here hx rfl (hb hby own_d19_33) rfl (XS.imul X0.here hx rfl (hb hby own_d19_34) rfl (XS.istoreN X0.here hx rfl (hb hby own_d19_35) rfl (l' := #[.val (.int (-x)), .val (.int 0), .val (.int (-100)), .val (.int 1)]) rfl (XS.iinc X0.here hx rfl (hb hby own_d19_36) rfl (l' := #[.val (.int (-x)), .val (.int 0), .val (.int (-100)), .val (.int 2)]) rfl q)))))))) ?_
  refine own_g (mkF m 28 #[.val (.int (-x)), .val (.int 0), .val (.int (-100)), .val (.int 2)] [(.int 2)]) (fun _ q => XS.goto X0.here hx rfl (pc0 := 39) (pc' := 16) rfl (hb hby own_d19_39) (by decide) (by decide) (XS.iloadN X0.here hx rfl (hb hby own_d19_16) rfl (XS.bipush X0.here hx rfl (hb hby own_d19_17) (XS.icmpNo X0.here hx rfl (hb hby own_d19_19) rfl (tlt (by decide : (2 : Int32) < (10 : Int32))).2.1 (XS.iloadN X0.here hx rfl (hb hby own_d19_22) rfl (XS.iloadN X0.here hx rfl (hb hby own_d19_23) rfl (XS.icmpNo X0.here hx rfl (hb hby own_d19_24) rfl (tlt hs2).2.2.2 (XS.iloadN X0.here hx rfl (hb hby own_d19_27) rfl q)))))))) ?_
  refine own_g (mkF m 30 #[.val (.int (-x)), .val (.int 0), .val (.int (-100)), .val (.int 2)] [(.int 2)]) (fun _ q => XS.iloadN X0.here hx rfl (hb hby own_d19_28) rfl (XS.iadd X0.here hx rfl (hb hby own_d19_29) rfl q)) ?_
  exact own_end X0 (v := some (.int 2)) (fun h => by rw [Bd.returns] at h; cases h) hlk (fun hr => retOut X0 hx Bd.returns rfl (Or.inl ⟨rfl, Or.inl rfl, _, rfl⟩) (hb hby own_d19_30) hr) (by rw [e0]; exact ⟨rfl, N0, rfl⟩) (by decide) (by decide)
theorem own_d20_91 : decode jdk_33_method_12_code 91 = .ok (.aload_n 2, 1) := by decide +kernel
theorem own_d20_92 : decode jdk_33_method_12_code 92 = .ok (.iinc 5 (-1), 3) := by decide +kernel
theorem own_d20_95 : decode jdk_33_method_12_code 95 = .ok (.iload 5, 2) := by decide +kernel
theorem own_d20_97 : decode jdk_33_method_12_code 97 = .ok (.getstatic 87, 3) := by decide +kernel
theorem own_d20_100 : decode jdk_33_method_12_code 100 = .ok (.iload_n 0, 1) := by decide +kernel
theorem own_d20_101 : decode jdk_33_method_12_code 101 = .ok (.ineg, 1) := by decide +kernel
theorem own_d20_102 : decode jdk_33_method_12_code 102 = .ok (.baload, 1) := by decide +kernel
theorem own_d20_103 : decode jdk_33_method_12_code 103 = .ok (.bastore, 1) := by decide +kernel
theorem own_gc2_ef (m : MethodId) (x : Int32) (bb : Addr) : entryFrame m #[(.int x), (.int 2), (.ref bb)] 7 = mkF m 0 #[.val (.int x), .val (.int 2), .val (.ref bb), .unset, .unset, .unset, .unset] [] := by  first | (simp [entryFrame, mkF, argsToLocals, Value.category]; done) | rfl
def own_gc2_Q (Z : State) (x : Int32) (bb : Addr) (zCS : Int32) (dO : Addr) (dT : Addr) (ca : Addr) (cO : Cell) (cT : Cell) (cc : Cell) (h0 : Heap) (n0 : Nat) (v : Option Value) (h : Heap) (L : List Loc) : Prop := (∃ r, v = some (.int r)) ∧ Fr n0 L ∧ Keep h0 h [bb] ∧ own_By Z h bb (2 : Int32)
set_option maxRecDepth 65536 in
set_option maxHeartbeats 40000000 in
theorem own_gc2 (l : Launch) (Z : State) (a0 : Array Value) (hw : ∀ d ∈ tables_1, d.before a0 Z = true) (ws : List Jvm.Cond) (x : Int32) (bb : Addr) (zCS : Int32) (dO : Addr) (dT : Addr) (ca : Addr) (cO : Cell) (cT : Cell) (cc : Cell) (h0 : Heap) (n0 : Nat) (Z0 : n0 ≤ h0.size) (Cq : own_C Z zCS dO dT ca cO cT cc) (O0 : Old Z n0 h0) (hbd : 10 ≤ x.toInt ∧ x.toInt < 100) (R_b : own_By Z h0 bb (2 : Int32)) (g_b : n0 ≤ bb) :
    MetFree l own_y14 (head1 (Jvm.Cond.code own_y14 jdk_33_method_12_code 7 (some .int) :: ws) (⟨0, 0, 0, 0⟩ : Room)) (fun aa U => aa = #[(.int x), (.int 2), (.ref bb)] ∧ Z.Warmed39 U.vm ∧ U.heap = h0) (fun _ _ _ _ _ => True) (fun _ U o U' => ∃ v L, o = .returned v ∧ own_gc2_Q Z x bb zCS dO dT ca cO cT cc h0 n0 v U'.heap L ∧ FrameEnd U o U' L (⟨0, 0, 0, 0⟩ : Room).cells (⟨0, 0, 0, 0⟩ : Room).slots) := by
  refine MetFree.of_bodySF (plainFor_of_name own_pn_java_lang_Integer) hisR ?_
  intro p e s m args below meth c s₁ Bd hml0 hP hK
  obtain ⟨rfl, hZ, hh⟩ := hP
  have hx := Bd.exec
  have hby := Bd.bytes
  have hml : c.maxLocals = 7 := hml0
  have hown : s.vm.findClass "java/lang/Integer" = some m.cls := findClass_of_methodNamed Bd.named
  have hnm := (name_of_methodNamed Bd.named Bd.method).1
  have hlk := Bd.notSynchronized
  have X0 : Stand p l e (⟨0, 0, 0, 0⟩ : Room) s m #[(.int x), (.int 2), (.ref bb)] below meth c s₁ [] 0 0 := Stand.of_body Bd
  have e0 : s₁.heap = h0 := by rw [← hh, Bd.state]; rfl
  have N0 := Fr.nil n0
  refine own_start (Q := own_gc2_Q Z x bb zCS dO dT ca cO cT cc h0 n0) (own_gc2_ef m x bb) ?_
  have en0 := own_neg (y := x) (by omega)
  have c_0 : (0 : Int32).toInt = 0 := by decide
  have c_m100 : (-100 : Int32).toInt = -100 := by decide
  have c_m9 : (-9 : Int32).toInt = -9 := by decide
  have c_100 : (100 : Int32).toInt = 100 := by decide
  have hx0 : ¬ x < (0 : Int32) := own_nl (by omega)
  have hlp0 : (-100 : Int32) < (-x) := own_lt (by omega)
  have nz := own_neg (y := (-x)) (by omega)
  have il : ¬ (-(-x)) < 0 ∧ (-(-x)) < (100 : Int32) := ⟨own_nl (by omega), own_lt (by omega)⟩
  have hn9 : (-x) < (-9 : Int32) := own_lt (by omega)
  refine own_g (mkF m 19 #[.val (.int x), .val (.int 2), .val (.ref bb), .unset, .unset, .val (.int 2), .val (.int 0)] []) (fun _ q => XS.iloadN X0.here hx rfl (hb hby own_d20_0) rfl (XS.istore X0.here hx rfl (hb hby own_d20_1) rfl (l' := #[.val (.int x), .val (.int 2), .val (.ref bb), .unset, .unset, .val (.int 2), .unset]) rfl (XS.iloadN X0.here hx rfl (hb hby own_d20_3) rfl (XS.ifYes X0.here hx rfl (pc0 := 4) (pc' := 11) rfl (hb hby own_d20_4) rfl ((if0 _ _).trans (flt hx0).2.1) (by decide) (by decide) (XS.iconst X0.here hx rfl (hb hby own_d20_11) (XS.istore X0.here hx rfl (hb hby own_d20_12) rfl (l' := #[.val (.int x), .val (.int 2), .val (.ref bb), .unset, .unset, .val (.int 2), .val (.int 0)]) rfl (XS.iload X0.here hx rfl (hb hby own_d20_14) rfl (XS.ifNo X0.here hx rfl (hb hby own_d20_16) rfl ((if0 _ _).trans (teq (by decide : (0 : Int32) = (0 : Int32))).2) q)))))))) ?_
  refine own_g (mkF m 76 #[.val (.int (-x)), .val (.int 2), .val (.ref bb), .unset, .unset, .val (.int 1), .val (.int 0)] [(.ref bb)]) (fun _ q => XS.iloadN X0.here hx rfl (hb hby own_d20_19) rfl (XS.ineg X0.here hx rfl (hb hby own_d20_20) rfl (XS.istoreN X0.here hx rfl (hb hby own_d20_21) rfl (l' := #[.val (.int (-x)), .val (.int 2), .val (.ref bb), .unset, .unset, .val (.int 2), .val (.int 0)]) rfl (XS.iloadN X0.here hx rfl (hb hby own_d20_22) rfl (XS.bipush X0.here hx rfl (hb hby own_d20_23) (XS.icmpYes X0.here hx rfl (pc0 := 25) (pc' := 72) rfl (hb hby own_d20_25) rfl (tlt hlp0).2.2.1 (by decide) (by decide) (XS.aloadN X0.here hx rfl (hb hby own_d20_72) rfl rfl (XS.iinc X0.here hx rfl (hb hby own_d20_73) rfl (l' := #[.val (.int (-x)), .val (.int 2), .val (.ref bb), .unset, .unset, .val (.int 1), .val (.int 0)]) rfl q)))))))) ?_
  refine own_g (mkF m 78 #[.val (.int (-x)), .val (.int 2), .val (.ref bb), .unset, .unset, .val (.int 1), .val (.int 0)] [(.int 1), (.ref bb)]) (fun _ q => XS.iload X0.here hx rfl (hb hby own_d20_76) rfl q) ?_
  obtain ⟨T1, X1, e1, st1⟩ := getS2 X0 hx hZ hown (host := "") (Or.inl (own_h hw 125 rfl)) Via.refl e0 (Sta.ext O0.2 Cq.2.2.1) (g := (mkF m 78 #[.val (.int (-x)), .val (.int 2), .val (.ref bb), .unset, .unset, .val (.int 1), .val (.int 0)] [(.int 1), (.ref bb)])) rfl (hb hby own_d20_78)
  refine own_by (g' := (mkF m 81 #[.val (.int (-x)), .val (.int 2), .val (.ref bb), .unset, .unset, .val (.int 1), .val (.int 0)] [(.ref dO), (.int 1), (.ref bb)])) st1 ?_
  refine own_g (mkF m 83 #[.val (.int (-x)), .val (.int 2), .val (.ref bb), .unset, .unset, .val (.int 1), .val (.int 0)] [(.int (-(-x))), (.ref dO), (.int 1), (.ref bb)]) (fun _ q => XS.iloadN X1.here hx rfl (hb hby own_d20_81) rfl (XS.ineg X1.here hx rfl (hb hby own_d20_82) rfl q)) ?_
  have TB2 := Tab.ext Cq.2.2.2.2.1 O0.2
  have hin2 := inb_of TB2.2.1 il
  refine own_by (g' := (mkF m 84 #[.val (.int (-x)), .val (.int 2), .val (.ref bb), .unset, .unset, .val (.int 1), .val (.int 0)] [(.int (atv cO (-(-x)))), (.int 1), (.ref bb)])) (fun _ kq => X1.baloadBytes hx (j := (-(-x))) (v := (.int (atv cO (-(-x))))) (by rw [e1]; exact TB2.1.1) (State.isArrayOf_alike hZ.alike TB2.1.2.1) TB2.1.2.2 hin2 (TB2.2.2.2 _ hin2) (g := (mkF m 83 #[.val (.int (-x)), .val (.int 2), .val (.ref bb), .unset, .unset, .val (.int 1), .val (.int 0)] [(.int (-(-x))), (.ref dO), (.int 1), (.ref bb)])) rfl rfl (hb hby own_d20_83) _ kq) ?_
  obtain ⟨kk3, vs3, ⟨cl3, Ar3, q3, S3, P3, H3, G3⟩, hl3⟩ := id R_b
  have hin3 : ¬ ((1 : Int32) < 0 ∨ cl3.slots.size ≤ ((1 : Int32)).toNatClampNeg) := inb_of S3 ⟨by decide, by decide⟩
  obtain ⟨T4, h4, X4, e4, W4, st4⟩ := stB X1 hx hZ e1 Ar3 (j := (1 : Int32)) hin3 (g := (mkF m 84 #[.val (.int (-x)), .val (.int 2), .val (.ref bb), .unset, .unset, .val (.int 1), .val (.int 0)] [(.int (atv cO (-(-x)))), (.int 1), (.ref bb)])) rfl rfl (hb hby own_d20_84)
  have R4 := own_By.put Ar3 q3 S3 P3 H3 G3 hl3 hin3 (fits_nar_byte _) W4
  have N4 := Fr.snoc X4 N0 g_b
  refine own_by (g' := (mkF m 85 #[.val (.int (-x)), .val (.int 2), .val (.ref bb), .unset, .unset, .val (.int 1), .val (.int 0)] [])) st4 ?_
  refine own_g (mkF m 97 #[.val (.int (-x)), .val (.int 2), .val (.ref bb), .unset, .unset, .val (.int 0), .val (.int 0)] [(.int 0), (.ref bb)]) (fun _ q => XS.iloadN X4.here hx rfl (hb hby own_d20_85) rfl (XS.bipush X4.here hx rfl (hb hby own_d20_86) (XS.icmpNo X4.here hx rfl (hb hby own_d20_88) rfl (tlt hn9).2.1 (XS.aloadN X4.here hx rfl (hb hby own_d20_91) rfl rfl (XS.iinc X4.here hx rfl (hb hby own_d20_92) rfl (l' := #[.val (.int (-x)), .val (.int 2), .val (.ref bb), .unset, .unset, .val (.int 0), .val (.int 0)]) rfl (XS.iload X4.here hx rfl (hb hby own_d20_95) rfl q)))))) ?_
  have o5_ := (O0.wr W4 g_b)
  obtain ⟨T6, X6, e6, st6⟩ := getS2 X4 hx hZ hown (host := "") (Or.inl (own_h hw 221 rfl)) Via.refl e4 (Sta.ext o5_.2 Cq.2.2.2.1) (g := (mkF m 97 #[.val (.int (-x)), .val (.int 2), .val (.ref bb), .unset, .unset, .val (.int 0), .val (.int 0)] [(.int 0), (.ref bb)])) rfl (hb hby own_d20_97)
  refine own_by (g' := (mkF m 100 #[.val (.int (-x)), .val (.int 2), .val (.ref bb), .unset, .unset, .val (.int 0), .val (.int 0)] [(.ref dT), (.int 0), (.ref bb)])) st6 ?_
  refine own_g (mkF m 102 #[.val (.int (-x)), .val (.int 2), .val (.ref bb), .unset, .unset, .val (.int 0), .val (.int 0)] [(.int (-(-x))), (.ref dT), (.int 0), (.ref bb)]) (fun _ q => XS.iloadN X6.here hx rfl (hb hby own_d20_100) rfl (XS.ineg X6.here hx rfl (hb hby own_d20_101) rfl q)) ?_
  have TB7 := Tab.ext Cq.2.2.2.2.2.1 o5_.2
  have hin7 := inb_of TB7.2.1 il
  refine own_by (g' := (mkF m 103 #[.val (.int (-x)), .val (.int 2), .val (.ref bb), .unset, .unset, .val (.int 0), .val (.int 0)] [(.int (atv cT (-(-x)))), (.int 0), (.ref bb)])) (fun _ kq => X6.baloadBytes hx (j := (-(-x))) (v := (.int (atv cT (-(-x))))) (by rw [e6]; exact TB7.1.1) (State.isArrayOf_alike hZ.alike TB7.1.2.1) TB7.1.2.2 hin7 (TB7.2.2.2 _ hin7) (g := (mkF m 102 #[.val (.int (-x)), .val (.int 2), .val (.ref bb), .unset, .unset, .val (.int 0), .val (.int 0)] [(.int (-(-x))), (.ref dT), (.int 0), (.ref bb)])) rfl rfl (hb hby own_d20_102) _ kq) ?_
  obtain ⟨kk8, vs8, ⟨cl8, Ar8, q8, S8, P8, H8, G8⟩, hl8⟩ := id R4
  have hin8 : ¬ ((0 : Int32) < 0 ∨ cl8.slots.size ≤ ((0 : Int32)).toNatClampNeg) := inb_of S8 ⟨by decide, by decide⟩
  obtain ⟨T9, h9, X9, e9, W9, st9⟩ := stB X6 hx hZ e6 Ar8 (j := (0 : Int32)) hin8 (g := (mkF m 103 #[.val (.int (-x)), .val (.int 2), .val (.ref bb), .unset, .unset, .val (.int 0), .val (.int 0)] [(.int (atv cT (-(-x)))), (.int 0), (.ref bb)])) rfl rfl (hb hby own_d20_103)
  have R9 := own_By.put Ar8 q8 S8 P8 H8 G8 hl8 hin8 (fits_nar_byte _) W9
  have N9 := Fr.snoc X9 N4 g_b
  refine own_by (g' := (mkF m 104 #[.val (.int (-x)), .val (.int 2), .val (.ref bb), .unset, .unset, .val (.int 0), .val (.int 0)] [])) st9 ?_
  refine own_g (mkF m 120 #[.val (.int (-x)), .val (.int 2), .val (.ref bb), .unset, .unset, .val (.int 0), .val (.int 0)] [(.int 0)]) (fun _ q => XS.iload X9.here hx rfl (hb hby own_d20_104) rfl (XS.ifYes X9.here hx rfl (pc0 := 106) (pc' := 118) rfl (hb hby own_d20_106) rfl ((if0 _ _).trans (teq (by decide : (0 : Int32) = (0 : Int32))).1) (by decide) (by decide) (XS.iload X9.here hx rfl (hb hby own_d20_118) rfl q))) ?_
  have k10_ := (((Keep.refl h0 [bb]).wr W4 (Or.inl (List.mem_of_getElem? (i := 0) rfl))).wr W9 (Or.inl (List.mem_of_getElem? (i := 0) rfl)))
  exact own_end X9 (v := some (.int 0)) (fun h => by rw [Bd.returns] at h; cases h) hlk (fun hr => retOut X9 hx Bd.returns rfl (Or.inl ⟨rfl, Or.inl rfl, _, rfl⟩) (hb hby own_d20_120) hr) (by rw [e9]; exact ⟨⟨_, rfl⟩, N9, k10_, R9⟩) (by decide) (by decide)
theorem own_is2_ef (m : MethodId) (x : Int32) : entryFrame m #[(.int x)] 3 = mkF m 0 #[.val (.int x), .unset, .unset] [] := by  first | (simp [entryFrame, mkF, argsToLocals, Value.category]; done) | rfl
def own_is2_Q (Z : State) (x : Int32) (zCS : Int32) (dO : Addr) (dT : Addr) (ca : Addr) (cO : Cell) (cT : Cell) (cc : Cell) (h0 : Heap) (n0 : Nat) (v : Option Value) (h : Heap) (L : List Loc) : Prop := ∃ r b : Addr, v = some (.ref r) ∧ Fr n0 L ∧ Keep h0 h [] ∧ h0.size ≤ r ∧ n0 ≤ r ∧ h0.size ≤ b ∧ Exa Z h r "java/lang/String" ∧ Fld Z h r "java/lang/String" "value" "[B" (.ref b) ∧ Fld Z h r "java/lang/String" "coder" "B" (.int 0) ∧ own_By Z h b (2 : Int32)
set_option maxRecDepth 65536 in
set_option maxHeartbeats 40000000 in
theorem own_is2 (l : Launch) (Z : State) (a0 : Array Value) (hw : ∀ d ∈ tables_1, d.before a0 Z = true) (ws : List Jvm.Cond) (x : Int32) (zCS : Int32) (dO : Addr) (dT : Addr) (ca : Addr) (cO : Cell) (cT : Cell) (cc : Cell) (h0 : Heap) (n0 : Nat) (Z0 : n0 ≤ h0.size) (Cq : own_C Z zCS dO dT ca cO cT cc) (O0 : Old Z n0 h0) (hbd : 10 ≤ x.toInt ∧ x.toInt < 100) :
    MetFree l own_y18 (head1 (Jvm.Cond.code own_y18 jdk_33_method_10_code 3 (some (.object "java/lang/String")) :: ws) (⟨2, 2, 6, 27⟩ : Room)) (fun aa U => aa = #[(.int x)] ∧ Z.Warmed39 U.vm ∧ U.heap = h0) (fun _ _ _ _ _ => True) (fun _ U o U' => ∃ v L, o = .returned v ∧ own_is2_Q Z x zCS dO dT ca cO cT cc h0 n0 v U'.heap L ∧ FrameEnd U o U' L (⟨2, 2, 6, 27⟩ : Room).cells (⟨2, 2, 6, 27⟩ : Room).slots) := by
  refine MetFree.of_bodySF (plainFor_of_name own_pn_java_lang_Integer) hisR ?_
  intro p e s m args below meth c s₁ Bd hml0 hP hK
  obtain ⟨rfl, hZ, hh⟩ := hP
  have hx := Bd.exec
  have hby := Bd.bytes
  have hml : c.maxLocals = 3 := hml0
  have hown : s.vm.findClass "java/lang/Integer" = some m.cls := findClass_of_methodNamed Bd.named
  have hnm := (name_of_methodNamed Bd.named Bd.method).1
  have hlk := Bd.notSynchronized
  have X0 : Stand p l e (⟨2, 2, 6, 27⟩ : Room) s m #[(.int x)] below meth c s₁ [] 0 0 := Stand.of_body Bd
  have e0 : s₁.heap = h0 := by rw [← hh, Bd.state]; rfl
  have N0 := Fr.nil n0
  refine own_start (Q := own_is2_Q Z x zCS dO dT ca cO cT cc h0 n0) (own_is2_ef m x) ?_
  refine own_g (mkF m 1 #[.val (.int x), .unset, .unset] [(.int x)]) (fun _ q => XS.iloadN X0.here hx rfl (hb hby own_d18_0) rfl q) ?_
  refine own_callS X0 hx hZ (y := own_y16) hown (own_h hw 118 rfl) (own_h hw 119 rfl) (own_h hw 7 rfl) (own_h hw 120 rfl) (by decide) (own_ss2 l Z a0 hw [] x zCS dO dT ca cO cT cc h0 n0 Z0 Cq O0 hbd) (by decide) (by decide) e0 (g := (mkF m 1 #[.val (.int x), .unset, .unset] [(.int x)])) rfl (by rw [hml]; rfl) (argsL := [(.int x)]) (rest := []) (lenOf own_pd__28I_29I rfl) rfl (W := 0) (by show 2 * 0 + _ ≤ _; exact Nat.le_of_eq rfl) (hb hby own_d18_1) rfl (by decide) (by decide) ?_
  rintro rv1 T1 L1 X1 ⟨rfl, Nq1, eh1⟩
  have N1 := Fr.app N0 Nq1
  refine own_g (mkF m 5 #[.val (.int x), .val (.int 2), .unset] []) (fun _ q => XS.istoreN X1.here hx rfl (hb hby own_d18_4) rfl (l' := #[.val (.int x), .val (.int 2), .unset]) rfl q) ?_
  obtain ⟨T2, X2, e2, st2⟩ := getS2 X1 hx hZ hown (host := "") (Or.inl (own_h hw 121 rfl)) Via.refl eh1 (Sta.ext O0.2 Cq.1) (g := (mkF m 5 #[.val (.int x), .val (.int 2), .unset] [])) rfl (hb hby own_d18_5)
  refine own_by (g' := (mkF m 8 #[.val (.int x), .val (.int 2), .unset] [(.int zCS)])) st2 ?_
  refine own_g (mkF m 12 #[.val (.int x), .val (.int 2), .unset] [(.int 2)]) (fun _ q => XS.ifNo X2.here hx rfl (hb hby own_d18_8) rfl ((if0 _ _).trans (feq Cq.2.1).1) (XS.iloadN X2.here hx rfl (hb hby own_d18_11) rfl q)) ?_
  obtain ⟨T3, h3, k3, X3, e3, E3, A3, Ex3, st3⟩ := newPE X2 hx hZ (own_h hw 38 rfl) e2 (g := (mkF m 12 #[.val (.int x), .val (.int 2), .unset] [(.int 2)])) rfl (hb hby own_d18_12) rfl (by decide) (cap := 2) (by decide) (by decide) (by decide) (by decide) (ad := "[B") (by decide)
  obtain ⟨b3, g3⟩ : ∃ z, z = h0.size := ⟨_, rfl⟩
  rw [← g3] at A3 Ex3 st3
  have g_b3 : n0 ≤ b3 := Nat.le_trans Z0 (Nat.le_of_eq g3.symm)
  have sz_b3 : h0.size ≤ b3 := Nat.le_trans (Keep.refl h0 []).1 (Nat.le_of_eq g3.symm)
  have R_b3 := own_By.of (Arv.new A3 (by decide))
  refine own_by (g' := (mkF m 14 #[.val (.int x), .val (.int 2), .unset] [(.ref b3)])) st3 ?_
  refine own_g (mkF m 18 #[.val (.int x), .val (.int 2), .val (.ref b3)] [(.ref b3), (.int 2), (.int x)]) (fun _ q => XS.astoreN X3.here hx rfl (hb hby own_d18_14) rfl rfl (l' := #[.val (.int x), .val (.int 2), .val (.ref b3)]) rfl (XS.iloadN X3.here hx rfl (hb hby own_d18_15) rfl (XS.iloadN X3.here hx rfl (hb hby own_d18_16) rfl (XS.aloadN X3.here hx rfl (hb hby own_d18_17) rfl rfl q)))) ?_
  have k4_ := ((Keep.refl h0 []).ext E3)
  have o5_ := (O0.ext E3)
  refine own_callS X3 hx hZ (y := own_y14) hown (own_h hw 122 rfl) (own_h hw 123 rfl) (own_h hw 7 rfl) (own_h hw 124 rfl) (by decide) (own_gc2 l Z a0 hw [] x b3 zCS dO dT ca cO cT cc h3 n0 (Nat.le_trans Z0 k4_.1) Cq o5_ hbd R_b3 g_b3) (by decide) (by decide) e3 (g := (mkF m 18 #[.val (.int x), .val (.int 2), .val (.ref b3)] [(.ref b3), (.int 2), (.int x)])) rfl (by rw [hml]; rfl) (argsL := [(.int x), (.int 2), (.ref b3)]) (rest := []) (lenOf own_pd__28II_5bB_29I rfl) rfl (W := 0) (by show 2 * 0 + _ ≤ _; exact Nat.le_of_eq rfl) (hb hby own_d18_18) rfl (by decide) (by decide) ?_
  rintro rv6 T6 L6 X6 ⟨⟨rr6, rfl⟩, Nq6, Kq6, Rq6⟩
  have N6 := Fr.app N1 Nq6
  refine own_g (mkF m 22 #[.val (.int x), .val (.int 2), .val (.ref b3)] []) (fun _ q => XS.pop X6.here hx rfl (hb hby own_d18_21) rfl rfl q) ?_
  obtain ⟨T7, h7, X7, e7, E7, A7, D7, U7, st7⟩ := newO X6 hx hZ hown (own_h hw 126 rfl) (own_h hw 44 rfl) (own_h hw 37 rfl) rfl (g := (mkF m 22 #[.val (.int x), .val (.int 2), .val (.ref b3)] [])) rfl (hb hby own_d18_22) (by decide) (by decide)
  obtain ⟨b7, g7⟩ : ∃ z, z = T6.heap.size := ⟨_, rfl⟩
  rw [← g7] at A7 D7 U7 st7
  have k8_ := (k4_.trans Kq6 (allS (Or.inr sz_b3) all0))
  have g_b7 : n0 ≤ b7 := Nat.le_trans (Nat.le_trans Z0 k8_.1) (Nat.le_of_eq g7.symm)
  have sz_b7 : h0.size ≤ b7 := Nat.le_trans k8_.1 (Nat.le_of_eq g7.symm)
  have ne_b3_b7 : b3 ≠ b7 := Nat.ne_of_lt (Nat.lt_of_lt_of_le Rq6.lt (Nat.le_of_eq g7.symm))
  have F_value_b7 : Fld Z h7 b7 "java/lang/String" "value" "[B" .null := D7 (Or.inr (own_h hw 45 rfl)) (ty := (.array .byte)) (by decide)
  have F_coder_b7 : Fld Z h7 b7 "java/lang/String" "coder" "B" (.int 0) := D7 (Or.inr (own_h hw 46 rfl)) (ty := .byte) (by decide)
  refine own_by (g' := (mkF m 25 #[.val (.int x), .val (.int 2), .val (.ref b3)] [(.ref b7)])) st7 ?_
  refine own_g (mkF m 28 #[.val (.int x), .val (.int 2), .val (.ref b3)] [(.int 0), (.ref b3), (.ref b7), (.ref b7)]) (fun _ q => XS.dup X7.here hx rfl (hb hby own_d18_25) rfl rfl (XS.aloadN X7.here hx rfl (hb hby own_d18_26) rfl rfl (XS.iconst X7.here hx rfl (hb hby own_d18_27) q))) ?_
  have k9_ := (k8_.ext E7)
  have o10_ := ((o5_.keep Kq6 (allS g_b3 all0)).ext E7)
  refine own_callI X7 hx hZ (y := own_y27) rfl hown (own_h hw 127 rfl) (own_h hw 128 rfl) (own_h hw 130 rfl) (own_h hw 37 rfl) (by decide) (own_sbb l Z a0 hw [] b7 b3 zCS dO dT ca cO cT cc h7 n0 (Nat.le_trans Z0 k9_.1) Cq o10_ A7 F_value_b7 F_coder_b7 g_b7) (by decide) (by decide) e7 (g := (mkF m 28 #[.val (.int x), .val (.int 2), .val (.ref b3)] [(.int 0), (.ref b3), (.ref b7), (.ref b7)])) rfl (by rw [hml]; rfl) (argsL := [(.ref b3), (.int 0)]) (rest := [(.ref b7)]) (lenOf own_pd__28_5bBB_29V rfl) rfl (W := 1) (by show 2 * 0 + _ ≤ _; exact Nat.le_of_eq rfl) (hb hby own_d18_28) rfl (by decide) (by decide) ?_
  rintro rv11 T11 L11 X11 ⟨rfl, Nq11, Kq11, Fv11, Fc11⟩
  have N11 := Fr.app N6 Nq11
  show own_Fin p e below _ T11 (mkF m 31 #[.val (.int x), .val (.int 2), .val (.ref b3)] [(.ref b7)])
  have k12_ := (k9_.trans Kq11 (allS (Or.inr sz_b7) all0))
  have e13_b7 := (A7.keep Kq11)
  have r14_b3 := ((Rq6.ext E7).keep Kq11 (ninS ne_b3_b7 nin0))
  exact own_end X11 (v := some (.ref b7)) (fun h => by rw [Bd.returns] at h; cases h) hlk (fun hr => retOut X11 hx Bd.returns (own_narR rfl) (Or.inr (Or.inr (Or.inr (Or.inr ⟨rfl, rfl, rfl⟩)))) (hb hby own_d18_31) hr) (⟨b7, b3, rfl, N11, k12_, sz_b7, g_b7, sz_b3, e13_b7, Fv11, Fc11, r14_b3⟩) (by decide) (by decide)
theorem own_ss3_ef (m : MethodId) (x : Int32) : entryFrame m #[(.int x)] 4 = mkF m 0 #[.val (.int x), .unset, .unset, .unset] [] := by  first | (simp [entryFrame, mkF, argsToLocals, Value.category]; done) | rfl
def own_ss3_Q (Z : State) (x : Int32) (zCS : Int32) (dO : Addr) (dT : Addr) (ca : Addr) (cO : Cell) (cT : Cell) (cc : Cell) (h0 : Heap) (n0 : Nat) (v : Option Value) (h : Heap) (L : List Loc) : Prop := v = some (.int 3) ∧ Fr n0 L ∧ h = h0
set_option maxRecDepth 65536 in
set_option maxHeartbeats 40000000 in
theorem own_ss3 (l : Launch) (Z : State) (a0 : Array Value) (hw : ∀ d ∈ tables_1, d.before a0 Z = true) (ws : List Jvm.Cond) (x : Int32) (zCS : Int32) (dO : Addr) (dT : Addr) (ca : Addr) (cO : Cell) (cT : Cell) (cc : Cell) (h0 : Heap) (n0 : Nat) (Z0 : n0 ≤ h0.size) (Cq : own_C Z zCS dO dT ca cO cT cc) (O0 : Old Z n0 h0) (hbd : 100 ≤ x.toInt ∧ x.toInt < 1000) :
    MetFree l own_y16 (head1 (Jvm.Cond.code own_y16 jdk_33_method_13_code 4 (some .int) :: ws) (⟨0, 0, 0, 0⟩ : Room)) (fun aa U => aa = #[(.int x)] ∧ Z.Warmed39 U.vm ∧ U.heap = h0) (fun _ _ _ _ _ => True) (fun _ U o U' => ∃ v L, o = .returned v ∧ own_ss3_Q Z x zCS dO dT ca cO cT cc h0 n0 v U'.heap L ∧ FrameEnd U o U' L (⟨0, 0, 0, 0⟩ : Room).cells (⟨0, 0, 0, 0⟩ : Room).slots) := by
  refine MetFree.of_bodySF (plainFor_of_name own_pn_java_lang_Integer) hisR ?_
  intro p e s m args below meth c s₁ Bd hml0 hP hK
  obtain ⟨rfl, hZ, hh⟩ := hP
  have hx := Bd.exec
  have hby := Bd.bytes
  have hml : c.maxLocals = 4 := hml0
  have hown : s.vm.findClass "java/lang/Integer" = some m.cls := findClass_of_methodNamed Bd.named
  have hnm := (name_of_methodNamed Bd.named Bd.method).1
  have hlk := Bd.notSynchronized
  have X0 : Stand p l e (⟨0, 0, 0, 0⟩ : Room) s m #[(.int x)] below meth c s₁ [] 0 0 := Stand.of_body Bd
  have e0 : s₁.heap = h0 := by rw [← hh, Bd.state]; rfl
  have N0 := Fr.nil n0
  refine own_start (Q := own_ss3_Q Z x zCS dO dT ca cO cT cc h0 n0) (own_ss3_ef m x) ?_
  have en0 := own_neg (y := x) (by omega)
  have c_0 : (0 : Int32).toInt = 0 := by decide
  have hx0 : ¬ x < (0 : Int32) := own_nl (by omega)
  have c_m10 : (-10 : Int32).toInt = -10 := by decide
  have hs1 : ¬ ((-10 : Int32) < (-x)) := own_nl (by omega)
  have c_m100 : (-100 : Int32).toInt = -100 := by decide
  have hs2 : ¬ ((-100 : Int32) < (-x)) := own_nl (by omega)
  have c_m1000 : (-1000 : Int32).toInt = -1000 := by decide
  have hs3 : (-1000 : Int32) < (-x) := own_lt (by omega)
  refine own_g (mkF m 10 #[.val (.int x), .val (.int 0), .unset, .unset] [(.int (-x))]) (fun _ q => XS.iconst X0.here hx rfl (hb hby own_d19_0) (XS.istoreN X0.here hx rfl (hb hby own_d19_1) rfl (l' := #[.val (.int x), .val (.int 1), .unset, .unset]) rfl (XS.iloadN X0.here hx rfl (hb hby own_d19_2) rfl (XS.ifNo X0.here hx rfl (hb hby own_d19_3) rfl ((if0 _ _).trans (flt hx0).1) (XS.iconst X0.here hx rfl (hb hby own_d19_6) (XS.istoreN X0.here hx rfl (hb hby own_d19_7) rfl (l' := #[.val (.int x), .val (.int 0), .unset, .unset]) rfl (XS.iloadN X0.here hx rfl (hb hby own_d19_8) rfl (XS.ineg X0.here hx rfl (hb hby own_d19_9) rfl q)))))))) ?_
  refine own_g (mkF m 22 #[.val (.int (-x)), .val (.int 0), .val (.int (-10)), .val (.int 1)] []) (fun _ q => XS.istoreN X0.here hx rfl (hb hby own_d19_10) rfl (l' := #[.val (.int (-x)), .val (.int 0), .unset, .unset]) rfl (XS.bipush X0.here hx rfl (hb hby own_d19_11) (XS.istoreN X0.here hx rfl (hb hby own_d19_13) rfl (l' := #[.val (.int (-x)), .val (.int 0), .val (.int (-10)), .unset]) rfl (XS.iconst X0.here hx rfl (hb hby own_d19_14) (XS.istoreN X0.here hx rfl (hb hby own_d19_15) rfl (l' := #[.val (.int (-x)), .val (.int 0), .val (.int (-10)), .val (.int 1)]) rfl (XS.iloadN X0.here hx rfl (hb hby own_d19_16) rfl (XS.bipush X0.here hx rfl (hb hby own_d19_17) (XS.icmpNo X0.here hx rfl (hb hby own_d19_19) rfl (tlt (by decide : (1 : Int32) < (10 : Int32))).2.1 q)))))))) ?_
  refine own_g (mkF m 39 #[.val (.int (-x)), .val (.int 0), .val (.int (-100)), .val (.int 2)] []) (fun _ q => XS.iloadN X0.here hx rfl (hb hby own_d19_22) rfl (XS.iloadN X0.here hx rfl (hb hby own_d19_23) rfl (XS.icmpYes X0.here hx rfl (pc0 := 24) (pc' := 31) rfl (hb hby own_d19_24) rfl (flt hs1).2.2.2 (by decide) (by decide) (XS.bipush X0.here hx rfl (hb hby own_d19_31) (XS.iloadN X0.here hx rfl (hb hby own_d19_33) rfl (XS.imul X0.here hx rfl (hb hby own_d19_34) rfl (XS.istoreN X0.here hx rfl (hb hby own_d19_35) rfl (l' := #[.val (.int (-x)), .val (.int 0), .val (.int (-100)), .val (.int 1)]) rfl (XS.iinc X0.here hx rfl (hb hby own_d19_36) rfl (l' := #[.val (.int (-x)), .val (.int 0), .val (.int (-100)), .val (.int 2)]) rfl q)))))))) ?_
  refine own_g (mkF m 33 #[.val (.int (-x)), .val (.int 0), .val (.int (-100)), .val (.int 2)] [(.int 10)]) (fun _ q => XS.goto X0.here hx rfl (pc0 := 39) (pc' := 16) rfl (hb hby own_d19_39) (by decide) (by decide) (XS.iloadN X0.here hx rfl (hb hby own_d19_16) rfl (XS.bipush X0.here hx rfl (hb hby own_d19_17) (XS.icmpNo X0.here hx rfl (hb hby own_d19_19) rfl (tlt (by decide : (2 : Int32) < (10 : Int32))).2.1 (XS.iloadN X0.here hx rfl (hb hby own_d19_22) rfl (XS.iloadN X0.here hx rfl (hb hby own_d19_23) rfl (XS.icmpYes X0.here hx rfl (pc0 := 24) (pc' := 31) rfl (hb hby own_d19_24) rfl (flt hs2).2.2.2 (by decide) (by decide) (XS.bipush X0.here hx rfl (hb hby own_d19_31) q)))))))) ?_
  refine own_g (mkF m 22 #[.val (.int (-x)), .val (.int 0), .val (.int (-1000)), .val (.int 3)] []) (fun _ q => XS.iloadN X0.here hx rfl (hb hby own_d19_33) rfl (XS.imul X0.here hx rfl (hb hby own_d19_34) rfl (XS.istoreN X0.here hx rfl (hb hby own_d19_35) rfl (l' := #[.val (.int (-x)), .val (.int 0), .val (.int (-1000)), .val (.int 2)]) rfl (XS.iinc X0.here hx rfl (hb hby own_d19_36) rfl (l' := #[.val (.int (-x)), .val (.int 0), .val (.int (-1000)), .val (.int 3)]) rfl (XS.goto X0.here hx rfl (pc0 := 39) (pc' := 16) rfl (hb hby own_d19_39) (by decide) (by decide) (XS.iloadN X0.here hx rfl (hb hby own_d19_16) rfl (XS.bipush X0.here hx rfl (hb hby own_d19_17) (XS.icmpNo X0.here hx rfl (hb hby own_d19_19) rfl (tlt (by decide : (3 : Int32) < (10 : Int32))).2.1 q)))))))) ?_
  refine own_g (mkF m 30 #[.val (.int (-x)), .val (.int 0), .val (.int (-1000)), .val (.int 3)] [(.int 3)]) (fun _ q => XS.iloadN X0.here hx rfl (hb hby own_d19_22) rfl (XS.iloadN X0.here hx rfl (hb hby own_d19_23) rfl (XS.icmpNo X0.here hx rfl (hb hby own_d19_24) rfl (tlt hs3).2.2.2 (XS.iloadN X0.here hx rfl (hb hby own_d19_27) rfl (XS.iloadN X0.here hx rfl (hb hby own_d19_28) rfl (XS.iadd X0.here hx rfl (hb hby own_d19_29) rfl q)))))) ?_
  exact own_end X0 (v := some (.int 3)) (fun h => by rw [Bd.returns] at h; cases h) hlk (fun hr => retOut X0 hx Bd.returns rfl (Or.inl ⟨rfl, Or.inl rfl, _, rfl⟩) (hb hby own_d19_30) hr) (by rw [e0]; exact ⟨rfl, N0, rfl⟩) (by decide) (by decide)
theorem own_d20_28 : decode jdk_33_method_12_code 28 = .ok (.iload_n 0, 1) := by decide +kernel
theorem own_d20_29 : decode jdk_33_method_12_code 29 = .ok (.bipush 100, 2) := by decide +kernel
theorem own_d20_31 : decode jdk_33_method_12_code 31 = .ok (.idiv, 1) := by decide +kernel
theorem own_d20_32 : decode jdk_33_method_12_code 32 = .ok (.istore_n 3, 1) := by decide +kernel
theorem own_d20_33 : decode jdk_33_method_12_code 33 = .ok (.iload_n 3, 1) := by decide +kernel
theorem own_d20_34 : decode jdk_33_method_12_code 34 = .ok (.bipush 100, 2) := by decide +kernel
theorem own_d20_36 : decode jdk_33_method_12_code 36 = .ok (.imul, 1) := by decide +kernel
theorem own_d20_37 : decode jdk_33_method_12_code 37 = .ok (.iload_n 0, 1) := by decide +kernel
theorem own_d20_38 : decode jdk_33_method_12_code 38 = .ok (.isub, 1) := by decide +kernel
theorem own_d20_39 : decode jdk_33_method_12_code 39 = .ok (.istore 4, 2) := by decide +kernel
theorem own_d20_41 : decode jdk_33_method_12_code 41 = .ok (.iload_n 3, 1) := by decide +kernel
theorem own_d20_42 : decode jdk_33_method_12_code 42 = .ok (.istore_n 0, 1) := by decide +kernel
theorem own_d20_43 : decode jdk_33_method_12_code 43 = .ok (.aload_n 2, 1) := by decide +kernel
theorem own_d20_44 : decode jdk_33_method_12_code 44 = .ok (.iinc 5 (-1), 3) := by decide +kernel
theorem own_d20_47 : decode jdk_33_method_12_code 47 = .ok (.iload 5, 2) := by decide +kernel
theorem own_d20_49 : decode jdk_33_method_12_code 49 = .ok (.getstatic 83, 3) := by decide +kernel
theorem own_d20_52 : decode jdk_33_method_12_code 52 = .ok (.iload 4, 2) := by decide +kernel
theorem own_d20_54 : decode jdk_33_method_12_code 54 = .ok (.baload, 1) := by decide +kernel
theorem own_d20_55 : decode jdk_33_method_12_code 55 = .ok (.bastore, 1) := by decide +kernel
theorem own_d20_56 : decode jdk_33_method_12_code 56 = .ok (.aload_n 2, 1) := by decide +kernel
theorem own_d20_57 : decode jdk_33_method_12_code 57 = .ok (.iinc 5 (-1), 3) := by decide +kernel
theorem own_d20_60 : decode jdk_33_method_12_code 60 = .ok (.iload 5, 2) := by decide +kernel
theorem own_d20_62 : decode jdk_33_method_12_code 62 = .ok (.getstatic 87, 3) := by decide +kernel
theorem own_d20_65 : decode jdk_33_method_12_code 65 = .ok (.iload 4, 2) := by decide +kernel
theorem own_d20_67 : decode jdk_33_method_12_code 67 = .ok (.baload, 1) := by decide +kernel
theorem own_d20_68 : decode jdk_33_method_12_code 68 = .ok (.bastore, 1) := by decide +kernel
theorem own_d20_69 : decode jdk_33_method_12_code 69 = .ok (.goto (-47), 3) := by decide +kernel
theorem own_gc3_ef (m : MethodId) (x : Int32) (bb : Addr) : entryFrame m #[(.int x), (.int 3), (.ref bb)] 7 = mkF m 0 #[.val (.int x), .val (.int 3), .val (.ref bb), .unset, .unset, .unset, .unset] [] := by  first | (simp [entryFrame, mkF, argsToLocals, Value.category]; done) | rfl
def own_gc3_Q (Z : State) (x : Int32) (bb : Addr) (zCS : Int32) (dO : Addr) (dT : Addr) (ca : Addr) (cO : Cell) (cT : Cell) (cc : Cell) (h0 : Heap) (n0 : Nat) (v : Option Value) (h : Heap) (L : List Loc) : Prop := (∃ r, v = some (.int r)) ∧ Fr n0 L ∧ Keep h0 h [bb] ∧ own_By Z h bb (3 : Int32)
set_option maxRecDepth 65536 in
set_option maxHeartbeats 40000000 in
theorem own_gc3 (l : Launch) (Z : State) (a0 : Array Value) (hw : ∀ d ∈ tables_1, d.before a0 Z = true) (ws : List Jvm.Cond) (x : Int32) (bb : Addr) (zCS : Int32) (dO : Addr) (dT : Addr) (ca : Addr) (cO : Cell) (cT : Cell) (cc : Cell) (h0 : Heap) (n0 : Nat) (Z0 : n0 ≤ h0.size) (Cq : own_C Z zCS dO dT ca cO cT cc) (O0 : Old Z n0 h0) (hbd : 100 ≤ x.toInt ∧ x.toInt < 1000) (R_b : own_By Z h0 bb (3 : Int32)) (g_b : n0 ≤ bb) :
    MetFree l own_y14 (head1 (Jvm.Cond.code own_y14 jdk_33_method_12_code 7 (some .int) :: ws) (⟨0, 0, 0, 0⟩ : Room)) (fun aa U => aa = #[(.int x), (.int 3), (.ref bb)] ∧ Z.Warmed39 U.vm ∧ U.heap = h0) (fun _ _ _ _ _ => True) (fun _ U o U' => ∃ v L, o = .returned v ∧ own_gc3_Q Z x bb zCS dO dT ca cO cT cc h0 n0 v U'.heap L ∧ FrameEnd U o U' L (⟨0, 0, 0, 0⟩ : Room).cells (⟨0, 0, 0, 0⟩ : Room).slots) := by
  refine MetFree.of_bodySF (plainFor_of_name own_pn_java_lang_Integer) hisR ?_
  intro p e s m args below meth c s₁ Bd hml0 hP hK
  obtain ⟨rfl, hZ, hh⟩ := hP
  have hx := Bd.exec
  have hby := Bd.bytes
  have hml : c.maxLocals = 7 := hml0
  have hown : s.vm.findClass "java/lang/Integer" = some m.cls := findClass_of_methodNamed Bd.named
  have hnm := (name_of_methodNamed Bd.named Bd.method).1
  have hlk := Bd.notSynchronized
  have X0 : Stand p l e (⟨0, 0, 0, 0⟩ : Room) s m #[(.int x), (.int 3), (.ref bb)] below meth c s₁ [] 0 0 := Stand.of_body Bd
  have e0 : s₁.heap = h0 := by rw [← hh, Bd.state]; rfl
  have N0 := Fr.nil n0
  refine own_start (Q := own_gc3_Q Z x bb zCS dO dT ca cO cT cc h0 n0) (own_gc3_ef m x bb) ?_
  have en0 := own_neg (y := x) (by omega)
  have c_0 : (0 : Int32).toInt = 0 := by decide
  have c_m100 : (-100 : Int32).toInt = -100 := by decide
  have c_m9 : (-9 : Int32).toInt = -9 := by decide
  have c_100 : (100 : Int32).toInt = 100 := by decide
  have hx0 : ¬ x < (0 : Int32) := own_nl (by omega)
  have hlp0 : ¬ ((-100 : Int32) < (-x)) := own_nl (by omega)
  have qq0 := own_qd (y := (-x)) (by omega)
  have rr0 := own_rd (y := (-x)) (by omega)
  have ir0 : ¬ ((((-x) / (100 : Int32)) * (100 : Int32)) - (-x)) < 0 ∧ ((((-x) / (100 : Int32)) * (100 : Int32)) - (-x)) < (100 : Int32) := ⟨own_nl (by omega), own_lt (by omega)⟩
  have hlp1 : (-100 : Int32) < ((-x) / (100 : Int32)) := own_lt (by omega)
  have nz := own_neg (y := ((-x) / (100 : Int32))) (by omega)
  have il : ¬ (-((-x) / (100 : Int32))) < 0 ∧ (-((-x) / (100 : Int32))) < (100 : Int32) := ⟨own_nl (by omega), own_lt (by omega)⟩
  have hn9 : ¬ (((-x) / (100 : Int32)) < (-9 : Int32)) := own_nl (by omega)
  refine own_g (mkF m 19 #[.val (.int x), .val (.int 3), .val (.ref bb), .unset, .unset, .val (.int 3), .val (.int 0)] []) (fun _ q => XS.iloadN X0.here hx rfl (hb hby own_d20_0) rfl (XS.istore X0.here hx rfl (hb hby own_d20_1) rfl (l' := #[.val (.int x), .val (.int 3), .val (.ref bb), .unset, .unset, .val (.int 3), .unset]) rfl (XS.iloadN X0.here hx rfl (hb hby own_d20_3) rfl (XS.ifYes X0.here hx rfl (pc0 := 4) (pc' := 11) rfl (hb hby own_d20_4) rfl ((if0 _ _).trans (flt hx0).2.1) (by decide) (by decide) (XS.iconst X0.here hx rfl (hb hby own_d20_11) (XS.istore X0.here hx rfl (hb hby own_d20_12) rfl (l' := #[.val (.int x), .val (.int 3), .val (.ref bb), .unset, .unset, .val (.int 3), .val (.int 0)]) rfl (XS.iload X0.here hx rfl (hb hby own_d20_14) rfl (XS.ifNo X0.here hx rfl (hb hby own_d20_16) rfl ((if0 _ _).trans (teq (by decide : (0 : Int32) = (0 : Int32))).2) q)))))))) ?_
  refine own_g (mkF m 31 #[.val (.int (-x)), .val (.int 3), .val (.ref bb), .unset, .unset, .val (.int 3), .val (.int 0)] [(.int 100), (.int (-x))]) (fun _ q => XS.iloadN X0.here hx rfl (hb hby own_d20_19) rfl (XS.ineg X0.here hx rfl (hb hby own_d20_20) rfl (XS.istoreN X0.here hx rfl (hb hby own_d20_21) rfl (l' := #[.val (.int (-x)), .val (.int 3), .val (.ref bb), .unset, .unset, .val (.int 3), .val (.int 0)]) rfl (XS.iloadN X0.here hx rfl (hb hby own_d20_22) rfl (XS.bipush X0.here hx rfl (hb hby own_d20_23) (XS.icmpNo X0.here hx rfl (hb hby own_d20_25) rfl (flt hlp0).2.2.1 (XS.iloadN X0.here hx rfl (hb hby own_d20_28) rfl (XS.bipush X0.here hx rfl (hb hby own_d20_29) q)))))))) ?_
  refine own_g (mkF m 41 #[.val (.int (-x)), .val (.int 3), .val (.ref bb), .val (.int ((-x) / (100 : Int32))), .val (.int ((((-x) / (100 : Int32)) * (100 : Int32)) - (-x))), .val (.int 3), .val (.int 0)] []) (fun _ q => XS.idiv X0.here hx rfl (hb hby own_d20_31) rfl (by decide) (XS.istoreN X0.here hx rfl (hb hby own_d20_32) rfl (l' := #[.val (.int (-x)), .val (.int 3), .val (.ref bb), .val (.int ((-x) / (100 : Int32))), .unset, .val (.int 3), .val (.int 0)]) rfl (XS.iloadN X0.here hx rfl (hb hby own_d20_33) rfl (XS.bipush X0.here hx rfl (hb hby own_d20_34) (XS.imul X0.here hx rfl (hb hby own_d20_36) rfl (XS.iloadN X0.here hx rfl (hb hby own_d20_37) rfl (XS.isub X0.here hx rfl (hb hby own_d20_38) rfl (XS.istore X0.here hx rfl (hb hby own_d20_39) rfl (l' := #[.val (.int (-x)), .val (.int 3), .val (.ref bb), .val (.int ((-x) / (100 : Int32))), .val (.int ((((-x) / (100 : Int32)) * (100 : Int32)) - (-x))), .val (.int 3), .val (.int 0)]) rfl q)))))))) ?_
  refine own_g (mkF m 49 #[.val (.int ((-x) / (100 : Int32))), .val (.int 3), .val (.ref bb), .val (.int ((-x) / (100 : Int32))), .val (.int ((((-x) / (100 : Int32)) * (100 : Int32)) - (-x))), .val (.int 2), .val (.int 0)] [(.int 2), (.ref bb)]) (fun _ q => XS.iloadN X0.here hx rfl (hb hby own_d20_41) rfl (XS.istoreN X0.here hx rfl (hb hby own_d20_42) rfl (l' := #[.val (.int ((-x) / (100 : Int32))), .val (.int 3), .val (.ref bb), .val (.int ((-x) / (100 : Int32))), .val (.int ((((-x) / (100 : Int32)) * (100 : Int32)) - (-x))), .val (.int 3), .val (.int 0)]) rfl (XS.aloadN X0.here hx rfl (hb hby own_d20_43) rfl rfl (XS.iinc X0.here hx rfl (hb hby own_d20_44) rfl (l' := #[.val (.int ((-x) / (100 : Int32))), .val (.int 3), .val (.ref bb), .val (.int ((-x) / (100 : Int32))), .val (.int ((((-x) / (100 : Int32)) * (100 : Int32)) - (-x))), .val (.int 2), .val (.int 0)]) rfl (XS.iload X0.here hx rfl (hb hby own_d20_47) rfl q))))) ?_
  obtain ⟨T1, X1, e1, st1⟩ := getS2 X0 hx hZ hown (host := "") (Or.inl (own_h hw 125 rfl)) Via.refl e0 (Sta.ext O0.2 Cq.2.2.1) (g := (mkF m 49 #[.val (.int ((-x) / (100 : Int32))), .val (.int 3), .val (.ref bb), .val (.int ((-x) / (100 : Int32))), .val (.int ((((-x) / (100 : Int32)) * (100 : Int32)) - (-x))), .val (.int 2), .val (.int 0)] [(.int 2), (.ref bb)])) rfl (hb hby own_d20_49)
  refine own_by (g' := (mkF m 52 #[.val (.int ((-x) / (100 : Int32))), .val (.int 3), .val (.ref bb), .val (.int ((-x) / (100 : Int32))), .val (.int ((((-x) / (100 : Int32)) * (100 : Int32)) - (-x))), .val (.int 2), .val (.int 0)] [(.ref dO), (.int 2), (.ref bb)])) st1 ?_
  refine own_g (mkF m 54 #[.val (.int ((-x) / (100 : Int32))), .val (.int 3), .val (.ref bb), .val (.int ((-x) / (100 : Int32))), .val (.int ((((-x) / (100 : Int32)) * (100 : Int32)) - (-x))), .val (.int 2), .val (.int 0)] [(.int ((((-x) / (100 : Int32)) * (100 : Int32)) - (-x))), (.ref dO), (.int 2), (.ref bb)]) (fun _ q => XS.iload X1.here hx rfl (hb hby own_d20_52) rfl q) ?_
  have TB2 := Tab.ext Cq.2.2.2.2.1 O0.2
  have hin2 := inb_of TB2.2.1 ir0
  refine own_by (g' := (mkF m 55 #[.val (.int ((-x) / (100 : Int32))), .val (.int 3), .val (.ref bb), .val (.int ((-x) / (100 : Int32))), .val (.int ((((-x) / (100 : Int32)) * (100 : Int32)) - (-x))), .val (.int 2), .val (.int 0)] [(.int (atv cO ((((-x) / (100 : Int32)) * (100 : Int32)) - (-x)))), (.int 2), (.ref bb)])) (fun _ kq => X1.baloadBytes hx (j := ((((-x) / (100 : Int32)) * (100 : Int32)) - (-x))) (v := (.int (atv cO ((((-x) / (100 : Int32)) * (100 : Int32)) - (-x))))) (by rw [e1]; exact TB2.1.1) (State.isArrayOf_alike hZ.alike TB2.1.2.1) TB2.1.2.2 hin2 (TB2.2.2.2 _ hin2) (g := (mkF m 54 #[.val (.int ((-x) / (100 : Int32))), .val (.int 3), .val (.ref bb), .val (.int ((-x) / (100 : Int32))), .val (.int ((((-x) / (100 : Int32)) * (100 : Int32)) - (-x))), .val (.int 2), .val (.int 0)] [(.int ((((-x) / (100 : Int32)) * (100 : Int32)) - (-x))), (.ref dO), (.int 2), (.ref bb)])) rfl rfl (hb hby own_d20_54) _ kq) ?_
  obtain ⟨kk3, vs3, ⟨cl3, Ar3, q3, S3, P3, H3, G3⟩, hl3⟩ := id R_b
  have hin3 : ¬ ((2 : Int32) < 0 ∨ cl3.slots.size ≤ ((2 : Int32)).toNatClampNeg) := inb_of S3 ⟨by decide, by decide⟩
  obtain ⟨T4, h4, X4, e4, W4, st4⟩ := stB X1 hx hZ e1 Ar3 (j := (2 : Int32)) hin3 (g := (mkF m 55 #[.val (.int ((-x) / (100 : Int32))), .val (.int 3), .val (.ref bb), .val (.int ((-x) / (100 : Int32))), .val (.int ((((-x) / (100 : Int32)) * (100 : Int32)) - (-x))), .val (.int 2), .val (.int 0)] [(.int (atv cO ((((-x) / (100 : Int32)) * (100 : Int32)) - (-x)))), (.int 2), (.ref bb)])) rfl rfl (hb hby own_d20_55)
  have R4 := own_By.put Ar3 q3 S3 P3 H3 G3 hl3 hin3 (fits_nar_byte _) W4
  have N4 := Fr.snoc X4 N0 g_b
  refine own_by (g' := (mkF m 56 #[.val (.int ((-x) / (100 : Int32))), .val (.int 3), .val (.ref bb), .val (.int ((-x) / (100 : Int32))), .val (.int ((((-x) / (100 : Int32)) * (100 : Int32)) - (-x))), .val (.int 2), .val (.int 0)] [])) st4 ?_
  refine own_g (mkF m 62 #[.val (.int ((-x) / (100 : Int32))), .val (.int 3), .val (.ref bb), .val (.int ((-x) / (100 : Int32))), .val (.int ((((-x) / (100 : Int32)) * (100 : Int32)) - (-x))), .val (.int 1), .val (.int 0)] [(.int 1), (.ref bb)]) (fun _ q => XS.aloadN X4.here hx rfl (hb hby own_d20_56) rfl rfl (XS.iinc X4.here hx rfl (hb hby own_d20_57) rfl (l' := #[.val (.int ((-x) / (100 : Int32))), .val (.int 3), .val (.ref bb), .val (.int ((-x) / (100 : Int32))), .val (.int ((((-x) / (100 : Int32)) * (100 : Int32)) - (-x))), .val (.int 1), .val (.int 0)]) rfl (XS.iload X4.here hx rfl (hb hby own_d20_60) rfl q))) ?_
  have o5_ := (O0.wr W4 g_b)
  obtain ⟨T6, X6, e6, st6⟩ := getS2 X4 hx hZ hown (host := "") (Or.inl (own_h hw 221 rfl)) Via.refl e4 (Sta.ext o5_.2 Cq.2.2.2.1) (g := (mkF m 62 #[.val (.int ((-x) / (100 : Int32))), .val (.int 3), .val (.ref bb), .val (.int ((-x) / (100 : Int32))), .val (.int ((((-x) / (100 : Int32)) * (100 : Int32)) - (-x))), .val (.int 1), .val (.int 0)] [(.int 1), (.ref bb)])) rfl (hb hby own_d20_62)
  refine own_by (g' := (mkF m 65 #[.val (.int ((-x) / (100 : Int32))), .val (.int 3), .val (.ref bb), .val (.int ((-x) / (100 : Int32))), .val (.int ((((-x) / (100 : Int32)) * (100 : Int32)) - (-x))), .val (.int 1), .val (.int 0)] [(.ref dT), (.int 1), (.ref bb)])) st6 ?_
  refine own_g (mkF m 67 #[.val (.int ((-x) / (100 : Int32))), .val (.int 3), .val (.ref bb), .val (.int ((-x) / (100 : Int32))), .val (.int ((((-x) / (100 : Int32)) * (100 : Int32)) - (-x))), .val (.int 1), .val (.int 0)] [(.int ((((-x) / (100 : Int32)) * (100 : Int32)) - (-x))), (.ref dT), (.int 1), (.ref bb)]) (fun _ q => XS.iload X6.here hx rfl (hb hby own_d20_65) rfl q) ?_
  have TB7 := Tab.ext Cq.2.2.2.2.2.1 o5_.2
  have hin7 := inb_of TB7.2.1 ir0
  refine own_by (g' := (mkF m 68 #[.val (.int ((-x) / (100 : Int32))), .val (.int 3), .val (.ref bb), .val (.int ((-x) / (100 : Int32))), .val (.int ((((-x) / (100 : Int32)) * (100 : Int32)) - (-x))), .val (.int 1), .val (.int 0)] [(.int (atv cT ((((-x) / (100 : Int32)) * (100 : Int32)) - (-x)))), (.int 1), (.ref bb)])) (fun _ kq => X6.baloadBytes hx (j := ((((-x) / (100 : Int32)) * (100 : Int32)) - (-x))) (v := (.int (atv cT ((((-x) / (100 : Int32)) * (100 : Int32)) - (-x))))) (by rw [e6]; exact TB7.1.1) (State.isArrayOf_alike hZ.alike TB7.1.2.1) TB7.1.2.2 hin7 (TB7.2.2.2 _ hin7) (g := (mkF m 67 #[.val (.int ((-x) / (100 : Int32))), .val (.int 3), .val (.ref bb), .val (.int ((-x) / (100 : Int32))), .val (.int ((((-x) / (100 : Int32)) * (100 : Int32)) - (-x))), .val (.int 1), .val (.int 0)] [(.int ((((-x) / (100 : Int32)) * (100 : Int32)) - (-x))), (.ref dT), (.int 1), (.ref bb)])) rfl rfl (hb hby own_d20_67) _ kq) ?_
  obtain ⟨kk8, vs8, ⟨cl8, Ar8, q8, S8, P8, H8, G8⟩, hl8⟩ := id R4
  have hin8 : ¬ ((1 : Int32) < 0 ∨ cl8.slots.size ≤ ((1 : Int32)).toNatClampNeg) := inb_of S8 ⟨by decide, by decide⟩
  obtain ⟨T9, h9, X9, e9, W9, st9⟩ := stB X6 hx hZ e6 Ar8 (j := (1 : Int32)) hin8 (g := (mkF m 68 #[.val (.int ((-x) / (100 : Int32))), .val (.int 3), .val (.ref bb), .val (.int ((-x) / (100 : Int32))), .val (.int ((((-x) / (100 : Int32)) * (100 : Int32)) - (-x))), .val (.int 1), .val (.int 0)] [(.int (atv cT ((((-x) / (100 : Int32)) * (100 : Int32)) - (-x)))), (.int 1), (.ref bb)])) rfl rfl (hb hby own_d20_68)
  have R9 := own_By.put Ar8 q8 S8 P8 H8 G8 hl8 hin8 (fits_nar_byte _) W9
  have N9 := Fr.snoc X9 N4 g_b
  refine own_by (g' := (mkF m 69 #[.val (.int ((-x) / (100 : Int32))), .val (.int 3), .val (.ref bb), .val (.int ((-x) / (100 : Int32))), .val (.int ((((-x) / (100 : Int32)) * (100 : Int32)) - (-x))), .val (.int 1), .val (.int 0)] [])) st9 ?_
  refine own_g (mkF m 78 #[.val (.int ((-x) / (100 : Int32))), .val (.int 3), .val (.ref bb), .val (.int ((-x) / (100 : Int32))), .val (.int ((((-x) / (100 : Int32)) * (100 : Int32)) - (-x))), .val (.int 0), .val (.int 0)] [(.int 0), (.ref bb)]) (fun _ q => XS.goto X9.here hx rfl (pc0 := 69) (pc' := 22) rfl (hb hby own_d20_69) (by decide) (by decide) (XS.iloadN X9.here hx rfl (hb hby own_d20_22) rfl (XS.bipush X9.here hx rfl (hb hby own_d20_23) (XS.icmpYes X9.here hx rfl (pc0 := 25) (pc' := 72) rfl (hb hby own_d20_25) rfl (tlt hlp1).2.2.1 (by decide) (by decide) (XS.aloadN X9.here hx rfl (hb hby own_d20_72) rfl rfl (XS.iinc X9.here hx rfl (hb hby own_d20_73) rfl (l' := #[.val (.int ((-x) / (100 : Int32))), .val (.int 3), .val (.ref bb), .val (.int ((-x) / (100 : Int32))), .val (.int ((((-x) / (100 : Int32)) * (100 : Int32)) - (-x))), .val (.int 0), .val (.int 0)]) rfl (XS.iload X9.here hx rfl (hb hby own_d20_76) rfl q))))))) ?_
  have o10_ := (o5_.wr W9 g_b)
  obtain ⟨T11, X11, e11, st11⟩ := getS2 X9 hx hZ hown (host := "") (Or.inl (own_h hw 125 rfl)) Via.refl e9 (Sta.ext o10_.2 Cq.2.2.1) (g := (mkF m 78 #[.val (.int ((-x) / (100 : Int32))), .val (.int 3), .val (.ref bb), .val (.int ((-x) / (100 : Int32))), .val (.int ((((-x) / (100 : Int32)) * (100 : Int32)) - (-x))), .val (.int 0), .val (.int 0)] [(.int 0), (.ref bb)])) rfl (hb hby own_d20_78)
  refine own_by (g' := (mkF m 81 #[.val (.int ((-x) / (100 : Int32))), .val (.int 3), .val (.ref bb), .val (.int ((-x) / (100 : Int32))), .val (.int ((((-x) / (100 : Int32)) * (100 : Int32)) - (-x))), .val (.int 0), .val (.int 0)] [(.ref dO), (.int 0), (.ref bb)])) st11 ?_
  refine own_g (mkF m 83 #[.val (.int ((-x) / (100 : Int32))), .val (.int 3), .val (.ref bb), .val (.int ((-x) / (100 : Int32))), .val (.int ((((-x) / (100 : Int32)) * (100 : Int32)) - (-x))), .val (.int 0), .val (.int 0)] [(.int (-((-x) / (100 : Int32)))), (.ref dO), (.int 0), (.ref bb)]) (fun _ q => XS.iloadN X11.here hx rfl (hb hby own_d20_81) rfl (XS.ineg X11.here hx rfl (hb hby own_d20_82) rfl q)) ?_
  have TB12 := Tab.ext Cq.2.2.2.2.1 o10_.2
  have hin12 := inb_of TB12.2.1 il
  refine own_by (g' := (mkF m 84 #[.val (.int ((-x) / (100 : Int32))), .val (.int 3), .val (.ref bb), .val (.int ((-x) / (100 : Int32))), .val (.int ((((-x) / (100 : Int32)) * (100 : Int32)) - (-x))), .val (.int 0), .val (.int 0)] [(.int (atv cO (-((-x) / (100 : Int32))))), (.int 0), (.ref bb)])) (fun _ kq => X11.baloadBytes hx (j := (-((-x) / (100 : Int32)))) (v := (.int (atv cO (-((-x) / (100 : Int32)))))) (by rw [e11]; exact TB12.1.1) (State.isArrayOf_alike hZ.alike TB12.1.2.1) TB12.1.2.2 hin12 (TB12.2.2.2 _ hin12) (g := (mkF m 83 #[.val (.int ((-x) / (100 : Int32))), .val (.int 3), .val (.ref bb), .val (.int ((-x) / (100 : Int32))), .val (.int ((((-x) / (100 : Int32)) * (100 : Int32)) - (-x))), .val (.int 0), .val (.int 0)] [(.int (-((-x) / (100 : Int32)))), (.ref dO), (.int 0), (.ref bb)])) rfl rfl (hb hby own_d20_83) _ kq) ?_
  obtain ⟨kk13, vs13, ⟨cl13, Ar13, q13, S13, P13, H13, G13⟩, hl13⟩ := id R9
  have hin13 : ¬ ((0 : Int32) < 0 ∨ cl13.slots.size ≤ ((0 : Int32)).toNatClampNeg) := inb_of S13 ⟨by decide, by decide⟩
  obtain ⟨T14, h14, X14, e14, W14, st14⟩ := stB X11 hx hZ e11 Ar13 (j := (0 : Int32)) hin13 (g := (mkF m 84 #[.val (.int ((-x) / (100 : Int32))), .val (.int 3), .val (.ref bb), .val (.int ((-x) / (100 : Int32))), .val (.int ((((-x) / (100 : Int32)) * (100 : Int32)) - (-x))), .val (.int 0), .val (.int 0)] [(.int (atv cO (-((-x) / (100 : Int32))))), (.int 0), (.ref bb)])) rfl rfl (hb hby own_d20_84)
  have R14 := own_By.put Ar13 q13 S13 P13 H13 G13 hl13 hin13 (fits_nar_byte _) W14
  have N14 := Fr.snoc X14 N9 g_b
  refine own_by (g' := (mkF m 85 #[.val (.int ((-x) / (100 : Int32))), .val (.int 3), .val (.ref bb), .val (.int ((-x) / (100 : Int32))), .val (.int ((((-x) / (100 : Int32)) * (100 : Int32)) - (-x))), .val (.int 0), .val (.int 0)] [])) st14 ?_
  refine own_g (mkF m 120 #[.val (.int ((-x) / (100 : Int32))), .val (.int 3), .val (.ref bb), .val (.int ((-x) / (100 : Int32))), .val (.int ((((-x) / (100 : Int32)) * (100 : Int32)) - (-x))), .val (.int 0), .val (.int 0)] [(.int 0)]) (fun _ q => XS.iloadN X14.here hx rfl (hb hby own_d20_85) rfl (XS.bipush X14.here hx rfl (hb hby own_d20_86) (XS.icmpYes X14.here hx rfl (pc0 := 88) (pc' := 104) rfl (hb hby own_d20_88) rfl (flt hn9).2.1 (by decide) (by decide) (XS.iload X14.here hx rfl (hb hby own_d20_104) rfl (XS.ifYes X14.here hx rfl (pc0 := 106) (pc' := 118) rfl (hb hby own_d20_106) rfl ((if0 _ _).trans (teq (by decide : (0 : Int32) = (0 : Int32))).1) (by decide) (by decide) (XS.iload X14.here hx rfl (hb hby own_d20_118) rfl q)))))) ?_
  have k15_ := ((((Keep.refl h0 [bb]).wr W4 (Or.inl (List.mem_of_getElem? (i := 0) rfl))).wr W9 (Or.inl (List.mem_of_getElem? (i := 0) rfl))).wr W14 (Or.inl (List.mem_of_getElem? (i := 0) rfl)))
  exact own_end X14 (v := some (.int 0)) (fun h => by rw [Bd.returns] at h; cases h) hlk (fun hr => retOut X14 hx Bd.returns rfl (Or.inl ⟨rfl, Or.inl rfl, _, rfl⟩) (hb hby own_d20_120) hr) (by rw [e14]; exact ⟨⟨_, rfl⟩, N14, k15_, R14⟩) (by decide) (by decide)
theorem own_is3_ef (m : MethodId) (x : Int32) : entryFrame m #[(.int x)] 3 = mkF m 0 #[.val (.int x), .unset, .unset] [] := by  first | (simp [entryFrame, mkF, argsToLocals, Value.category]; done) | rfl
def own_is3_Q (Z : State) (x : Int32) (zCS : Int32) (dO : Addr) (dT : Addr) (ca : Addr) (cO : Cell) (cT : Cell) (cc : Cell) (h0 : Heap) (n0 : Nat) (v : Option Value) (h : Heap) (L : List Loc) : Prop := ∃ r b : Addr, v = some (.ref r) ∧ Fr n0 L ∧ Keep h0 h [] ∧ h0.size ≤ r ∧ n0 ≤ r ∧ h0.size ≤ b ∧ Exa Z h r "java/lang/String" ∧ Fld Z h r "java/lang/String" "value" "[B" (.ref b) ∧ Fld Z h r "java/lang/String" "coder" "B" (.int 0) ∧ own_By Z h b (3 : Int32)
set_option maxRecDepth 65536 in
set_option maxHeartbeats 40000000 in
theorem own_is3 (l : Launch) (Z : State) (a0 : Array Value) (hw : ∀ d ∈ tables_1, d.before a0 Z = true) (ws : List Jvm.Cond) (x : Int32) (zCS : Int32) (dO : Addr) (dT : Addr) (ca : Addr) (cO : Cell) (cT : Cell) (cc : Cell) (h0 : Heap) (n0 : Nat) (Z0 : n0 ≤ h0.size) (Cq : own_C Z zCS dO dT ca cO cT cc) (O0 : Old Z n0 h0) (hbd : 100 ≤ x.toInt ∧ x.toInt < 1000) :
    MetFree l own_y18 (head1 (Jvm.Cond.code own_y18 jdk_33_method_10_code 3 (some (.object "java/lang/String")) :: ws) (⟨2, 2, 7, 27⟩ : Room)) (fun aa U => aa = #[(.int x)] ∧ Z.Warmed39 U.vm ∧ U.heap = h0) (fun _ _ _ _ _ => True) (fun _ U o U' => ∃ v L, o = .returned v ∧ own_is3_Q Z x zCS dO dT ca cO cT cc h0 n0 v U'.heap L ∧ FrameEnd U o U' L (⟨2, 2, 7, 27⟩ : Room).cells (⟨2, 2, 7, 27⟩ : Room).slots) := by
  refine MetFree.of_bodySF (plainFor_of_name own_pn_java_lang_Integer) hisR ?_
  intro p e s m args below meth c s₁ Bd hml0 hP hK
  obtain ⟨rfl, hZ, hh⟩ := hP
  have hx := Bd.exec
  have hby := Bd.bytes
  have hml : c.maxLocals = 3 := hml0
  have hown : s.vm.findClass "java/lang/Integer" = some m.cls := findClass_of_methodNamed Bd.named
  have hnm := (name_of_methodNamed Bd.named Bd.method).1
  have hlk := Bd.notSynchronized
  have X0 : Stand p l e (⟨2, 2, 7, 27⟩ : Room) s m #[(.int x)] below meth c s₁ [] 0 0 := Stand.of_body Bd
  have e0 : s₁.heap = h0 := by rw [← hh, Bd.state]; rfl
  have N0 := Fr.nil n0
  refine own_start (Q := own_is3_Q Z x zCS dO dT ca cO cT cc h0 n0) (own_is3_ef m x) ?_
  refine own_g (mkF m 1 #[.val (.int x), .unset, .unset] [(.int x)]) (fun _ q => XS.iloadN X0.here hx rfl (hb hby own_d18_0) rfl q) ?_
  refine own_callS X0 hx hZ (y := own_y16) hown (own_h hw 118 rfl) (own_h hw 119 rfl) (own_h hw 7 rfl) (own_h hw 120 rfl) (by decide) (own_ss3 l Z a0 hw [] x zCS dO dT ca cO cT cc h0 n0 Z0 Cq O0 hbd) (by decide) (by decide) e0 (g := (mkF m 1 #[.val (.int x), .unset, .unset] [(.int x)])) rfl (by rw [hml]; rfl) (argsL := [(.int x)]) (rest := []) (lenOf own_pd__28I_29I rfl) rfl (W := 0) (by show 2 * 0 + _ ≤ _; exact Nat.le_of_eq rfl) (hb hby own_d18_1) rfl (by decide) (by decide) ?_
  rintro rv1 T1 L1 X1 ⟨rfl, Nq1, eh1⟩
  have N1 := Fr.app N0 Nq1
  refine own_g (mkF m 5 #[.val (.int x), .val (.int 3), .unset] []) (fun _ q => XS.istoreN X1.here hx rfl (hb hby own_d18_4) rfl (l' := #[.val (.int x), .val (.int 3), .unset]) rfl q) ?_
  obtain ⟨T2, X2, e2, st2⟩ := getS2 X1 hx hZ hown (host := "") (Or.inl (own_h hw 121 rfl)) Via.refl eh1 (Sta.ext O0.2 Cq.1) (g := (mkF m 5 #[.val (.int x), .val (.int 3), .unset] [])) rfl (hb hby own_d18_5)
  refine own_by (g' := (mkF m 8 #[.val (.int x), .val (.int 3), .unset] [(.int zCS)])) st2 ?_
  refine own_g (mkF m 12 #[.val (.int x), .val (.int 3), .unset] [(.int 3)]) (fun _ q => XS.ifNo X2.here hx rfl (hb hby own_d18_8) rfl ((if0 _ _).trans (feq Cq.2.1).1) (XS.iloadN X2.here hx rfl (hb hby own_d18_11) rfl q)) ?_
  obtain ⟨T3, h3, k3, X3, e3, E3, A3, Ex3, st3⟩ := newPE X2 hx hZ (own_h hw 38 rfl) e2 (g := (mkF m 12 #[.val (.int x), .val (.int 3), .unset] [(.int 3)])) rfl (hb hby own_d18_12) rfl (by decide) (cap := 3) (by decide) (by decide) (by decide) (by decide) (ad := "[B") (by decide)
  obtain ⟨b3, g3⟩ : ∃ z, z = h0.size := ⟨_, rfl⟩
  rw [← g3] at A3 Ex3 st3
  have g_b3 : n0 ≤ b3 := Nat.le_trans Z0 (Nat.le_of_eq g3.symm)
  have sz_b3 : h0.size ≤ b3 := Nat.le_trans (Keep.refl h0 []).1 (Nat.le_of_eq g3.symm)
  have R_b3 := own_By.of (Arv.new A3 (by decide))
  refine own_by (g' := (mkF m 14 #[.val (.int x), .val (.int 3), .unset] [(.ref b3)])) st3 ?_
  refine own_g (mkF m 18 #[.val (.int x), .val (.int 3), .val (.ref b3)] [(.ref b3), (.int 3), (.int x)]) (fun _ q => XS.astoreN X3.here hx rfl (hb hby own_d18_14) rfl rfl (l' := #[.val (.int x), .val (.int 3), .val (.ref b3)]) rfl (XS.iloadN X3.here hx rfl (hb hby own_d18_15) rfl (XS.iloadN X3.here hx rfl (hb hby own_d18_16) rfl (XS.aloadN X3.here hx rfl (hb hby own_d18_17) rfl rfl q)))) ?_
  have k4_ := ((Keep.refl h0 []).ext E3)
  have o5_ := (O0.ext E3)
  refine own_callS X3 hx hZ (y := own_y14) hown (own_h hw 122 rfl) (own_h hw 123 rfl) (own_h hw 7 rfl) (own_h hw 124 rfl) (by decide) (own_gc3 l Z a0 hw [] x b3 zCS dO dT ca cO cT cc h3 n0 (Nat.le_trans Z0 k4_.1) Cq o5_ hbd R_b3 g_b3) (by decide) (by decide) e3 (g := (mkF m 18 #[.val (.int x), .val (.int 3), .val (.ref b3)] [(.ref b3), (.int 3), (.int x)])) rfl (by rw [hml]; rfl) (argsL := [(.int x), (.int 3), (.ref b3)]) (rest := []) (lenOf own_pd__28II_5bB_29I rfl) rfl (W := 0) (by show 2 * 0 + _ ≤ _; exact Nat.le_of_eq rfl) (hb hby own_d18_18) rfl (by decide) (by decide) ?_
  rintro rv6 T6 L6 X6 ⟨⟨rr6, rfl⟩, Nq6, Kq6, Rq6⟩
  have N6 := Fr.app N1 Nq6
  refine own_g (mkF m 22 #[.val (.int x), .val (.int 3), .val (.ref b3)] []) (fun _ q => XS.pop X6.here hx rfl (hb hby own_d18_21) rfl rfl q) ?_
  obtain ⟨T7, h7, X7, e7, E7, A7, D7, U7, st7⟩ := newO X6 hx hZ hown (own_h hw 126 rfl) (own_h hw 44 rfl) (own_h hw 37 rfl) rfl (g := (mkF m 22 #[.val (.int x), .val (.int 3), .val (.ref b3)] [])) rfl (hb hby own_d18_22) (by decide) (by decide)
  obtain ⟨b7, g7⟩ : ∃ z, z = T6.heap.size := ⟨_, rfl⟩
  rw [← g7] at A7 D7 U7 st7
  have k8_ := (k4_.trans Kq6 (allS (Or.inr sz_b3) all0))
  have g_b7 : n0 ≤ b7 := Nat.le_trans (Nat.le_trans Z0 k8_.1) (Nat.le_of_eq g7.symm)
  have sz_b7 : h0.size ≤ b7 := Nat.le_trans k8_.1 (Nat.le_of_eq g7.symm)
  have ne_b3_b7 : b3 ≠ b7 := Nat.ne_of_lt (Nat.lt_of_lt_of_le Rq6.lt (Nat.le_of_eq g7.symm))
  have F_value_b7 : Fld Z h7 b7 "java/lang/String" "value" "[B" .null := D7 (Or.inr (own_h hw 45 rfl)) (ty := (.array .byte)) (by decide)
  have F_coder_b7 : Fld Z h7 b7 "java/lang/String" "coder" "B" (.int 0) := D7 (Or.inr (own_h hw 46 rfl)) (ty := .byte) (by decide)
  refine own_by (g' := (mkF m 25 #[.val (.int x), .val (.int 3), .val (.ref b3)] [(.ref b7)])) st7 ?_
  refine own_g (mkF m 28 #[.val (.int x), .val (.int 3), .val (.ref b3)] [(.int 0), (.ref b3), (.ref b7), (.ref b7)]) (fun _ q => XS.dup X7.here hx rfl (hb hby own_d18_25) rfl rfl (XS.aloadN X7.here hx rfl (hb hby own_d18_26) rfl rfl (XS.iconst X7.here hx rfl (hb hby own_d18_27) q))) ?_
  have k9_ := (k8_.ext E7)
  have o10_ := ((o5_.keep Kq6 (allS g_b3 all0)).ext E7)
  refine own_callI X7 hx hZ (y := own_y27) rfl hown (own_h hw 127 rfl) (own_h hw 128 rfl) (own_h hw 130 rfl) (own_h hw 37 rfl) (by decide) (own_sbb l Z a0 hw [] b7 b3 zCS dO dT ca cO cT cc h7 n0 (Nat.le_trans Z0 k9_.1) Cq o10_ A7 F_value_b7 F_coder_b7 g_b7) (by decide) (by decide) e7 (g := (mkF m 28 #[.val (.int x), .val (.int 3), .val (.ref b3)] [(.int 0), (.ref b3), (.ref b7), (.ref b7)])) rfl (by rw [hml]; rfl) (argsL := [(.ref b3), (.int 0)]) (rest := [(.ref b7)]) (lenOf own_pd__28_5bBB_29V rfl) rfl (W := 1) (by show 2 * 0 + _ ≤ _; exact Nat.le_of_eq rfl) (hb hby own_d18_28) rfl (by decide) (by decide) ?_
  rintro rv11 T11 L11 X11 ⟨rfl, Nq11, Kq11, Fv11, Fc11⟩
  have N11 := Fr.app N6 Nq11
  show own_Fin p e below _ T11 (mkF m 31 #[.val (.int x), .val (.int 3), .val (.ref b3)] [(.ref b7)])
  have k12_ := (k9_.trans Kq11 (allS (Or.inr sz_b7) all0))
  have e13_b7 := (A7.keep Kq11)
  have r14_b3 := ((Rq6.ext E7).keep Kq11 (ninS ne_b3_b7 nin0))
  exact own_end X11 (v := some (.ref b7)) (fun h => by rw [Bd.returns] at h; cases h) hlk (fun hr => retOut X11 hx Bd.returns (own_narR rfl) (Or.inr (Or.inr (Or.inr (Or.inr ⟨rfl, rfl, rfl⟩)))) (hb hby own_d18_31) hr) (⟨b7, b3, rfl, N11, k12_, sz_b7, g_b7, sz_b3, e13_b7, Fv11, Fc11, r14_b3⟩) (by decide) (by decide)
theorem own_ss4_ef (m : MethodId) (x : Int32) : entryFrame m #[(.int x)] 4 = mkF m 0 #[.val (.int x), .unset, .unset, .unset] [] := by  first | (simp [entryFrame, mkF, argsToLocals, Value.category]; done) | rfl
def own_ss4_Q (Z : State) (x : Int32) (zCS : Int32) (dO : Addr) (dT : Addr) (ca : Addr) (cO : Cell) (cT : Cell) (cc : Cell) (h0 : Heap) (n0 : Nat) (v : Option Value) (h : Heap) (L : List Loc) : Prop := v = some (.int 4) ∧ Fr n0 L ∧ h = h0
set_option maxRecDepth 65536 in
set_option maxHeartbeats 40000000 in
theorem own_ss4 (l : Launch) (Z : State) (a0 : Array Value) (hw : ∀ d ∈ tables_1, d.before a0 Z = true) (ws : List Jvm.Cond) (x : Int32) (zCS : Int32) (dO : Addr) (dT : Addr) (ca : Addr) (cO : Cell) (cT : Cell) (cc : Cell) (h0 : Heap) (n0 : Nat) (Z0 : n0 ≤ h0.size) (Cq : own_C Z zCS dO dT ca cO cT cc) (O0 : Old Z n0 h0) (hbd : 1000 ≤ x.toInt ∧ x.toInt < 10000) :
    MetFree l own_y16 (head1 (Jvm.Cond.code own_y16 jdk_33_method_13_code 4 (some .int) :: ws) (⟨0, 0, 0, 0⟩ : Room)) (fun aa U => aa = #[(.int x)] ∧ Z.Warmed39 U.vm ∧ U.heap = h0) (fun _ _ _ _ _ => True) (fun _ U o U' => ∃ v L, o = .returned v ∧ own_ss4_Q Z x zCS dO dT ca cO cT cc h0 n0 v U'.heap L ∧ FrameEnd U o U' L (⟨0, 0, 0, 0⟩ : Room).cells (⟨0, 0, 0, 0⟩ : Room).slots) := by
  refine MetFree.of_bodySF (plainFor_of_name own_pn_java_lang_Integer) hisR ?_
  intro p e s m args below meth c s₁ Bd hml0 hP hK
  obtain ⟨rfl, hZ, hh⟩ := hP
  have hx := Bd.exec
  have hby := Bd.bytes
  have hml : c.maxLocals = 4 := hml0
  have hown : s.vm.findClass "java/lang/Integer" = some m.cls := findClass_of_methodNamed Bd.named
  have hnm := (name_of_methodNamed Bd.named Bd.method).1
  have hlk := Bd.notSynchronized
  have X0 : Stand p l e (⟨0, 0, 0, 0⟩ : Room) s m #[(.int x)] below meth c s₁ [] 0 0 := Stand.of_body Bd
  have e0 : s₁.heap = h0 := by rw [← hh, Bd.state]; rfl
  have N0 := Fr.nil n0
  refine own_start (Q := own_ss4_Q Z x zCS dO dT ca cO cT cc h0 n0) (own_ss4_ef m x) ?_
  have en0 := own_neg (y := x) (by omega)
  have c_0 : (0 : Int32).toInt = 0 := by decide
  have hx0 : ¬ x < (0 : Int32) := own_nl (by omega)
  have c_m10 : (-10 : Int32).toInt = -10 := by decide
  have hs1 : ¬ ((-10 : Int32) < (-x)) := own_nl (by omega)
  have c_m100 : (-100 : Int32).toInt = -100 := by decide
  have hs2 : ¬ ((-100 : Int32) < (-x)) := own_nl (by omega)
  have c_m1000 : (-1000 : Int32).toInt = -1000 := by decide
  have hs3 : ¬ ((-1000 : Int32) < (-x)) := own_nl (by omega)
  have c_m10000 : (-10000 : Int32).toInt = -10000 := by decide
  have hs4 : (-10000 : Int32) < (-x) := own_lt (by omega)
  refine own_g (mkF m 10 #[.val (.int x), .val (.int 0), .unset, .unset] [(.int (-x))]) (fun _ q => XS.iconst X0.here hx rfl (hb hby own_d19_0) (XS.istoreN X0.here hx rfl (hb hby own_d19_1) rfl (l' := #[.val (.int x), .val (.int 1), .unset, .unset]) rfl (XS.iloadN X0.here hx rfl (hb hby own_d19_2) rfl (XS.ifNo X0.here hx rfl (hb hby own_d19_3) rfl ((if0 _ _).trans (flt hx0).1) (XS.iconst X0.here hx rfl (hb hby own_d19_6) (XS.istoreN X0.here hx rfl (hb hby own_d19_7) rfl (l' := #[.val (.int x), .val (.int 0), .unset, .unset]) rfl (XS.iloadN X0.here hx rfl (hb hby own_d19_8) rfl (XS.ineg X0.here hx rfl (hb hby own_d19_9) rfl q)))))))) ?_
  refine own_g (mkF m 22 #[.val (.int (-x)), .val (.int 0), .val (.int (-10)), .val (.int 1)] []) (fun _ q => XS.istoreN X0.here hx rfl (hb hby own_d19_10) rfl (l' := #[.val (.int (-x)), .val (.int 0), .unset, .unset]) rfl (XS.bipush X0.here hx rfl (hb hby own_d19_11) (XS.istoreN X0.here hx rfl (hb hby own_d19_13) rfl (l' := #[.val (.int (-x)), .val (.int 0), .val (.int (-10)), .unset]) rfl (XS.iconst X0.here hx rfl (hb hby own_d19_14) (XS.istoreN X0.here hx rfl (hb hby own_d19_15) rfl (l' := #[.val (.int (-x)), .val (.int 0), .val (.int (-10)), .val (.int 1)]) rfl (XS.iloadN X0.here hx rfl (hb hby own_d19_16) rfl (XS.bipush X0.here hx rfl (hb hby own_d19_17) (XS.icmpNo X0.here hx rfl (hb hby own_d19_19) rfl (tlt (by decide : (1 : Int32) < (10 : Int32))).2.1 q)))))))) ?_
  refine own_g (mkF m 39 #[.val (.int (-x)), .val (.int 0), .val (.int (-100)), .val (.int 2)] []) (fun _ q => XS.iloadN X0.here hx rfl (hb hby own_d19_22) rfl (XS.iloadN X0.here hx rfl (hb hby own_d19_23) rfl (XS.icmpYes X0.here hx rfl (pc0 := 24) (pc' := 31) rfl (hb hby own_d19_24) rfl (flt hs1).2.2.2 (by decide) (by decide) (XS.bipush X0.here hx rfl (hb hby own_d19_31) (XS.iloadN X0.here hx rfl (hb hby own_d19_33) rfl (XS.imul X0.here hx rfl (hb hby own_d19_34) rfl (XS.istoreN X0.here hx rfl (hb hby own_d19_35) rfl (l' := #[.val (.int (-x)), .val (.int 0), .val (.int (-100)), .val (.int 1)]) rfl (XS.iinc X0.here hx rfl (hb hby own_d19_36) rfl (l' := #[.val (.int (-x)), .val (.int 0), .val (.int (-100)), .val (.int 2)]) rfl q)))))))) ?_
  refine own_g (mkF m 33 #[.val (.int (-x)), .val (.int 0), .val (.int (-100)), .val (.int 2)] [(.int 10)]) (fun _ q => XS.goto X0.here hx rfl (pc0 := 39) (pc' := 16) rfl (hb hby own_d19_39) (by decide) (by decide) (XS.iloadN X0.here hx rfl (hb hby own_d19_16) rfl (XS.bipush X0.here hx rfl (hb hby own_d19_17) (XS.icmpNo X0.here hx rfl (hb hby own_d19_19) rfl (tlt (by decide : (2 : Int32) < (10 : Int32))).2.1 (XS.iloadN X0.here hx rfl (hb hby own_d19_22) rfl (XS.iloadN X0.here hx rfl (hb hby own_d19_23) rfl (XS.icmpYes X0.here hx rfl (pc0 := 24) (pc' := 31) rfl (hb hby own_d19_24) rfl (flt hs2).2.2.2 (by decide) (by decide) (XS.bipush X0.here hx rfl (hb hby own_d19_31) q)))))))) ?_
  refine own_g (mkF m 22 #[.val (.int (-x)), .val (.int 0), .val (.int (-1000)), .val (.int 3)] []) (fun _ q => XS.iloadN X0.here hx rfl (hb hby own_d19_33) rfl (XS.imul X0.here hx rfl (hb hby own_d19_34) rfl (XS.istoreN X0.here hx rfl (hb hby own_d19_35) rfl (l' := #[.val (.int (-x)), .val (.int 0), .val (.int (-1000)), .val (.int 2)]) rfl (XS.iinc X0.here hx rfl (hb hby own_d19_36) rfl (l' := #[.val (.int (-x)), .val (.int 0), .val (.int (-1000)), .val (.int 3)]) rfl (XS.goto X0.here hx rfl (pc0 := 39) (pc' := 16) rfl (hb hby own_d19_39) (by decide) (by decide) (XS.iloadN X0.here hx rfl (hb hby own_d19_16) rfl (XS.bipush X0.here hx rfl (hb hby own_d19_17) (XS.icmpNo X0.here hx rfl (hb hby own_d19_19) rfl (tlt (by decide : (3 : Int32) < (10 : Int32))).2.1 q)))))))) ?_
  refine own_g (mkF m 39 #[.val (.int (-x)), .val (.int 0), .val (.int (-10000)), .val (.int 4)] []) (fun _ q => XS.iloadN X0.here hx rfl (hb hby own_d19_22) rfl (XS.iloadN X0.here hx rfl (hb hby own_d19_23) rfl (XS.icmpYes X0.here hx rfl (pc0 := 24) (pc' := 31) rfl (hb hby own_d19_24) rfl (flt hs3).2.2.2 (by decide) (by decide) (XS.bipush X0.here hx rfl (hb hby own_d19_31) (XS.iloadN X0.here hx rfl (hb hby own_d19_33) rfl (XS.imul X0.here hx rfl (hb hby own_d19_34) rfl (XS.istoreN X0.here hx rfl (hb hby own_d19_35) rfl (l' := #[.val (.int (-x)), .val (.int 0), .val (.int (-10000)), .val (.int 3)]) rfl (XS.iinc X0.here hx rfl (hb hby own_d19_36) rfl (l' := #[.val (.int (-x)), .val (.int 0), .val (.int (-10000)), .val (.int 4)]) rfl q)))))))) ?_
  refine own_g (mkF m 28 #[.val (.int (-x)), .val (.int 0), .val (.int (-10000)), .val (.int 4)] [(.int 4)]) (fun _ q => XS.goto X0.here hx rfl (pc0 := 39) (pc' := 16) rfl (hb hby own_d19_39) (by decide) (by decide) (XS.iloadN X0.here hx rfl (hb hby own_d19_16) rfl (XS.bipush X0.here hx rfl (hb hby own_d19_17) (XS.icmpNo X0.here hx rfl (hb hby own_d19_19) rfl (tlt (by decide : (4 : Int32) < (10 : Int32))).2.1 (XS.iloadN X0.here hx rfl (hb hby own_d19_22) rfl (XS.iloadN X0.here hx rfl (hb hby own_d19_23) rfl (XS.icmpNo X0.here hx rfl (hb hby own_d19_24) rfl (tlt hs4).2.2.2 (XS.iloadN X0.here hx rfl (hb hby own_d19_27) rfl q)))))))) ?_
  refine own_g (mkF m 30 #[.val (.int (-x)), .val (.int 0), .val (.int (-10000)), .val (.int 4)] [(.int 4)]) (fun _ q => XS.iloadN X0.here hx rfl (hb hby own_d19_28) rfl (XS.iadd X0.here hx rfl (hb hby own_d19_29) rfl q)) ?_
  exact own_end X0 (v := some (.int 4)) (fun h => by rw [Bd.returns] at h; cases h) hlk (fun hr => retOut X0 hx Bd.returns rfl (Or.inl ⟨rfl, Or.inl rfl, _, rfl⟩) (hb hby own_d19_30) hr) (by rw [e0]; exact ⟨rfl, N0, rfl⟩) (by decide) (by decide)
theorem own_gc4_ef (m : MethodId) (x : Int32) (bb : Addr) : entryFrame m #[(.int x), (.int 4), (.ref bb)] 7 = mkF m 0 #[.val (.int x), .val (.int 4), .val (.ref bb), .unset, .unset, .unset, .unset] [] := by  first | (simp [entryFrame, mkF, argsToLocals, Value.category]; done) | rfl
def own_gc4_Q (Z : State) (x : Int32) (bb : Addr) (zCS : Int32) (dO : Addr) (dT : Addr) (ca : Addr) (cO : Cell) (cT : Cell) (cc : Cell) (h0 : Heap) (n0 : Nat) (v : Option Value) (h : Heap) (L : List Loc) : Prop := (∃ r, v = some (.int r)) ∧ Fr n0 L ∧ Keep h0 h [bb] ∧ own_By Z h bb (4 : Int32)
set_option maxRecDepth 65536 in
set_option maxHeartbeats 40000000 in
theorem own_gc4 (l : Launch) (Z : State) (a0 : Array Value) (hw : ∀ d ∈ tables_1, d.before a0 Z = true) (ws : List Jvm.Cond) (x : Int32) (bb : Addr) (zCS : Int32) (dO : Addr) (dT : Addr) (ca : Addr) (cO : Cell) (cT : Cell) (cc : Cell) (h0 : Heap) (n0 : Nat) (Z0 : n0 ≤ h0.size) (Cq : own_C Z zCS dO dT ca cO cT cc) (O0 : Old Z n0 h0) (hbd : 1000 ≤ x.toInt ∧ x.toInt < 10000) (R_b : own_By Z h0 bb (4 : Int32)) (g_b : n0 ≤ bb) :
    MetFree l own_y14 (head1 (Jvm.Cond.code own_y14 jdk_33_method_12_code 7 (some .int) :: ws) (⟨0, 0, 0, 0⟩ : Room)) (fun aa U => aa = #[(.int x), (.int 4), (.ref bb)] ∧ Z.Warmed39 U.vm ∧ U.heap = h0) (fun _ _ _ _ _ => True) (fun _ U o U' => ∃ v L, o = .returned v ∧ own_gc4_Q Z x bb zCS dO dT ca cO cT cc h0 n0 v U'.heap L ∧ FrameEnd U o U' L (⟨0, 0, 0, 0⟩ : Room).cells (⟨0, 0, 0, 0⟩ : Room).slots) := by
  refine MetFree.of_bodySF (plainFor_of_name own_pn_java_lang_Integer) hisR ?_
  intro p e s m args below meth c s₁ Bd hml0 hP hK
  obtain ⟨rfl, hZ, hh⟩ := hP
  have hx := Bd.exec
  have hby := Bd.bytes
  have hml : c.maxLocals = 7 := hml0
  have hown : s.vm.findClass "java/lang/Integer" = some m.cls := findClass_of_methodNamed Bd.named
  have hnm := (name_of_methodNamed Bd.named Bd.method).1
  have hlk := Bd.notSynchronized
  have X0 : Stand p l e (⟨0, 0, 0, 0⟩ : Room) s m #[(.int x), (.int 4), (.ref bb)] below meth c s₁ [] 0 0 := Stand.of_body Bd
  have e0 : s₁.heap = h0 := by rw [← hh, Bd.state]; rfl
  have N0 := Fr.nil n0
  refine own_start (Q := own_gc4_Q Z x bb zCS dO dT ca cO cT cc h0 n0) (own_gc4_ef m x bb) ?_
  have en0 := own_neg (y := x) (by omega)
  have c_0 : (0 : Int32).toInt = 0 := by decide
  have c_m100 : (-100 : Int32).toInt = -100 := by decide
  have c_m9 : (-9 : Int32).toInt = -9 := by decide
  have c_100 : (100 : Int32).toInt = 100 := by decide
  have hx0 : ¬ x < (0 : Int32) := own_nl (by omega)
  have hlp0 : ¬ ((-100 : Int32) < (-x)) := own_nl (by omega)
  have qq0 := own_qd (y := (-x)) (by omega)
  have rr0 := own_rd (y := (-x)) (by omega)
  have ir0 : ¬ ((((-x) / (100 : Int32)) * (100 : Int32)) - (-x)) < 0 ∧ ((((-x) / (100 : Int32)) * (100 : Int32)) - (-x)) < (100 : Int32) := ⟨own_nl (by omega), own_lt (by omega)⟩
  have hlp1 : (-100 : Int32) < ((-x) / (100 : Int32)) := own_lt (by omega)
  have nz := own_neg (y := ((-x) / (100 : Int32))) (by omega)
  have il : ¬ (-((-x) / (100 : Int32))) < 0 ∧ (-((-x) / (100 : Int32))) < (100 : Int32) := ⟨own_nl (by omega), own_lt (by omega)⟩
  have hn9 : ((-x) / (100 : Int32)) < (-9 : Int32) := own_lt (by omega)
  refine own_g (mkF m 19 #[.val (.int x), .val (.int 4), .val (.ref bb), .unset, .unset, .val (.int 4), .val (.int 0)] []) (fun _ q => XS.iloadN X0.here hx rfl (hb hby own_d20_0) rfl (XS.istore X0.here hx rfl (hb hby own_d20_1) rfl (l' := #[.val (.int x), .val (.int 4), .val (.ref bb), .unset, .unset, .val (.int 4), .unset]) rfl (XS.iloadN X0.here hx rfl (hb hby own_d20_3) rfl (XS.ifYes X0.here hx rfl (pc0 := 4) (pc' := 11) rfl (hb hby own_d20_4) rfl ((if0 _ _).trans (flt hx0).2.1) (by decide) (by decide) (XS.iconst X0.here hx rfl (hb hby own_d20_11) (XS.istore X0.here hx rfl (hb hby own_d20_12) rfl (l' := #[.val (.int x), .val (.int 4), .val (.ref bb), .unset, .unset, .val (.int 4), .val (.int 0)]) rfl (XS.iload X0.here hx rfl (hb hby own_d20_14) rfl (XS.ifNo X0.here hx rfl (hb hby own_d20_16) rfl ((if0 _ _).trans (teq (by decide : (0 : Int32) = (0 : Int32))).2) q)))))))) ?_
  refine own_g (mkF m 31 #[.val (.int (-x)), .val (.int 4), .val (.ref bb), .unset, .unset, .val (.int 4), .val (.int 0)] [(.int 100), (.int (-x))]) (fun _ q => XS.iloadN X0.here hx rfl (hb hby own_d20_19) rfl (XS.ineg X0.here hx rfl (hb hby own_d20_20) rfl (XS.istoreN X0.here hx rfl (hb hby own_d20_21) rfl (l' := #[.val (.int (-x)), .val (.int 4), .val (.ref bb), .unset, .unset, .val (.int 4), .val (.int 0)]) rfl (XS.iloadN X0.here hx rfl (hb hby own_d20_22) rfl (XS.bipush X0.here hx rfl (hb hby own_d20_23) (XS.icmpNo X0.here hx rfl (hb hby own_d20_25) rfl (flt hlp0).2.2.1 (XS.iloadN X0.here hx rfl (hb hby own_d20_28) rfl (XS.bipush X0.here hx rfl (hb hby own_d20_29) q)))))))) ?_
  refine own_g (mkF m 41 #[.val (.int (-x)), .val (.int 4), .val (.ref bb), .val (.int ((-x) / (100 : Int32))), .val (.int ((((-x) / (100 : Int32)) * (100 : Int32)) - (-x))), .val (.int 4), .val (.int 0)] []) (fun _ q => XS.idiv X0.here hx rfl (hb hby own_d20_31) rfl (by decide) (XS.istoreN X0.here hx rfl (hb hby own_d20_32) rfl (l' := #[.val (.int (-x)), .val (.int 4), .val (.ref bb), .val (.int ((-x) / (100 : Int32))), .unset, .val (.int 4), .val (.int 0)]) rfl (XS.iloadN X0.here hx rfl (hb hby own_d20_33) rfl (XS.bipush X0.here hx rfl (hb hby own_d20_34) (XS.imul X0.here hx rfl (hb hby own_d20_36) rfl (XS.iloadN X0.here hx rfl (hb hby own_d20_37) rfl (XS.isub X0.here hx rfl (hb hby own_d20_38) rfl (XS.istore X0.here hx rfl (hb hby own_d20_39) rfl (l' := #[.val (.int (-x)), .val (.int 4), .val (.ref bb), .val (.int ((-x) / (100 : Int32))), .val (.int ((((-x) / (100 : Int32)) * (100 : Int32)) - (-x))), .val (.int 4), .val (.int 0)]) rfl q)))))))) ?_
  refine own_g (mkF m 49 #[.val (.int ((-x) / (100 : Int32))), .val (.int 4), .val (.ref bb), .val (.int ((-x) / (100 : Int32))), .val (.int ((((-x) / (100 : Int32)) * (100 : Int32)) - (-x))), .val (.int 3), .val (.int 0)] [(.int 3), (.ref bb)]) (fun _ q => XS.iloadN X0.here hx rfl (hb hby own_d20_41) rfl (XS.istoreN X0.here hx rfl (hb hby own_d20_42) rfl (l' := #[.val (.int ((-x) / (100 : Int32))), .val (.int 4), .val (.ref bb), .val (.int ((-x) / (100 : Int32))), .val (.int ((((-x) / (100 : Int32)) * (100 : Int32)) - (-x))), .val (.int 4), .val (.int 0)]) rfl (XS.aloadN X0.here hx rfl (hb hby own_d20_43) rfl rfl (XS.iinc X0.here hx rfl (hb hby own_d20_44) rfl (l' := #[.val (.int ((-x) / (100 : Int32))), .val (.int 4), .val (.ref bb), .val (.int ((-x) / (100 : Int32))), .val (.int ((((-x) / (100 : Int32)) * (100 : Int32)) - (-x))), .val (.int 3), .val (.int 0)]) rfl (XS.iload X0.here hx rfl (hb hby own_d20_47) rfl q))))) ?_
  obtain ⟨T1, X1, e1, st1⟩ := getS2 X0 hx hZ hown (host := "") (Or.inl (own_h hw 125 rfl)) Via.refl e0 (Sta.ext O0.2 Cq.2.2.1) (g := (mkF m 49 #[.val (.int ((-x) / (100 : Int32))), .val (.int 4), .val (.ref bb), .val (.int ((-x) / (100 : Int32))), .val (.int ((((-x) / (100 : Int32)) * (100 : Int32)) - (-x))), .val (.int 3), .val (.int 0)] [(.int 3), (.ref bb)])) rfl (hb hby own_d20_49)
  refine own_by (g' := (mkF m 52 #[.val (.int ((-x) / (100 : Int32))), .val (.int 4), .val (.ref bb), .val (.int ((-x) / (100 : Int32))), .val (.int ((((-x) / (100 : Int32)) * (100 : Int32)) - (-x))), .val (.int 3), .val (.int 0)] [(.ref dO), (.int 3), (.ref bb)])) st1 ?_
  refine own_g (mkF m 54 #[.val (.int ((-x) / (100 : Int32))), .val (.int 4), .val (.ref bb), .val (.int ((-x) / (100 : Int32))), .val (.int ((((-x) / (100 : Int32)) * (100 : Int32)) - (-x))), .val (.int 3), .val (.int 0)] [(.int ((((-x) / (100 : Int32)) * (100 : Int32)) - (-x))), (.ref dO), (.int 3), (.ref bb)]) (fun _ q => XS.iload X1.here hx rfl (hb hby own_d20_52) rfl q) ?_
  have TB2 := Tab.ext Cq.2.2.2.2.1 O0.2
  have hin2 := inb_of TB2.2.1 ir0
  refine own_by (g' := (mkF m 55 #[.val (.int ((-x) / (100 : Int32))), .val (.int 4), .val (.ref bb), .val (.int ((-x) / (100 : Int32))), .val (.int ((((-x) / (100 : Int32)) * (100 : Int32)) - (-x))), .val (.int 3), .val (.int 0)] [(.int (atv cO ((((-x) / (100 : Int32)) * (100 : Int32)) - (-x)))), (.int 3), (.ref bb)])) (fun _ kq => X1.baloadBytes hx (j := ((((-x) / (100 : Int32)) * (100 : Int32)) - (-x))) (v := (.int (atv cO ((((-x) / (100 : Int32)) * (100 : Int32)) - (-x))))) (by rw [e1]; exact TB2.1.1) (State.isArrayOf_alike hZ.alike TB2.1.2.1) TB2.1.2.2 hin2 (TB2.2.2.2 _ hin2) (g := (mkF m 54 #[.val (.int ((-x) / (100 : Int32))), .val (.int 4), .val (.ref bb), .val (.int ((-x) / (100 : Int32))), .val (.int ((((-x) / (100 : Int32)) * (100 : Int32)) - (-x))), .val (.int 3), .val (.int 0)] [(.int ((((-x) / (100 : Int32)) * (100 : Int32)) - (-x))), (.ref dO), (.int 3), (.ref bb)])) rfl rfl (hb hby own_d20_54) _ kq) ?_
  obtain ⟨kk3, vs3, ⟨cl3, Ar3, q3, S3, P3, H3, G3⟩, hl3⟩ := id R_b
  have hin3 : ¬ ((3 : Int32) < 0 ∨ cl3.slots.size ≤ ((3 : Int32)).toNatClampNeg) := inb_of S3 ⟨by decide, by decide⟩
  obtain ⟨T4, h4, X4, e4, W4, st4⟩ := stB X1 hx hZ e1 Ar3 (j := (3 : Int32)) hin3 (g := (mkF m 55 #[.val (.int ((-x) / (100 : Int32))), .val (.int 4), .val (.ref bb), .val (.int ((-x) / (100 : Int32))), .val (.int ((((-x) / (100 : Int32)) * (100 : Int32)) - (-x))), .val (.int 3), .val (.int 0)] [(.int (atv cO ((((-x) / (100 : Int32)) * (100 : Int32)) - (-x)))), (.int 3), (.ref bb)])) rfl rfl (hb hby own_d20_55)
  have R4 := own_By.put Ar3 q3 S3 P3 H3 G3 hl3 hin3 (fits_nar_byte _) W4
  have N4 := Fr.snoc X4 N0 g_b
  refine own_by (g' := (mkF m 56 #[.val (.int ((-x) / (100 : Int32))), .val (.int 4), .val (.ref bb), .val (.int ((-x) / (100 : Int32))), .val (.int ((((-x) / (100 : Int32)) * (100 : Int32)) - (-x))), .val (.int 3), .val (.int 0)] [])) st4 ?_
  refine own_g (mkF m 62 #[.val (.int ((-x) / (100 : Int32))), .val (.int 4), .val (.ref bb), .val (.int ((-x) / (100 : Int32))), .val (.int ((((-x) / (100 : Int32)) * (100 : Int32)) - (-x))), .val (.int 2), .val (.int 0)] [(.int 2), (.ref bb)]) (fun _ q => XS.aloadN X4.here hx rfl (hb hby own_d20_56) rfl rfl (XS.iinc X4.here hx rfl (hb hby own_d20_57) rfl (l' := #[.val (.int ((-x) / (100 : Int32))), .val (.int 4), .val (.ref bb), .val (.int ((-x) / (100 : Int32))), .val (.int ((((-x) / (100 : Int32)) * (100 : Int32)) - (-x))), .val (.int 2), .val (.int 0)]) rfl (XS.iload X4.here hx rfl (hb hby own_d20_60) rfl q))) ?_
  have o5_ := (O0.wr W4 g_b)
  obtain ⟨T6, X6, e6, st6⟩ := getS2 X4 hx hZ hown (host := "") (Or.inl (own_h hw 221 rfl)) Via.refl e4 (Sta.ext o5_.2 Cq.2.2.2.1) (g := (mkF m 62 #[.val (.int ((-x) / (100 : Int32))), .val (.int 4), .val (.ref bb), .val (.int ((-x) / (100 : Int32))), .val (.int ((((-x) / (100 : Int32)) * (100 : Int32)) - (-x))), .val (.int 2), .val (.int 0)] [(.int 2), (.ref bb)])) rfl (hb hby own_d20_62)
  refine own_by (g' := (mkF m 65 #[.val (.int ((-x) / (100 : Int32))), .val (.int 4), .val (.ref bb), .val (.int ((-x) / (100 : Int32))), .val (.int ((((-x) / (100 : Int32)) * (100 : Int32)) - (-x))), .val (.int 2), .val (.int 0)] [(.ref dT), (.int 2), (.ref bb)])) st6 ?_
  refine own_g (mkF m 67 #[.val (.int ((-x) / (100 : Int32))), .val (.int 4), .val (.ref bb), .val (.int ((-x) / (100 : Int32))), .val (.int ((((-x) / (100 : Int32)) * (100 : Int32)) - (-x))), .val (.int 2), .val (.int 0)] [(.int ((((-x) / (100 : Int32)) * (100 : Int32)) - (-x))), (.ref dT), (.int 2), (.ref bb)]) (fun _ q => XS.iload X6.here hx rfl (hb hby own_d20_65) rfl q) ?_
  have TB7 := Tab.ext Cq.2.2.2.2.2.1 o5_.2
  have hin7 := inb_of TB7.2.1 ir0
  refine own_by (g' := (mkF m 68 #[.val (.int ((-x) / (100 : Int32))), .val (.int 4), .val (.ref bb), .val (.int ((-x) / (100 : Int32))), .val (.int ((((-x) / (100 : Int32)) * (100 : Int32)) - (-x))), .val (.int 2), .val (.int 0)] [(.int (atv cT ((((-x) / (100 : Int32)) * (100 : Int32)) - (-x)))), (.int 2), (.ref bb)])) (fun _ kq => X6.baloadBytes hx (j := ((((-x) / (100 : Int32)) * (100 : Int32)) - (-x))) (v := (.int (atv cT ((((-x) / (100 : Int32)) * (100 : Int32)) - (-x))))) (by rw [e6]; exact TB7.1.1) (State.isArrayOf_alike hZ.alike TB7.1.2.1) TB7.1.2.2 hin7 (TB7.2.2.2 _ hin7) (g := (mkF m 67 #[.val (.int ((-x) / (100 : Int32))), .val (.int 4), .val (.ref bb), .val (.int ((-x) / (100 : Int32))), .val (.int ((((-x) / (100 : Int32)) * (100 : Int32)) - (-x))), .val (.int 2), .val (.int 0)] [(.int ((((-x) / (100 : Int32)) * (100 : Int32)) - (-x))), (.ref dT), (.int 2), (.ref bb)])) rfl rfl (hb hby own_d20_67) _ kq) ?_
  obtain ⟨kk8, vs8, ⟨cl8, Ar8, q8, S8, P8, H8, G8⟩, hl8⟩ := id R4
  have hin8 : ¬ ((2 : Int32) < 0 ∨ cl8.slots.size ≤ ((2 : Int32)).toNatClampNeg) := inb_of S8 ⟨by decide, by decide⟩
  obtain ⟨T9, h9, X9, e9, W9, st9⟩ := stB X6 hx hZ e6 Ar8 (j := (2 : Int32)) hin8 (g := (mkF m 68 #[.val (.int ((-x) / (100 : Int32))), .val (.int 4), .val (.ref bb), .val (.int ((-x) / (100 : Int32))), .val (.int ((((-x) / (100 : Int32)) * (100 : Int32)) - (-x))), .val (.int 2), .val (.int 0)] [(.int (atv cT ((((-x) / (100 : Int32)) * (100 : Int32)) - (-x)))), (.int 2), (.ref bb)])) rfl rfl (hb hby own_d20_68)
  have R9 := own_By.put Ar8 q8 S8 P8 H8 G8 hl8 hin8 (fits_nar_byte _) W9
  have N9 := Fr.snoc X9 N4 g_b
  refine own_by (g' := (mkF m 69 #[.val (.int ((-x) / (100 : Int32))), .val (.int 4), .val (.ref bb), .val (.int ((-x) / (100 : Int32))), .val (.int ((((-x) / (100 : Int32)) * (100 : Int32)) - (-x))), .val (.int 2), .val (.int 0)] [])) st9 ?_
  refine own_g (mkF m 78 #[.val (.int ((-x) / (100 : Int32))), .val (.int 4), .val (.ref bb), .val (.int ((-x) / (100 : Int32))), .val (.int ((((-x) / (100 : Int32)) * (100 : Int32)) - (-x))), .val (.int 1), .val (.int 0)] [(.int 1), (.ref bb)]) (fun _ q => XS.goto X9.here hx rfl (pc0 := 69) (pc' := 22) rfl (hb hby own_d20_69) (by decide) (by decide) (XS.iloadN X9.here hx rfl (hb hby own_d20_22) rfl (XS.bipush X9.here hx rfl (hb hby own_d20_23) (XS.icmpYes X9.here hx rfl (pc0 := 25) (pc' := 72) rfl (hb hby own_d20_25) rfl (tlt hlp1).2.2.1 (by decide) (by decide) (XS.aloadN X9.here hx rfl (hb hby own_d20_72) rfl rfl (XS.iinc X9.here hx rfl (hb hby own_d20_73) rfl (l' := #[.val (.int ((-x) / (100 : Int32))), .val (.int 4), .val (.ref bb), .val (.int ((-x) / (100 : Int32))), .val (.int ((((-x) / (100 : Int32)) * (100 : Int32)) - (-x))), .val (.int 1), .val (.int 0)]) rfl (XS.iload X9.here hx rfl (hb hby own_d20_76) rfl q))))))) ?_
  have o10_ := (o5_.wr W9 g_b)
  obtain ⟨T11, X11, e11, st11⟩ := getS2 X9 hx hZ hown (host := "") (Or.inl (own_h hw 125 rfl)) Via.refl e9 (Sta.ext o10_.2 Cq.2.2.1) (g := (mkF m 78 #[.val (.int ((-x) / (100 : Int32))), .val (.int 4), .val (.ref bb), .val (.int ((-x) / (100 : Int32))), .val (.int ((((-x) / (100 : Int32)) * (100 : Int32)) - (-x))), .val (.int 1), .val (.int 0)] [(.int 1), (.ref bb)])) rfl (hb hby own_d20_78)
  refine own_by (g' := (mkF m 81 #[.val (.int ((-x) / (100 : Int32))), .val (.int 4), .val (.ref bb), .val (.int ((-x) / (100 : Int32))), .val (.int ((((-x) / (100 : Int32)) * (100 : Int32)) - (-x))), .val (.int 1), .val (.int 0)] [(.ref dO), (.int 1), (.ref bb)])) st11 ?_
  refine own_g (mkF m 83 #[.val (.int ((-x) / (100 : Int32))), .val (.int 4), .val (.ref bb), .val (.int ((-x) / (100 : Int32))), .val (.int ((((-x) / (100 : Int32)) * (100 : Int32)) - (-x))), .val (.int 1), .val (.int 0)] [(.int (-((-x) / (100 : Int32)))), (.ref dO), (.int 1), (.ref bb)]) (fun _ q => XS.iloadN X11.here hx rfl (hb hby own_d20_81) rfl (XS.ineg X11.here hx rfl (hb hby own_d20_82) rfl q)) ?_
  have TB12 := Tab.ext Cq.2.2.2.2.1 o10_.2
  have hin12 := inb_of TB12.2.1 il
  refine own_by (g' := (mkF m 84 #[.val (.int ((-x) / (100 : Int32))), .val (.int 4), .val (.ref bb), .val (.int ((-x) / (100 : Int32))), .val (.int ((((-x) / (100 : Int32)) * (100 : Int32)) - (-x))), .val (.int 1), .val (.int 0)] [(.int (atv cO (-((-x) / (100 : Int32))))), (.int 1), (.ref bb)])) (fun _ kq => X11.baloadBytes hx (j := (-((-x) / (100 : Int32)))) (v := (.int (atv cO (-((-x) / (100 : Int32)))))) (by rw [e11]; exact TB12.1.1) (State.isArrayOf_alike hZ.alike TB12.1.2.1) TB12.1.2.2 hin12 (TB12.2.2.2 _ hin12) (g := (mkF m 83 #[.val (.int ((-x) / (100 : Int32))), .val (.int 4), .val (.ref bb), .val (.int ((-x) / (100 : Int32))), .val (.int ((((-x) / (100 : Int32)) * (100 : Int32)) - (-x))), .val (.int 1), .val (.int 0)] [(.int (-((-x) / (100 : Int32)))), (.ref dO), (.int 1), (.ref bb)])) rfl rfl (hb hby own_d20_83) _ kq) ?_
  obtain ⟨kk13, vs13, ⟨cl13, Ar13, q13, S13, P13, H13, G13⟩, hl13⟩ := id R9
  have hin13 : ¬ ((1 : Int32) < 0 ∨ cl13.slots.size ≤ ((1 : Int32)).toNatClampNeg) := inb_of S13 ⟨by decide, by decide⟩
  obtain ⟨T14, h14, X14, e14, W14, st14⟩ := stB X11 hx hZ e11 Ar13 (j := (1 : Int32)) hin13 (g := (mkF m 84 #[.val (.int ((-x) / (100 : Int32))), .val (.int 4), .val (.ref bb), .val (.int ((-x) / (100 : Int32))), .val (.int ((((-x) / (100 : Int32)) * (100 : Int32)) - (-x))), .val (.int 1), .val (.int 0)] [(.int (atv cO (-((-x) / (100 : Int32))))), (.int 1), (.ref bb)])) rfl rfl (hb hby own_d20_84)
  have R14 := own_By.put Ar13 q13 S13 P13 H13 G13 hl13 hin13 (fits_nar_byte _) W14
  have N14 := Fr.snoc X14 N9 g_b
  refine own_by (g' := (mkF m 85 #[.val (.int ((-x) / (100 : Int32))), .val (.int 4), .val (.ref bb), .val (.int ((-x) / (100 : Int32))), .val (.int ((((-x) / (100 : Int32)) * (100 : Int32)) - (-x))), .val (.int 1), .val (.int 0)] [])) st14 ?_
  refine own_g (mkF m 97 #[.val (.int ((-x) / (100 : Int32))), .val (.int 4), .val (.ref bb), .val (.int ((-x) / (100 : Int32))), .val (.int ((((-x) / (100 : Int32)) * (100 : Int32)) - (-x))), .val (.int 0), .val (.int 0)] [(.int 0), (.ref bb)]) (fun _ q => XS.iloadN X14.here hx rfl (hb hby own_d20_85) rfl (XS.bipush X14.here hx rfl (hb hby own_d20_86) (XS.icmpNo X14.here hx rfl (hb hby own_d20_88) rfl (tlt hn9).2.1 (XS.aloadN X14.here hx rfl (hb hby own_d20_91) rfl rfl (XS.iinc X14.here hx rfl (hb hby own_d20_92) rfl (l' := #[.val (.int ((-x) / (100 : Int32))), .val (.int 4), .val (.ref bb), .val (.int ((-x) / (100 : Int32))), .val (.int ((((-x) / (100 : Int32)) * (100 : Int32)) - (-x))), .val (.int 0), .val (.int 0)]) rfl (XS.iload X14.here hx rfl (hb hby own_d20_95) rfl q)))))) ?_
  have o15_ := (o10_.wr W14 g_b)
  obtain ⟨T16, X16, e16, st16⟩ := getS2 X14 hx hZ hown (host := "") (Or.inl (own_h hw 221 rfl)) Via.refl e14 (Sta.ext o15_.2 Cq.2.2.2.1) (g := (mkF m 97 #[.val (.int ((-x) / (100 : Int32))), .val (.int 4), .val (.ref bb), .val (.int ((-x) / (100 : Int32))), .val (.int ((((-x) / (100 : Int32)) * (100 : Int32)) - (-x))), .val (.int 0), .val (.int 0)] [(.int 0), (.ref bb)])) rfl (hb hby own_d20_97)
  refine own_by (g' := (mkF m 100 #[.val (.int ((-x) / (100 : Int32))), .val (.int 4), .val (.ref bb), .val (.int ((-x) / (100 : Int32))), .val (.int ((((-x) / (100 : Int32)) * (100 : Int32)) - (-x))), .val (.int 0), .val (.int 0)] [(.ref dT), (.int 0), (.ref bb)])) st16 ?_
  refine own_g (mkF m 102 #[.val (.int ((-x) / (100 : Int32))), .val (.int 4), .val (.ref bb), .val (.int ((-x) / (100 : Int32))), .val (.int ((((-x) / (100 : Int32)) * (100 : Int32)) - (-x))), .val (.int 0), .val (.int 0)] [(.int (-((-x) / (100 : Int32)))), (.ref dT), (.int 0), (.ref bb)]) (fun _ q => XS.iloadN X16.here hx rfl (hb hby own_d20_100) rfl (XS.ineg X16.here hx rfl (hb hby own_d20_101) rfl q)) ?_
  have TB17 := Tab.ext Cq.2.2.2.2.2.1 o15_.2
  have hin17 := inb_of TB17.2.1 il
  refine own_by (g' := (mkF m 103 #[.val (.int ((-x) / (100 : Int32))), .val (.int 4), .val (.ref bb), .val (.int ((-x) / (100 : Int32))), .val (.int ((((-x) / (100 : Int32)) * (100 : Int32)) - (-x))), .val (.int 0), .val (.int 0)] [(.int (atv cT (-((-x) / (100 : Int32))))), (.int 0), (.ref bb)])) (fun _ kq => X16.baloadBytes hx (j := (-((-x) / (100 : Int32)))) (v := (.int (atv cT (-((-x) / (100 : Int32)))))) (by rw [e16]; exact TB17.1.1) (State.isArrayOf_alike hZ.alike TB17.1.2.1) TB17.1.2.2 hin17 (TB17.2.2.2 _ hin17) (g := (mkF m 102 #[.val (.int ((-x) / (100 : Int32))), .val (.int 4), .val (.ref bb), .val (.int ((-x) / (100 : Int32))), .val (.int ((((-x) / (100 : Int32)) * (100 : Int32)) - (-x))), .val (.int 0), .val (.int 0)] [(.int (-((-x) / (100 : Int32)))), (.ref dT), (.int 0), (.ref bb)])) rfl rfl (hb hby own_d20_102) _ kq) ?_
  obtain ⟨kk18, vs18, ⟨cl18, Ar18, q18, S18, P18, H18, G18⟩, hl18⟩ := id R14
  have hin18 : ¬ ((0 : Int32) < 0 ∨ cl18.slots.size ≤ ((0 : Int32)).toNatClampNeg) := inb_of S18 ⟨by decide, by decide⟩
  obtain ⟨T19, h19, X19, e19, W19, st19⟩ := stB X16 hx hZ e16 Ar18 (j := (0 : Int32)) hin18 (g := (mkF m 103 #[.val (.int ((-x) / (100 : Int32))), .val (.int 4), .val (.ref bb), .val (.int ((-x) / (100 : Int32))), .val (.int ((((-x) / (100 : Int32)) * (100 : Int32)) - (-x))), .val (.int 0), .val (.int 0)] [(.int (atv cT (-((-x) / (100 : Int32))))), (.int 0), (.ref bb)])) rfl rfl (hb hby own_d20_103)
  have R19 := own_By.put Ar18 q18 S18 P18 H18 G18 hl18 hin18 (fits_nar_byte _) W19
  have N19 := Fr.snoc X19 N14 g_b
  refine own_by (g' := (mkF m 104 #[.val (.int ((-x) / (100 : Int32))), .val (.int 4), .val (.ref bb), .val (.int ((-x) / (100 : Int32))), .val (.int ((((-x) / (100 : Int32)) * (100 : Int32)) - (-x))), .val (.int 0), .val (.int 0)] [])) st19 ?_
  refine own_g (mkF m 120 #[.val (.int ((-x) / (100 : Int32))), .val (.int 4), .val (.ref bb), .val (.int ((-x) / (100 : Int32))), .val (.int ((((-x) / (100 : Int32)) * (100 : Int32)) - (-x))), .val (.int 0), .val (.int 0)] [(.int 0)]) (fun _ q => XS.iload X19.here hx rfl (hb hby own_d20_104) rfl (XS.ifYes X19.here hx rfl (pc0 := 106) (pc' := 118) rfl (hb hby own_d20_106) rfl ((if0 _ _).trans (teq (by decide : (0 : Int32) = (0 : Int32))).1) (by decide) (by decide) (XS.iload X19.here hx rfl (hb hby own_d20_118) rfl q))) ?_
  have k20_ := (((((Keep.refl h0 [bb]).wr W4 (Or.inl (List.mem_of_getElem? (i := 0) rfl))).wr W9 (Or.inl (List.mem_of_getElem? (i := 0) rfl))).wr W14 (Or.inl (List.mem_of_getElem? (i := 0) rfl))).wr W19 (Or.inl (List.mem_of_getElem? (i := 0) rfl)))
  exact own_end X19 (v := some (.int 0)) (fun h => by rw [Bd.returns] at h; cases h) hlk (fun hr => retOut X19 hx Bd.returns rfl (Or.inl ⟨rfl, Or.inl rfl, _, rfl⟩) (hb hby own_d20_120) hr) (by rw [e19]; exact ⟨⟨_, rfl⟩, N19, k20_, R19⟩) (by decide) (by decide)
theorem own_is4_ef (m : MethodId) (x : Int32) : entryFrame m #[(.int x)] 3 = mkF m 0 #[.val (.int x), .unset, .unset] [] := by  first | (simp [entryFrame, mkF, argsToLocals, Value.category]; done) | rfl
def own_is4_Q (Z : State) (x : Int32) (zCS : Int32) (dO : Addr) (dT : Addr) (ca : Addr) (cO : Cell) (cT : Cell) (cc : Cell) (h0 : Heap) (n0 : Nat) (v : Option Value) (h : Heap) (L : List Loc) : Prop := ∃ r b : Addr, v = some (.ref r) ∧ Fr n0 L ∧ Keep h0 h [] ∧ h0.size ≤ r ∧ n0 ≤ r ∧ h0.size ≤ b ∧ Exa Z h r "java/lang/String" ∧ Fld Z h r "java/lang/String" "value" "[B" (.ref b) ∧ Fld Z h r "java/lang/String" "coder" "B" (.int 0) ∧ own_By Z h b (4 : Int32)
set_option maxRecDepth 65536 in
set_option maxHeartbeats 40000000 in
theorem own_is4 (l : Launch) (Z : State) (a0 : Array Value) (hw : ∀ d ∈ tables_1, d.before a0 Z = true) (ws : List Jvm.Cond) (x : Int32) (zCS : Int32) (dO : Addr) (dT : Addr) (ca : Addr) (cO : Cell) (cT : Cell) (cc : Cell) (h0 : Heap) (n0 : Nat) (Z0 : n0 ≤ h0.size) (Cq : own_C Z zCS dO dT ca cO cT cc) (O0 : Old Z n0 h0) (hbd : 1000 ≤ x.toInt ∧ x.toInt < 10000) :
    MetFree l own_y18 (head1 (Jvm.Cond.code own_y18 jdk_33_method_10_code 3 (some (.object "java/lang/String")) :: ws) (⟨2, 2, 8, 27⟩ : Room)) (fun aa U => aa = #[(.int x)] ∧ Z.Warmed39 U.vm ∧ U.heap = h0) (fun _ _ _ _ _ => True) (fun _ U o U' => ∃ v L, o = .returned v ∧ own_is4_Q Z x zCS dO dT ca cO cT cc h0 n0 v U'.heap L ∧ FrameEnd U o U' L (⟨2, 2, 8, 27⟩ : Room).cells (⟨2, 2, 8, 27⟩ : Room).slots) := by
  refine MetFree.of_bodySF (plainFor_of_name own_pn_java_lang_Integer) hisR ?_
  intro p e s m args below meth c s₁ Bd hml0 hP hK
  obtain ⟨rfl, hZ, hh⟩ := hP
  have hx := Bd.exec
  have hby := Bd.bytes
  have hml : c.maxLocals = 3 := hml0
  have hown : s.vm.findClass "java/lang/Integer" = some m.cls := findClass_of_methodNamed Bd.named
  have hnm := (name_of_methodNamed Bd.named Bd.method).1
  have hlk := Bd.notSynchronized
  have X0 : Stand p l e (⟨2, 2, 8, 27⟩ : Room) s m #[(.int x)] below meth c s₁ [] 0 0 := Stand.of_body Bd
  have e0 : s₁.heap = h0 := by rw [← hh, Bd.state]; rfl
  have N0 := Fr.nil n0
  refine own_start (Q := own_is4_Q Z x zCS dO dT ca cO cT cc h0 n0) (own_is4_ef m x) ?_
  refine own_g (mkF m 1 #[.val (.int x), .unset, .unset] [(.int x)]) (fun _ q => XS.iloadN X0.here hx rfl (hb hby own_d18_0) rfl q) ?_
  refine own_callS X0 hx hZ (y := own_y16) hown (own_h hw 118 rfl) (own_h hw 119 rfl) (own_h hw 7 rfl) (own_h hw 120 rfl) (by decide) (own_ss4 l Z a0 hw [] x zCS dO dT ca cO cT cc h0 n0 Z0 Cq O0 hbd) (by decide) (by decide) e0 (g := (mkF m 1 #[.val (.int x), .unset, .unset] [(.int x)])) rfl (by rw [hml]; rfl) (argsL := [(.int x)]) (rest := []) (lenOf own_pd__28I_29I rfl) rfl (W := 0) (by show 2 * 0 + _ ≤ _; exact Nat.le_of_eq rfl) (hb hby own_d18_1) rfl (by decide) (by decide) ?_
  rintro rv1 T1 L1 X1 ⟨rfl, Nq1, eh1⟩
  have N1 := Fr.app N0 Nq1
  refine own_g (mkF m 5 #[.val (.int x), .val (.int 4), .unset] []) (fun _ q => XS.istoreN X1.here hx rfl (hb hby own_d18_4) rfl (l' := #[.val (.int x), .val (.int 4), .unset]) rfl q) ?_
  obtain ⟨T2, X2, e2, st2⟩ := getS2 X1 hx hZ hown (host := "") (Or.inl (own_h hw 121 rfl)) Via.refl eh1 (Sta.ext O0.2 Cq.1) (g := (mkF m 5 #[.val (.int x), .val (.int 4), .unset] [])) rfl (hb hby own_d18_5)
  refine own_by (g' := (mkF m 8 #[.val (.int x), .val (.int 4), .unset] [(.int zCS)])) st2 ?_
  refine own_g (mkF m 12 #[.val (.int x), .val (.int 4), .unset] [(.int 4)]) (fun _ q => XS.ifNo X2.here hx rfl (hb hby own_d18_8) rfl ((if0 _ _).trans (feq Cq.2.1).1) (XS.iloadN X2.here hx rfl (hb hby own_d18_11) rfl q)) ?_
  obtain ⟨T3, h3, k3, X3, e3, E3, A3, Ex3, st3⟩ := newPE X2 hx hZ (own_h hw 38 rfl) e2 (g := (mkF m 12 #[.val (.int x), .val (.int 4), .unset] [(.int 4)])) rfl (hb hby own_d18_12) rfl (by decide) (cap := 4) (by decide) (by decide) (by decide) (by decide) (ad := "[B") (by decide)
  obtain ⟨b3, g3⟩ : ∃ z, z = h0.size := ⟨_, rfl⟩
  rw [← g3] at A3 Ex3 st3
  have g_b3 : n0 ≤ b3 := Nat.le_trans Z0 (Nat.le_of_eq g3.symm)
  have sz_b3 : h0.size ≤ b3 := Nat.le_trans (Keep.refl h0 []).1 (Nat.le_of_eq g3.symm)
  have R_b3 := own_By.of (Arv.new A3 (by decide))
  refine own_by (g' := (mkF m 14 #[.val (.int x), .val (.int 4), .unset] [(.ref b3)])) st3 ?_
  refine own_g (mkF m 18 #[.val (.int x), .val (.int 4), .val (.ref b3)] [(.ref b3), (.int 4), (.int x)]) (fun _ q => XS.astoreN X3.here hx rfl (hb hby own_d18_14) rfl rfl (l' := #[.val (.int x), .val (.int 4), .val (.ref b3)]) rfl (XS.iloadN X3.here hx rfl (hb hby own_d18_15) rfl (XS.iloadN X3.here hx rfl (hb hby own_d18_16) rfl (XS.aloadN X3.here hx rfl (hb hby own_d18_17) rfl rfl q)))) ?_
  have k4_ := ((Keep.refl h0 []).ext E3)
  have o5_ := (O0.ext E3)
  refine own_callS X3 hx hZ (y := own_y14) hown (own_h hw 122 rfl) (own_h hw 123 rfl) (own_h hw 7 rfl) (own_h hw 124 rfl) (by decide) (own_gc4 l Z a0 hw [] x b3 zCS dO dT ca cO cT cc h3 n0 (Nat.le_trans Z0 k4_.1) Cq o5_ hbd R_b3 g_b3) (by decide) (by decide) e3 (g := (mkF m 18 #[.val (.int x), .val (.int 4), .val (.ref b3)] [(.ref b3), (.int 4), (.int x)])) rfl (by rw [hml]; rfl) (argsL := [(.int x), (.int 4), (.ref b3)]) (rest := []) (lenOf own_pd__28II_5bB_29I rfl) rfl (W := 0) (by show 2 * 0 + _ ≤ _; exact Nat.le_of_eq rfl) (hb hby own_d18_18) rfl (by decide) (by decide) ?_
  rintro rv6 T6 L6 X6 ⟨⟨rr6, rfl⟩, Nq6, Kq6, Rq6⟩
  have N6 := Fr.app N1 Nq6
  refine own_g (mkF m 22 #[.val (.int x), .val (.int 4), .val (.ref b3)] []) (fun _ q => XS.pop X6.here hx rfl (hb hby own_d18_21) rfl rfl q) ?_
  obtain ⟨T7, h7, X7, e7, E7, A7, D7, U7, st7⟩ := newO X6 hx hZ hown (own_h hw 126 rfl) (own_h hw 44 rfl) (own_h hw 37 rfl) rfl (g := (mkF m 22 #[.val (.int x), .val (.int 4), .val (.ref b3)] [])) rfl (hb hby own_d18_22) (by decide) (by decide)
  obtain ⟨b7, g7⟩ : ∃ z, z = T6.heap.size := ⟨_, rfl⟩
  rw [← g7] at A7 D7 U7 st7
  have k8_ := (k4_.trans Kq6 (allS (Or.inr sz_b3) all0))
  have g_b7 : n0 ≤ b7 := Nat.le_trans (Nat.le_trans Z0 k8_.1) (Nat.le_of_eq g7.symm)
  have sz_b7 : h0.size ≤ b7 := Nat.le_trans k8_.1 (Nat.le_of_eq g7.symm)
  have ne_b3_b7 : b3 ≠ b7 := Nat.ne_of_lt (Nat.lt_of_lt_of_le Rq6.lt (Nat.le_of_eq g7.symm))
  have F_value_b7 : Fld Z h7 b7 "java/lang/String" "value" "[B" .null := D7 (Or.inr (own_h hw 45 rfl)) (ty := (.array .byte)) (by decide)
  have F_coder_b7 : Fld Z h7 b7 "java/lang/String" "coder" "B" (.int 0) := D7 (Or.inr (own_h hw 46 rfl)) (ty := .byte) (by decide)
  refine own_by (g' := (mkF m 25 #[.val (.int x), .val (.int 4), .val (.ref b3)] [(.ref b7)])) st7 ?_
  refine own_g (mkF m 28 #[.val (.int x), .val (.int 4), .val (.ref b3)] [(.int 0), (.ref b3), (.ref b7), (.ref b7)]) (fun _ q => XS.dup X7.here hx rfl (hb hby own_d18_25) rfl rfl (XS.aloadN X7.here hx rfl (hb hby own_d18_26) rfl rfl (XS.iconst X7.here hx rfl (hb hby own_d18_27) q))) ?_
  have k9_ := (k8_.ext E7)
  have o10_ := ((o5_.keep Kq6 (allS g_b3 all0)).ext E7)
  refine own_callI X7 hx hZ (y := own_y27) rfl hown (own_h hw 127 rfl) (own_h hw 128 rfl) (own_h hw 130 rfl) (own_h hw 37 rfl) (by decide) (own_sbb l Z a0 hw [] b7 b3 zCS dO dT ca cO cT cc h7 n0 (Nat.le_trans Z0 k9_.1) Cq o10_ A7 F_value_b7 F_coder_b7 g_b7) (by decide) (by decide) e7 (g := (mkF m 28 #[.val (.int x), .val (.int 4), .val (.ref b3)] [(.int 0), (.ref b3), (.ref b7), (.ref b7)])) rfl (by rw [hml]; rfl) (argsL := [(.ref b3), (.int 0)]) (rest := [(.ref b7)]) (lenOf own_pd__28_5bBB_29V rfl) rfl (W := 1) (by show 2 * 0 + _ ≤ _; exact Nat.le_of_eq rfl) (hb hby own_d18_28) rfl (by decide) (by decide) ?_
  rintro rv11 T11 L11 X11 ⟨rfl, Nq11, Kq11, Fv11, Fc11⟩
  have N11 := Fr.app N6 Nq11
  show own_Fin p e below _ T11 (mkF m 31 #[.val (.int x), .val (.int 4), .val (.ref b3)] [(.ref b7)])
  have k12_ := (k9_.trans Kq11 (allS (Or.inr sz_b7) all0))
  have e13_b7 := (A7.keep Kq11)
  have r14_b3 := ((Rq6.ext E7).keep Kq11 (ninS ne_b3_b7 nin0))
  exact own_end X11 (v := some (.ref b7)) (fun h => by rw [Bd.returns] at h; cases h) hlk (fun hr => retOut X11 hx Bd.returns (own_narR rfl) (Or.inr (Or.inr (Or.inr (Or.inr ⟨rfl, rfl, rfl⟩)))) (hb hby own_d18_31) hr) (⟨b7, b3, rfl, N11, k12_, sz_b7, g_b7, sz_b3, e13_b7, Fv11, Fc11, r14_b3⟩) (by decide) (by decide)
theorem own_ss5_ef (m : MethodId) (x : Int32) : entryFrame m #[(.int x)] 4 = mkF m 0 #[.val (.int x), .unset, .unset, .unset] [] := by  first | (simp [entryFrame, mkF, argsToLocals, Value.category]; done) | rfl
def own_ss5_Q (Z : State) (x : Int32) (zCS : Int32) (dO : Addr) (dT : Addr) (ca : Addr) (cO : Cell) (cT : Cell) (cc : Cell) (h0 : Heap) (n0 : Nat) (v : Option Value) (h : Heap) (L : List Loc) : Prop := v = some (.int 5) ∧ Fr n0 L ∧ h = h0
set_option maxRecDepth 65536 in
set_option maxHeartbeats 40000000 in
theorem own_ss5 (l : Launch) (Z : State) (a0 : Array Value) (hw : ∀ d ∈ tables_1, d.before a0 Z = true) (ws : List Jvm.Cond) (x : Int32) (zCS : Int32) (dO : Addr) (dT : Addr) (ca : Addr) (cO : Cell) (cT : Cell) (cc : Cell) (h0 : Heap) (n0 : Nat) (Z0 : n0 ≤ h0.size) (Cq : own_C Z zCS dO dT ca cO cT cc) (O0 : Old Z n0 h0) (hbd : 10000 ≤ x.toInt ∧ x.toInt < 100000) :
    MetFree l own_y16 (head1 (Jvm.Cond.code own_y16 jdk_33_method_13_code 4 (some .int) :: ws) (⟨0, 0, 0, 0⟩ : Room)) (fun aa U => aa = #[(.int x)] ∧ Z.Warmed39 U.vm ∧ U.heap = h0) (fun _ _ _ _ _ => True) (fun _ U o U' => ∃ v L, o = .returned v ∧ own_ss5_Q Z x zCS dO dT ca cO cT cc h0 n0 v U'.heap L ∧ FrameEnd U o U' L (⟨0, 0, 0, 0⟩ : Room).cells (⟨0, 0, 0, 0⟩ : Room).slots) := by
  refine MetFree.of_bodySF (plainFor_of_name own_pn_java_lang_Integer) hisR ?_
  intro p e s m args below meth c s₁ Bd hml0 hP hK
  obtain ⟨rfl, hZ, hh⟩ := hP
  have hx := Bd.exec
  have hby := Bd.bytes
  have hml : c.maxLocals = 4 := hml0
  have hown : s.vm.findClass "java/lang/Integer" = some m.cls := findClass_of_methodNamed Bd.named
  have hnm := (name_of_methodNamed Bd.named Bd.method).1
  have hlk := Bd.notSynchronized
  have X0 : Stand p l e (⟨0, 0, 0, 0⟩ : Room) s m #[(.int x)] below meth c s₁ [] 0 0 := Stand.of_body Bd
  have e0 : s₁.heap = h0 := by rw [← hh, Bd.state]; rfl
  have N0 := Fr.nil n0
  refine own_start (Q := own_ss5_Q Z x zCS dO dT ca cO cT cc h0 n0) (own_ss5_ef m x) ?_
  have en0 := own_neg (y := x) (by omega)
  have c_0 : (0 : Int32).toInt = 0 := by decide
  have hx0 : ¬ x < (0 : Int32) := own_nl (by omega)
  have c_m10 : (-10 : Int32).toInt = -10 := by decide
  have hs1 : ¬ ((-10 : Int32) < (-x)) := own_nl (by omega)
  have c_m100 : (-100 : Int32).toInt = -100 := by decide
  have hs2 : ¬ ((-100 : Int32) < (-x)) := own_nl (by omega)
  have c_m1000 : (-1000 : Int32).toInt = -1000 := by decide
  have hs3 : ¬ ((-1000 : Int32) < (-x)) := own_nl (by omega)
  have c_m10000 : (-10000 : Int32).toInt = -10000 := by decide
  have hs4 : ¬ ((-10000 : Int32) < (-x)) := own_nl (by omega)
  have c_m100000 : (-100000 : Int32).toInt = -100000 := by decide
  have hs5 : (-100000 : Int32) < (-x) := own_lt (by omega)
  refine own_g (mkF m 10 #[.val (.int x), .val (.int 0), .unset, .unset] [(.int (-x))]) (fun _ q => XS.iconst X0.here hx rfl (hb hby own_d19_0) (XS.istoreN X0.here hx rfl (hb hby own_d19_1) rfl (l' := #[.val (.int x), .val (.int 1), .unset, .unset]) rfl (XS.iloadN X0.here hx rfl (hb hby own_d19_2) rfl (XS.ifNo X0.here hx rfl (hb hby own_d19_3) rfl ((if0 _ _).trans (flt hx0).1) (XS.iconst X0.here hx rfl (hb hby own_d19_6) (XS.istoreN X0.here hx rfl (hb hby own_d19_7) rfl (l' := #[.val (.int x), .val (.int 0), .unset, .unset]) rfl (XS.iloadN X0.here hx rfl (hb hby own_d19_8) rfl (XS.ineg X0.here hx rfl (hb hby own_d19_9) rfl q)))))))) ?_
  refine own_g (mkF m 22 #[.val (.int (-x)), .val (.int 0), .val (.int (-10)), .val (.int 1)] []) (fun _ q => XS.istoreN X0.here hx rfl (hb hby own_d19_10) rfl (l' := #[.val (.int (-x)), .val (.int 0), .unset, .unset]) rfl (XS.bipush X0.here hx rfl (hb hby own_d19_11) (XS.istoreN X0.here hx rfl (hb hby own_d19_13) rfl (l' := #[.val (.int (-x)), .val (.int 0), .val (.int (-10)), .unset]) rfl (XS.iconst X0.here hx rfl (hb hby own_d19_14) (XS.istoreN X0.here hx rfl (hb hby own_d19_15) rfl (l' := #[.val (.int (-x)), .val (.int 0), .val (.int (-10)), .val (.int 1)]) rfl (XS.iloadN X0.here hx rfl (hb hby own_d19_16) rfl (XS.bipush X0.here hx rfl (hb hby own_d19_17) (XS.icmpNo X0.here hx rfl (hb hby own_d19_19) rfl (tlt (by decide : (1 : Int32) < (10 : Int32))).2.1 q)))))))) ?_
  refine own_g (mkF m 39 #[.val (.int (-x)), .val (.int 0), .val (.int (-100)), .val (.int 2)] []) (fun _ q => XS.iloadN X0.here hx rfl (hb hby own_d19_22) rfl (XS.iloadN X0.here hx rfl (hb hby own_d19_23) rfl (XS.icmpYes X0.here hx rfl (pc0 := 24) (pc' := 31) rfl (hb hby own_d19_24) rfl (flt hs1).2.2.2 (by decide) (by decide) (XS.bipush X0.here hx rfl (hb hby own_d19_31) (XS.iloadN X0.here hx rfl (hb hby own_d19_33) rfl (XS.imul X0.here hx rfl (hb hby own_d19_34) rfl (XS.istoreN X0.here hx rfl (hb hby own_d19_35) rfl (l' := #[.val (.int (-x)), .val (.int 0), .val (.int (-100)), .val (.int 1)]) rfl (XS.iinc X0.here hx rfl (hb hby own_d19_36) rfl (l' := #[.val (.int (-x)), .val (.int 0), .val (.int (-100)), .val (.int 2)]) rfl q)))))))) ?_
  refine own_g (mkF m 33 #[.val (.int (-x)), .val (.int 0), .val (.int (-100)), .val (.int 2)] [(.int 10)]) (fun _ q => XS.goto X0.here hx rfl (pc0 := 39) (pc' := 16) rfl (hb hby own_d19_39) (by decide) (by decide) (XS.iloadN X0.here hx rfl (hb hby own_d19_16) rfl (XS.bipush X0.here hx rfl (hb hby own_d19_17) (XS.icmpNo X0.here hx rfl (hb hby own_d19_19) rfl (tlt (by decide : (2 : Int32) < (10 : Int32))).2.1 (XS.iloadN X0.here hx rfl (hb hby own_d19_22) rfl (XS.iloadN X0.here hx rfl (hb hby own_d19_23) rfl (XS.icmpYes X0.here hx rfl (pc0 := 24) (pc' := 31) rfl (hb hby own_d19_24) rfl (flt hs2).2.2.2 (by decide) (by decide) (XS.bipush X0.here hx rfl (hb hby own_d19_31) q)))))))) ?_
  refine own_g (mkF m 22 #[.val (.int (-x)), .val (.int 0), .val (.int (-1000)), .val (.int 3)] []) (fun _ q => XS.iloadN X0.here hx rfl (hb hby own_d19_33) rfl (XS.imul X0.here hx rfl (hb hby own_d19_34) rfl (XS.istoreN X0.here hx rfl (hb hby own_d19_35) rfl (l' := #[.val (.int (-x)), .val (.int 0), .val (.int (-1000)), .val (.int 2)]) rfl (XS.iinc X0.here hx rfl (hb hby own_d19_36) rfl (l' := #[.val (.int (-x)), .val (.int 0), .val (.int (-1000)), .val (.int 3)]) rfl (XS.goto X0.here hx rfl (pc0 := 39) (pc' := 16) rfl (hb hby own_d19_39) (by decide) (by decide) (XS.iloadN X0.here hx rfl (hb hby own_d19_16) rfl (XS.bipush X0.here hx rfl (hb hby own_d19_17) (XS.icmpNo X0.here hx rfl (hb hby own_d19_19) rfl (tlt (by decide : (3 : Int32) < (10 : Int32))).2.1 q)))))))) ?_
  refine own_g (mkF m 39 #[.val (.int (-x)), .val (.int 0), .val (.int (-10000)), .val (.int 4)] []) (fun _ q => XS.iloadN X0.here hx rfl (hb hby own_d19_22) rfl (XS.iloadN X0.here hx rfl (hb hby own_d19_23) rfl (XS.icmpYes X0.here hx rfl (pc0 := 24) (pc' := 31) rfl (hb hby own_d19_24) rfl (flt hs3).2.2.2 (by decide) (by decide) (XS.bipush X0.here hx rfl (hb hby own_d19_31) (XS.iloadN X0.here hx rfl (hb hby own_d19_33) rfl (XS.imul X0.here hx rfl (hb hby own_d19_34) rfl (XS.istoreN X0.here hx rfl (hb hby own_d19_35) rfl (l' := #[.val (.int (-x)), .val (.int 0), .val (.int (-10000)), .val (.int 3)]) rfl (XS.iinc X0.here hx rfl (hb hby own_d19_36) rfl (l' := #[.val (.int (-x)), .val (.int 0), .val (.int (-10000)), .val (.int 4)]) rfl q)))))))) ?_
  refine own_g (mkF m 33 #[.val (.int (-x)), .val (.int 0), .val (.int (-10000)), .val (.int 4)] [(.int 10)]) (fun _ q => XS.goto X0.here hx rfl (pc0 := 39) (pc' := 16) rfl (hb hby own_d19_39) (by decide) (by decide) (XS.iloadN X0.here hx rfl (hb hby own_d19_16) rfl (XS.bipush X0.here hx rfl (hb hby own_d19_17) (XS.icmpNo X0.here hx rfl (hb hby own_d19_19) rfl (tlt (by decide : (4 : Int32) < (10 : Int32))).2.1 (XS.iloadN X0.here hx rfl (hb hby own_d19_22) rfl (XS.iloadN X0.here hx rfl (hb hby own_d19_23) rfl (XS.icmpYes X0.here hx rfl (pc0 := 24) (pc' := 31) rfl (hb hby own_d19_24) rfl (flt hs4).2.2.2 (by decide) (by decide) (XS.bipush X0.here hx rfl (hb hby own_d19_31) q)))))))) ?_
  refine own_g (mkF m 22 #[.val (.int (-x)), .val (.int 0), .val (.int (-100000)), .val (.int 5)] []) (fun _ q => XS.iloadN X0.here hx rfl (hb hby own_d19_33) rfl (XS.imul X0.here hx rfl (hb hby own_d19_34) rfl (XS.istoreN X0.here hx rfl (hb hby own_d19_35) rfl (l' := #[.val (.int (-x)), .val (.int 0), .val (.int (-100000)), .val (.int 4)]) rfl (XS.iinc X0.here hx rfl (hb hby own_d19_36) rfl (l' := #[.val (.int (-x)), .val (.int 0), .val (.int (-100000)), .val (.int 5)]) rfl (XS.goto X0.here hx rfl (pc0 := 39) (pc' := 16) rfl (hb hby own_d19_39) (by decide) (by decide) (XS.iloadN X0.here hx rfl (hb hby own_d19_16) rfl (XS.bipush X0.here hx rfl (hb hby own_d19_17) (XS.icmpNo X0.here hx rfl (hb hby own_d19_19) rfl (tlt (by decide : (5 : Int32) < (10 : Int32))).2.1 q)))))))) ?_
  refine own_g (mkF m 30 #[.val (.int (-x)), .val (.int 0), .val (.int (-100000)), .val (.int 5)] [(.int 5)]) (fun _ q => XS.iloadN X0.here hx rfl (hb hby own_d19_22) rfl (XS.iloadN X0.here hx rfl (hb hby own_d19_23) rfl (XS.icmpNo X0.here hx rfl (hb hby own_d19_24) rfl (tlt hs5).2.2.2 (XS.iloadN X0.here hx rfl (hb hby own_d19_27) rfl (XS.iloadN X0.here hx rfl (hb hby own_d19_28) rfl (XS.iadd X0.here hx rfl (hb hby own_d19_29) rfl q)))))) ?_
  exact own_end X0 (v := some (.int 5)) (fun h => by rw [Bd.returns] at h; cases h) hlk (fun hr => retOut X0 hx Bd.returns rfl (Or.inl ⟨rfl, Or.inl rfl, _, rfl⟩) (hb hby own_d19_30) hr) (by rw [e0]; exact ⟨rfl, N0, rfl⟩) (by decide) (by decide)
theorem own_gc5_ef (m : MethodId) (x : Int32) (bb : Addr) : entryFrame m #[(.int x), (.int 5), (.ref bb)] 7 = mkF m 0 #[.val (.int x), .val (.int 5), .val (.ref bb), .unset, .unset, .unset, .unset] [] := by  first | (simp [entryFrame, mkF, argsToLocals, Value.category]; done) | rfl
def own_gc5_Q (Z : State) (x : Int32) (bb : Addr) (zCS : Int32) (dO : Addr) (dT : Addr) (ca : Addr) (cO : Cell) (cT : Cell) (cc : Cell) (h0 : Heap) (n0 : Nat) (v : Option Value) (h : Heap) (L : List Loc) : Prop := (∃ r, v = some (.int r)) ∧ Fr n0 L ∧ Keep h0 h [bb] ∧ own_By Z h bb (5 : Int32)
set_option maxRecDepth 65536 in
set_option maxHeartbeats 40000000 in
theorem own_gc5 (l : Launch) (Z : State) (a0 : Array Value) (hw : ∀ d ∈ tables_1, d.before a0 Z = true) (ws : List Jvm.Cond) (x : Int32) (bb : Addr) (zCS : Int32) (dO : Addr) (dT : Addr) (ca : Addr) (cO : Cell) (cT : Cell) (cc : Cell) (h0 : Heap) (n0 : Nat) (Z0 : n0 ≤ h0.size) (Cq : own_C Z zCS dO dT ca cO cT cc) (O0 : Old Z n0 h0) (hbd : 10000 ≤ x.toInt ∧ x.toInt < 100000) (R_b : own_By Z h0 bb (5 : Int32)) (g_b : n0 ≤ bb) :
    MetFree l own_y14 (head1 (Jvm.Cond.code own_y14 jdk_33_method_12_code 7 (some .int) :: ws) (⟨0, 0, 0, 0⟩ : Room)) (fun aa U => aa = #[(.int x), (.int 5), (.ref bb)] ∧ Z.Warmed39 U.vm ∧ U.heap = h0) (fun _ _ _ _ _ => True) (fun _ U o U' => ∃ v L, o = .returned v ∧ own_gc5_Q Z x bb zCS dO dT ca cO cT cc h0 n0 v U'.heap L ∧ FrameEnd U o U' L (⟨0, 0, 0, 0⟩ : Room).cells (⟨0, 0, 0, 0⟩ : Room).slots) := by
  refine MetFree.of_bodySF (plainFor_of_name own_pn_java_lang_Integer) hisR ?_
  intro p e s m args below meth c s₁ Bd hml0 hP hK
  obtain ⟨rfl, hZ, hh⟩ := hP
  have hx := Bd.exec
  have hby := Bd.bytes
  have hml : c.maxLocals = 7 := hml0
  have hown : s.vm.findClass "java/lang/Integer" = some m.cls := findClass_of_methodNamed Bd.named
  have hnm := (name_of_methodNamed Bd.named Bd.method).1
  have hlk := Bd.notSynchronized
  have X0 : Stand p l e (⟨0, 0, 0, 0⟩ : Room) s m #[(.int x), (.int 5), (.ref bb)] below meth c s₁ [] 0 0 := Stand.of_body Bd
  have e0 : s₁.heap = h0 := by rw [← hh, Bd.state]; rfl
  have N0 := Fr.nil n0
  refine own_start (Q := own_gc5_Q Z x bb zCS dO dT ca cO cT cc h0 n0) (own_gc5_ef m x bb) ?_
  have en0 := own_neg (y := x) (by omega)
  have c_0 : (0 : Int32).toInt = 0 := by decide
  have c_m100 : (-100 : Int32).toInt = -100 := by decide
  have c_m9 : (-9 : Int32).toInt = -9 := by decide
  have c_100 : (100 : Int32).toInt = 100 := by decide
  have hx0 : ¬ x < (0 : Int32) := own_nl (by omega)
  have hlp0 : ¬ ((-100 : Int32) < (-x)) := own_nl (by omega)
  have qq0 := own_qd (y := (-x)) (by omega)
  have rr0 := own_rd (y := (-x)) (by omega)
  have ir0 : ¬ ((((-x) / (100 : Int32)) * (100 : Int32)) - (-x)) < 0 ∧ ((((-x) / (100 : Int32)) * (100 : Int32)) - (-x)) < (100 : Int32) := ⟨own_nl (by omega), own_lt (by omega)⟩
  have hlp1 : ¬ ((-100 : Int32) < ((-x) / (100 : Int32))) := own_nl (by omega)
  have qq1 := own_qd (y := ((-x) / (100 : Int32))) (by omega)
  have rr1 := own_rd (y := ((-x) / (100 : Int32))) (by omega)
  have ir1 : ¬ (((((-x) / (100 : Int32)) / (100 : Int32)) * (100 : Int32)) - ((-x) / (100 : Int32))) < 0 ∧ (((((-x) / (100 : Int32)) / (100 : Int32)) * (100 : Int32)) - ((-x) / (100 : Int32))) < (100 : Int32) := ⟨own_nl (by omega), own_lt (by omega)⟩
  have hlp2 : (-100 : Int32) < (((-x) / (100 : Int32)) / (100 : Int32)) := own_lt (by omega)
  have nz := own_neg (y := (((-x) / (100 : Int32)) / (100 : Int32))) (by omega)
  have il : ¬ (-(((-x) / (100 : Int32)) / (100 : Int32))) < 0 ∧ (-(((-x) / (100 : Int32)) / (100 : Int32))) < (100 : Int32) := ⟨own_nl (by omega), own_lt (by omega)⟩
  have hn9 : ¬ ((((-x) / (100 : Int32)) / (100 : Int32)) < (-9 : Int32)) := own_nl (by omega)
  refine own_g (mkF m 19 #[.val (.int x), .val (.int 5), .val (.ref bb), .unset, .unset, .val (.int 5), .val (.int 0)] []) (fun _ q => XS.iloadN X0.here hx rfl (hb hby own_d20_0) rfl (XS.istore X0.here hx rfl (hb hby own_d20_1) rfl (l' := #[.val (.int x), .val (.int 5), .val (.ref bb), .unset, .unset, .val (.int 5), .unset]) rfl (XS.iloadN X0.here hx rfl (hb hby own_d20_3) rfl (XS.ifYes X0.here hx rfl (pc0 := 4) (pc' := 11) rfl (hb hby own_d20_4) rfl ((if0 _ _).trans (flt hx0).2.1) (by decide) (by decide) (XS.iconst X0.here hx rfl (hb hby own_d20_11) (XS.istore X0.here hx rfl (hb hby own_d20_12) rfl (l' := #[.val (.int x), .val (.int 5), .val (.ref bb), .unset, .unset, .val (.int 5), .val (.int 0)]) rfl (XS.iload X0.here hx rfl (hb hby own_d20_14) rfl (XS.ifNo X0.here hx rfl (hb hby own_d20_16) rfl ((if0 _ _).trans (teq (by decide : (0 : Int32) = (0 : Int32))).2) q)))))))) ?_
  refine own_g (mkF m 31 #[.val (.int (-x)), .val (.int 5), .val (.ref bb), .unset, .unset, .val (.int 5), .val (.int 0)] [(.int 100), (.int (-x))]) (fun _ q => XS.iloadN X0.here hx rfl (hb hby own_d20_19) rfl (XS.ineg X0.here hx rfl (hb hby own_d20_20) rfl (XS.istoreN X0.here hx rfl (hb hby own_d20_21) rfl (l' := #[.val (.int (-x)), .val (.int 5), .val (.ref bb), .unset, .unset, .val (.int 5), .val (.int 0)]) rfl (XS.iloadN X0.here hx rfl (hb hby own_d20_22) rfl (XS.bipush X0.here hx rfl (hb hby own_d20_23) (XS.icmpNo X0.here hx rfl (hb hby own_d20_25) rfl (flt hlp0).2.2.1 (XS.iloadN X0.here hx rfl (hb hby own_d20_28) rfl (XS.bipush X0.here hx rfl (hb hby own_d20_29) q)))))))) ?_
  refine own_g (mkF m 41 #[.val (.int (-x)), .val (.int 5), .val (.ref bb), .val (.int ((-x) / (100 : Int32))), .val (.int ((((-x) / (100 : Int32)) * (100 : Int32)) - (-x))), .val (.int 5), .val (.int 0)] []) (fun _ q => XS.idiv X0.here hx rfl (hb hby own_d20_31) rfl (by decide) (XS.istoreN X0.here hx rfl (hb hby own_d20_32) rfl (l' := #[.val (.int (-x)), .val (.int 5), .val (.ref bb), .val (.int ((-x) / (100 : Int32))), .unset, .val (.int 5), .val (.int 0)]) rfl (XS.iloadN X0.here hx rfl (hb hby own_d20_33) rfl (XS.bipush X0.here hx rfl (hb hby own_d20_34) (XS.imul X0.here hx rfl (hb hby own_d20_36) rfl (XS.iloadN X0.here hx rfl (hb hby own_d20_37) rfl (XS.isub X0.here hx rfl (hb hby own_d20_38) rfl (XS.istore X0.here hx rfl (hb hby own_d20_39) rfl (l' := #[.val (.int (-x)), .val (.int 5), .val (.ref bb), .val (.int ((-x) / (100 : Int32))), .val (.int ((((-x) / (100 : Int32)) * (100 : Int32)) - (-x))), .val (.int 5), .val (.int 0)]) rfl q)))))))) ?_
  refine own_g (mkF m 49 #[.val (.int ((-x) / (100 : Int32))), .val (.int 5), .val (.ref bb), .val (.int ((-x) / (100 : Int32))), .val (.int ((((-x) / (100 : Int32)) * (100 : Int32)) - (-x))), .val (.int 4), .val (.int 0)] [(.int 4), (.ref bb)]) (fun _ q => XS.iloadN X0.here hx rfl (hb hby own_d20_41) rfl (XS.istoreN X0.here hx rfl (hb hby own_d20_42) rfl (l' := #[.val (.int ((-x) / (100 : Int32))), .val (.int 5), .val (.ref bb), .val (.int ((-x) / (100 : Int32))), .val (.int ((((-x) / (100 : Int32)) * (100 : Int32)) - (-x))), .val (.int 5), .val (.int 0)]) rfl (XS.aloadN X0.here hx rfl (hb hby own_d20_43) rfl rfl (XS.iinc X0.here hx rfl (hb hby own_d20_44) rfl (l' := #[.val (.int ((-x) / (100 : Int32))), .val (.int 5), .val (.ref bb), .val (.int ((-x) / (100 : Int32))), .val (.int ((((-x) / (100 : Int32)) * (100 : Int32)) - (-x))), .val (.int 4), .val (.int 0)]) rfl (XS.iload X0.here hx rfl (hb hby own_d20_47) rfl q))))) ?_
  obtain ⟨T1, X1, e1, st1⟩ := getS2 X0 hx hZ hown (host := "") (Or.inl (own_h hw 125 rfl)) Via.refl e0 (Sta.ext O0.2 Cq.2.2.1) (g := (mkF m 49 #[.val (.int ((-x) / (100 : Int32))), .val (.int 5), .val (.ref bb), .val (.int ((-x) / (100 : Int32))), .val (.int ((((-x) / (100 : Int32)) * (100 : Int32)) - (-x))), .val (.int 4), .val (.int 0)] [(.int 4), (.ref bb)])) rfl (hb hby own_d20_49)
  refine own_by (g' := (mkF m 52 #[.val (.int ((-x) / (100 : Int32))), .val (.int 5), .val (.ref bb), .val (.int ((-x) / (100 : Int32))), .val (.int ((((-x) / (100 : Int32)) * (100 : Int32)) - (-x))), .val (.int 4), .val (.int 0)] [(.ref dO), (.int 4), (.ref bb)])) st1 ?_
  refine own_g (mkF m 54 #[.val (.int ((-x) / (100 : Int32))), .val (.int 5), .val (.ref bb), .val (.int ((-x) / (100 : Int32))), .val (.int ((((-x) / (100 : Int32)) * (100 : Int32)) - (-x))), .val (.int 4), .val (.int 0)] [(.int ((((-x) / (100 : Int32)) * (100 : Int32)) - (-x))), (.ref dO), (.int 4), (.ref bb)]) (fun _ q => XS.iload X1.here hx rfl (hb hby own_d20_52) rfl q) ?_
  have TB2 := Tab.ext Cq.2.2.2.2.1 O0.2
  have hin2 := inb_of TB2.2.1 ir0
  refine own_by (g' := (mkF m 55 #[.val (.int ((-x) / (100 : Int32))), .val (.int 5), .val (.ref bb), .val (.int ((-x) / (100 : Int32))), .val (.int ((((-x) / (100 : Int32)) * (100 : Int32)) - (-x))), .val (.int 4), .val (.int 0)] [(.int (atv cO ((((-x) / (100 : Int32)) * (100 : Int32)) - (-x)))), (.int 4), (.ref bb)])) (fun _ kq => X1.baloadBytes hx (j := ((((-x) / (100 : Int32)) * (100 : Int32)) - (-x))) (v := (.int (atv cO ((((-x) / (100 : Int32)) * (100 : Int32)) - (-x))))) (by rw [e1]; exact TB2.1.1) (State.isArrayOf_alike hZ.alike TB2.1.2.1) TB2.1.2.2 hin2 (TB2.2.2.2 _ hin2) (g := (mkF m 54 #[.val (.int ((-x) / (100 : Int32))), .val (.int 5), .val (.ref bb), .val (.int ((-x) / (100 : Int32))), .val (.int ((((-x) / (100 : Int32)) * (100 : Int32)) - (-x))), .val (.int 4), .val (.int 0)] [(.int ((((-x) / (100 : Int32)) * (100 : Int32)) - (-x))), (.ref dO), (.int 4), (.ref bb)])) rfl rfl (hb hby own_d20_54) _ kq) ?_
  obtain ⟨kk3, vs3, ⟨cl3, Ar3, q3, S3, P3, H3, G3⟩, hl3⟩ := id R_b
  have hin3 : ¬ ((4 : Int32) < 0 ∨ cl3.slots.size ≤ ((4 : Int32)).toNatClampNeg) := inb_of S3 ⟨by decide, by decide⟩
  obtain ⟨T4, h4, X4, e4, W4, st4⟩ := stB X1 hx hZ e1 Ar3 (j := (4 : Int32)) hin3 (g := (mkF m 55 #[.val (.int ((-x) / (100 : Int32))), .val (.int 5), .val (.ref bb), .val (.int ((-x) / (100 : Int32))), .val (.int ((((-x) / (100 : Int32)) * (100 : Int32)) - (-x))), .val (.int 4), .val (.int 0)] [(.int (atv cO ((((-x) / (100 : Int32)) * (100 : Int32)) - (-x)))), (.int 4), (.ref bb)])) rfl rfl (hb hby own_d20_55)
  have R4 := own_By.put Ar3 q3 S3 P3 H3 G3 hl3 hin3 (fits_nar_byte _) W4
  have N4 := Fr.snoc X4 N0 g_b
  refine own_by (g' := (mkF m 56 #[.val (.int ((-x) / (100 : Int32))), .val (.int 5), .val (.ref bb), .val (.int ((-x) / (100 : Int32))), .val (.int ((((-x) / (100 : Int32)) * (100 : Int32)) - (-x))), .val (.int 4), .val (.int 0)] [])) st4 ?_
  refine own_g (mkF m 62 #[.val (.int ((-x) / (100 : Int32))), .val (.int 5), .val (.ref bb), .val (.int ((-x) / (100 : Int32))), .val (.int ((((-x) / (100 : Int32)) * (100 : Int32)) - (-x))), .val (.int 3), .val (.int 0)] [(.int 3), (.ref bb)]) (fun _ q => XS.aloadN X4.here hx rfl (hb hby own_d20_56) rfl rfl (XS.iinc X4.here hx rfl (hb hby own_d20_57) rfl (l' := #[.val (.int ((-x) / (100 : Int32))), .val (.int 5), .val (.ref bb), .val (.int ((-x) / (100 : Int32))), .val (.int ((((-x) / (100 : Int32)) * (100 : Int32)) - (-x))), .val (.int 3), .val (.int 0)]) rfl (XS.iload X4.here hx rfl (hb hby own_d20_60) rfl q))) ?_
  have o5_ := (O0.wr W4 g_b)
  obtain ⟨T6, X6, e6, st6⟩ := getS2 X4 hx hZ hown (host := "") (Or.inl (own_h hw 221 rfl)) Via.refl e4 (Sta.ext o5_.2 Cq.2.2.2.1) (g := (mkF m 62 #[.val (.int ((-x) / (100 : Int32))), .val (.int 5), .val (.ref bb), .val (.int ((-x) / (100 : Int32))), .val (.int ((((-x) / (100 : Int32)) * (100 : Int32)) - (-x))), .val (.int 3), .val (.int 0)] [(.int 3), (.ref bb)])) rfl (hb hby own_d20_62)
  refine own_by (g' := (mkF m 65 #[.val (.int ((-x) / (100 : Int32))), .val (.int 5), .val (.ref bb), .val (.int ((-x) / (100 : Int32))), .val (.int ((((-x) / (100 : Int32)) * (100 : Int32)) - (-x))), .val (.int 3), .val (.int 0)] [(.ref dT), (.int 3), (.ref bb)])) st6 ?_
  refine own_g (mkF m 67 #[.val (.int ((-x) / (100 : Int32))), .val (.int 5), .val (.ref bb), .val (.int ((-x) / (100 : Int32))), .val (.int ((((-x) / (100 : Int32)) * (100 : Int32)) - (-x))), .val (.int 3), .val (.int 0)] [(.int ((((-x) / (100 : Int32)) * (100 : Int32)) - (-x))), (.ref dT), (.int 3), (.ref bb)]) (fun _ q => XS.iload X6.here hx rfl (hb hby own_d20_65) rfl q) ?_
  have TB7 := Tab.ext Cq.2.2.2.2.2.1 o5_.2
  have hin7 := inb_of TB7.2.1 ir0
  refine own_by (g' := (mkF m 68 #[.val (.int ((-x) / (100 : Int32))), .val (.int 5), .val (.ref bb), .val (.int ((-x) / (100 : Int32))), .val (.int ((((-x) / (100 : Int32)) * (100 : Int32)) - (-x))), .val (.int 3), .val (.int 0)] [(.int (atv cT ((((-x) / (100 : Int32)) * (100 : Int32)) - (-x)))), (.int 3), (.ref bb)])) (fun _ kq => X6.baloadBytes hx (j := ((((-x) / (100 : Int32)) * (100 : Int32)) - (-x))) (v := (.int (atv cT ((((-x) / (100 : Int32)) * (100 : Int32)) - (-x))))) (by rw [e6]; exact TB7.1.1) (State.isArrayOf_alike hZ.alike TB7.1.2.1) TB7.1.2.2 hin7 (TB7.2.2.2 _ hin7) (g := (mkF m 67 #[.val (.int ((-x) / (100 : Int32))), .val (.int 5), .val (.ref bb), .val (.int ((-x) / (100 : Int32))), .val (.int ((((-x) / (100 : Int32)) * (100 : Int32)) - (-x))), .val (.int 3), .val (.int 0)] [(.int ((((-x) / (100 : Int32)) * (100 : Int32)) - (-x))), (.ref dT), (.int 3), (.ref bb)])) rfl rfl (hb hby own_d20_67) _ kq) ?_
  obtain ⟨kk8, vs8, ⟨cl8, Ar8, q8, S8, P8, H8, G8⟩, hl8⟩ := id R4
  have hin8 : ¬ ((3 : Int32) < 0 ∨ cl8.slots.size ≤ ((3 : Int32)).toNatClampNeg) := inb_of S8 ⟨by decide, by decide⟩
  obtain ⟨T9, h9, X9, e9, W9, st9⟩ := stB X6 hx hZ e6 Ar8 (j := (3 : Int32)) hin8 (g := (mkF m 68 #[.val (.int ((-x) / (100 : Int32))), .val (.int 5), .val (.ref bb), .val (.int ((-x) / (100 : Int32))), .val (.int ((((-x) / (100 : Int32)) * (100 : Int32)) - (-x))), .val (.int 3), .val (.int 0)] [(.int (atv cT ((((-x) / (100 : Int32)) * (100 : Int32)) - (-x)))), (.int 3), (.ref bb)])) rfl rfl (hb hby own_d20_68)
  have R9 := own_By.put Ar8 q8 S8 P8 H8 G8 hl8 hin8 (fits_nar_byte _) W9
  have N9 := Fr.snoc X9 N4 g_b
  refine own_by (g' := (mkF m 69 #[.val (.int ((-x) / (100 : Int32))), .val (.int 5), .val (.ref bb), .val (.int ((-x) / (100 : Int32))), .val (.int ((((-x) / (100 : Int32)) * (100 : Int32)) - (-x))), .val (.int 3), .val (.int 0)] [])) st9 ?_
  refine own_g (mkF m 33 #[.val (.int ((-x) / (100 : Int32))), .val (.int 5), .val (.ref bb), .val (.int (((-x) / (100 : Int32)) / (100 : Int32))), .val (.int ((((-x) / (100 : Int32)) * (100 : Int32)) - (-x))), .val (.int 3), .val (.int 0)] []) (fun _ q => XS.goto X9.here hx rfl (pc0 := 69) (pc' := 22) rfl (hb hby own_d20_69) (by decide) (by decide) (XS.iloadN X9.here hx rfl (hb hby own_d20_22) rfl (XS.bipush X9.here hx rfl (hb hby own_d20_23) (XS.icmpNo X9.here hx rfl (hb hby own_d20_25) rfl (flt hlp1).2.2.1 (XS.iloadN X9.here hx rfl (hb hby own_d20_28) rfl (XS.bipush X9.here hx rfl (hb hby own_d20_29) (XS.idiv X9.here hx rfl (hb hby own_d20_31) rfl (by decide) (XS.istoreN X9.here hx rfl (hb hby own_d20_32) rfl (l' := #[.val (.int ((-x) / (100 : Int32))), .val (.int 5), .val (.ref bb), .val (.int (((-x) / (100 : Int32)) / (100 : Int32))), .val (.int ((((-x) / (100 : Int32)) * (100 : Int32)) - (-x))), .val (.int 3), .val (.int 0)]) rfl q)))))))) ?_
  refine own_g (mkF m 43 #[.val (.int (((-x) / (100 : Int32)) / (100 : Int32))), .val (.int 5), .val (.ref bb), .val (.int (((-x) / (100 : Int32)) / (100 : Int32))), .val (.int (((((-x) / (100 : Int32)) / (100 : Int32)) * (100 : Int32)) - ((-x) / (100 : Int32)))), .val (.int 3), .val (.int 0)] []) (fun _ q => XS.iloadN X9.here hx rfl (hb hby own_d20_33) rfl (XS.bipush X9.here hx rfl (hb hby own_d20_34) (XS.imul X9.here hx rfl (hb hby own_d20_36) rfl (XS.iloadN X9.here hx rfl (hb hby own_d20_37) rfl (XS.isub X9.here hx rfl (hb hby own_d20_38) rfl (XS.istore X9.here hx rfl (hb hby own_d20_39) rfl (l' := #[.val (.int ((-x) / (100 : Int32))), .val (.int 5), .val (.ref bb), .val (.int (((-x) / (100 : Int32)) / (100 : Int32))), .val (.int (((((-x) / (100 : Int32)) / (100 : Int32)) * (100 : Int32)) - ((-x) / (100 : Int32)))), .val (.int 3), .val (.int 0)]) rfl (XS.iloadN X9.here hx rfl (hb hby own_d20_41) rfl (XS.istoreN X9.here hx rfl (hb hby own_d20_42) rfl (l' := #[.val (.int (((-x) / (100 : Int32)) / (100 : Int32))), .val (.int 5), .val (.ref bb), .val (.int (((-x) / (100 : Int32)) / (100 : Int32))), .val (.int (((((-x) / (100 : Int32)) / (100 : Int32)) * (100 : Int32)) - ((-x) / (100 : Int32)))), .val (.int 3), .val (.int 0)]) rfl q)))))))) ?_
  refine own_g (mkF m 49 #[.val (.int (((-x) / (100 : Int32)) / (100 : Int32))), .val (.int 5), .val (.ref bb), .val (.int (((-x) / (100 : Int32)) / (100 : Int32))), .val (.int (((((-x) / (100 : Int32)) / (100 : Int32)) * (100 : Int32)) - ((-x) / (100 : Int32)))), .val (.int 2), .val (.int 0)] [(.int 2), (.ref bb)]) (fun _ q => XS.aloadN X9.here hx rfl (hb hby own_d20_43) rfl rfl (XS.iinc X9.here hx rfl (hb hby own_d20_44) rfl (l' := #[.val (.int (((-x) / (100 : Int32)) / (100 : Int32))), .val (.int 5), .val (.ref bb), .val (.int (((-x) / (100 : Int32)) / (100 : Int32))), .val (.int (((((-x) / (100 : Int32)) / (100 : Int32)) * (100 : Int32)) - ((-x) / (100 : Int32)))), .val (.int 2), .val (.int 0)]) rfl (XS.iload X9.here hx rfl (hb hby own_d20_47) rfl q))) ?_
  have o10_ := (o5_.wr W9 g_b)
  obtain ⟨T11, X11, e11, st11⟩ := getS2 X9 hx hZ hown (host := "") (Or.inl (own_h hw 125 rfl)) Via.refl e9 (Sta.ext o10_.2 Cq.2.2.1) (g := (mkF m 49 #[.val (.int (((-x) / (100 : Int32)) / (100 : Int32))), .val (.int 5), .val (.ref bb), .val (.int (((-x) / (100 : Int32)) / (100 : Int32))), .val (.int (((((-x) / (100 : Int32)) / (100 : Int32)) * (100 : Int32)) - ((-x) / (100 : Int32)))), .val (.int 2), .val (.int 0)] [(.int 2), (.ref bb)])) rfl (hb hby own_d20_49)
  refine own_by (g' := (mkF m 52 #[.val (.int (((-x) / (100 : Int32)) / (100 : Int32))), .val (.int 5), .val (.ref bb), .val (.int (((-x) / (100 : Int32)) / (100 : Int32))), .val (.int (((((-x) / (100 : Int32)) / (100 : Int32)) * (100 : Int32)) - ((-x) / (100 : Int32)))), .val (.int 2), .val (.int 0)] [(.ref dO), (.int 2), (.ref bb)])) st11 ?_
  refine own_g (mkF m 54 #[.val (.int (((-x) / (100 : Int32)) / (100 : Int32))), .val (.int 5), .val (.ref bb), .val (.int (((-x) / (100 : Int32)) / (100 : Int32))), .val (.int (((((-x) / (100 : Int32)) / (100 : Int32)) * (100 : Int32)) - ((-x) / (100 : Int32)))), .val (.int 2), .val (.int 0)] [(.int (((((-x) / (100 : Int32)) / (100 : Int32)) * (100 : Int32)) - ((-x) / (100 : Int32)))), (.ref dO), (.int 2), (.ref bb)]) (fun _ q => XS.iload X11.here hx rfl (hb hby own_d20_52) rfl q) ?_
  have TB12 := Tab.ext Cq.2.2.2.2.1 o10_.2
  have hin12 := inb_of TB12.2.1 ir1
  refine own_by (g' := (mkF m 55 #[.val (.int (((-x) / (100 : Int32)) / (100 : Int32))), .val (.int 5), .val (.ref bb), .val (.int (((-x) / (100 : Int32)) / (100 : Int32))), .val (.int (((((-x) / (100 : Int32)) / (100 : Int32)) * (100 : Int32)) - ((-x) / (100 : Int32)))), .val (.int 2), .val (.int 0)] [(.int (atv cO (((((-x) / (100 : Int32)) / (100 : Int32)) * (100 : Int32)) - ((-x) / (100 : Int32))))), (.int 2), (.ref bb)])) (fun _ kq => X11.baloadBytes hx (j := (((((-x) / (100 : Int32)) / (100 : Int32)) * (100 : Int32)) - ((-x) / (100 : Int32)))) (v := (.int (atv cO (((((-x) / (100 : Int32)) / (100 : Int32)) * (100 : Int32)) - ((-x) / (100 : Int32)))))) (by rw [e11]; exact TB12.1.1) (State.isArrayOf_alike hZ.alike TB12.1.2.1) TB12.1.2.2 hin12 (TB12.2.2.2 _ hin12) (g := (mkF m 54 #[.val (.int (((-x) / (100 : Int32)) / (100 : Int32))), .val (.int 5), .val (.ref bb), .val (.int (((-x) / (100 : Int32)) / (100 : Int32))), .val (.int (((((-x) / (100 : Int32)) / (100 : Int32)) * (100 : Int32)) - ((-x) / (100 : Int32)))), .val (.int 2), .val (.int 0)] [(.int (((((-x) / (100 : Int32)) / (100 : Int32)) * (100 : Int32)) - ((-x) / (100 : Int32)))), (.ref dO), (.int 2), (.ref bb)])) rfl rfl (hb hby own_d20_54) _ kq) ?_
  obtain ⟨kk13, vs13, ⟨cl13, Ar13, q13, S13, P13, H13, G13⟩, hl13⟩ := id R9
  have hin13 : ¬ ((2 : Int32) < 0 ∨ cl13.slots.size ≤ ((2 : Int32)).toNatClampNeg) := inb_of S13 ⟨by decide, by decide⟩
  obtain ⟨T14, h14, X14, e14, W14, st14⟩ := stB X11 hx hZ e11 Ar13 (j := (2 : Int32)) hin13 (g := (mkF m 55 #[.val (.int (((-x) / (100 : Int32)) / (100 : Int32))), .val (.int 5), .val (.ref bb), .val (.int (((-x) / (100 : Int32)) / (100 : Int32))), .val (.int (((((-x) / (100 : Int32)) / (100 : Int32)) * (100 : Int32)) - ((-x) / (100 : Int32)))), .val (.int 2), .val (.int 0)] [(.int (atv cO (((((-x) / (100 : Int32)) / (100 : Int32)) * (100 : Int32)) - ((-x) / (100 : Int32))))), (.int 2), (.ref bb)])) rfl rfl (hb hby own_d20_55)
  have R14 := own_By.put Ar13 q13 S13 P13 H13 G13 hl13 hin13 (fits_nar_byte _) W14
  have N14 := Fr.snoc X14 N9 g_b
  refine own_by (g' := (mkF m 56 #[.val (.int (((-x) / (100 : Int32)) / (100 : Int32))), .val (.int 5), .val (.ref bb), .val (.int (((-x) / (100 : Int32)) / (100 : Int32))), .val (.int (((((-x) / (100 : Int32)) / (100 : Int32)) * (100 : Int32)) - ((-x) / (100 : Int32)))), .val (.int 2), .val (.int 0)] [])) st14 ?_
  refine own_g (mkF m 62 #[.val (.int (((-x) / (100 : Int32)) / (100 : Int32))), .val (.int 5), .val (.ref bb), .val (.int (((-x) / (100 : Int32)) / (100 : Int32))), .val (.int (((((-x) / (100 : Int32)) / (100 : Int32)) * (100 : Int32)) - ((-x) / (100 : Int32)))), .val (.int 1), .val (.int 0)] [(.int 1), (.ref bb)]) (fun _ q => XS.aloadN X14.here hx rfl (hb hby own_d20_56) rfl rfl (XS.iinc X14.here hx rfl (hb hby own_d20_57) rfl (l' := #[.val (.int (((-x) / (100 : Int32)) / (100 : Int32))), .val (.int 5), .val (.ref bb), .val (.int (((-x) / (100 : Int32)) / (100 : Int32))), .val (.int (((((-x) / (100 : Int32)) / (100 : Int32)) * (100 : Int32)) - ((-x) / (100 : Int32)))), .val (.int 1), .val (.int 0)]) rfl (XS.iload X14.here hx rfl (hb hby own_d20_60) rfl q))) ?_
  have o15_ := (o10_.wr W14 g_b)
  obtain ⟨T16, X16, e16, st16⟩ := getS2 X14 hx hZ hown (host := "") (Or.inl (own_h hw 221 rfl)) Via.refl e14 (Sta.ext o15_.2 Cq.2.2.2.1) (g := (mkF m 62 #[.val (.int (((-x) / (100 : Int32)) / (100 : Int32))), .val (.int 5), .val (.ref bb), .val (.int (((-x) / (100 : Int32)) / (100 : Int32))), .val (.int (((((-x) / (100 : Int32)) / (100 : Int32)) * (100 : Int32)) - ((-x) / (100 : Int32)))), .val (.int 1), .val (.int 0)] [(.int 1), (.ref bb)])) rfl (hb hby own_d20_62)
  refine own_by (g' := (mkF m 65 #[.val (.int (((-x) / (100 : Int32)) / (100 : Int32))), .val (.int 5), .val (.ref bb), .val (.int (((-x) / (100 : Int32)) / (100 : Int32))), .val (.int (((((-x) / (100 : Int32)) / (100 : Int32)) * (100 : Int32)) - ((-x) / (100 : Int32)))), .val (.int 1), .val (.int 0)] [(.ref dT), (.int 1), (.ref bb)])) st16 ?_
  refine own_g (mkF m 67 #[.val (.int (((-x) / (100 : Int32)) / (100 : Int32))), .val (.int 5), .val (.ref bb), .val (.int (((-x) / (100 : Int32)) / (100 : Int32))), .val (.int (((((-x) / (100 : Int32)) / (100 : Int32)) * (100 : Int32)) - ((-x) / (100 : Int32)))), .val (.int 1), .val (.int 0)] [(.int (((((-x) / (100 : Int32)) / (100 : Int32)) * (100 : Int32)) - ((-x) / (100 : Int32)))), (.ref dT), (.int 1), (.ref bb)]) (fun _ q => XS.iload X16.here hx rfl (hb hby own_d20_65) rfl q) ?_
  have TB17 := Tab.ext Cq.2.2.2.2.2.1 o15_.2
  have hin17 := inb_of TB17.2.1 ir1
  refine own_by (g' := (mkF m 68 #[.val (.int (((-x) / (100 : Int32)) / (100 : Int32))), .val (.int 5), .val (.ref bb), .val (.int (((-x) / (100 : Int32)) / (100 : Int32))), .val (.int (((((-x) / (100 : Int32)) / (100 : Int32)) * (100 : Int32)) - ((-x) / (100 : Int32)))), .val (.int 1), .val (.int 0)] [(.int (atv cT (((((-x) / (100 : Int32)) / (100 : Int32)) * (100 : Int32)) - ((-x) / (100 : Int32))))), (.int 1), (.ref bb)])) (fun _ kq => X16.baloadBytes hx (j := (((((-x) / (100 : Int32)) / (100 : Int32)) * (100 : Int32)) - ((-x) / (100 : Int32)))) (v := (.int (atv cT (((((-x) / (100 : Int32)) / (100 : Int32)) * (100 : Int32)) - ((-x) / (100 : Int32)))))) (by rw [e16]; exact TB17.1.1) (State.isArrayOf_alike hZ.alike TB17.1.2.1) TB17.1.2.2 hin17 (TB17.2.2.2 _ hin17) (g := (mkF m 67 #[.val (.int (((-x) / (100 : Int32)) / (100 : Int32))), .val (.int 5), .val (.ref bb), .val (.int (((-x) / (100 : Int32)) / (100 : Int32))), .val (.int (((((-x) / (100 : Int32)) / (100 : Int32)) * (100 : Int32)) - ((-x) / (100 : Int32)))), .val (.int 1), .val (.int 0)] [(.int (((((-x) / (100 : Int32)) / (100 : Int32)) * (100 : Int32)) - ((-x) / (100 : Int32)))), (.ref dT), (.int 1), (.ref bb)])) rfl rfl (hb hby own_d20_67) _ kq) ?_
  obtain ⟨kk18, vs18, ⟨cl18, Ar18, q18, S18, P18, H18, G18⟩, hl18⟩ := id R14
  have hin18 : ¬ ((1 : Int32) < 0 ∨ cl18.slots.size ≤ ((1 : Int32)).toNatClampNeg) := inb_of S18 ⟨by decide, by decide⟩
  obtain ⟨T19, h19, X19, e19, W19, st19⟩ := stB X16 hx hZ e16 Ar18 (j := (1 : Int32)) hin18 (g := (mkF m 68 #[.val (.int (((-x) / (100 : Int32)) / (100 : Int32))), .val (.int 5), .val (.ref bb), .val (.int (((-x) / (100 : Int32)) / (100 : Int32))), .val (.int (((((-x) / (100 : Int32)) / (100 : Int32)) * (100 : Int32)) - ((-x) / (100 : Int32)))), .val (.int 1), .val (.int 0)] [(.int (atv cT (((((-x) / (100 : Int32)) / (100 : Int32)) * (100 : Int32)) - ((-x) / (100 : Int32))))), (.int 1), (.ref bb)])) rfl rfl (hb hby own_d20_68)
  have R19 := own_By.put Ar18 q18 S18 P18 H18 G18 hl18 hin18 (fits_nar_byte _) W19
  have N19 := Fr.snoc X19 N14 g_b
  refine own_by (g' := (mkF m 69 #[.val (.int (((-x) / (100 : Int32)) / (100 : Int32))), .val (.int 5), .val (.ref bb), .val (.int (((-x) / (100 : Int32)) / (100 : Int32))), .val (.int (((((-x) / (100 : Int32)) / (100 : Int32)) * (100 : Int32)) - ((-x) / (100 : Int32)))), .val (.int 1), .val (.int 0)] [])) st19 ?_
  refine own_g (mkF m 78 #[.val (.int (((-x) / (100 : Int32)) / (100 : Int32))), .val (.int 5), .val (.ref bb), .val (.int (((-x) / (100 : Int32)) / (100 : Int32))), .val (.int (((((-x) / (100 : Int32)) / (100 : Int32)) * (100 : Int32)) - ((-x) / (100 : Int32)))), .val (.int 0), .val (.int 0)] [(.int 0), (.ref bb)]) (fun _ q => XS.goto X19.here hx rfl (pc0 := 69) (pc' := 22) rfl (hb hby own_d20_69) (by decide) (by decide) (XS.iloadN X19.here hx rfl (hb hby own_d20_22) rfl (XS.bipush X19.here hx rfl (hb hby own_d20_23) (XS.icmpYes X19.here hx rfl (pc0 := 25) (pc' := 72) rfl (hb hby own_d20_25) rfl (tlt hlp2).2.2.1 (by decide) (by decide) (XS.aloadN X19.here hx rfl (hb hby own_d20_72) rfl rfl (XS.iinc X19.here hx rfl (hb hby own_d20_73) rfl (l' := #[.val (.int (((-x) / (100 : Int32)) / (100 : Int32))), .val (.int 5), .val (.ref bb), .val (.int (((-x) / (100 : Int32)) / (100 : Int32))), .val (.int (((((-x) / (100 : Int32)) / (100 : Int32)) * (100 : Int32)) - ((-x) / (100 : Int32)))), .val (.int 0), .val (.int 0)]) rfl (XS.iload X19.here hx rfl (hb hby own_d20_76) rfl q))))))) ?_
  have o20_ := (o15_.wr W19 g_b)
  obtain ⟨T21, X21, e21, st21⟩ := getS2 X19 hx hZ hown (host := "") (Or.inl (own_h hw 125 rfl)) Via.refl e19 (Sta.ext o20_.2 Cq.2.2.1) (g := (mkF m 78 #[.val (.int (((-x) / (100 : Int32)) / (100 : Int32))), .val (.int 5), .val (.ref bb), .val (.int (((-x) / (100 : Int32)) / (100 : Int32))), .val (.int (((((-x) / (100 : Int32)) / (100 : Int32)) * (100 : Int32)) - ((-x) / (100 : Int32)))), .val (.int 0), .val (.int 0)] [(.int 0), (.ref bb)])) rfl (hb hby own_d20_78)
  refine own_by (g' := (mkF m 81 #[.val (.int (((-x) / (100 : Int32)) / (100 : Int32))), .val (.int 5), .val (.ref bb), .val (.int (((-x) / (100 : Int32)) / (100 : Int32))), .val (.int (((((-x) / (100 : Int32)) / (100 : Int32)) * (100 : Int32)) - ((-x) / (100 : Int32)))), .val (.int 0), .val (.int 0)] [(.ref dO), (.int 0), (.ref bb)])) st21 ?_
  refine own_g (mkF m 83 #[.val (.int (((-x) / (100 : Int32)) / (100 : Int32))), .val (.int 5), .val (.ref bb), .val (.int (((-x) / (100 : Int32)) / (100 : Int32))), .val (.int (((((-x) / (100 : Int32)) / (100 : Int32)) * (100 : Int32)) - ((-x) / (100 : Int32)))), .val (.int 0), .val (.int 0)] [(.int (-(((-x) / (100 : Int32)) / (100 : Int32)))), (.ref dO), (.int 0), (.ref bb)]) (fun _ q => XS.iloadN X21.here hx rfl (hb hby own_d20_81) rfl (XS.ineg X21.here hx rfl (hb hby own_d20_82) rfl q)) ?_
  have TB22 := Tab.ext Cq.2.2.2.2.1 o20_.2
  have hin22 := inb_of TB22.2.1 il
  refine own_by (g' := (mkF m 84 #[.val (.int (((-x) / (100 : Int32)) / (100 : Int32))), .val (.int 5), .val (.ref bb), .val (.int (((-x) / (100 : Int32)) / (100 : Int32))), .val (.int (((((-x) / (100 : Int32)) / (100 : Int32)) * (100 : Int32)) - ((-x) / (100 : Int32)))), .val (.int 0), .val (.int 0)] [(.int (atv cO (-(((-x) / (100 : Int32)) / (100 : Int32))))), (.int 0), (.ref bb)])) (fun _ kq => X21.baloadBytes hx (j := (-(((-x) / (100 : Int32)) / (100 : Int32)))) (v := (.int (atv cO (-(((-x) / (100 : Int32)) / (100 : Int32)))))) (by rw [e21]; exact TB22.1.1) (State.isArrayOf_alike hZ.alike TB22.1.2.1) TB22.1.2.2 hin22 (TB22.2.2.2 _ hin22) (g := (mkF m 83 #[.val (.int (((-x) / (100 : Int32)) / (100 : Int32))), .val (.int 5), .val (.ref bb), .val (.int (((-x) / (100 : Int32)) / (100 : Int32))), .val (.int (((((-x) / (100 : Int32)) / (100 : Int32)) * (100 : Int32)) - ((-x) / (100 : Int32)))), .val (.int 0), .val (.int 0)] [(.int (-(((-x) / (100 : Int32)) / (100 : Int32)))), (.ref dO), (.int 0), (.ref bb)])) rfl rfl (hb hby own_d20_83) _ kq) ?_
  obtain ⟨kk23, vs23, ⟨cl23, Ar23, q23, S23, P23, H23, G23⟩, hl23⟩ := id R19
  have hin23 : ¬ ((0 : Int32) < 0 ∨ cl23.slots.size ≤ ((0 : Int32)).toNatClampNeg) := inb_of S23 ⟨by decide, by decide⟩
  obtain ⟨T24, h24, X24, e24, W24, st24⟩ := stB X21 hx hZ e21 Ar23 (j := (0 : Int32)) hin23 (g := (mkF m 84 #[.val (.int (((-x) / (100 : Int32)) / (100 : Int32))), .val (.int 5), .val (.ref bb), .val (.int (((-x) / (100 : Int32)) / (100 : Int32))), .val (.int (((((-x) / (100 : Int32)) / (100 : Int32)) * (100 : Int32)) - ((-x) / (100 : Int32)))), .val (.int 0), .val (.int 0)] [(.int (atv cO (-(((-x) / (100 : Int32)) / (100 : Int32))))), (.int 0), (.ref bb)])) rfl rfl (hb hby own_d20_84)
  have R24 := own_By.put Ar23 q23 S23 P23 H23 G23 hl23 hin23 (fits_nar_byte _) W24
  have N24 := Fr.snoc X24 N19 g_b
  refine own_by (g' := (mkF m 85 #[.val (.int (((-x) / (100 : Int32)) / (100 : Int32))), .val (.int 5), .val (.ref bb), .val (.int (((-x) / (100 : Int32)) / (100 : Int32))), .val (.int (((((-x) / (100 : Int32)) / (100 : Int32)) * (100 : Int32)) - ((-x) / (100 : Int32)))), .val (.int 0), .val (.int 0)] [])) st24 ?_
  refine own_g (mkF m 120 #[.val (.int (((-x) / (100 : Int32)) / (100 : Int32))), .val (.int 5), .val (.ref bb), .val (.int (((-x) / (100 : Int32)) / (100 : Int32))), .val (.int (((((-x) / (100 : Int32)) / (100 : Int32)) * (100 : Int32)) - ((-x) / (100 : Int32)))), .val (.int 0), .val (.int 0)] [(.int 0)]) (fun _ q => XS.iloadN X24.here hx rfl (hb hby own_d20_85) rfl (XS.bipush X24.here hx rfl (hb hby own_d20_86) (XS.icmpYes X24.here hx rfl (pc0 := 88) (pc' := 104) rfl (hb hby own_d20_88) rfl (flt hn9).2.1 (by decide) (by decide) (XS.iload X24.here hx rfl (hb hby own_d20_104) rfl (XS.ifYes X24.here hx rfl (pc0 := 106) (pc' := 118) rfl (hb hby own_d20_106) rfl ((if0 _ _).trans (teq (by decide : (0 : Int32) = (0 : Int32))).1) (by decide) (by decide) (XS.iload X24.here hx rfl (hb hby own_d20_118) rfl q)))))) ?_
  have k25_ := ((((((Keep.refl h0 [bb]).wr W4 (Or.inl (List.mem_of_getElem? (i := 0) rfl))).wr W9 (Or.inl (List.mem_of_getElem? (i := 0) rfl))).wr W14 (Or.inl (List.mem_of_getElem? (i := 0) rfl))).wr W19 (Or.inl (List.mem_of_getElem? (i := 0) rfl))).wr W24 (Or.inl (List.mem_of_getElem? (i := 0) rfl)))
  exact own_end X24 (v := some (.int 0)) (fun h => by rw [Bd.returns] at h; cases h) hlk (fun hr => retOut X24 hx Bd.returns rfl (Or.inl ⟨rfl, Or.inl rfl, _, rfl⟩) (hb hby own_d20_120) hr) (by rw [e24]; exact ⟨⟨_, rfl⟩, N24, k25_, R24⟩) (by decide) (by decide)
theorem own_is5_ef (m : MethodId) (x : Int32) : entryFrame m #[(.int x)] 3 = mkF m 0 #[.val (.int x), .unset, .unset] [] := by  first | (simp [entryFrame, mkF, argsToLocals, Value.category]; done) | rfl
def own_is5_Q (Z : State) (x : Int32) (zCS : Int32) (dO : Addr) (dT : Addr) (ca : Addr) (cO : Cell) (cT : Cell) (cc : Cell) (h0 : Heap) (n0 : Nat) (v : Option Value) (h : Heap) (L : List Loc) : Prop := ∃ r b : Addr, v = some (.ref r) ∧ Fr n0 L ∧ Keep h0 h [] ∧ h0.size ≤ r ∧ n0 ≤ r ∧ h0.size ≤ b ∧ Exa Z h r "java/lang/String" ∧ Fld Z h r "java/lang/String" "value" "[B" (.ref b) ∧ Fld Z h r "java/lang/String" "coder" "B" (.int 0) ∧ own_By Z h b (5 : Int32)
set_option maxRecDepth 65536 in
set_option maxHeartbeats 40000000 in
theorem own_is5 (l : Launch) (Z : State) (a0 : Array Value) (hw : ∀ d ∈ tables_1, d.before a0 Z = true) (ws : List Jvm.Cond) (x : Int32) (zCS : Int32) (dO : Addr) (dT : Addr) (ca : Addr) (cO : Cell) (cT : Cell) (cc : Cell) (h0 : Heap) (n0 : Nat) (Z0 : n0 ≤ h0.size) (Cq : own_C Z zCS dO dT ca cO cT cc) (O0 : Old Z n0 h0) (hbd : 10000 ≤ x.toInt ∧ x.toInt < 100000) :
    MetFree l own_y18 (head1 (Jvm.Cond.code own_y18 jdk_33_method_10_code 3 (some (.object "java/lang/String")) :: ws) (⟨2, 2, 9, 27⟩ : Room)) (fun aa U => aa = #[(.int x)] ∧ Z.Warmed39 U.vm ∧ U.heap = h0) (fun _ _ _ _ _ => True) (fun _ U o U' => ∃ v L, o = .returned v ∧ own_is5_Q Z x zCS dO dT ca cO cT cc h0 n0 v U'.heap L ∧ FrameEnd U o U' L (⟨2, 2, 9, 27⟩ : Room).cells (⟨2, 2, 9, 27⟩ : Room).slots) := by
  refine MetFree.of_bodySF (plainFor_of_name own_pn_java_lang_Integer) hisR ?_
  intro p e s m args below meth c s₁ Bd hml0 hP hK
  obtain ⟨rfl, hZ, hh⟩ := hP
  have hx := Bd.exec
  have hby := Bd.bytes
  have hml : c.maxLocals = 3 := hml0
  have hown : s.vm.findClass "java/lang/Integer" = some m.cls := findClass_of_methodNamed Bd.named
  have hnm := (name_of_methodNamed Bd.named Bd.method).1
  have hlk := Bd.notSynchronized
  have X0 : Stand p l e (⟨2, 2, 9, 27⟩ : Room) s m #[(.int x)] below meth c s₁ [] 0 0 := Stand.of_body Bd
  have e0 : s₁.heap = h0 := by rw [← hh, Bd.state]; rfl
  have N0 := Fr.nil n0
  refine own_start (Q := own_is5_Q Z x zCS dO dT ca cO cT cc h0 n0) (own_is5_ef m x) ?_
  refine own_g (mkF m 1 #[.val (.int x), .unset, .unset] [(.int x)]) (fun _ q => XS.iloadN X0.here hx rfl (hb hby own_d18_0) rfl q) ?_
  refine own_callS X0 hx hZ (y := own_y16) hown (own_h hw 118 rfl) (own_h hw 119 rfl) (own_h hw 7 rfl) (own_h hw 120 rfl) (by decide) (own_ss5 l Z a0 hw [] x zCS dO dT ca cO cT cc h0 n0 Z0 Cq O0 hbd) (by decide) (by decide) e0 (g := (mkF m 1 #[.val (.int x), .unset, .unset] [(.int x)])) rfl (by rw [hml]; rfl) (argsL := [(.int x)]) (rest := []) (lenOf own_pd__28I_29I rfl) rfl (W := 0) (by show 2 * 0 + _ ≤ _; exact Nat.le_of_eq rfl) (hb hby own_d18_1) rfl (by decide) (by decide) ?_
  rintro rv1 T1 L1 X1 ⟨rfl, Nq1, eh1⟩
  have N1 := Fr.app N0 Nq1
  refine own_g (mkF m 5 #[.val (.int x), .val (.int 5), .unset] []) (fun _ q => XS.istoreN X1.here hx rfl (hb hby own_d18_4) rfl (l' := #[.val (.int x), .val (.int 5), .unset]) rfl q) ?_
  obtain ⟨T2, X2, e2, st2⟩ := getS2 X1 hx hZ hown (host := "") (Or.inl (own_h hw 121 rfl)) Via.refl eh1 (Sta.ext O0.2 Cq.1) (g := (mkF m 5 #[.val (.int x), .val (.int 5), .unset] [])) rfl (hb hby own_d18_5)
  refine own_by (g' := (mkF m 8 #[.val (.int x), .val (.int 5), .unset] [(.int zCS)])) st2 ?_
  refine own_g (mkF m 12 #[.val (.int x), .val (.int 5), .unset] [(.int 5)]) (fun _ q => XS.ifNo X2.here hx rfl (hb hby own_d18_8) rfl ((if0 _ _).trans (feq Cq.2.1).1) (XS.iloadN X2.here hx rfl (hb hby own_d18_11) rfl q)) ?_
  obtain ⟨T3, h3, k3, X3, e3, E3, A3, Ex3, st3⟩ := newPE X2 hx hZ (own_h hw 38 rfl) e2 (g := (mkF m 12 #[.val (.int x), .val (.int 5), .unset] [(.int 5)])) rfl (hb hby own_d18_12) rfl (by decide) (cap := 5) (by decide) (by decide) (by decide) (by decide) (ad := "[B") (by decide)
  obtain ⟨b3, g3⟩ : ∃ z, z = h0.size := ⟨_, rfl⟩
  rw [← g3] at A3 Ex3 st3
  have g_b3 : n0 ≤ b3 := Nat.le_trans Z0 (Nat.le_of_eq g3.symm)
  have sz_b3 : h0.size ≤ b3 := Nat.le_trans (Keep.refl h0 []).1 (Nat.le_of_eq g3.symm)
  have R_b3 := own_By.of (Arv.new A3 (by decide))
  refine own_by (g' := (mkF m 14 #[.val (.int x), .val (.int 5), .unset] [(.ref b3)])) st3 ?_
  refine own_g (mkF m 18 #[.val (.int x), .val (.int 5), .val (.ref b3)] [(.ref b3), (.int 5), (.int x)]) (fun _ q => XS.astoreN X3.here hx rfl (hb hby own_d18_14) rfl rfl (l' := #[.val (.int x), .val (.int 5), .val (.ref b3)]) rfl (XS.iloadN X3.here hx rfl (hb hby own_d18_15) rfl (XS.iloadN X3.here hx rfl (hb hby own_d18_16) rfl (XS.aloadN X3.here hx rfl (hb hby own_d18_17) rfl rfl q)))) ?_
  have k4_ := ((Keep.refl h0 []).ext E3)
  have o5_ := (O0.ext E3)
  refine own_callS X3 hx hZ (y := own_y14) hown (own_h hw 122 rfl) (own_h hw 123 rfl) (own_h hw 7 rfl) (own_h hw 124 rfl) (by decide) (own_gc5 l Z a0 hw [] x b3 zCS dO dT ca cO cT cc h3 n0 (Nat.le_trans Z0 k4_.1) Cq o5_ hbd R_b3 g_b3) (by decide) (by decide) e3 (g := (mkF m 18 #[.val (.int x), .val (.int 5), .val (.ref b3)] [(.ref b3), (.int 5), (.int x)])) rfl (by rw [hml]; rfl) (argsL := [(.int x), (.int 5), (.ref b3)]) (rest := []) (lenOf own_pd__28II_5bB_29I rfl) rfl (W := 0) (by show 2 * 0 + _ ≤ _; exact Nat.le_of_eq rfl) (hb hby own_d18_18) rfl (by decide) (by decide) ?_
  rintro rv6 T6 L6 X6 ⟨⟨rr6, rfl⟩, Nq6, Kq6, Rq6⟩
  have N6 := Fr.app N1 Nq6
  refine own_g (mkF m 22 #[.val (.int x), .val (.int 5), .val (.ref b3)] []) (fun _ q => XS.pop X6.here hx rfl (hb hby own_d18_21) rfl rfl q) ?_
  obtain ⟨T7, h7, X7, e7, E7, A7, D7, U7, st7⟩ := newO X6 hx hZ hown (own_h hw 126 rfl) (own_h hw 44 rfl) (own_h hw 37 rfl) rfl (g := (mkF m 22 #[.val (.int x), .val (.int 5), .val (.ref b3)] [])) rfl (hb hby own_d18_22) (by decide) (by decide)
  obtain ⟨b7, g7⟩ : ∃ z, z = T6.heap.size := ⟨_, rfl⟩
  rw [← g7] at A7 D7 U7 st7
  have k8_ := (k4_.trans Kq6 (allS (Or.inr sz_b3) all0))
  have g_b7 : n0 ≤ b7 := Nat.le_trans (Nat.le_trans Z0 k8_.1) (Nat.le_of_eq g7.symm)
  have sz_b7 : h0.size ≤ b7 := Nat.le_trans k8_.1 (Nat.le_of_eq g7.symm)
  have ne_b3_b7 : b3 ≠ b7 := Nat.ne_of_lt (Nat.lt_of_lt_of_le Rq6.lt (Nat.le_of_eq g7.symm))
  have F_value_b7 : Fld Z h7 b7 "java/lang/String" "value" "[B" .null := D7 (Or.inr (own_h hw 45 rfl)) (ty := (.array .byte)) (by decide)
  have F_coder_b7 : Fld Z h7 b7 "java/lang/String" "coder" "B" (.int 0) := D7 (Or.inr (own_h hw 46 rfl)) (ty := .byte) (by decide)
  refine own_by (g' := (mkF m 25 #[.val (.int x), .val (.int 5), .val (.ref b3)] [(.ref b7)])) st7 ?_
  refine own_g (mkF m 28 #[.val (.int x), .val (.int 5), .val (.ref b3)] [(.int 0), (.ref b3), (.ref b7), (.ref b7)]) (fun _ q => XS.dup X7.here hx rfl (hb hby own_d18_25) rfl rfl (XS.aloadN X7.here hx rfl (hb hby own_d18_26) rfl rfl (XS.iconst X7.here hx rfl (hb hby own_d18_27) q))) ?_
  have k9_ := (k8_.ext E7)
  have o10_ := ((o5_.keep Kq6 (allS g_b3 all0)).ext E7)
  refine own_callI X7 hx hZ (y := own_y27) rfl hown (own_h hw 127 rfl) (own_h hw 128 rfl) (own_h hw 130 rfl) (own_h hw 37 rfl) (by decide) (own_sbb l Z a0 hw [] b7 b3 zCS dO dT ca cO cT cc h7 n0 (Nat.le_trans Z0 k9_.1) Cq o10_ A7 F_value_b7 F_coder_b7 g_b7) (by decide) (by decide) e7 (g := (mkF m 28 #[.val (.int x), .val (.int 5), .val (.ref b3)] [(.int 0), (.ref b3), (.ref b7), (.ref b7)])) rfl (by rw [hml]; rfl) (argsL := [(.ref b3), (.int 0)]) (rest := [(.ref b7)]) (lenOf own_pd__28_5bBB_29V rfl) rfl (W := 1) (by show 2 * 0 + _ ≤ _; exact Nat.le_of_eq rfl) (hb hby own_d18_28) rfl (by decide) (by decide) ?_
  rintro rv11 T11 L11 X11 ⟨rfl, Nq11, Kq11, Fv11, Fc11⟩
  have N11 := Fr.app N6 Nq11
  show own_Fin p e below _ T11 (mkF m 31 #[.val (.int x), .val (.int 5), .val (.ref b3)] [(.ref b7)])
  have k12_ := (k9_.trans Kq11 (allS (Or.inr sz_b7) all0))
  have e13_b7 := (A7.keep Kq11)
  have r14_b3 := ((Rq6.ext E7).keep Kq11 (ninS ne_b3_b7 nin0))
  exact own_end X11 (v := some (.ref b7)) (fun h => by rw [Bd.returns] at h; cases h) hlk (fun hr => retOut X11 hx Bd.returns (own_narR rfl) (Or.inr (Or.inr (Or.inr (Or.inr ⟨rfl, rfl, rfl⟩)))) (hb hby own_d18_31) hr) (⟨b7, b3, rfl, N11, k12_, sz_b7, g_b7, sz_b3, e13_b7, Fv11, Fc11, r14_b3⟩) (by decide) (by decide)
theorem own_ss6_ef (m : MethodId) (x : Int32) : entryFrame m #[(.int x)] 4 = mkF m 0 #[.val (.int x), .unset, .unset, .unset] [] := by  first | (simp [entryFrame, mkF, argsToLocals, Value.category]; done) | rfl
def own_ss6_Q (Z : State) (x : Int32) (zCS : Int32) (dO : Addr) (dT : Addr) (ca : Addr) (cO : Cell) (cT : Cell) (cc : Cell) (h0 : Heap) (n0 : Nat) (v : Option Value) (h : Heap) (L : List Loc) : Prop := v = some (.int 6) ∧ Fr n0 L ∧ h = h0
set_option maxRecDepth 65536 in
set_option maxHeartbeats 40000000 in
theorem own_ss6 (l : Launch) (Z : State) (a0 : Array Value) (hw : ∀ d ∈ tables_1, d.before a0 Z = true) (ws : List Jvm.Cond) (x : Int32) (zCS : Int32) (dO : Addr) (dT : Addr) (ca : Addr) (cO : Cell) (cT : Cell) (cc : Cell) (h0 : Heap) (n0 : Nat) (Z0 : n0 ≤ h0.size) (Cq : own_C Z zCS dO dT ca cO cT cc) (O0 : Old Z n0 h0) (hbd : 100000 ≤ x.toInt ∧ x.toInt < 1000000) :
    MetFree l own_y16 (head1 (Jvm.Cond.code own_y16 jdk_33_method_13_code 4 (some .int) :: ws) (⟨0, 0, 0, 0⟩ : Room)) (fun aa U => aa = #[(.int x)] ∧ Z.Warmed39 U.vm ∧ U.heap = h0) (fun _ _ _ _ _ => True) (fun _ U o U' => ∃ v L, o = .returned v ∧ own_ss6_Q Z x zCS dO dT ca cO cT cc h0 n0 v U'.heap L ∧ FrameEnd U o U' L (⟨0, 0, 0, 0⟩ : Room).cells (⟨0, 0, 0, 0⟩ : Room).slots) := by
  refine MetFree.of_bodySF (plainFor_of_name own_pn_java_lang_Integer) hisR ?_
  intro p e s m args below meth c s₁ Bd hml0 hP hK
  obtain ⟨rfl, hZ, hh⟩ := hP
  have hx := Bd.exec
  have hby := Bd.bytes
  have hml : c.maxLocals = 4 := hml0
  have hown : s.vm.findClass "java/lang/Integer" = some m.cls := findClass_of_methodNamed Bd.named
  have hnm := (name_of_methodNamed Bd.named Bd.method).1
  have hlk := Bd.notSynchronized
  have X0 : Stand p l e (⟨0, 0, 0, 0⟩ : Room) s m #[(.int x)] below meth c s₁ [] 0 0 := Stand.of_body Bd
  have e0 : s₁.heap = h0 := by rw [← hh, Bd.state]; rfl
  have N0 := Fr.nil n0
  refine own_start (Q := own_ss6_Q Z x zCS dO dT ca cO cT cc h0 n0) (own_ss6_ef m x) ?_
  have en0 := own_neg (y := x) (by omega)
  have c_0 : (0 : Int32).toInt = 0 := by decide
  have hx0 : ¬ x < (0 : Int32) := own_nl (by omega)
  have c_m10 : (-10 : Int32).toInt = -10 := by decide
  have hs1 : ¬ ((-10 : Int32) < (-x)) := own_nl (by omega)
  have c_m100 : (-100 : Int32).toInt = -100 := by decide
  have hs2 : ¬ ((-100 : Int32) < (-x)) := own_nl (by omega)
  have c_m1000 : (-1000 : Int32).toInt = -1000 := by decide
  have hs3 : ¬ ((-1000 : Int32) < (-x)) := own_nl (by omega)
  have c_m10000 : (-10000 : Int32).toInt = -10000 := by decide
  have hs4 : ¬ ((-10000 : Int32) < (-x)) := own_nl (by omega)
  have c_m100000 : (-100000 : Int32).toInt = -100000 := by decide
  have hs5 : ¬ ((-100000 : Int32) < (-x)) := own_nl (by omega)
  have c_m1000000 : (-1000000 : Int32).toInt = -1000000 := by decide
  have hs6 : (-1000000 : Int32) < (-x) := own_lt (by omega)
  refine own_g (mkF m 10 #[.val (.int x), .val (.int 0), .unset, .unset] [(.int (-x))]) (fun _ q => XS.iconst X0.here hx rfl (hb hby own_d19_0) (XS.istoreN X0.here hx rfl (hb hby own_d19_1) rfl (l' := #[.val (.int x), .val (.int 1), .unset, .unset]) rfl (XS.iloadN X0.here hx rfl (hb hby own_d19_2) rfl (XS.ifNo X0.here hx rfl (hb hby own_d19_3) rfl ((if0 _ _).trans (flt hx0).1) (XS.iconst X0.here hx rfl (hb hby own_d19_6) (XS.istoreN X0.here hx rfl (hb hby own_d19_7) rfl (l' := #[.val (.int x), .val (.int 0), .unset, .unset]) rfl (XS.iloadN X0.here hx rfl (hb hby own_d19_8) rfl (XS.ineg X0.here hx rfl (hb hby own_d19_9) rfl q)))))))) ?_
  refine own_g (mkF m 22 #[.val (.int (-x)), .val (.int 0), .val (.int (-10)), .val (.int 1)] []) (fun _ q => XS.istoreN X0.here hx rfl (hb hby own_d19_10) rfl (l' := #[.val (.int (-x)), .val (.int 0), .unset, .unset]) rfl (XS.bipush X0.here hx rfl (hb hby own_d19_11) (XS.istoreN X0.here hx rfl (hb hby own_d19_13) rfl (l' := #[.val (.int (-x)), .val (.int 0), .val (.int (-10)), .unset]) rfl (XS.iconst X0.here hx rfl (hb hby own_d19_14) (XS.istoreN X0.here hx rfl (hb hby own_d19_15) rfl (l' := #[.val (.int (-x)), .val (.int 0), .val (.int (-10)), .val (.int 1)]) rfl (XS.iloadN X0.here hx rfl (hb hby own_d19_16) rfl (XS.bipush X0.here hx rfl (hb hby own_d19_17) (XS.icmpNo X0.here hx rfl (hb hby own_d19_19) rfl (tlt (by decide : (1 : Int32) < (10 : Int32))).2.1 q)))))))) ?_
  refine own_g (mkF m 39 #[.val (.int (-x)), .val (.int 0), .val (.int (-100)), .val (.int 2)] []) (fun _ q => XS.iloadN X0.here hx rfl (hb hby own_d19_22) rfl (XS.iloadN X0.here hx rfl (hb hby own_d19_23) rfl (XS.icmpYes X0.here hx rfl (pc0 := 24) (pc' := 31) rfl (hb hby own_d19_24) rfl (flt hs1).2.2.2 (by decide) (by decide) (XS.bipush X0.here hx rfl (hb hby own_d19_31) (XS.iloadN X0.here hx rfl (hb hby own_d19_33) rfl (XS.imul X0.here hx rfl (hb hby own_d19_34) rfl (XS.istoreN X0.here hx rfl (hb hby own_d19_35) rfl (l' := #[.val (.int (-x)), .val (.int 0), .val (.int (-100)), .val (.int 1)]) rfl (XS.iinc X0.here hx rfl (hb hby own_d19_36) rfl (l' := #[.val (.int (-x)), .val (.int 0), .val (.int (-100)), .val (.int 2)]) rfl q)))))))) ?_
  refine own_g (mkF m 33 #[.val (.int (-x)), .val (.int 0), .val (.int (-100)), .val (.int 2)] [(.int 10)]) (fun _ q => XS.goto X0.here hx rfl (pc0 := 39) (pc' := 16) rfl (hb hby own_d19_39) (by decide) (by decide) (XS.iloadN X0.here hx rfl (hb hby own_d19_16) rfl (XS.bipush X0.here hx rfl (hb hby own_d19_17) (XS.icmpNo X0.here hx rfl (hb hby own_d19_19) rfl (tlt (by decide : (2 : Int32) < (10 : Int32))).2.1 (XS.iloadN X0.here hx rfl (hb hby own_d19_22) rfl (XS.iloadN X0.here hx rfl (hb hby own_d19_23) rfl (XS.icmpYes X0.here hx rfl (pc0 := 24) (pc' := 31) rfl (hb hby own_d19_24) rfl (flt hs2).2.2.2 (by decide) (by decide) (XS.bipush X0.here hx rfl (hb hby own_d19_31) q)))))))) ?_
  refine own_g (mkF m 22 #[.val (.int (-x)), .val (.int 0), .val (.int (-1000)), .val (.int 3)] []) (fun _ q => XS.iloadN X0.here hx rfl (hb hby own_d19_33) rfl (XS.imul X0.here hx rfl (hb hby own_d19_34) rfl (XS.istoreN X0.here hx rfl (hb hby own_d19_35) rfl (l' := #[.val (.int (-x)), .val (.int 0), .val (.int (-1000)), .val (.int 2)]) rfl (XS.iinc X0.here hx rfl (hb hby own_d19_36) rfl (l' := #[.val (.int (-x)), .val (.int 0), .val (.int (-1000)), .val (.int 3)]) rfl (XS.goto X0.here hx rfl (pc0 := 39) (pc' := 16) rfl (hb hby own_d19_39) (by decide) (by decide) (XS.iloadN X0.here hx rfl (hb hby own_d19_16) rfl (XS.bipush X0.here hx rfl (hb hby own_d19_17) (XS.icmpNo X0.here hx rfl (hb hby own_d19_19) rfl (tlt (by decide : (3 : Int32) < (10 : Int32))).2.1 q)))))))) ?_
  refine own_g (mkF m 39 #[.val (.int (-x)), .val (.int 0), .val (.int (-10000)), .val (.int 4)] []) (fun _ q => XS.iloadN X0.here hx rfl (hb hby own_d19_22) rfl (XS.iloadN X0.here hx rfl (hb hby own_d19_23) rfl (XS.icmpYes X0.here hx rfl (pc0 := 24) (pc' := 31) rfl (hb hby own_d19_24) rfl (flt hs3).2.2.2 (by decide) (by decide) (XS.bipush X0.here hx rfl (hb hby own_d19_31) (XS.iloadN X0.here hx rfl (hb hby own_d19_33) rfl (XS.imul X0.here hx rfl (hb hby own_d19_34) rfl (XS.istoreN X0.here hx rfl (hb hby own_d19_35) rfl (l' := #[.val (.int (-x)), .val (.int 0), .val (.int (-10000)), .val (.int 3)]) rfl (XS.iinc X0.here hx rfl (hb hby own_d19_36) rfl (l' := #[.val (.int (-x)), .val (.int 0), .val (.int (-10000)), .val (.int 4)]) rfl q)))))))) ?_
  refine own_g (mkF m 33 #[.val (.int (-x)), .val (.int 0), .val (.int (-10000)), .val (.int 4)] [(.int 10)]) (fun _ q => XS.goto X0.here hx rfl (pc0 := 39) (pc' := 16) rfl (hb hby own_d19_39) (by decide) (by decide) (XS.iloadN X0.here hx rfl (hb hby own_d19_16) rfl (XS.bipush X0.here hx rfl (hb hby own_d19_17) (XS.icmpNo X0.here hx rfl (hb hby own_d19_19) rfl (tlt (by decide : (4 : Int32) < (10 : Int32))).2.1 (XS.iloadN X0.here hx rfl (hb hby own_d19_22) rfl (XS.iloadN X0.here hx rfl (hb hby own_d19_23) rfl (XS.icmpYes X0.here hx rfl (pc0 := 24) (pc' := 31) rfl (hb hby own_d19_24) rfl (flt hs4).2.2.2 (by decide) (by decide) (XS.bipush X0.here hx rfl (hb hby own_d19_31) q)))))))) ?_
  refine own_g (mkF m 22 #[.val (.int (-x)), .val (.int 0), .val (.int (-100000)), .val (.int 5)] []) (fun _ q => XS.iloadN X0.here hx rfl (hb hby own_d19_33) rfl (XS.imul X0.here hx rfl (hb hby own_d19_34) rfl (XS.istoreN X0.here hx rfl (hb hby own_d19_35) rfl (l' := #[.val (.int (-x)), .val (.int 0), .val (.int (-100000)), .val (.int 4)]) rfl (XS.iinc X0.here hx rfl (hb hby own_d19_36) rfl (l' := #[.val (.int (-x)), .val (.int 0), .val (.int (-100000)), .val (.int 5)]) rfl (XS.goto X0.here hx rfl (pc0 := 39) (pc' := 16) rfl (hb hby own_d19_39) (by decide) (by decide) (XS.iloadN X0.here hx rfl (hb hby own_d19_16) rfl (XS.bipush X0.here hx rfl (hb hby own_d19_17) (XS.icmpNo X0.here hx rfl (hb hby own_d19_19) rfl (tlt (by decide : (5 : Int32) < (10 : Int32))).2.1 q)))))))) ?_
  refine own_g (mkF m 39 #[.val (.int (-x)), .val (.int 0), .val (.int (-1000000)), .val (.int 6)] []) (fun _ q => XS.iloadN X0.here hx rfl (hb hby own_d19_22) rfl (XS.iloadN X0.here hx rfl (hb hby own_d19_23) rfl (XS.icmpYes X0.here hx rfl (pc0 := 24) (pc' := 31) rfl (hb hby own_d19_24) rfl (flt hs5).2.2.2 (by decide) (by decide) (XS.bipush X0.here hx rfl (hb hby own_d19_31) (XS.iloadN X0.here hx rfl (hb hby own_d19_33) rfl (XS.imul X0.here hx rfl (hb hby own_d19_34) rfl (XS.istoreN X0.here hx rfl (hb hby own_d19_35) rfl (l' := #[.val (.int (-x)), .val (.int 0), .val (.int (-1000000)), .val (.int 5)]) rfl (XS.iinc X0.here hx rfl (hb hby own_d19_36) rfl (l' := #[.val (.int (-x)), .val (.int 0), .val (.int (-1000000)), .val (.int 6)]) rfl q)))))))) ?_
  refine own_g (mkF m 28 #[.val (.int (-x)), .val (.int 0), .val (.int (-1000000)), .val (.int 6)] [(.int 6)]) (fun _ q => XS.goto X0.here hx rfl (pc0 := 39) (pc' := 16) rfl (hb hby own_d19_39) (by decide) (by decide) (XS.iloadN X0.here hx rfl (hb hby own_d19_16) rfl (XS.bipush X0.here hx rfl (hb hby own_d19_17) (XS.icmpNo X0.here hx rfl (hb hby own_d19_19) rfl (tlt (by decide : (6 : Int32) < (10 : Int32))).2.1 (XS.iloadN X0.here hx rfl (hb hby own_d19_22) rfl (XS.iloadN X0.here hx rfl (hb hby own_d19_23) rfl (XS.icmpNo X0.here hx rfl (hb hby own_d19_24) rfl (tlt hs6).2.2.2 (XS.iloadN X0.here hx rfl (hb hby own_d19_27) rfl q)))))))) ?_
  refine own_g (mkF m 30 #[.val (.int (-x)), .val (.int 0), .val (.int (-1000000)), .val (.int 6)] [(.int 6)]) (fun _ q => XS.iloadN X0.here hx rfl (hb hby own_d19_28) rfl (XS.iadd X0.here hx rfl (hb hby own_d19_29) rfl q)) ?_
  exact own_end X0 (v := some (.int 6)) (fun h => by rw [Bd.returns] at h; cases h) hlk (fun hr => retOut X0 hx Bd.returns rfl (Or.inl ⟨rfl, Or.inl rfl, _, rfl⟩) (hb hby own_d19_30) hr) (by rw [e0]; exact ⟨rfl, N0, rfl⟩) (by decide) (by decide)
theorem own_gc6_ef (m : MethodId) (x : Int32) (bb : Addr) : entryFrame m #[(.int x), (.int 6), (.ref bb)] 7 = mkF m 0 #[.val (.int x), .val (.int 6), .val (.ref bb), .unset, .unset, .unset, .unset] [] := by  first | (simp [entryFrame, mkF, argsToLocals, Value.category]; done) | rfl
def own_gc6_Q (Z : State) (x : Int32) (bb : Addr) (zCS : Int32) (dO : Addr) (dT : Addr) (ca : Addr) (cO : Cell) (cT : Cell) (cc : Cell) (h0 : Heap) (n0 : Nat) (v : Option Value) (h : Heap) (L : List Loc) : Prop := (∃ r, v = some (.int r)) ∧ Fr n0 L ∧ Keep h0 h [bb] ∧ own_By Z h bb (6 : Int32)
set_option maxRecDepth 65536 in
set_option maxHeartbeats 40000000 in
theorem own_gc6 (l : Launch) (Z : State) (a0 : Array Value) (hw : ∀ d ∈ tables_1, d.before a0 Z = true) (ws : List Jvm.Cond) (x : Int32) (bb : Addr) (zCS : Int32) (dO : Addr) (dT : Addr) (ca : Addr) (cO : Cell) (cT : Cell) (cc : Cell) (h0 : Heap) (n0 : Nat) (Z0 : n0 ≤ h0.size) (Cq : own_C Z zCS dO dT ca cO cT cc) (O0 : Old Z n0 h0) (hbd : 100000 ≤ x.toInt ∧ x.toInt < 1000000) (R_b : own_By Z h0 bb (6 : Int32)) (g_b : n0 ≤ bb) :
    MetFree l own_y14 (head1 (Jvm.Cond.code own_y14 jdk_33_method_12_code 7 (some .int) :: ws) (⟨0, 0, 0, 0⟩ : Room)) (fun aa U => aa = #[(.int x), (.int 6), (.ref bb)] ∧ Z.Warmed39 U.vm ∧ U.heap = h0) (fun _ _ _ _ _ => True) (fun _ U o U' => ∃ v L, o = .returned v ∧ own_gc6_Q Z x bb zCS dO dT ca cO cT cc h0 n0 v U'.heap L ∧ FrameEnd U o U' L (⟨0, 0, 0, 0⟩ : Room).cells (⟨0, 0, 0, 0⟩ : Room).slots) := by
  refine MetFree.of_bodySF (plainFor_of_name own_pn_java_lang_Integer) hisR ?_
  intro p e s m args below meth c s₁ Bd hml0 hP hK
  obtain ⟨rfl, hZ, hh⟩ := hP
  have hx := Bd.exec
  have hby := Bd.bytes
  have hml : c.maxLocals = 7 := hml0
  have hown : s.vm.findClass "java/lang/Integer" = some m.cls := findClass_of_methodNamed Bd.named
  have hnm := (name_of_methodNamed Bd.named Bd.method).1
  have hlk := Bd.notSynchronized
  have X0 : Stand p l e (⟨0, 0, 0, 0⟩ : Room) s m #[(.int x), (.int 6), (.ref bb)] below meth c s₁ [] 0 0 := Stand.of_body Bd
  have e0 : s₁.heap = h0 := by rw [← hh, Bd.state]; rfl
  have N0 := Fr.nil n0
  refine own_start (Q := own_gc6_Q Z x bb zCS dO dT ca cO cT cc h0 n0) (own_gc6_ef m x bb) ?_
  have en0 := own_neg (y := x) (by omega)
  have c_0 : (0 : Int32).toInt = 0 := by decide
  have c_m100 : (-100 : Int32).toInt = -100 := by decide
  have c_m9 : (-9 : Int32).toInt = -9 := by decide
  have c_100 : (100 : Int32).toInt = 100 := by decide
  have hx0 : ¬ x < (0 : Int32) := own_nl (by omega)
  have hlp0 : ¬ ((-100 : Int32) < (-x)) := own_nl (by omega)
  have qq0 := own_qd (y := (-x)) (by omega)
  have rr0 := own_rd (y := (-x)) (by omega)
  have ir0 : ¬ ((((-x) / (100 : Int32)) * (100 : Int32)) - (-x)) < 0 ∧ ((((-x) / (100 : Int32)) * (100 : Int32)) - (-x)) < (100 : Int32) := ⟨own_nl (by omega), own_lt (by omega)⟩
  have hlp1 : ¬ ((-100 : Int32) < ((-x) / (100 : Int32))) := own_nl (by omega)
  have qq1 := own_qd (y := ((-x) / (100 : Int32))) (by omega)
  have rr1 := own_rd (y := ((-x) / (100 : Int32))) (by omega)
  have ir1 : ¬ (((((-x) / (100 : Int32)) / (100 : Int32)) * (100 : Int32)) - ((-x) / (100 : Int32))) < 0 ∧ (((((-x) / (100 : Int32)) / (100 : Int32)) * (100 : Int32)) - ((-x) / (100 : Int32))) < (100 : Int32) := ⟨own_nl (by omega), own_lt (by omega)⟩
  have hlp2 : (-100 : Int32) < (((-x) / (100 : Int32)) / (100 : Int32)) := own_lt (by omega)
  have nz := own_neg (y := (((-x) / (100 : Int32)) / (100 : Int32))) (by omega)
  have il : ¬ (-(((-x) / (100 : Int32)) / (100 : Int32))) < 0 ∧ (-(((-x) / (100 : Int32)) / (100 : Int32))) < (100 : Int32) := ⟨own_nl (by omega), own_lt (by omega)⟩
  have hn9 : (((-x) / (100 : Int32)) / (100 : Int32)) < (-9 : Int32) := own_lt (by omega)
  refine own_g (mkF m 19 #[.val (.int x), .val (.int 6), .val (.ref bb), .unset, .unset, .val (.int 6), .val (.int 0)] []) (fun _ q => XS.iloadN X0.here hx rfl (hb hby own_d20_0) rfl (XS.istore X0.here hx rfl (hb hby own_d20_1) rfl (l' := #[.val (.int x), .val (.int 6), .val (.ref bb), .unset, .unset, .val (.int 6), .unset]) rfl (XS.iloadN X0.here hx rfl (hb hby own_d20_3) rfl (XS.ifYes X0.here hx rfl (pc0 := 4) (pc' := 11) rfl (hb hby own_d20_4) rfl ((if0 _ _).trans (flt hx0).2.1) (by decide) (by decide) (XS.iconst X0.here hx rfl (hb hby own_d20_11) (XS.istore X0.here hx rfl (hb hby own_d20_12) rfl (l' := #[.val (.int x), .val (.int 6), .val (.ref bb), .unset, .unset, .val (.int 6), .val (.int 0)]) rfl (XS.iload X0.here hx rfl (hb hby own_d20_14) rfl (XS.ifNo X0.here hx rfl (hb hby own_d20_16) rfl ((if0 _ _).trans (teq (by decide : (0 : Int32) = (0 : Int32))).2) q)))))))) ?_
  refine own_g (mkF m 31 #[.val (.int (-x)), .val (.int 6), .val (.ref bb), .unset, .unset, .val (.int 6), .val (.int 0)] [(.int 100), (.int (-x))]) (fun _ q => XS.iloadN X0.here hx rfl (hb hby own_d20_19) rfl (XS.ineg X0.here hx rfl (hb hby own_d20_20) rfl (XS.istoreN X0.here hx rfl (hb hby own_d20_21) rfl (l' := #[.val (.int (-x)), .val (.int 6), .val (.ref bb), .unset, .unset, .val (.int 6), .val (.int 0)]) rfl (XS.iloadN X0.here hx rfl (hb hby own_d20_22) rfl (XS.bipush X0.here hx rfl (hb hby own_d20_23) (XS.icmpNo X0.here hx rfl (hb hby own_d20_25) rfl (flt hlp0).2.2.1 (XS.iloadN X0.here hx rfl (hb hby own_d20_28) rfl (XS.bipush X0.here hx rfl (hb hby own_d20_29) q)))))))) ?_
  refine own_g (mkF m 41 #[.val (.int (-x)), .val (.int 6), .val (.ref bb), .val (.int ((-x) / (100 : Int32))), .val (.int ((((-x) / (100 : Int32)) * (100 : Int32)) - (-x))), .val (.int 6), .val (.int 0)] []) (fun _ q => XS.idiv X0.here hx rfl (hb hby own_d20_31) rfl (by decide) (XS.istoreN X0.here hx rfl (hb hby own_d20_32) rfl (l' := #[.val (.int (-x)), .val (.int 6), .val (.ref bb), .val (.int ((-x) / (100 : Int32))), .unset, .val (.int 6), .val (.int 0)]) rfl (XS.iloadN X0.here hx rfl (hb hby own_d20_33) rfl (XS.bipush X0.here hx rfl (hb hby own_d20_34) (XS.imul X0.here hx rfl (hb hby own_d20_36) rfl (XS.iloadN X0.here hx rfl (hb hby own_d20_37) rfl (XS.isub X0.here hx rfl (hb hby own_d20_38) rfl (XS.istore X0.here hx rfl (hb hby own_d20_39) rfl (l' := #[.val (.int (-x)), .val (.int 6), .val (.ref bb), .val (.int ((-x) / (100 : Int32))), .val (.int ((((-x) / (100 : Int32)) * (100 : Int32)) - (-x))), .val (.int 6), .val (.int 0)]) rfl q)))))))) ?_
  refine own_g (mkF m 49 #[.val (.int ((-x) / (100 : Int32))), .val (.int 6), .val (.ref bb), .val (.int ((-x) / (100 : Int32))), .val (.int ((((-x) / (100 : Int32)) * (100 : Int32)) - (-x))), .val (.int 5), .val (.int 0)] [(.int 5), (.ref bb)]) (fun _ q => XS.iloadN X0.here hx rfl (hb hby own_d20_41) rfl (XS.istoreN X0.here hx rfl (hb hby own_d20_42) rfl (l' := #[.val (.int ((-x) / (100 : Int32))), .val (.int 6), .val (.ref bb), .val (.int ((-x) / (100 : Int32))), .val (.int ((((-x) / (100 : Int32)) * (100 : Int32)) - (-x))), .val (.int 6), .val (.int 0)]) rfl (XS.aloadN X0.here hx rfl (hb hby own_d20_43) rfl rfl (XS.iinc X0.here hx rfl (hb hby own_d20_44) rfl (l' := #[.val (.int ((-x) / (100 : Int32))), .val (.int 6), .val (.ref bb), .val (.int ((-x) / (100 : Int32))), .val (.int ((((-x) / (100 : Int32)) * (100 : Int32)) - (-x))), .val (.int 5), .val (.int 0)]) rfl (XS.iload X0.here hx rfl (hb hby own_d20_47) rfl q))))) ?_
  obtain ⟨T1, X1, e1, st1⟩ := getS2 X0 hx hZ hown (host := "") (Or.inl (own_h hw 125 rfl)) Via.refl e0 (Sta.ext O0.2 Cq.2.2.1) (g := (mkF m 49 #[.val (.int ((-x) / (100 : Int32))), .val (.int 6), .val (.ref bb), .val (.int ((-x) / (100 : Int32))), .val (.int ((((-x) / (100 : Int32)) * (100 : Int32)) - (-x))), .val (.int 5), .val (.int 0)] [(.int 5), (.ref bb)])) rfl (hb hby own_d20_49)
  refine own_by (g' := (mkF m 52 #[.val (.int ((-x) / (100 : Int32))), .val (.int 6), .val (.ref bb), .val (.int ((-x) / (100 : Int32))), .val (.int ((((-x) / (100 : Int32)) * (100 : Int32)) - (-x))), .val (.int 5), .val (.int 0)] [(.ref dO), (.int 5), (.ref bb)])) st1 ?_
  refine own_g (mkF m 54 #[.val (.int ((-x) / (100 : Int32))), .val (.int 6), .val (.ref bb), .val (.int ((-x) / (100 : Int32))), .val (.int ((((-x) / (100 : Int32)) * (100 : Int32)) - (-x))), .val (.int 5), .val (.int 0)] [(.int ((((-x) / (100 : Int32)) * (100 : Int32)) - (-x))), (.ref dO), (.int 5), (.ref bb)]) (fun _ q => XS.iload X1.here hx rfl (hb hby own_d20_52) rfl q) ?_
  have TB2 := Tab.ext Cq.2.2.2.2.1 O0.2
  have hin2 := inb_of TB2.2.1 ir0
  refine own_by (g' := (mkF m 55 #[.val (.int ((-x) / (100 : Int32))), .val (.int 6), .val (.ref bb), .val (.int ((-x) / (100 : Int32))), .val (.int ((((-x) / (100 : Int32)) * (100 : Int32)) - (-x))), .val (.int 5), .val (.int 0)] [(.int (atv cO ((((-x) / (100 : Int32)) * (100 : Int32)) - (-x)))), (.int 5), (.ref bb)])) (fun _ kq => X1.baloadBytes hx (j := ((((-x) / (100 : Int32)) * (100 : Int32)) - (-x))) (v := (.int (atv cO ((((-x) / (100 : Int32)) * (100 : Int32)) - (-x))))) (by rw [e1]; exact TB2.1.1) (State.isArrayOf_alike hZ.alike TB2.1.2.1) TB2.1.2.2 hin2 (TB2.2.2.2 _ hin2) (g := (mkF m 54 #[.val (.int ((-x) / (100 : Int32))), .val (.int 6), .val (.ref bb), .val (.int ((-x) / (100 : Int32))), .val (.int ((((-x) / (100 : Int32)) * (100 : Int32)) - (-x))), .val (.int 5), .val (.int 0)] [(.int ((((-x) / (100 : Int32)) * (100 : Int32)) - (-x))), (.ref dO), (.int 5), (.ref bb)])) rfl rfl (hb hby own_d20_54) _ kq) ?_
  obtain ⟨kk3, vs3, ⟨cl3, Ar3, q3, S3, P3, H3, G3⟩, hl3⟩ := id R_b
  have hin3 : ¬ ((5 : Int32) < 0 ∨ cl3.slots.size ≤ ((5 : Int32)).toNatClampNeg) := inb_of S3 ⟨by decide, by decide⟩
  obtain ⟨T4, h4, X4, e4, W4, st4⟩ := stB X1 hx hZ e1 Ar3 (j := (5 : Int32)) hin3 (g := (mkF m 55 #[.val (.int ((-x) / (100 : Int32))), .val (.int 6), .val (.ref bb), .val (.int ((-x) / (100 : Int32))), .val (.int ((((-x) / (100 : Int32)) * (100 : Int32)) - (-x))), .val (.int 5), .val (.int 0)] [(.int (atv cO ((((-x) / (100 : Int32)) * (100 : Int32)) - (-x)))), (.int 5), (.ref bb)])) rfl rfl (hb hby own_d20_55)
  have R4 := own_By.put Ar3 q3 S3 P3 H3 G3 hl3 hin3 (fits_nar_byte _) W4
  have N4 := Fr.snoc X4 N0 g_b
  refine own_by (g' := (mkF m 56 #[.val (.int ((-x) / (100 : Int32))), .val (.int 6), .val (.ref bb), .val (.int ((-x) / (100 : Int32))), .val (.int ((((-x) / (100 : Int32)) * (100 : Int32)) - (-x))), .val (.int 5), .val (.int 0)] [])) st4 ?_
  refine own_g (mkF m 62 #[.val (.int ((-x) / (100 : Int32))), .val (.int 6), .val (.ref bb), .val (.int ((-x) / (100 : Int32))), .val (.int ((((-x) / (100 : Int32)) * (100 : Int32)) - (-x))), .val (.int 4), .val (.int 0)] [(.int 4), (.ref bb)]) (fun _ q => XS.aloadN X4.here hx rfl (hb hby own_d20_56) rfl rfl (XS.iinc X4.here hx rfl (hb hby own_d20_57) rfl (l' := #[.val (.int ((-x) / (100 : Int32))), .val (.int 6), .val (.ref bb), .val (.int ((-x) / (100 : Int32))), .val (.int ((((-x) / (100 : Int32)) * (100 : Int32)) - (-x))), .val (.int 4), .val (.int 0)]) rfl (XS.iload X4.here hx rfl (hb hby own_d20_60) rfl q))) ?_
  have o5_ := (O0.wr W4 g_b)
  obtain ⟨T6, X6, e6, st6⟩ := getS2 X4 hx hZ hown (host := "") (Or.inl (own_h hw 221 rfl)) Via.refl e4 (Sta.ext o5_.2 Cq.2.2.2.1) (g := (mkF m 62 #[.val (.int ((-x) / (100 : Int32))), .val (.int 6), .val (.ref bb), .val (.int ((-x) / (100 : Int32))), .val (.int ((((-x) / (100 : Int32)) * (100 : Int32)) - (-x))), .val (.int 4), .val (.int 0)] [(.int 4), (.ref bb)])) rfl (hb hby own_d20_62)
  refine own_by (g' := (mkF m 65 #[.val (.int ((-x) / (100 : Int32))), .val (.int 6), .val (.ref bb), .val (.int ((-x) / (100 : Int32))), .val (.int ((((-x) / (100 : Int32)) * (100 : Int32)) - (-x))), .val (.int 4), .val (.int 0)] [(.ref dT), (.int 4), (.ref bb)])) st6 ?_
  refine own_g (mkF m 67 #[.val (.int ((-x) / (100 : Int32))), .val (.int 6), .val (.ref bb), .val (.int ((-x) / (100 : Int32))), .val (.int ((((-x) / (100 : Int32)) * (100 : Int32)) - (-x))), .val (.int 4), .val (.int 0)] [(.int ((((-x) / (100 : Int32)) * (100 : Int32)) - (-x))), (.ref dT), (.int 4), (.ref bb)]) (fun _ q => XS.iload X6.here hx rfl (hb hby own_d20_65) rfl q) ?_
  have TB7 := Tab.ext Cq.2.2.2.2.2.1 o5_.2
  have hin7 := inb_of TB7.2.1 ir0
  refine own_by (g' := (mkF m 68 #[.val (.int ((-x) / (100 : Int32))), .val (.int 6), .val (.ref bb), .val (.int ((-x) / (100 : Int32))), .val (.int ((((-x) / (100 : Int32)) * (100 : Int32)) - (-x))), .val (.int 4), .val (.int 0)] [(.int (atv cT ((((-x) / (100 : Int32)) * (100 : Int32)) - (-x)))), (.int 4), (.ref bb)])) (fun _ kq => X6.baloadBytes hx (j := ((((-x) / (100 : Int32)) * (100 : Int32)) - (-x))) (v := (.int (atv cT ((((-x) / (100 : Int32)) * (100 : Int32)) - (-x))))) (by rw [e6]; exact TB7.1.1) (State.isArrayOf_alike hZ.alike TB7.1.2.1) TB7.1.2.2 hin7 (TB7.2.2.2 _ hin7) (g := (mkF m 67 #[.val (.int ((-x) / (100 : Int32))), .val (.int 6), .val (.ref bb), .val (.int ((-x) / (100 : Int32))), .val (.int ((((-x) / (100 : Int32)) * (100 : Int32)) - (-x))), .val (.int 4), .val (.int 0)] [(.int ((((-x) / (100 : Int32)) * (100 : Int32)) - (-x))), (.ref dT), (.int 4), (.ref bb)])) rfl rfl (hb hby own_d20_67) _ kq) ?_
  obtain ⟨kk8, vs8, ⟨cl8, Ar8, q8, S8, P8, H8, G8⟩, hl8⟩ := id R4
  have hin8 : ¬ ((4 : Int32) < 0 ∨ cl8.slots.size ≤ ((4 : Int32)).toNatClampNeg) := inb_of S8 ⟨by decide, by decide⟩
  obtain ⟨T9, h9, X9, e9, W9, st9⟩ := stB X6 hx hZ e6 Ar8 (j := (4 : Int32)) hin8 (g := (mkF m 68 #[.val (.int ((-x) / (100 : Int32))), .val (.int 6), .val (.ref bb), .val (.int ((-x) / (100 : Int32))), .val (.int ((((-x) / (100 : Int32)) * (100 : Int32)) - (-x))), .val (.int 4), .val (.int 0)] [(.int (atv cT ((((-x) / (100 : Int32)) * (100 : Int32)) - (-x)))), (.int 4), (.ref bb)])) rfl rfl (hb hby own_d20_68)
  have R9 := own_By.put Ar8 q8 S8 P8 H8 G8 hl8 hin8 (fits_nar_byte _) W9
  have N9 := Fr.snoc X9 N4 g_b
  refine own_by (g' := (mkF m 69 #[.val (.int ((-x) / (100 : Int32))), .val (.int 6), .val (.ref bb), .val (.int ((-x) / (100 : Int32))), .val (.int ((((-x) / (100 : Int32)) * (100 : Int32)) - (-x))), .val (.int 4), .val (.int 0)] [])) st9 ?_
  refine own_g (mkF m 33 #[.val (.int ((-x) / (100 : Int32))), .val (.int 6), .val (.ref bb), .val (.int (((-x) / (100 : Int32)) / (100 : Int32))), .val (.int ((((-x) / (100 : Int32)) * (100 : Int32)) - (-x))), .val (.int 4), .val (.int 0)] []) (fun _ q => XS.goto X9.here hx rfl (pc0 := 69) (pc' := 22) rfl (hb hby own_d20_69) (by decide) (by decide) (XS.iloadN X9.here hx rfl (hb hby own_d20_22) rfl (XS.bipush X9.here hx rfl (hb hby own_d20_23) (XS.icmpNo X9.here hx rfl (hb hby own_d20_25) rfl (flt hlp1).2.2.1 (XS.iloadN X9.here hx rfl (hb hby own_d20_28) rfl (XS.bipush X9.here hx rfl (hb hby own_d20_29) (XS.idiv X9.here hx rfl (hb hby own_d20_31) rfl (by decide) (XS.istoreN X9.here hx rfl (hb hby own_d20_32) rfl (l' := #[.val (.int ((-x) / (100 : Int32))), .val (.int 6), .val (.ref bb), .val (.int (((-x) / (100 : Int32)) / (100 : Int32))), .val (.int ((((-x) / (100 : Int32)) * (100 : Int32)) - (-x))), .val (.int 4), .val (.int 0)]) rfl q)))))))) ?_
  refine own_g (mkF m 43 #[.val (.int (((-x) / (100 : Int32)) / (100 : Int32))), .val (.int 6), .val (.ref bb), .val (.int (((-x) / (100 : Int32)) / (100 : Int32))), .val (.int (((((-x) / (100 : Int32)) / (100 : Int32)) * (100 : Int32)) - ((-x) / (100 : Int32)))), .val (.int 4), .val (.int 0)] []) (fun _ q => XS.iloadN X9.here hx rfl (hb hby own_d20_33) rfl (XS.bipush X9.here hx rfl (hb hby own_d20_34) (XS.imul X9.here hx rfl (hb hby own_d20_36) rfl (XS.iloadN X9.here hx rfl (hb hby own_d20_37) rfl (XS.isub X9.here hx rfl (hb hby own_d20_38) rfl (XS.istore X9.here hx rfl (hb hby own_d20_39) rfl (l' := #[.val (.int ((-x) / (100 : Int32))), .val (.int 6), .val (.ref bb), .val (.int (((-x) / (100 : Int32)) / (100 : Int32))), .val (.int (((((-x) / (100 : Int32)) / (100 : Int32)) * (100 : Int32)) - ((-x) / (100 : Int32)))), .val (.int 4), .val (.int 0)]) rfl (XS.iloadN X9.here hx rfl (hb hby own_d20_41) rfl (XS.istoreN X9.here hx rfl (hb hby own_d20_42) rfl (l' := #[.val (.int (((-x) / (100 : Int32)) / (100 : Int32))), .val (.int 6), .val (.ref bb), .val (.int (((-x) / (100 : Int32)) / (100 : Int32))), .val (.int (((((-x) / (100 : Int32)) / (100 : Int32)) * (100 : Int32)) - ((-x) / (100 : Int32)))), .val (.int 4), .val (.int 0)]) rfl q)))))))) ?_
  refine own_g (mkF m 49 #[.val (.int (((-x) / (100 : Int32)) / (100 : Int32))), .val (.int 6), .val (.ref bb), .val (.int (((-x) / (100 : Int32)) / (100 : Int32))), .val (.int (((((-x) / (100 : Int32)) / (100 : Int32)) * (100 : Int32)) - ((-x) / (100 : Int32)))), .val (.int 3), .val (.int 0)] [(.int 3), (.ref bb)]) (fun _ q => XS.aloadN X9.here hx rfl (hb hby own_d20_43) rfl rfl (XS.iinc X9.here hx rfl (hb hby own_d20_44) rfl (l' := #[.val (.int (((-x) / (100 : Int32)) / (100 : Int32))), .val (.int 6), .val (.ref bb), .val (.int (((-x) / (100 : Int32)) / (100 : Int32))), .val (.int (((((-x) / (100 : Int32)) / (100 : Int32)) * (100 : Int32)) - ((-x) / (100 : Int32)))), .val (.int 3), .val (.int 0)]) rfl (XS.iload X9.here hx rfl (hb hby own_d20_47) rfl q))) ?_
  have o10_ := (o5_.wr W9 g_b)
  obtain ⟨T11, X11, e11, st11⟩ := getS2 X9 hx hZ hown (host := "") (Or.inl (own_h hw 125 rfl)) Via.refl e9 (Sta.ext o10_.2 Cq.2.2.1) (g := (mkF m 49 #[.val (.int (((-x) / (100 : Int32)) / (100 : Int32))), .val (.int 6), .val (.ref bb), .val (.int (((-x) / (100 : Int32)) / (100 : Int32))), .val (.int (((((-x) / (100 : Int32)) / (100 : Int32)) * (100 : Int32)) - ((-x) / (100 : Int32)))), .val (.int 3), .val (.int 0)] [(.int 3), (.ref bb)])) rfl (hb hby own_d20_49)
  refine own_by (g' := (mkF m 52 #[.val (.int (((-x) / (100 : Int32)) / (100 : Int32))), .val (.int 6), .val (.ref bb), .val (.int (((-x) / (100 : Int32)) / (100 : Int32))), .val (.int (((((-x) / (100 : Int32)) / (100 : Int32)) * (100 : Int32)) - ((-x) / (100 : Int32)))), .val (.int 3), .val (.int 0)] [(.ref dO), (.int 3), (.ref bb)])) st11 ?_
  refine own_g (mkF m 54 #[.val (.int (((-x) / (100 : Int32)) / (100 : Int32))), .val (.int 6), .val (.ref bb), .val (.int (((-x) / (100 : Int32)) / (100 : Int32))), .val (.int (((((-x) / (100 : Int32)) / (100 : Int32)) * (100 : Int32)) - ((-x) / (100 : Int32)))), .val (.int 3), .val (.int 0)] [(.int (((((-x) / (100 : Int32)) / (100 : Int32)) * (100 : Int32)) - ((-x) / (100 : Int32)))), (.ref dO), (.int 3), (.ref bb)]) (fun _ q => XS.iload X11.here hx rfl (hb hby own_d20_52) rfl q) ?_
  have TB12 := Tab.ext Cq.2.2.2.2.1 o10_.2
  have hin12 := inb_of TB12.2.1 ir1
  refine own_by (g' := (mkF m 55 #[.val (.int (((-x) / (100 : Int32)) / (100 : Int32))), .val (.int 6), .val (.ref bb), .val (.int (((-x) / (100 : Int32)) / (100 : Int32))), .val (.int (((((-x) / (100 : Int32)) / (100 : Int32)) * (100 : Int32)) - ((-x) / (100 : Int32)))), .val (.int 3), .val (.int 0)] [(.int (atv cO (((((-x) / (100 : Int32)) / (100 : Int32)) * (100 : Int32)) - ((-x) / (100 : Int32))))), (.int 3), (.ref bb)])) (fun _ kq => X11.baloadBytes hx (j := (((((-x) / (100 : Int32)) / (100 : Int32)) * (100 : Int32)) - ((-x) / (100 : Int32)))) (v := (.int (atv cO (((((-x) / (100 : Int32)) / (100 : Int32)) * (100 : Int32)) - ((-x) / (100 : Int32)))))) (by rw [e11]; exact TB12.1.1) (State.isArrayOf_alike hZ.alike TB12.1.2.1) TB12.1.2.2 hin12 (TB12.2.2.2 _ hin12) (g := (mkF m 54 #[.val (.int (((-x) / (100 : Int32)) / (100 : Int32))), .val (.int 6), .val (.ref bb), .val (.int (((-x) / (100 : Int32)) / (100 : Int32))), .val (.int (((((-x) / (100 : Int32)) / (100 : Int32)) * (100 : Int32)) - ((-x) / (100 : Int32)))), .val (.int 3), .val (.int 0)] [(.int (((((-x) / (100 : Int32)) / (100 : Int32)) * (100 : Int32)) - ((-x) / (100 : Int32)))), (.ref dO), (.int 3), (.ref bb)])) rfl rfl (hb hby own_d20_54) _ kq) ?_
  obtain ⟨kk13, vs13, ⟨cl13, Ar13, q13, S13, P13, H13, G13⟩, hl13⟩ := id R9
  have hin13 : ¬ ((3 : Int32) < 0 ∨ cl13.slots.size ≤ ((3 : Int32)).toNatClampNeg) := inb_of S13 ⟨by decide, by decide⟩
  obtain ⟨T14, h14, X14, e14, W14, st14⟩ := stB X11 hx hZ e11 Ar13 (j := (3 : Int32)) hin13 (g := (mkF m 55 #[.val (.int (((-x) / (100 : Int32)) / (100 : Int32))), .val (.int 6), .val (.ref bb), .val (.int (((-x) / (100 : Int32)) / (100 : Int32))), .val (.int (((((-x) / (100 : Int32)) / (100 : Int32)) * (100 : Int32)) - ((-x) / (100 : Int32)))), .val (.int 3), .val (.int 0)] [(.int (atv cO (((((-x) / (100 : Int32)) / (100 : Int32)) * (100 : Int32)) - ((-x) / (100 : Int32))))), (.int 3), (.ref bb)])) rfl rfl (hb hby own_d20_55)
  have R14 := own_By.put Ar13 q13 S13 P13 H13 G13 hl13 hin13 (fits_nar_byte _) W14
  have N14 := Fr.snoc X14 N9 g_b
  refine own_by (g' := (mkF m 56 #[.val (.int (((-x) / (100 : Int32)) / (100 : Int32))), .val (.int 6), .val (.ref bb), .val (.int (((-x) / (100 : Int32)) / (100 : Int32))), .val (.int (((((-x) / (100 : Int32)) / (100 : Int32)) * (100 : Int32)) - ((-x) / (100 : Int32)))), .val (.int 3), .val (.int 0)] [])) st14 ?_
  refine own_g (mkF m 62 #[.val (.int (((-x) / (100 : Int32)) / (100 : Int32))), .val (.int 6), .val (.ref bb), .val (.int (((-x) / (100 : Int32)) / (100 : Int32))), .val (.int (((((-x) / (100 : Int32)) / (100 : Int32)) * (100 : Int32)) - ((-x) / (100 : Int32)))), .val (.int 2), .val (.int 0)] [(.int 2), (.ref bb)]) (fun _ q => XS.aloadN X14.here hx rfl (hb hby own_d20_56) rfl rfl (XS.iinc X14.here hx rfl (hb hby own_d20_57) rfl (l' := #[.val (.int (((-x) / (100 : Int32)) / (100 : Int32))), .val (.int 6), .val (.ref bb), .val (.int (((-x) / (100 : Int32)) / (100 : Int32))), .val (.int (((((-x) / (100 : Int32)) / (100 : Int32)) * (100 : Int32)) - ((-x) / (100 : Int32)))), .val (.int 2), .val (.int 0)]) rfl (XS.iload X14.here hx rfl (hb hby own_d20_60) rfl q))) ?_
  have o15_ := (o10_.wr W14 g_b)
  obtain ⟨T16, X16, e16, st16⟩ := getS2 X14 hx hZ hown (host := "") (Or.inl (own_h hw 221 rfl)) Via.refl e14 (Sta.ext o15_.2 Cq.2.2.2.1) (g := (mkF m 62 #[.val (.int (((-x) / (100 : Int32)) / (100 : Int32))), .val (.int 6), .val (.ref bb), .val (.int (((-x) / (100 : Int32)) / (100 : Int32))), .val (.int (((((-x) / (100 : Int32)) / (100 : Int32)) * (100 : Int32)) - ((-x) / (100 : Int32)))), .val (.int 2), .val (.int 0)] [(.int 2), (.ref bb)])) rfl (hb hby own_d20_62)
  refine own_by (g' := (mkF m 65 #[.val (.int (((-x) / (100 : Int32)) / (100 : Int32))), .val (.int 6), .val (.ref bb), .val (.int (((-x) / (100 : Int32)) / (100 : Int32))), .val (.int (((((-x) / (100 : Int32)) / (100 : Int32)) * (100 : Int32)) - ((-x) / (100 : Int32)))), .val (.int 2), .val (.int 0)] [(.ref dT), (.int 2), (.ref bb)])) st16 ?_
  refine own_g (mkF m 67 #[.val (.int (((-x) / (100 : Int32)) / (100 : Int32))), .val (.int 6), .val (.ref bb), .val (.int (((-x) / (100 : Int32)) / (100 : Int32))), .val (.int (((((-x) / (100 : Int32)) / (100 : Int32)) * (100 : Int32)) - ((-x) / (100 : Int32)))), .val (.int 2), .val (.int 0)] [(.int (((((-x) / (100 : Int32)) / (100 : Int32)) * (100 : Int32)) - ((-x) / (100 : Int32)))), (.ref dT), (.int 2), (.ref bb)]) (fun _ q => XS.iload X16.here hx rfl (hb hby own_d20_65) rfl q) ?_
  have TB17 := Tab.ext Cq.2.2.2.2.2.1 o15_.2
  have hin17 := inb_of TB17.2.1 ir1
  refine own_by (g' := (mkF m 68 #[.val (.int (((-x) / (100 : Int32)) / (100 : Int32))), .val (.int 6), .val (.ref bb), .val (.int (((-x) / (100 : Int32)) / (100 : Int32))), .val (.int (((((-x) / (100 : Int32)) / (100 : Int32)) * (100 : Int32)) - ((-x) / (100 : Int32)))), .val (.int 2), .val (.int 0)] [(.int (atv cT (((((-x) / (100 : Int32)) / (100 : Int32)) * (100 : Int32)) - ((-x) / (100 : Int32))))), (.int 2), (.ref bb)])) (fun _ kq => X16.baloadBytes hx (j := (((((-x) / (100 : Int32)) / (100 : Int32)) * (100 : Int32)) - ((-x) / (100 : Int32)))) (v := (.int (atv cT (((((-x) / (100 : Int32)) / (100 : Int32)) * (100 : Int32)) - ((-x) / (100 : Int32)))))) (by rw [e16]; exact TB17.1.1) (State.isArrayOf_alike hZ.alike TB17.1.2.1) TB17.1.2.2 hin17 (TB17.2.2.2 _ hin17) (g := (mkF m 67 #[.val (.int (((-x) / (100 : Int32)) / (100 : Int32))), .val (.int 6), .val (.ref bb), .val (.int (((-x) / (100 : Int32)) / (100 : Int32))), .val (.int (((((-x) / (100 : Int32)) / (100 : Int32)) * (100 : Int32)) - ((-x) / (100 : Int32)))), .val (.int 2), .val (.int 0)] [(.int (((((-x) / (100 : Int32)) / (100 : Int32)) * (100 : Int32)) - ((-x) / (100 : Int32)))), (.ref dT), (.int 2), (.ref bb)])) rfl rfl (hb hby own_d20_67) _ kq) ?_
  obtain ⟨kk18, vs18, ⟨cl18, Ar18, q18, S18, P18, H18, G18⟩, hl18⟩ := id R14
  have hin18 : ¬ ((2 : Int32) < 0 ∨ cl18.slots.size ≤ ((2 : Int32)).toNatClampNeg) := inb_of S18 ⟨by decide, by decide⟩
  obtain ⟨T19, h19, X19, e19, W19, st19⟩ := stB X16 hx hZ e16 Ar18 (j := (2 : Int32)) hin18 (g := (mkF m 68 #[.val (.int (((-x) / (100 : Int32)) / (100 : Int32))), .val (.int 6), .val (.ref bb), .val (.int (((-x) / (100 : Int32)) / (100 : Int32))), .val (.int (((((-x) / (100 : Int32)) / (100 : Int32)) * (100 : Int32)) - ((-x) / (100 : Int32)))), .val (.int 2), .val (.int 0)] [(.int (atv cT (((((-x) / (100 : Int32)) / (100 : Int32)) * (100 : Int32)) - ((-x) / (100 : Int32))))), (.int 2), (.ref bb)])) rfl rfl (hb hby own_d20_68)
  have R19 := own_By.put Ar18 q18 S18 P18 H18 G18 hl18 hin18 (fits_nar_byte _) W19
  have N19 := Fr.snoc X19 N14 g_b
  refine own_by (g' := (mkF m 69 #[.val (.int (((-x) / (100 : Int32)) / (100 : Int32))), .val (.int 6), .val (.ref bb), .val (.int (((-x) / (100 : Int32)) / (100 : Int32))), .val (.int (((((-x) / (100 : Int32)) / (100 : Int32)) * (100 : Int32)) - ((-x) / (100 : Int32)))), .val (.int 2), .val (.int 0)] [])) st19 ?_
  refine own_g (mkF m 78 #[.val (.int (((-x) / (100 : Int32)) / (100 : Int32))), .val (.int 6), .val (.ref bb), .val (.int (((-x) / (100 : Int32)) / (100 : Int32))), .val (.int (((((-x) / (100 : Int32)) / (100 : Int32)) * (100 : Int32)) - ((-x) / (100 : Int32)))), .val (.int 1), .val (.int 0)] [(.int 1), (.ref bb)]) (fun _ q => XS.goto X19.here hx rfl (pc0 := 69) (pc' := 22) rfl (hb hby own_d20_69) (by decide) (by decide) (XS.iloadN X19.here hx rfl (hb hby own_d20_22) rfl (XS.bipush X19.here hx rfl (hb hby own_d20_23) (XS.icmpYes X19.here hx rfl (pc0 := 25) (pc' := 72) rfl (hb hby own_d20_25) rfl (tlt hlp2).2.2.1 (by decide) (by decide) (XS.aloadN X19.here hx rfl (hb hby own_d20_72) rfl rfl (XS.iinc X19.here hx rfl (hb hby own_d20_73) rfl (l' := #[.val (.int (((-x) / (100 : Int32)) / (100 : Int32))), .val (.int 6), .val (.ref bb), .val (.int (((-x) / (100 : Int32)) / (100 : Int32))), .val (.int (((((-x) / (100 : Int32)) / (100 : Int32)) * (100 : Int32)) - ((-x) / (100 : Int32)))), .val (.int 1), .val (.int 0)]) rfl (XS.iload X19.here hx rfl (hb hby own_d20_76) rfl q))))))) ?_
  have o20_ := (o15_.wr W19 g_b)
  obtain ⟨T21, X21, e21, st21⟩ := getS2 X19 hx hZ hown (host := "") (Or.inl (own_h hw 125 rfl)) Via.refl e19 (Sta.ext o20_.2 Cq.2.2.1) (g := (mkF m 78 #[.val (.int (((-x) / (100 : Int32)) / (100 : Int32))), .val (.int 6), .val (.ref bb), .val (.int (((-x) / (100 : Int32)) / (100 : Int32))), .val (.int (((((-x) / (100 : Int32)) / (100 : Int32)) * (100 : Int32)) - ((-x) / (100 : Int32)))), .val (.int 1), .val (.int 0)] [(.int 1), (.ref bb)])) rfl (hb hby own_d20_78)
  refine own_by (g' := (mkF m 81 #[.val (.int (((-x) / (100 : Int32)) / (100 : Int32))), .val (.int 6), .val (.ref bb), .val (.int (((-x) / (100 : Int32)) / (100 : Int32))), .val (.int (((((-x) / (100 : Int32)) / (100 : Int32)) * (100 : Int32)) - ((-x) / (100 : Int32)))), .val (.int 1), .val (.int 0)] [(.ref dO), (.int 1), (.ref bb)])) st21 ?_
  refine own_g (mkF m 83 #[.val (.int (((-x) / (100 : Int32)) / (100 : Int32))), .val (.int 6), .val (.ref bb), .val (.int (((-x) / (100 : Int32)) / (100 : Int32))), .val (.int (((((-x) / (100 : Int32)) / (100 : Int32)) * (100 : Int32)) - ((-x) / (100 : Int32)))), .val (.int 1), .val (.int 0)] [(.int (-(((-x) / (100 : Int32)) / (100 : Int32)))), (.ref dO), (.int 1), (.ref bb)]) (fun _ q => XS.iloadN X21.here hx rfl (hb hby own_d20_81) rfl (XS.ineg X21.here hx rfl (hb hby own_d20_82) rfl q)) ?_
  have TB22 := Tab.ext Cq.2.2.2.2.1 o20_.2
  have hin22 := inb_of TB22.2.1 il
  refine own_by (g' := (mkF m 84 #[.val (.int (((-x) / (100 : Int32)) / (100 : Int32))), .val (.int 6), .val (.ref bb), .val (.int (((-x) / (100 : Int32)) / (100 : Int32))), .val (.int (((((-x) / (100 : Int32)) / (100 : Int32)) * (100 : Int32)) - ((-x) / (100 : Int32)))), .val (.int 1), .val (.int 0)] [(.int (atv cO (-(((-x) / (100 : Int32)) / (100 : Int32))))), (.int 1), (.ref bb)])) (fun _ kq => X21.baloadBytes hx (j := (-(((-x) / (100 : Int32)) / (100 : Int32)))) (v := (.int (atv cO (-(((-x) / (100 : Int32)) / (100 : Int32)))))) (by rw [e21]; exact TB22.1.1) (State.isArrayOf_alike hZ.alike TB22.1.2.1) TB22.1.2.2 hin22 (TB22.2.2.2 _ hin22) (g := (mkF m 83 #[.val (.int (((-x) / (100 : Int32)) / (100 : Int32))), .val (.int 6), .val (.ref bb), .val (.int (((-x) / (100 : Int32)) / (100 : Int32))), .val (.int (((((-x) / (100 : Int32)) / (100 : Int32)) * (100 : Int32)) - ((-x) / (100 : Int32)))), .val (.int 1), .val (.int 0)] [(.int (-(((-x) / (100 : Int32)) / (100 : Int32)))), (.ref dO), (.int 1), (.ref bb)])) rfl rfl (hb hby own_d20_83) _ kq) ?_
  obtain ⟨kk23, vs23, ⟨cl23, Ar23, q23, S23, P23, H23, G23⟩, hl23⟩ := id R19
  have hin23 : ¬ ((1 : Int32) < 0 ∨ cl23.slots.size ≤ ((1 : Int32)).toNatClampNeg) := inb_of S23 ⟨by decide, by decide⟩
  obtain ⟨T24, h24, X24, e24, W24, st24⟩ := stB X21 hx hZ e21 Ar23 (j := (1 : Int32)) hin23 (g := (mkF m 84 #[.val (.int (((-x) / (100 : Int32)) / (100 : Int32))), .val (.int 6), .val (.ref bb), .val (.int (((-x) / (100 : Int32)) / (100 : Int32))), .val (.int (((((-x) / (100 : Int32)) / (100 : Int32)) * (100 : Int32)) - ((-x) / (100 : Int32)))), .val (.int 1), .val (.int 0)] [(.int (atv cO (-(((-x) / (100 : Int32)) / (100 : Int32))))), (.int 1), (.ref bb)])) rfl rfl (hb hby own_d20_84)
  have R24 := own_By.put Ar23 q23 S23 P23 H23 G23 hl23 hin23 (fits_nar_byte _) W24
  have N24 := Fr.snoc X24 N19 g_b
  refine own_by (g' := (mkF m 85 #[.val (.int (((-x) / (100 : Int32)) / (100 : Int32))), .val (.int 6), .val (.ref bb), .val (.int (((-x) / (100 : Int32)) / (100 : Int32))), .val (.int (((((-x) / (100 : Int32)) / (100 : Int32)) * (100 : Int32)) - ((-x) / (100 : Int32)))), .val (.int 1), .val (.int 0)] [])) st24 ?_
  refine own_g (mkF m 97 #[.val (.int (((-x) / (100 : Int32)) / (100 : Int32))), .val (.int 6), .val (.ref bb), .val (.int (((-x) / (100 : Int32)) / (100 : Int32))), .val (.int (((((-x) / (100 : Int32)) / (100 : Int32)) * (100 : Int32)) - ((-x) / (100 : Int32)))), .val (.int 0), .val (.int 0)] [(.int 0), (.ref bb)]) (fun _ q => XS.iloadN X24.here hx rfl (hb hby own_d20_85) rfl (XS.bipush X24.here hx rfl (hb hby own_d20_86) (XS.icmpNo X24.here hx rfl (hb hby own_d20_88) rfl (tlt hn9).2.1 (XS.aloadN X24.here hx rfl (hb hby own_d20_91) rfl rfl (XS.iinc X24.here hx rfl (hb hby own_d20_92) rfl (l' := #[.val (.int (((-x) / (100 : Int32)) / (100 : Int32))), .val (.int 6), .val (.ref bb), .val (.int (((-x) / (100 : Int32)) / (100 : Int32))), .val (.int (((((-x) / (100 : Int32)) / (100 : Int32)) * (100 : Int32)) - ((-x) / (100 : Int32)))), .val (.int 0), .val (.int 0)]) rfl (XS.iload X24.here hx rfl (hb hby own_d20_95) rfl q)))))) ?_
  have o25_ := (o20_.wr W24 g_b)
  obtain ⟨T26, X26, e26, st26⟩ := getS2 X24 hx hZ hown (host := "") (Or.inl (own_h hw 221 rfl)) Via.refl e24 (Sta.ext o25_.2 Cq.2.2.2.1) (g := (mkF m 97 #[.val (.int (((-x) / (100 : Int32)) / (100 : Int32))), .val (.int 6), .val (.ref bb), .val (.int (((-x) / (100 : Int32)) / (100 : Int32))), .val (.int (((((-x) / (100 : Int32)) / (100 : Int32)) * (100 : Int32)) - ((-x) / (100 : Int32)))), .val (.int 0), .val (.int 0)] [(.int 0), (.ref bb)])) rfl (hb hby own_d20_97)
  refine own_by (g' := (mkF m 100 #[.val (.int (((-x) / (100 : Int32)) / (100 : Int32))), .val (.int 6), .val (.ref bb), .val (.int (((-x) / (100 : Int32)) / (100 : Int32))), .val (.int (((((-x) / (100 : Int32)) / (100 : Int32)) * (100 : Int32)) - ((-x) / (100 : Int32)))), .val (.int 0), .val (.int 0)] [(.ref dT), (.int 0), (.ref bb)])) st26 ?_
  refine own_g (mkF m 102 #[.val (.int (((-x) / (100 : Int32)) / (100 : Int32))), .val (.int 6), .val (.ref bb), .val (.int (((-x) / (100 : Int32)) / (100 : Int32))), .val (.int (((((-x) / (100 : Int32)) / (100 : Int32)) * (100 : Int32)) - ((-x) / (100 : Int32)))), .val (.int 0), .val (.int 0)] [(.int (-(((-x) / (100 : Int32)) / (100 : Int32)))), (.ref dT), (.int 0), (.ref bb)]) (fun _ q => XS.iloadN X26.here hx rfl (hb hby own_d20_100) rfl (XS.ineg X26.here hx rfl (hb hby own_d20_101) rfl q)) ?_
  have TB27 := Tab.ext Cq.2.2.2.2.2.1 o25_.2
  have hin27 := inb_of TB27.2.1 il
  refine own_by (g' := (mkF m 103 #[.val (.int (((-x) / (100 : Int32)) / (100 : Int32))), .val (.int 6), .val (.ref bb), .val (.int (((-x) / (100 : Int32)) / (100 : Int32))), .val (.int (((((-x) / (100 : Int32)) / (100 : Int32)) * (100 : Int32)) - ((-x) / (100 : Int32)))), .val (.int 0), .val (.int 0)] [(.int (atv cT (-(((-x) / (100 : Int32)) / (100 : Int32))))), (.int 0), (.ref bb)])) (fun _ kq => X26.baloadBytes hx (j := (-(((-x) / (100 : Int32)) / (100 : Int32)))) (v := (.int (atv cT (-(((-x) / (100 : Int32)) / (100 : Int32)))))) (by rw [e26]; exact TB27.1.1) (State.isArrayOf_alike hZ.alike TB27.1.2.1) TB27.1.2.2 hin27 (TB27.2.2.2 _ hin27) (g := (mkF m 102 #[.val (.int (((-x) / (100 : Int32)) / (100 : Int32))), .val (.int 6), .val (.ref bb), .val (.int (((-x) / (100 : Int32)) / (100 : Int32))), .val (.int (((((-x) / (100 : Int32)) / (100 : Int32)) * (100 : Int32)) - ((-x) / (100 : Int32)))), .val (.int 0), .val (.int 0)] [(.int (-(((-x) / (100 : Int32)) / (100 : Int32)))), (.ref dT), (.int 0), (.ref bb)])) rfl rfl (hb hby own_d20_102) _ kq) ?_
  obtain ⟨kk28, vs28, ⟨cl28, Ar28, q28, S28, P28, H28, G28⟩, hl28⟩ := id R24
  have hin28 : ¬ ((0 : Int32) < 0 ∨ cl28.slots.size ≤ ((0 : Int32)).toNatClampNeg) := inb_of S28 ⟨by decide, by decide⟩
  obtain ⟨T29, h29, X29, e29, W29, st29⟩ := stB X26 hx hZ e26 Ar28 (j := (0 : Int32)) hin28 (g := (mkF m 103 #[.val (.int (((-x) / (100 : Int32)) / (100 : Int32))), .val (.int 6), .val (.ref bb), .val (.int (((-x) / (100 : Int32)) / (100 : Int32))), .val (.int (((((-x) / (100 : Int32)) / (100 : Int32)) * (100 : Int32)) - ((-x) / (100 : Int32)))), .val (.int 0), .val (.int 0)] [(.int (atv cT (-(((-x) / (100 : Int32)) / (100 : Int32))))), (.int 0), (.ref bb)])) rfl rfl (hb hby own_d20_103)
  have R29 := own_By.put Ar28 q28 S28 P28 H28 G28 hl28 hin28 (fits_nar_byte _) W29
  have N29 := Fr.snoc X29 N24 g_b
  refine own_by (g' := (mkF m 104 #[.val (.int (((-x) / (100 : Int32)) / (100 : Int32))), .val (.int 6), .val (.ref bb), .val (.int (((-x) / (100 : Int32)) / (100 : Int32))), .val (.int (((((-x) / (100 : Int32)) / (100 : Int32)) * (100 : Int32)) - ((-x) / (100 : Int32)))), .val (.int 0), .val (.int 0)] [])) st29 ?_
  refine own_g (mkF m 120 #[.val (.int (((-x) / (100 : Int32)) / (100 : Int32))), .val (.int 6), .val (.ref bb), .val (.int (((-x) / (100 : Int32)) / (100 : Int32))), .val (.int (((((-x) / (100 : Int32)) / (100 : Int32)) * (100 : Int32)) - ((-x) / (100 : Int32)))), .val (.int 0), .val (.int 0)] [(.int 0)]) (fun _ q => XS.iload X29.here hx rfl (hb hby own_d20_104) rfl (XS.ifYes X29.here hx rfl (pc0 := 106) (pc' := 118) rfl (hb hby own_d20_106) rfl ((if0 _ _).trans (teq (by decide : (0 : Int32) = (0 : Int32))).1) (by decide) (by decide) (XS.iload X29.here hx rfl (hb hby own_d20_118) rfl q))) ?_
  have k30_ := (((((((Keep.refl h0 [bb]).wr W4 (Or.inl (List.mem_of_getElem? (i := 0) rfl))).wr W9 (Or.inl (List.mem_of_getElem? (i := 0) rfl))).wr W14 (Or.inl (List.mem_of_getElem? (i := 0) rfl))).wr W19 (Or.inl (List.mem_of_getElem? (i := 0) rfl))).wr W24 (Or.inl (List.mem_of_getElem? (i := 0) rfl))).wr W29 (Or.inl (List.mem_of_getElem? (i := 0) rfl)))
  exact own_end X29 (v := some (.int 0)) (fun h => by rw [Bd.returns] at h; cases h) hlk (fun hr => retOut X29 hx Bd.returns rfl (Or.inl ⟨rfl, Or.inl rfl, _, rfl⟩) (hb hby own_d20_120) hr) (by rw [e29]; exact ⟨⟨_, rfl⟩, N29, k30_, R29⟩) (by decide) (by decide)
theorem own_is6_ef (m : MethodId) (x : Int32) : entryFrame m #[(.int x)] 3 = mkF m 0 #[.val (.int x), .unset, .unset] [] := by  first | (simp [entryFrame, mkF, argsToLocals, Value.category]; done) | rfl
def own_is6_Q (Z : State) (x : Int32) (zCS : Int32) (dO : Addr) (dT : Addr) (ca : Addr) (cO : Cell) (cT : Cell) (cc : Cell) (h0 : Heap) (n0 : Nat) (v : Option Value) (h : Heap) (L : List Loc) : Prop := ∃ r b : Addr, v = some (.ref r) ∧ Fr n0 L ∧ Keep h0 h [] ∧ h0.size ≤ r ∧ n0 ≤ r ∧ h0.size ≤ b ∧ Exa Z h r "java/lang/String" ∧ Fld Z h r "java/lang/String" "value" "[B" (.ref b) ∧ Fld Z h r "java/lang/String" "coder" "B" (.int 0) ∧ own_By Z h b (6 : Int32)
set_option maxRecDepth 65536 in
set_option maxHeartbeats 40000000 in
theorem own_is6 (l : Launch) (Z : State) (a0 : Array Value) (hw : ∀ d ∈ tables_1, d.before a0 Z = true) (ws : List Jvm.Cond) (x : Int32) (zCS : Int32) (dO : Addr) (dT : Addr) (ca : Addr) (cO : Cell) (cT : Cell) (cc : Cell) (h0 : Heap) (n0 : Nat) (Z0 : n0 ≤ h0.size) (Cq : own_C Z zCS dO dT ca cO cT cc) (O0 : Old Z n0 h0) (hbd : 100000 ≤ x.toInt ∧ x.toInt < 1000000) :
    MetFree l own_y18 (head1 (Jvm.Cond.code own_y18 jdk_33_method_10_code 3 (some (.object "java/lang/String")) :: ws) (⟨2, 2, 10, 27⟩ : Room)) (fun aa U => aa = #[(.int x)] ∧ Z.Warmed39 U.vm ∧ U.heap = h0) (fun _ _ _ _ _ => True) (fun _ U o U' => ∃ v L, o = .returned v ∧ own_is6_Q Z x zCS dO dT ca cO cT cc h0 n0 v U'.heap L ∧ FrameEnd U o U' L (⟨2, 2, 10, 27⟩ : Room).cells (⟨2, 2, 10, 27⟩ : Room).slots) := by
  refine MetFree.of_bodySF (plainFor_of_name own_pn_java_lang_Integer) hisR ?_
  intro p e s m args below meth c s₁ Bd hml0 hP hK
  obtain ⟨rfl, hZ, hh⟩ := hP
  have hx := Bd.exec
  have hby := Bd.bytes
  have hml : c.maxLocals = 3 := hml0
  have hown : s.vm.findClass "java/lang/Integer" = some m.cls := findClass_of_methodNamed Bd.named
  have hnm := (name_of_methodNamed Bd.named Bd.method).1
  have hlk := Bd.notSynchronized
  have X0 : Stand p l e (⟨2, 2, 10, 27⟩ : Room) s m #[(.int x)] below meth c s₁ [] 0 0 := Stand.of_body Bd
  have e0 : s₁.heap = h0 := by rw [← hh, Bd.state]; rfl
  have N0 := Fr.nil n0
  refine own_start (Q := own_is6_Q Z x zCS dO dT ca cO cT cc h0 n0) (own_is6_ef m x) ?_
  refine own_g (mkF m 1 #[.val (.int x), .unset, .unset] [(.int x)]) (fun _ q => XS.iloadN X0.here hx rfl (hb hby own_d18_0) rfl q) ?_
  refine own_callS X0 hx hZ (y := own_y16) hown (own_h hw 118 rfl) (own_h hw 119 rfl) (own_h hw 7 rfl) (own_h hw 120 rfl) (by decide) (own_ss6 l Z a0 hw [] x zCS dO dT ca cO cT cc h0 n0 Z0 Cq O0 hbd) (by decide) (by decide) e0 (g := (mkF m 1 #[.val (.int x), .unset, .unset] [(.int x)])) rfl (by rw [hml]; rfl) (argsL := [(.int x)]) (rest := []) (lenOf own_pd__28I_29I rfl) rfl (W := 0) (by show 2 * 0 + _ ≤ _; exact Nat.le_of_eq rfl) (hb hby own_d18_1) rfl (by decide) (by decide) ?_
  rintro rv1 T1 L1 X1 ⟨rfl, Nq1, eh1⟩
  have N1 := Fr.app N0 Nq1
  refine own_g (mkF m 5 #[.val (.int x), .val (.int 6), .unset] []) (fun _ q => XS.istoreN X1.here hx rfl (hb hby own_d18_4) rfl (l' := #[.val (.int x), .val (.int 6), .unset]) rfl q) ?_
  obtain ⟨T2, X2, e2, st2⟩ := getS2 X1 hx hZ hown (host := "") (Or.inl (own_h hw 121 rfl)) Via.refl eh1 (Sta.ext O0.2 Cq.1) (g := (mkF m 5 #[.val (.int x), .val (.int 6), .unset] [])) rfl (hb hby own_d18_5)
  refine own_by (g' := (mkF m 8 #[.val (.int x), .val (.int 6), .unset] [(.int zCS)])) st2 ?_
  refine own_g (mkF m 12 #[.val (.int x), .val (.int 6), .unset] [(.int 6)]) (fun _ q => XS.ifNo X2.here hx rfl (hb hby own_d18_8) rfl ((if0 _ _).trans (feq Cq.2.1).1) (XS.iloadN X2.here hx rfl (hb hby own_d18_11) rfl q)) ?_
  obtain ⟨T3, h3, k3, X3, e3, E3, A3, Ex3, st3⟩ := newPE X2 hx hZ (own_h hw 38 rfl) e2 (g := (mkF m 12 #[.val (.int x), .val (.int 6), .unset] [(.int 6)])) rfl (hb hby own_d18_12) rfl (by decide) (cap := 6) (by decide) (by decide) (by decide) (by decide) (ad := "[B") (by decide)
  obtain ⟨b3, g3⟩ : ∃ z, z = h0.size := ⟨_, rfl⟩
  rw [← g3] at A3 Ex3 st3
  have g_b3 : n0 ≤ b3 := Nat.le_trans Z0 (Nat.le_of_eq g3.symm)
  have sz_b3 : h0.size ≤ b3 := Nat.le_trans (Keep.refl h0 []).1 (Nat.le_of_eq g3.symm)
  have R_b3 := own_By.of (Arv.new A3 (by decide))
  refine own_by (g' := (mkF m 14 #[.val (.int x), .val (.int 6), .unset] [(.ref b3)])) st3 ?_
  refine own_g (mkF m 18 #[.val (.int x), .val (.int 6), .val (.ref b3)] [(.ref b3), (.int 6), (.int x)]) (fun _ q => XS.astoreN X3.here hx rfl (hb hby own_d18_14) rfl rfl (l' := #[.val (.int x), .val (.int 6), .val (.ref b3)]) rfl (XS.iloadN X3.here hx rfl (hb hby own_d18_15) rfl (XS.iloadN X3.here hx rfl (hb hby own_d18_16) rfl (XS.aloadN X3.here hx rfl (hb hby own_d18_17) rfl rfl q)))) ?_
  have k4_ := ((Keep.refl h0 []).ext E3)
  have o5_ := (O0.ext E3)
  refine own_callS X3 hx hZ (y := own_y14) hown (own_h hw 122 rfl) (own_h hw 123 rfl) (own_h hw 7 rfl) (own_h hw 124 rfl) (by decide) (own_gc6 l Z a0 hw [] x b3 zCS dO dT ca cO cT cc h3 n0 (Nat.le_trans Z0 k4_.1) Cq o5_ hbd R_b3 g_b3) (by decide) (by decide) e3 (g := (mkF m 18 #[.val (.int x), .val (.int 6), .val (.ref b3)] [(.ref b3), (.int 6), (.int x)])) rfl (by rw [hml]; rfl) (argsL := [(.int x), (.int 6), (.ref b3)]) (rest := []) (lenOf own_pd__28II_5bB_29I rfl) rfl (W := 0) (by show 2 * 0 + _ ≤ _; exact Nat.le_of_eq rfl) (hb hby own_d18_18) rfl (by decide) (by decide) ?_
  rintro rv6 T6 L6 X6 ⟨⟨rr6, rfl⟩, Nq6, Kq6, Rq6⟩
  have N6 := Fr.app N1 Nq6
  refine own_g (mkF m 22 #[.val (.int x), .val (.int 6), .val (.ref b3)] []) (fun _ q => XS.pop X6.here hx rfl (hb hby own_d18_21) rfl rfl q) ?_
  obtain ⟨T7, h7, X7, e7, E7, A7, D7, U7, st7⟩ := newO X6 hx hZ hown (own_h hw 126 rfl) (own_h hw 44 rfl) (own_h hw 37 rfl) rfl (g := (mkF m 22 #[.val (.int x), .val (.int 6), .val (.ref b3)] [])) rfl (hb hby own_d18_22) (by decide) (by decide)
  obtain ⟨b7, g7⟩ : ∃ z, z = T6.heap.size := ⟨_, rfl⟩
  rw [← g7] at A7 D7 U7 st7
  have k8_ := (k4_.trans Kq6 (allS (Or.inr sz_b3) all0))
  have g_b7 : n0 ≤ b7 := Nat.le_trans (Nat.le_trans Z0 k8_.1) (Nat.le_of_eq g7.symm)
  have sz_b7 : h0.size ≤ b7 := Nat.le_trans k8_.1 (Nat.le_of_eq g7.symm)
  have ne_b3_b7 : b3 ≠ b7 := Nat.ne_of_lt (Nat.lt_of_lt_of_le Rq6.lt (Nat.le_of_eq g7.symm))
  have F_value_b7 : Fld Z h7 b7 "java/lang/String" "value" "[B" .null := D7 (Or.inr (own_h hw 45 rfl)) (ty := (.array .byte)) (by decide)
  have F_coder_b7 : Fld Z h7 b7 "java/lang/String" "coder" "B" (.int 0) := D7 (Or.inr (own_h hw 46 rfl)) (ty := .byte) (by decide)
  refine own_by (g' := (mkF m 25 #[.val (.int x), .val (.int 6), .val (.ref b3)] [(.ref b7)])) st7 ?_
  refine own_g (mkF m 28 #[.val (.int x), .val (.int 6), .val (.ref b3)] [(.int 0), (.ref b3), (.ref b7), (.ref b7)]) (fun _ q => XS.dup X7.here hx rfl (hb hby own_d18_25) rfl rfl (XS.aloadN X7.here hx rfl (hb hby own_d18_26) rfl rfl (XS.iconst X7.here hx rfl (hb hby own_d18_27) q))) ?_
  have k9_ := (k8_.ext E7)
  have o10_ := ((o5_.keep Kq6 (allS g_b3 all0)).ext E7)
  refine own_callI X7 hx hZ (y := own_y27) rfl hown (own_h hw 127 rfl) (own_h hw 128 rfl) (own_h hw 130 rfl) (own_h hw 37 rfl) (by decide) (own_sbb l Z a0 hw [] b7 b3 zCS dO dT ca cO cT cc h7 n0 (Nat.le_trans Z0 k9_.1) Cq o10_ A7 F_value_b7 F_coder_b7 g_b7) (by decide) (by decide) e7 (g := (mkF m 28 #[.val (.int x), .val (.int 6), .val (.ref b3)] [(.int 0), (.ref b3), (.ref b7), (.ref b7)])) rfl (by rw [hml]; rfl) (argsL := [(.ref b3), (.int 0)]) (rest := [(.ref b7)]) (lenOf own_pd__28_5bBB_29V rfl) rfl (W := 1) (by show 2 * 0 + _ ≤ _; exact Nat.le_of_eq rfl) (hb hby own_d18_28) rfl (by decide) (by decide) ?_
  rintro rv11 T11 L11 X11 ⟨rfl, Nq11, Kq11, Fv11, Fc11⟩
  have N11 := Fr.app N6 Nq11
  show own_Fin p e below _ T11 (mkF m 31 #[.val (.int x), .val (.int 6), .val (.ref b3)] [(.ref b7)])
  have k12_ := (k9_.trans Kq11 (allS (Or.inr sz_b7) all0))
  have e13_b7 := (A7.keep Kq11)
  have r14_b3 := ((Rq6.ext E7).keep Kq11 (ninS ne_b3_b7 nin0))
  exact own_end X11 (v := some (.ref b7)) (fun h => by rw [Bd.returns] at h; cases h) hlk (fun hr => retOut X11 hx Bd.returns (own_narR rfl) (Or.inr (Or.inr (Or.inr (Or.inr ⟨rfl, rfl, rfl⟩)))) (hb hby own_d18_31) hr) (⟨b7, b3, rfl, N11, k12_, sz_b7, g_b7, sz_b3, e13_b7, Fv11, Fc11, r14_b3⟩) (by decide) (by decide)
theorem own_d17_0 : decode jdk_33_method_31_code 0 = .ok (.aload_n 0, 1) := by decide +kernel
theorem own_d17_1 : decode jdk_33_method_31_code 1 = .ok (.getfield 205, 3) := by decide +kernel
theorem own_d17_4 : decode jdk_33_method_31_code 4 = .ok (.invokestatic 9, 3) := by decide +kernel
theorem own_pd__28I_29Ljava_2flang_2fString_3b : parseMethodDescriptor "(I)Ljava/lang/String;" = some ⟨[.int], some (.object "java/lang/String")⟩ := by decide +kernel
theorem own_d17_7 : decode jdk_33_method_31_code 7 = .ok (.areturn, 1) := by decide +kernel
theorem own_i0_ef (m : MethodId) (t : Addr) : entryFrame m #[(.ref t)] 1 = mkF m 0 #[.val (.ref t)] [] := by  first | (simp [entryFrame, mkF, argsToLocals, Value.category]; done) | rfl
def own_i0_Q (Z : State) (t : Addr) (x : Int32) (zCS : Int32) (dO : Addr) (dT : Addr) (ca : Addr) (cO : Cell) (cT : Cell) (cc : Cell) (h0 : Heap) (n0 : Nat) (v : Option Value) (h : Heap) (L : List Loc) : Prop := ∃ (r b : Addr) (dz : Int32), own_dz dz ∧ v = some (.ref r) ∧ Fr n0 L ∧ Keep h0 h [] ∧ h0.size ≤ r ∧ n0 ≤ r ∧ h0.size ≤ b ∧ Exa Z h r "java/lang/String" ∧ Fld Z h r "java/lang/String" "value" "[B" (.ref b) ∧ Fld Z h r "java/lang/String" "coder" "B" (.int 0) ∧ own_By Z h b dz
set_option maxRecDepth 65536 in
set_option maxHeartbeats 40000000 in
theorem own_i0 (l : Launch) (Z : State) (a0 : Array Value) (hw : ∀ d ∈ tables_1, d.before a0 Z = true) (ws : List Jvm.Cond) (t : Addr) (x : Int32) (zCS : Int32) (dO : Addr) (dT : Addr) (ca : Addr) (cO : Cell) (cT : Cell) (cc : Cell) (h0 : Heap) (n0 : Nat) (Z0 : n0 ≤ h0.size) (Cq : own_C Z zCS dO dT ca cO cT cc) (O0 : Old Z n0 h0) (E_t : Exa Z h0 t "java/lang/Integer") (V_t : Fld Z h0 t "java/lang/Integer" "value" "I" (.int x)) (hxb : 0 ≤ x.toInt ∧ x.toInt < 1000000) :
    MetFree l (⟨"java/lang/Integer", "toString", "()Ljava/lang/String;"⟩ : MethodName) (head1 (Jvm.Cond.code (⟨"java/lang/Integer", "toString", "()Ljava/lang/String;"⟩ : MethodName) jdk_33_method_31_code 1 (some (.object "java/lang/String")) :: ws) (⟨3, 2, 10, 41⟩ : Room)) (fun aa U => aa = #[(.ref t)] ∧ Z.Warmed39 U.vm ∧ U.heap = h0) (fun _ _ _ _ _ => True) (fun _ U o U' => ∃ v L, o = .returned v ∧ own_i0_Q Z t x zCS dO dT ca cO cT cc h0 n0 v U'.heap L ∧ FrameEnd U o U' L (⟨3, 2, 10, 41⟩ : Room).cells (⟨3, 2, 10, 41⟩ : Room).slots) := by
  refine MetFree.of_bodySF (plainFor_of_name own_pn_java_lang_Integer) hisR ?_
  intro p e s m args below meth c s₁ Bd hml0 hP hK
  obtain ⟨rfl, hZ, hh⟩ := hP
  have hx := Bd.exec
  have hby := Bd.bytes
  have hml : c.maxLocals = 1 := hml0
  have hown : s.vm.findClass "java/lang/Integer" = some m.cls := findClass_of_methodNamed Bd.named
  have hnm := (name_of_methodNamed Bd.named Bd.method).1
  have hlk := Bd.notSynchronized
  have X0 : Stand p l e (⟨3, 2, 10, 41⟩ : Room) s m #[(.ref t)] below meth c s₁ [] 0 0 := Stand.of_body Bd
  have e0 : s₁.heap = h0 := by rw [← hh, Bd.state]; rfl
  have N0 := Fr.nil n0
  refine own_start (Q := own_i0_Q Z t x zCS dO dT ca cO cT cc h0 n0) (own_i0_ef m t) ?_
  refine own_g (mkF m 1 #[.val (.ref t)] [(.ref t)]) (fun _ q => XS.aloadN X0.here hx rfl (hb hby own_d17_0) rfl rfl q) ?_
  obtain ⟨T1, X1, e1, st1⟩ := getF X0 hx hZ hown (host := "") (Or.inl (own_h hw 113 rfl)) Via.refl e0 V_t (g := (mkF m 1 #[.val (.ref t)] [(.ref t)])) rfl rfl (hb hby own_d17_1)
  refine own_by (g' := (mkF m 4 #[.val (.ref t)] [(.int x)])) st1 ?_
  have hd : (0 ≤ x.toInt ∧ x.toInt < 10) ∨ (10 ≤ x.toInt ∧ x.toInt < 100) ∨ (100 ≤ x.toInt ∧ x.toInt < 1000) ∨ (1000 ≤ x.toInt ∧ x.toInt < 10000) ∨ (10000 ≤ x.toInt ∧ x.toInt < 100000) ∨ (100000 ≤ x.toInt ∧ x.toInt < 1000000) := by omega
  rcases hd with hbd | hbd | hbd | hbd | hbd | hbd
  · skip
    refine own_callS X1 hx hZ (y := own_y18) hown (own_h hw 115 rfl) (own_h hw 116 rfl) (own_h hw 7 rfl) (own_h hw 117 rfl) (by decide) (own_is1 l Z a0 hw [] x zCS dO dT ca cO cT cc h0 n0 Z0 Cq O0 hbd) (by decide) (by decide) e1 (g := (mkF m 4 #[.val (.ref t)] [(.int x)])) rfl (by rw [hml]; rfl) (argsL := [(.int x)]) (rest := []) (lenOf own_pd__28I_29Ljava_2flang_2fString_3b rfl) rfl (W := 0) (by show 2 * 0 + _ ≤ _; exact Nat.le_of_eq rfl) (hb hby own_d17_4) rfl (by decide) (by decide) ?_
    rintro rv2 T2 L2 X2 ⟨r0, b0, rfl, Nq2, Kq2, s12, s22, s32, Er2, Fv2, Fc2, Rb2⟩
    have N2 := Fr.app N0 Nq2
    show own_Fin p e below _ T2 (mkF m 7 #[.val (.ref t)] [(.ref r0)])
    have k3_ := ((Keep.refl h0 []).trans Kq2 all0)
    exact own_end X2 (v := some (.ref r0)) (fun h => by rw [Bd.returns] at h; cases h) hlk (fun hr => retOut X2 hx Bd.returns (own_narR rfl) (Or.inr (Or.inr (Or.inr (Or.inr ⟨rfl, rfl, rfl⟩)))) (hb hby own_d17_7) hr) (⟨r0, b0, (1 : Int32), ⟨by decide, by decide⟩, rfl, N2, k3_, s12, s22, s32, Er2, Fv2, Fc2, Rb2⟩) (by decide) (by decide)
  · skip
    refine own_callS X1 hx hZ (y := own_y18) hown (own_h hw 115 rfl) (own_h hw 116 rfl) (own_h hw 7 rfl) (own_h hw 117 rfl) (by decide) (own_is2 l Z a0 hw [] x zCS dO dT ca cO cT cc h0 n0 Z0 Cq O0 hbd) (by decide) (by decide) e1 (g := (mkF m 4 #[.val (.ref t)] [(.int x)])) rfl (by rw [hml]; rfl) (argsL := [(.int x)]) (rest := []) (lenOf own_pd__28I_29Ljava_2flang_2fString_3b rfl) rfl (W := 0) (by show 2 * 0 + _ ≤ _; exact Nat.le_of_eq rfl) (hb hby own_d17_4) rfl (by decide) (by decide) ?_
    rintro rv4 T4 L4 X4 ⟨r0, b0, rfl, Nq4, Kq4, s14, s24, s34, Er4, Fv4, Fc4, Rb4⟩
    have N4 := Fr.app N0 Nq4
    show own_Fin p e below _ T4 (mkF m 7 #[.val (.ref t)] [(.ref r0)])
    have k5_ := ((Keep.refl h0 []).trans Kq4 all0)
    exact own_end X4 (v := some (.ref r0)) (fun h => by rw [Bd.returns] at h; cases h) hlk (fun hr => retOut X4 hx Bd.returns (own_narR rfl) (Or.inr (Or.inr (Or.inr (Or.inr ⟨rfl, rfl, rfl⟩)))) (hb hby own_d17_7) hr) (⟨r0, b0, (2 : Int32), ⟨by decide, by decide⟩, rfl, N4, k5_, s14, s24, s34, Er4, Fv4, Fc4, Rb4⟩) (by decide) (by decide)
  · skip
    refine own_callS X1 hx hZ (y := own_y18) hown (own_h hw 115 rfl) (own_h hw 116 rfl) (own_h hw 7 rfl) (own_h hw 117 rfl) (by decide) (own_is3 l Z a0 hw [] x zCS dO dT ca cO cT cc h0 n0 Z0 Cq O0 hbd) (by decide) (by decide) e1 (g := (mkF m 4 #[.val (.ref t)] [(.int x)])) rfl (by rw [hml]; rfl) (argsL := [(.int x)]) (rest := []) (lenOf own_pd__28I_29Ljava_2flang_2fString_3b rfl) rfl (W := 0) (by show 2 * 0 + _ ≤ _; exact Nat.le_of_eq rfl) (hb hby own_d17_4) rfl (by decide) (by decide) ?_
    rintro rv6 T6 L6 X6 ⟨r0, b0, rfl, Nq6, Kq6, s16, s26, s36, Er6, Fv6, Fc6, Rb6⟩
    have N6 := Fr.app N0 Nq6
    show own_Fin p e below _ T6 (mkF m 7 #[.val (.ref t)] [(.ref r0)])
    have k7_ := ((Keep.refl h0 []).trans Kq6 all0)
    exact own_end X6 (v := some (.ref r0)) (fun h => by rw [Bd.returns] at h; cases h) hlk (fun hr => retOut X6 hx Bd.returns (own_narR rfl) (Or.inr (Or.inr (Or.inr (Or.inr ⟨rfl, rfl, rfl⟩)))) (hb hby own_d17_7) hr) (⟨r0, b0, (3 : Int32), ⟨by decide, by decide⟩, rfl, N6, k7_, s16, s26, s36, Er6, Fv6, Fc6, Rb6⟩) (by decide) (by decide)
  · skip
    refine own_callS X1 hx hZ (y := own_y18) hown (own_h hw 115 rfl) (own_h hw 116 rfl) (own_h hw 7 rfl) (own_h hw 117 rfl) (by decide) (own_is4 l Z a0 hw [] x zCS dO dT ca cO cT cc h0 n0 Z0 Cq O0 hbd) (by decide) (by decide) e1 (g := (mkF m 4 #[.val (.ref t)] [(.int x)])) rfl (by rw [hml]; rfl) (argsL := [(.int x)]) (rest := []) (lenOf own_pd__28I_29Ljava_2flang_2fString_3b rfl) rfl (W := 0) (by show 2 * 0 + _ ≤ _; exact Nat.le_of_eq rfl) (hb hby own_d17_4) rfl (by decide) (by decide) ?_
    rintro rv8 T8 L8 X8 ⟨r0, b0, rfl, Nq8, Kq8, s18, s28, s38, Er8, Fv8, Fc8, Rb8⟩
    have N8 := Fr.app N0 Nq8
    show own_Fin p e below _ T8 (mkF m 7 #[.val (.ref t)] [(.ref r0)])
    have k9_ := ((Keep.refl h0 []).trans Kq8 all0)
    exact own_end X8 (v := some (.ref r0)) (fun h => by rw [Bd.returns] at h; cases h) hlk (fun hr => retOut X8 hx Bd.returns (own_narR rfl) (Or.inr (Or.inr (Or.inr (Or.inr ⟨rfl, rfl, rfl⟩)))) (hb hby own_d17_7) hr) (⟨r0, b0, (4 : Int32), ⟨by decide, by decide⟩, rfl, N8, k9_, s18, s28, s38, Er8, Fv8, Fc8, Rb8⟩) (by decide) (by decide)
  · skip
    refine own_callS X1 hx hZ (y := own_y18) hown (own_h hw 115 rfl) (own_h hw 116 rfl) (own_h hw 7 rfl) (own_h hw 117 rfl) (by decide) (own_is5 l Z a0 hw [] x zCS dO dT ca cO cT cc h0 n0 Z0 Cq O0 hbd) (by decide) (by decide) e1 (g := (mkF m 4 #[.val (.ref t)] [(.int x)])) rfl (by rw [hml]; rfl) (argsL := [(.int x)]) (rest := []) (lenOf own_pd__28I_29Ljava_2flang_2fString_3b rfl) rfl (W := 0) (by show 2 * 0 + _ ≤ _; exact Nat.le_of_eq rfl) (hb hby own_d17_4) rfl (by decide) (by decide) ?_
    rintro rv10 T10 L10 X10 ⟨r0, b0, rfl, Nq10, Kq10, s110, s210, s310, Er10, Fv10, Fc10, Rb10⟩
    have N10 := Fr.app N0 Nq10
    show own_Fin p e below _ T10 (mkF m 7 #[.val (.ref t)] [(.ref r0)])
    have k11_ := ((Keep.refl h0 []).trans Kq10 all0)
    exact own_end X10 (v := some (.ref r0)) (fun h => by rw [Bd.returns] at h; cases h) hlk (fun hr => retOut X10 hx Bd.returns (own_narR rfl) (Or.inr (Or.inr (Or.inr (Or.inr ⟨rfl, rfl, rfl⟩)))) (hb hby own_d17_7) hr) (⟨r0, b0, (5 : Int32), ⟨by decide, by decide⟩, rfl, N10, k11_, s110, s210, s310, Er10, Fv10, Fc10, Rb10⟩) (by decide) (by decide)
  · skip
    refine own_callS X1 hx hZ (y := own_y18) hown (own_h hw 115 rfl) (own_h hw 116 rfl) (own_h hw 7 rfl) (own_h hw 117 rfl) (by decide) (own_is6 l Z a0 hw [] x zCS dO dT ca cO cT cc h0 n0 Z0 Cq O0 hbd) (by decide) (by decide) e1 (g := (mkF m 4 #[.val (.ref t)] [(.int x)])) rfl (by rw [hml]; rfl) (argsL := [(.int x)]) (rest := []) (lenOf own_pd__28I_29Ljava_2flang_2fString_3b rfl) rfl (W := 0) (by show 2 * 0 + _ ≤ _; exact Nat.le_of_eq rfl) (hb hby own_d17_4) rfl (by decide) (by decide) ?_
    rintro rv12 T12 L12 X12 ⟨r0, b0, rfl, Nq12, Kq12, s112, s212, s312, Er12, Fv12, Fc12, Rb12⟩
    have N12 := Fr.app N0 Nq12
    show own_Fin p e below _ T12 (mkF m 7 #[.val (.ref t)] [(.ref r0)])
    have k13_ := ((Keep.refl h0 []).trans Kq12 all0)
    exact own_end X12 (v := some (.ref r0)) (fun h => by rw [Bd.returns] at h; cases h) hlk (fun hr => retOut X12 hx Bd.returns (own_narR rfl) (Or.inr (Or.inr (Or.inr (Or.inr ⟨rfl, rfl, rfl⟩)))) (hb hby own_d17_7) hr) (⟨r0, b0, (6 : Int32), ⟨by decide, by decide⟩, rfl, N12, k13_, s112, s212, s312, Er12, Fv12, Fc12, Rb12⟩) (by decide) (by decide)
theorem own_d16_0 : decode jdk_42_method_133_code 0 = .ok (.aload_n 0, 1) := by decide +kernel
theorem own_d16_1 : decode jdk_42_method_133_code 1 = .ok (.ifnonnull 9, 3) := by decide +kernel
theorem own_d16_10 : decode jdk_42_method_133_code 10 = .ok (.aload_n 0, 1) := by decide +kernel
theorem own_d16_11 : decode jdk_42_method_133_code 11 = .ok (.invokevirtual 1007, 3) := by decide +kernel
theorem own_pd__28_29Ljava_2flang_2fString_3b : parseMethodDescriptor "()Ljava/lang/String;" = some ⟨[], some (.object "java/lang/String")⟩ := by decide +kernel
theorem own_d16_14 : decode jdk_42_method_133_code 14 = .ok (.areturn, 1) := by decide +kernel
theorem own_vo_ef (m : MethodId) (t : Addr) : entryFrame m #[(.ref t)] 1 = mkF m 0 #[.val (.ref t)] [] := by  first | (simp [entryFrame, mkF, argsToLocals, Value.category]; done) | rfl
def own_vo_Q (Z : State) (t : Addr) (x : Int32) (zCS : Int32) (dO : Addr) (dT : Addr) (ca : Addr) (cO : Cell) (cT : Cell) (cc : Cell) (h0 : Heap) (n0 : Nat) (v : Option Value) (h : Heap) (L : List Loc) : Prop := ∃ (r b : Addr) (dz : Int32), own_dz dz ∧ v = some (.ref r) ∧ Fr n0 L ∧ Keep h0 h [] ∧ h0.size ≤ r ∧ n0 ≤ r ∧ h0.size ≤ b ∧ Exa Z h r "java/lang/String" ∧ Fld Z h r "java/lang/String" "value" "[B" (.ref b) ∧ Fld Z h r "java/lang/String" "coder" "B" (.int 0) ∧ own_By Z h b dz
set_option maxRecDepth 65536 in
set_option maxHeartbeats 40000000 in
theorem own_vo (l : Launch) (Z : State) (a0 : Array Value) (hw : ∀ d ∈ tables_1, d.before a0 Z = true) (ws : List Jvm.Cond) (t : Addr) (x : Int32) (zCS : Int32) (dO : Addr) (dT : Addr) (ca : Addr) (cO : Cell) (cT : Cell) (cc : Cell) (h0 : Heap) (n0 : Nat) (Z0 : n0 ≤ h0.size) (Cq : own_C Z zCS dO dT ca cO cT cc) (O0 : Old Z n0 h0) (E_t : Exa Z h0 t "java/lang/Integer") (V_t : Fld Z h0 t "java/lang/Integer" "value" "I" (.int x)) (hxb : 0 ≤ x.toInt ∧ x.toInt < 1000000) :
    MetFree l own_y31 (head1 (Jvm.Cond.code own_y31 jdk_42_method_133_code 1 (some (.object "java/lang/String")) :: ws) (⟨4, 2, 10, 53⟩ : Room)) (fun aa U => aa = #[(.ref t)] ∧ Z.Warmed39 U.vm ∧ U.heap = h0) (fun _ _ _ _ _ => True) (fun _ U o U' => ∃ v L, o = .returned v ∧ own_vo_Q Z t x zCS dO dT ca cO cT cc h0 n0 v U'.heap L ∧ FrameEnd U o U' L (⟨4, 2, 10, 53⟩ : Room).cells (⟨4, 2, 10, 53⟩ : Room).slots) := by
  refine MetFree.of_bodySF (plainFor_of_name own_pn_java_lang_String) hisR ?_
  intro p e s m args below meth c s₁ Bd hml0 hP hK
  obtain ⟨rfl, hZ, hh⟩ := hP
  have hx := Bd.exec
  have hby := Bd.bytes
  have hml : c.maxLocals = 1 := hml0
  have hown : s.vm.findClass "java/lang/String" = some m.cls := findClass_of_methodNamed Bd.named
  have hnm := (name_of_methodNamed Bd.named Bd.method).1
  have hlk := Bd.notSynchronized
  have X0 : Stand p l e (⟨4, 2, 10, 53⟩ : Room) s m #[(.ref t)] below meth c s₁ [] 0 0 := Stand.of_body Bd
  have e0 : s₁.heap = h0 := by rw [← hh, Bd.state]; rfl
  have N0 := Fr.nil n0
  refine own_start (Q := own_vo_Q Z t x zCS dO dT ca cO cT cc h0 n0) (own_vo_ef m t) ?_
  refine own_g (mkF m 11 #[.val (.ref t)] [(.ref t)]) (fun _ q => XS.aloadN X0.here hx rfl (hb hby own_d16_0) rfl rfl (XS.ifnonnullYes X0.here hx rfl (pc0 := 1) (pc' := 10) rfl (hb hby own_d16_1) rfl (by decide) (by decide) (XS.aloadN X0.here hx rfl (hb hby own_d16_10) rfl rfl q))) ?_
  refine own_callV X0 hx hZ (y := (⟨"java/lang/Object", "toString", "()Ljava/lang/String;"⟩ : MethodName)) (z := (⟨"java/lang/Integer", "toString", "()Ljava/lang/String;"⟩ : MethodName)) hown (own_h hw 107 rfl) (own_h hw 108 rfl) (own_nfc (y' := (⟨"java/lang/Object", "toString", "()Ljava/lang/String;"⟩ : MethodName)) (own_h hw 240 rfl) rfl) (own_h hw 110 rfl) (own_h hw 111 rfl) (own_h hw 112 rfl) (own_h hw 7 rfl) (by decide) E_t (own_i0 l Z a0 hw [] t x zCS dO dT ca cO cT cc h0 n0 Z0 Cq O0 E_t V_t hxb) (by decide) (by decide) e0 (g := (mkF m 11 #[.val (.ref t)] [(.ref t)])) rfl (by rw [hml]; rfl) (argsL := []) (rest := []) (lenOf own_pd__28_29Ljava_2flang_2fString_3b rfl) rfl (W := 0) (by show 2 * 0 + _ ≤ _; exact Nat.le_of_eq rfl) (hb hby own_d16_11) rfl (by decide) (by decide) ?_
  rintro rv1 T1 L1 X1 ⟨r0, b0, dz, hdz, rfl, Nq1, Kq1, s11, s21, s31, Er1, Fv1, Fc1, Rb1⟩
  have N1 := Fr.app N0 Nq1
  show own_Fin p e below _ T1 (mkF m 14 #[.val (.ref t)] [(.ref r0)])
  have ne_t_r0 : t ≠ r0 := Nat.ne_of_lt (Nat.lt_of_lt_of_le E_t.lt s11)
  have sz_r0 := Nat.le_trans (Keep.refl h0 []).1 s11
  have ne_t_b0 : t ≠ b0 := Nat.ne_of_lt (Nat.lt_of_lt_of_le E_t.lt s31)
  have sz_b0 := Nat.le_trans (Keep.refl h0 []).1 s31
  have k2_ := ((Keep.refl h0 []).trans Kq1 all0)
  exact own_end X1 (v := some (.ref r0)) (fun h => by rw [Bd.returns] at h; cases h) hlk (fun hr => retOut X1 hx Bd.returns (own_narR rfl) (Or.inr (Or.inr (Or.inr (Or.inr ⟨rfl, rfl, rfl⟩)))) (hb hby own_d16_14) hr) (⟨r0, b0, dz, hdz, rfl, N1, k2_, sz_r0, s21, sz_b0, Er1, Fv1, Fc1, Rb1⟩) (by decide) (by decide)
theorem own_d15_0 : decode jdk_67_method_6_code 0 = .ok (.aload_n 0, 1) := by decide +kernel
theorem own_d15_1 : decode jdk_67_method_6_code 1 = .ok (.aload_n 1, 1) := by decide +kernel
theorem own_d15_2 : decode jdk_67_method_6_code 2 = .ok (.invokestatic 17, 3) := by decide +kernel
theorem own_pd__28Ljava_2flang_2fObject_3b_29Ljava_2flang_2fString_3b : parseMethodDescriptor "(Ljava/lang/Object;)Ljava/lang/String;" = some ⟨[(.object "java/lang/Object")], some (.object "java/lang/String")⟩ := by decide +kernel
theorem own_d15_5 : decode jdk_67_method_6_code 5 = .ok (.invokevirtual 23, 3) := by decide +kernel
theorem own_pd__28Ljava_2flang_2fString_3b_29Ljava_2flang_2fStringBuilder_3b : parseMethodDescriptor "(Ljava/lang/String;)Ljava/lang/StringBuilder;" = some ⟨[(.object "java/lang/String")], some (.object "java/lang/StringBuilder")⟩ := by decide +kernel
theorem own_d15_8 : decode jdk_67_method_6_code 8 = .ok (.areturn, 1) := by decide +kernel
theorem own_aoN_ef (m : MethodId) (sb : Addr) (t : Addr) : entryFrame m #[(.ref sb), (.ref t)] 2 = mkF m 0 #[.val (.ref sb), .val (.ref t)] [] := by  first | (simp [entryFrame, mkF, argsToLocals, Value.category]; done) | rfl
def own_aoN_Q (Z : State) (sb : Addr) (t : Addr) (x : Int32) (bv : Addr) (zCS : Int32) (dO : Addr) (dT : Addr) (ca : Addr) (cO : Cell) (cT : Cell) (cc : Cell) (h0 : Heap) (n0 : Nat) (v : Option Value) (h : Heap) (L : List Loc) : Prop := ∃ dz : Int32, own_dz dz ∧ v = some (.ref sb) ∧ Fr n0 L ∧ Keep h0 h [sb, bv] ∧ Fld Z h sb "java/lang/AbstractStringBuilder" "value" "[B" (.ref bv) ∧ Fld Z h sb "java/lang/AbstractStringBuilder" "coder" "B" (.int 0) ∧ Fld Z h sb "java/lang/AbstractStringBuilder" "count" "I" (.int ((28 : Int32) + dz)) ∧ own_By Z h bv (34 : Int32)
set_option maxRecDepth 65536 in
set_option maxHeartbeats 40000000 in
theorem own_aoN (l : Launch) (Z : State) (a0 : Array Value) (hw : ∀ d ∈ tables_1, d.before a0 Z = true) (ws : List Jvm.Cond) (sb : Addr) (t : Addr) (x : Int32) (bv : Addr) (zCS : Int32) (dO : Addr) (dT : Addr) (ca : Addr) (cO : Cell) (cT : Cell) (cc : Cell) (h0 : Heap) (n0 : Nat) (Z0 : n0 ≤ h0.size) (Cq : own_C Z zCS dO dT ca cO cT cc) (O0 : Old Z n0 h0) (E_sb : Exa Z h0 sb "java/lang/StringBuilder") (V_sb : Fld Z h0 sb "java/lang/AbstractStringBuilder" "value" "[B" (.ref bv)) (C_sb : Fld Z h0 sb "java/lang/AbstractStringBuilder" "coder" "B" (.int 0)) (N_sb : Fld Z h0 sb "java/lang/AbstractStringBuilder" "count" "I" (.int 28)) (E_t : Exa Z h0 t "java/lang/Integer") (V_t : Fld Z h0 t "java/lang/Integer" "value" "I" (.int x)) (hxb : 0 ≤ x.toInt ∧ x.toInt < 1000000) (g_sb : n0 ≤ sb) (R_v : own_By Z h0 bv (34 : Int32)) (g_v : n0 ≤ bv) (n_sv : sb ≠ bv) :
    MetFree l own_y33 (head1 (Jvm.Cond.code own_y33 jdk_67_method_6_code 2 (some (.object "java/lang/StringBuilder")) :: ws) (⟨5, 2, 10, 74⟩ : Room)) (fun aa U => aa = #[(.ref sb), (.ref t)] ∧ Z.Warmed39 U.vm ∧ U.heap = h0) (fun _ _ _ _ _ => True) (fun _ U o U' => ∃ v L, o = .returned v ∧ own_aoN_Q Z sb t x bv zCS dO dT ca cO cT cc h0 n0 v U'.heap L ∧ FrameEnd U o U' L (⟨5, 2, 10, 74⟩ : Room).cells (⟨5, 2, 10, 74⟩ : Room).slots) := by
  refine MetFree.of_bodySF (plainFor_of_name own_pn_java_lang_StringBuilder) hisR ?_
  intro p e s m args below meth c s₁ Bd hml0 hP hK
  obtain ⟨rfl, hZ, hh⟩ := hP
  have hx := Bd.exec
  have hby := Bd.bytes
  have hml : c.maxLocals = 2 := hml0
  have hown : s.vm.findClass "java/lang/StringBuilder" = some m.cls := findClass_of_methodNamed Bd.named
  have hnm := (name_of_methodNamed Bd.named Bd.method).1
  have hlk := Bd.notSynchronized
  have X0 : Stand p l e (⟨5, 2, 10, 74⟩ : Room) s m #[(.ref sb), (.ref t)] below meth c s₁ [] 0 0 := Stand.of_body Bd
  have e0 : s₁.heap = h0 := by rw [← hh, Bd.state]; rfl
  have N0 := Fr.nil n0
  refine own_start (Q := own_aoN_Q Z sb t x bv zCS dO dT ca cO cT cc h0 n0) (own_aoN_ef m sb t) ?_
  refine own_g (mkF m 2 #[.val (.ref sb), .val (.ref t)] [(.ref t), (.ref sb)]) (fun _ q => XS.aloadN X0.here hx rfl (hb hby own_d15_0) rfl rfl (XS.aloadN X0.here hx rfl (hb hby own_d15_1) rfl rfl q)) ?_
  refine own_callS X0 hx hZ (y := own_y31) hown (own_h hw 104 rfl) (own_h hw 105 rfl) (own_h hw 37 rfl) (own_h hw 106 rfl) (by decide) (own_vo l Z a0 hw [] t x zCS dO dT ca cO cT cc h0 n0 (Nat.le_trans Z0 (Keep.refl h0 [sb, bv]).1) Cq O0 E_t V_t hxb) (by decide) (by decide) e0 (g := (mkF m 2 #[.val (.ref sb), .val (.ref t)] [(.ref t), (.ref sb)])) rfl (by rw [hml]; rfl) (argsL := [(.ref t)]) (rest := [(.ref sb)]) (lenOf own_pd__28Ljava_2flang_2fObject_3b_29Ljava_2flang_2fString_3b rfl) rfl (W := 1) (by show 2 * 0 + _ ≤ _; exact Nat.le_of_eq rfl) (hb hby own_d15_2) rfl (by decide) (by decide) ?_
  rintro rv1 T1 L1 X1 ⟨r0, b0, dz, hdz, rfl, Nq1, Kq1, s11, s21, s31, Er1, Fv1, Fc1, Rb1⟩
  have N1 := Fr.app N0 Nq1
  show own_Fin p e below _ T1 (mkF m 5 #[.val (.ref sb), .val (.ref t)] [(.ref r0), (.ref sb)])
  have ne_sb_r0 : sb ≠ r0 := Nat.ne_of_lt (Nat.lt_of_lt_of_le E_sb.lt s11)
  have ne_t_r0 : t ≠ r0 := Nat.ne_of_lt (Nat.lt_of_lt_of_le E_t.lt s11)
  have ne_bv_r0 : bv ≠ r0 := Nat.ne_of_lt (Nat.lt_of_lt_of_le R_v.lt s11)
  have sz_r0 := Nat.le_trans (Keep.refl h0 [sb, bv]).1 s11
  have ne_sb_b0 : sb ≠ b0 := Nat.ne_of_lt (Nat.lt_of_lt_of_le E_sb.lt s31)
  have ne_t_b0 : t ≠ b0 := Nat.ne_of_lt (Nat.lt_of_lt_of_le E_t.lt s31)
  have ne_bv_b0 : bv ≠ b0 := Nat.ne_of_lt (Nat.lt_of_lt_of_le R_v.lt s31)
  have sz_b0 := Nat.le_trans (Keep.refl h0 [sb, bv]).1 s31
  have e2_sb := (E_sb.keep Kq1)
  have r3_bv := (R_v.keep Kq1 nin0)
  have k4_ := ((Keep.refl h0 [sb, bv]).trans Kq1 all0)
  have ead := own_add (x := (28 : Int32)) (y := dz) ⟨by decide, by decide, by have := hdz.1; omega, by have := hdz.2; omega⟩
  have c1 : (28 : Int32).toInt = 28 := by decide
  have hd1 := hdz.1
  have hd2 := hdz.2
  have ecl := own_cl (x := dz) (by omega)
  have ecc : (28 : Int32).toNatClampNeg = 28 := by decide
  have ecz : (34 : Int32).toNatClampNeg = 34 := by decide
  have c34 : (34 : Int32).toInt = 34 := by decide
  have esu := own_sub (x := (28 : Int32) + dz) (y := (34 : Int32)) (by omega)
  have c00 : (0 : Int32).toInt = 0 := by decide
  have f5_sb := (V_sb.keep Kq1 nin0)
  have f6_sb := (C_sb.keep Kq1 nin0)
  have f7_sb := (N_sb.keep Kq1 nin0)
  have o8_ := (O0.keep Kq1 all0)
  refine own_callV X1 hx hZ (y := own_y34) (z := own_y34) hown (own_h hw 132 rfl) (own_h hw 50 rfl) (own_nf (own_h hw 52 rfl)) (own_h hw 52 rfl) (own_h hw 51 rfl) (own_h hw 53 rfl) (own_h hw 25 rfl) (by decide) e2_sb (own_saN l Z a0 hw [] sb r0 bv b0 dz (34 : Int32) (28 : Int32) zCS dO dT ca cO cT cc T1.heap n0 (Nat.le_trans Z0 k4_.1) Cq o8_ e2_sb f5_sb f6_sb f7_sb Er1 Fv1 Fc1 Rb1 g_sb r3_bv g_v n_sv (by decide) (by omega) (own_nl (by omega))) (by decide) (by decide) rfl (g := (mkF m 5 #[.val (.ref sb), .val (.ref t)] [(.ref r0), (.ref sb)])) rfl (by rw [hml]; rfl) (argsL := [(.ref r0)]) (rest := []) (lenOf own_pd__28Ljava_2flang_2fString_3b_29Ljava_2flang_2fStringBuilder_3b rfl) rfl (W := 0) (by show 2 * 0 + _ ≤ _; exact Nat.le_of_eq rfl) (hb hby own_d15_5) rfl (by decide) (by decide) ?_
  rintro rv9 T9 L9 X9 ⟨rfl, Nq9, Kq9, Fv9, Fc9, Fn9, Rv9⟩
  have N9 := Fr.app N1 Nq9
  show own_Fin p e below _ T9 (mkF m 8 #[.val (.ref sb), .val (.ref t)] [(.ref sb)])
  have k10_ := (k4_.trans Kq9 (allS (Or.inl (List.mem_of_getElem? (i := 0) rfl)) (allS (Or.inl (List.mem_of_getElem? (i := 1) rfl)) all0)))
  exact own_end X9 (v := some (.ref sb)) (fun h => by rw [Bd.returns] at h; cases h) hlk (fun hr => retOut X9 hx Bd.returns (own_narR rfl) (Or.inr (Or.inr (Or.inr (Or.inr ⟨rfl, rfl, rfl⟩)))) (hb hby own_d15_8) hr) (⟨dz, hdz, rfl, N9, k10_, Fv9, Fc9, Fn9, Rv9⟩) (by decide) (by decide)
theorem own_aoG_ef (m : MethodId) (sb : Addr) (t : Addr) : entryFrame m #[(.ref sb), (.ref t)] 2 = mkF m 0 #[.val (.ref sb), .val (.ref t)] [] := by  first | (simp [entryFrame, mkF, argsToLocals, Value.category]; done) | rfl
def own_aoG_Q (Z : State) (sb : Addr) (t : Addr) (x : Int32) (bv : Addr) (zCS : Int32) (dO : Addr) (dT : Addr) (ca : Addr) (cO : Cell) (cT : Cell) (cc : Cell) (h0 : Heap) (n0 : Nat) (v : Option Value) (h : Heap) (L : List Loc) : Prop := ∃ dz : Int32, own_dz dz ∧ v = some (.ref sb) ∧ Fr n0 L ∧ Keep h0 h [sb] ∧ ∃ t : Addr, h0.size ≤ t ∧ n0 ≤ t ∧ Exa Z h t "[B" ∧ own_By Z h t (34 : Int32) ∧ Fld Z h sb "java/lang/AbstractStringBuilder" "value" "[B" (.ref t) ∧ Fld Z h sb "java/lang/AbstractStringBuilder" "coder" "B" (.int 0) ∧ Fld Z h sb "java/lang/AbstractStringBuilder" "count" "I" (.int ((16 : Int32) + dz))
set_option maxRecDepth 65536 in
set_option maxHeartbeats 40000000 in
theorem own_aoG (l : Launch) (Z : State) (a0 : Array Value) (hw : ∀ d ∈ tables_1, d.before a0 Z = true) (ws : List Jvm.Cond) (sb : Addr) (t : Addr) (x : Int32) (bv : Addr) (zCS : Int32) (dO : Addr) (dT : Addr) (ca : Addr) (cO : Cell) (cT : Cell) (cc : Cell) (h0 : Heap) (n0 : Nat) (Z0 : n0 ≤ h0.size) (Cq : own_C Z zCS dO dT ca cO cT cc) (O0 : Old Z n0 h0) (E_sb : Exa Z h0 sb "java/lang/StringBuilder") (V_sb : Fld Z h0 sb "java/lang/AbstractStringBuilder" "value" "[B" (.ref bv)) (C_sb : Fld Z h0 sb "java/lang/AbstractStringBuilder" "coder" "B" (.int 0)) (N_sb : Fld Z h0 sb "java/lang/AbstractStringBuilder" "count" "I" (.int 16)) (E_t : Exa Z h0 t "java/lang/Integer") (V_t : Fld Z h0 t "java/lang/Integer" "value" "I" (.int x)) (hxb : 0 ≤ x.toInt ∧ x.toInt < 1000000) (g_sb : n0 ≤ sb) (R_v : own_By Z h0 bv (16 : Int32)) (g_v : n0 ≤ bv) (n_sv : sb ≠ bv) :
    MetFree l own_y33 (head1 (Jvm.Cond.code own_y33 jdk_67_method_6_code 2 (some (.object "java/lang/StringBuilder")) :: ws) (⟨6, 3, 44, 89⟩ : Room)) (fun aa U => aa = #[(.ref sb), (.ref t)] ∧ Z.Warmed39 U.vm ∧ U.heap = h0) (fun _ _ _ _ _ => True) (fun _ U o U' => ∃ v L, o = .returned v ∧ own_aoG_Q Z sb t x bv zCS dO dT ca cO cT cc h0 n0 v U'.heap L ∧ FrameEnd U o U' L (⟨6, 3, 44, 89⟩ : Room).cells (⟨6, 3, 44, 89⟩ : Room).slots) := by
  refine MetFree.of_bodySF (plainFor_of_name own_pn_java_lang_StringBuilder) hisR ?_
  intro p e s m args below meth c s₁ Bd hml0 hP hK
  obtain ⟨rfl, hZ, hh⟩ := hP
  have hx := Bd.exec
  have hby := Bd.bytes
  have hml : c.maxLocals = 2 := hml0
  have hown : s.vm.findClass "java/lang/StringBuilder" = some m.cls := findClass_of_methodNamed Bd.named
  have hnm := (name_of_methodNamed Bd.named Bd.method).1
  have hlk := Bd.notSynchronized
  have X0 : Stand p l e (⟨6, 3, 44, 89⟩ : Room) s m #[(.ref sb), (.ref t)] below meth c s₁ [] 0 0 := Stand.of_body Bd
  have e0 : s₁.heap = h0 := by rw [← hh, Bd.state]; rfl
  have N0 := Fr.nil n0
  refine own_start (Q := own_aoG_Q Z sb t x bv zCS dO dT ca cO cT cc h0 n0) (own_aoG_ef m sb t) ?_
  refine own_g (mkF m 2 #[.val (.ref sb), .val (.ref t)] [(.ref t), (.ref sb)]) (fun _ q => XS.aloadN X0.here hx rfl (hb hby own_d15_0) rfl rfl (XS.aloadN X0.here hx rfl (hb hby own_d15_1) rfl rfl q)) ?_
  refine own_callS X0 hx hZ (y := own_y31) hown (own_h hw 104 rfl) (own_h hw 105 rfl) (own_h hw 37 rfl) (own_h hw 106 rfl) (by decide) (own_vo l Z a0 hw [] t x zCS dO dT ca cO cT cc h0 n0 (Nat.le_trans Z0 (Keep.refl h0 [sb]).1) Cq O0 E_t V_t hxb) (by decide) (by decide) e0 (g := (mkF m 2 #[.val (.ref sb), .val (.ref t)] [(.ref t), (.ref sb)])) rfl (by rw [hml]; rfl) (argsL := [(.ref t)]) (rest := [(.ref sb)]) (lenOf own_pd__28Ljava_2flang_2fObject_3b_29Ljava_2flang_2fString_3b rfl) rfl (W := 1) (by show 2 * 0 + _ ≤ _; exact Nat.le_of_eq rfl) (hb hby own_d15_2) rfl (by decide) (by decide) ?_
  rintro rv1 T1 L1 X1 ⟨r0, b0, dz, hdz, rfl, Nq1, Kq1, s11, s21, s31, Er1, Fv1, Fc1, Rb1⟩
  have N1 := Fr.app N0 Nq1
  show own_Fin p e below _ T1 (mkF m 5 #[.val (.ref sb), .val (.ref t)] [(.ref r0), (.ref sb)])
  have ne_sb_r0 : sb ≠ r0 := Nat.ne_of_lt (Nat.lt_of_lt_of_le E_sb.lt s11)
  have ne_t_r0 : t ≠ r0 := Nat.ne_of_lt (Nat.lt_of_lt_of_le E_t.lt s11)
  have ne_bv_r0 : bv ≠ r0 := Nat.ne_of_lt (Nat.lt_of_lt_of_le R_v.lt s11)
  have sz_r0 := Nat.le_trans (Keep.refl h0 [sb]).1 s11
  have ne_sb_b0 : sb ≠ b0 := Nat.ne_of_lt (Nat.lt_of_lt_of_le E_sb.lt s31)
  have ne_t_b0 : t ≠ b0 := Nat.ne_of_lt (Nat.lt_of_lt_of_le E_t.lt s31)
  have ne_bv_b0 : bv ≠ b0 := Nat.ne_of_lt (Nat.lt_of_lt_of_le R_v.lt s31)
  have sz_b0 := Nat.le_trans (Keep.refl h0 [sb]).1 s31
  have e2_sb := (E_sb.keep Kq1)
  have r3_bv := (R_v.keep Kq1 nin0)
  have k4_ := ((Keep.refl h0 [sb]).trans Kq1 all0)
  have ead := own_add (x := (16 : Int32)) (y := dz) ⟨by decide, by decide, by have := hdz.1; omega, by have := hdz.2; omega⟩
  have c1 : (16 : Int32).toInt = 16 := by decide
  have hd1 := hdz.1
  have hd2 := hdz.2
  have ecl := own_cl (x := dz) (by omega)
  have ecc : (16 : Int32).toNatClampNeg = 16 := by decide
  have ecz : (34 : Int32).toNatClampNeg = 34 := by decide
  have esu := own_sub (x := (16 : Int32) + dz) (y := (16 : Int32)) (by omega)
  have c18 : (18 : Int32).toInt = 18 := by decide
  have c00 : (0 : Int32).toInt = 0 := by decide
  have f5_sb := (V_sb.keep Kq1 nin0)
  have f6_sb := (C_sb.keep Kq1 nin0)
  have f7_sb := (N_sb.keep Kq1 nin0)
  have o8_ := (O0.keep Kq1 all0)
  refine own_callV X1 hx hZ (y := own_y34) (z := own_y34) hown (own_h hw 132 rfl) (own_h hw 50 rfl) (own_nf (own_h hw 52 rfl)) (own_h hw 52 rfl) (own_h hw 51 rfl) (own_h hw 53 rfl) (own_h hw 25 rfl) (by decide) e2_sb (own_saG l Z a0 hw [] sb r0 bv b0 dz (16 : Int32) zCS dO dT ca cO cT cc T1.heap n0 (Nat.le_trans Z0 k4_.1) Cq o8_ e2_sb f5_sb f6_sb f7_sb Er1 Fv1 Fc1 Rb1 g_sb r3_bv (Ne.symm ne_sb_r0) (Ne.symm ne_sb_b0) (by decide) (by omega) (own_lt (by omega)) (own_lt (by omega))) (by decide) (by decide) rfl (g := (mkF m 5 #[.val (.ref sb), .val (.ref t)] [(.ref r0), (.ref sb)])) rfl (by rw [hml]; rfl) (argsL := [(.ref r0)]) (rest := []) (lenOf own_pd__28Ljava_2flang_2fString_3b_29Ljava_2flang_2fStringBuilder_3b rfl) rfl (W := 0) (by show 2 * 0 + _ ≤ _; exact Nat.le_of_eq rfl) (hb hby own_d15_5) rfl (by decide) (by decide) ?_
  rintro rv9 T9 L9 X9 ⟨rfl, Nq9, Kq9, t0, sz9, g9, Et9, Rt9, Fv9, Fc9, Fn9⟩
  have N9 := Fr.app N1 Nq9
  show own_Fin p e below _ T9 (mkF m 8 #[.val (.ref sb), .val (.ref t)] [(.ref sb)])
  have ne_sb_t0 : sb ≠ t0 := Nat.ne_of_lt (Nat.lt_of_lt_of_le e2_sb.lt sz9)
  have ne_bv_t0 : bv ≠ t0 := Nat.ne_of_lt (Nat.lt_of_lt_of_le r3_bv.lt sz9)
  have ne_r0_t0 : r0 ≠ t0 := Nat.ne_of_lt (Nat.lt_of_lt_of_le Er1.lt sz9)
  have ne_b0_t0 : b0 ≠ t0 := Nat.ne_of_lt (Nat.lt_of_lt_of_le Rb1.lt sz9)
  have sz_t0 := Nat.le_trans k4_.1 sz9
  have k10_ := (k4_.trans Kq9 (allS (Or.inl (List.mem_of_getElem? (i := 0) rfl)) all0))
  exact own_end X9 (v := some (.ref sb)) (fun h => by rw [Bd.returns] at h; cases h) hlk (fun hr => retOut X9 hx Bd.returns (own_narR rfl) (Or.inr (Or.inr (Or.inr (Or.inr ⟨rfl, rfl, rfl⟩)))) (hb hby own_d15_8) hr) (⟨dz, hdz, rfl, N9, k10_, t0, sz_t0, g9, Et9, Rt9, Fv9, Fc9, Fn9⟩) (by decide) (by decide)
theorem own_d36_0 : decode jdk_65_method_131_code 0 = .ok (.iload_n 1, 1) := by decide +kernel
theorem own_d36_1 : decode jdk_65_method_131_code 1 = .ok (.iload_n 0, 1) := by decide +kernel
theorem own_d36_2 : decode jdk_65_method_131_code 2 = .ok (.if_icmp .ge 35, 3) := by decide +kernel
theorem own_d36_37 : decode jdk_65_method_131_code 37 = .ok (.return_, 1) := by decide +kernel
theorem own_cl2_ef (m : MethodId) (cn : Int32) : entryFrame m #[(.int 0), (.int cn)] 2 = mkF m 0 #[.val (.int 0), .val (.int cn)] [] := by  first | (simp [entryFrame, mkF, argsToLocals, Value.category]; done) | rfl
def own_cl2_Q (Z : State) (cn : Int32) (zCS : Int32) (dO : Addr) (dT : Addr) (ca : Addr) (cO : Cell) (cT : Cell) (cc : Cell) (h0 : Heap) (n0 : Nat) (v : Option Value) (h : Heap) (L : List Loc) : Prop := v = none ∧ Fr n0 L ∧ h = h0
set_option maxRecDepth 65536 in
set_option maxHeartbeats 40000000 in
theorem own_cl2 (l : Launch) (Z : State) (a0 : Array Value) (hw : ∀ d ∈ tables_1, d.before a0 Z = true) (ws : List Jvm.Cond) (cn : Int32) (zCS : Int32) (dO : Addr) (dT : Addr) (ca : Addr) (cO : Cell) (cT : Cell) (cc : Cell) (h0 : Heap) (n0 : Nat) (Z0 : n0 ≤ h0.size) (Cq : own_C Z zCS dO dT ca cO cT cc) (O0 : Old Z n0 h0) (hc0 : ¬ cn < (0 : Int32)) :
    MetFree l (⟨"java/util/Arrays", "checkLength", "(II)V"⟩ : MethodName) (head1 (Jvm.Cond.code (⟨"java/util/Arrays", "checkLength", "(II)V"⟩ : MethodName) jdk_65_method_131_code 2 none :: ws) (⟨0, 0, 0, 0⟩ : Room)) (fun aa U => aa = #[(.int 0), (.int cn)] ∧ Z.Warmed39 U.vm ∧ U.heap = h0) (fun _ _ _ _ _ => True) (fun _ U o U' => ∃ v L, o = .returned v ∧ own_cl2_Q Z cn zCS dO dT ca cO cT cc h0 n0 v U'.heap L ∧ FrameEnd U o U' L (⟨0, 0, 0, 0⟩ : Room).cells (⟨0, 0, 0, 0⟩ : Room).slots) := by
  refine MetFree.of_bodySF (plainFor_of_name own_pn_java_util_Arrays) hisR ?_
  intro p e s m args below meth c s₁ Bd hml0 hP hK
  obtain ⟨rfl, hZ, hh⟩ := hP
  have hx := Bd.exec
  have hby := Bd.bytes
  have hml : c.maxLocals = 2 := hml0
  have hown : s.vm.findClass "java/util/Arrays" = some m.cls := findClass_of_methodNamed Bd.named
  have hnm := (name_of_methodNamed Bd.named Bd.method).1
  have hlk := Bd.notSynchronized
  have X0 : Stand p l e (⟨0, 0, 0, 0⟩ : Room) s m #[(.int 0), (.int cn)] below meth c s₁ [] 0 0 := Stand.of_body Bd
  have e0 : s₁.heap = h0 := by rw [← hh, Bd.state]; rfl
  have N0 := Fr.nil n0
  refine own_start (Q := own_cl2_Q Z cn zCS dO dT ca cO cT cc h0 n0) (own_cl2_ef m cn) ?_
  refine own_g (mkF m 37 #[.val (.int 0), .val (.int cn)] []) (fun _ q => XS.iloadN X0.here hx rfl (hb hby own_d36_0) rfl (XS.iloadN X0.here hx rfl (hb hby own_d36_1) rfl (XS.icmpYes X0.here hx rfl (pc0 := 2) (pc' := 37) rfl (hb hby own_d36_2) rfl (flt hc0).2.1 (by decide) (by decide) q))) ?_
  exact own_end X0 (v := none) (fun _ => rfl) hlk (fun hr => X0.returnOut hx Bd.returns (hb hby own_d36_37) hr) (by rw [e0]; exact ⟨rfl, N0, rfl⟩) (by decide) (by decide)
theorem own_d35_0 : decode jdk_65_method_133_code 0 = .ok (.iload_n 1, 1) := by decide +kernel
theorem own_d35_1 : decode jdk_65_method_133_code 1 = .ok (.iload_n 2, 1) := by decide +kernel
theorem own_d35_2 : decode jdk_65_method_133_code 2 = .ok (.invokestatic 343, 3) := by decide +kernel
theorem own_pd__28II_29V : parseMethodDescriptor "(II)V" = some ⟨[.int, .int], none⟩ := by decide +kernel
theorem own_d35_5 : decode jdk_65_method_133_code 5 = .ok (.iload_n 2, 1) := by decide +kernel
theorem own_d35_6 : decode jdk_65_method_133_code 6 = .ok (.iload_n 1, 1) := by decide +kernel
theorem own_d35_7 : decode jdk_65_method_133_code 7 = .ok (.isub, 1) := by decide +kernel
theorem own_d35_8 : decode jdk_65_method_133_code 8 = .ok (.istore_n 3, 1) := by decide +kernel
theorem own_d35_9 : decode jdk_65_method_133_code 9 = .ok (.iload_n 3, 1) := by decide +kernel
theorem own_d35_10 : decode jdk_65_method_133_code 10 = .ok (.newarray .byte, 2) := by decide +kernel
theorem own_d35_12 : decode jdk_65_method_133_code 12 = .ok (.astore 4, 2) := by decide +kernel
theorem own_d35_14 : decode jdk_65_method_133_code 14 = .ok (.aload_n 0, 1) := by decide +kernel
theorem own_d35_15 : decode jdk_65_method_133_code 15 = .ok (.iload_n 1, 1) := by decide +kernel
theorem own_d35_16 : decode jdk_65_method_133_code 16 = .ok (.aload 4, 2) := by decide +kernel
theorem own_d35_18 : decode jdk_65_method_133_code 18 = .ok (.iconst 0, 1) := by decide +kernel
theorem own_d35_19 : decode jdk_65_method_133_code 19 = .ok (.aload_n 0, 1) := by decide +kernel
theorem own_d35_20 : decode jdk_65_method_133_code 20 = .ok (.arraylength, 1) := by decide +kernel
theorem own_d35_21 : decode jdk_65_method_133_code 21 = .ok (.iload_n 1, 1) := by decide +kernel
theorem own_d35_22 : decode jdk_65_method_133_code 22 = .ok (.isub, 1) := by decide +kernel
theorem own_d35_23 : decode jdk_65_method_133_code 23 = .ok (.iload_n 3, 1) := by decide +kernel
theorem own_d35_24 : decode jdk_65_method_133_code 24 = .ok (.invokestatic 304, 3) := by decide +kernel
theorem own_d35_27 : decode jdk_65_method_133_code 27 = .ok (.invokestatic 150, 3) := by decide +kernel
theorem own_d35_30 : decode jdk_65_method_133_code 30 = .ok (.aload 4, 2) := by decide +kernel
theorem own_d35_32 : decode jdk_65_method_133_code 32 = .ok (.areturn, 1) := by decide +kernel
theorem own_cb_ef (m : MethodId) (a : Addr) (cn : Int32) : entryFrame m #[(.ref a), (.int 0), (.int cn)] 5 = mkF m 0 #[.val (.ref a), .val (.int 0), .val (.int cn), .unset, .unset] [] := by  first | (simp [entryFrame, mkF, argsToLocals, Value.category]; done) | rfl
def own_cb_Q (Z : State) (a : Addr) (cn : Int32) (z : Int32) (zCS : Int32) (dO : Addr) (dT : Addr) (ca : Addr) (cO : Cell) (cT : Cell) (cc : Cell) (h0 : Heap) (n0 : Nat) (v : Option Value) (h : Heap) (L : List Loc) : Prop := ∃ t : Addr, v = some (.ref t) ∧ Fr n0 L ∧ Keep h0 h []
set_option maxRecDepth 65536 in
set_option maxHeartbeats 40000000 in
theorem own_cb (l : Launch) (Z : State) (a0 : Array Value) (hw : ∀ d ∈ tables_1, d.before a0 Z = true) (ws : List Jvm.Cond) (a : Addr) (cn : Int32) (z : Int32) (zCS : Int32) (dO : Addr) (dT : Addr) (ca : Addr) (cO : Cell) (cT : Cell) (cc : Cell) (h0 : Heap) (n0 : Nat) (Z0 : n0 ≤ h0.size) (Cq : own_C Z zCS dO dT ca cO cT cc) (O0 : Old Z n0 h0) (R_a : own_By Z h0 a z) (hcz : cn < z) (hc0 : ¬ cn < 0) (hc34 : cn.toNatClampNeg ≤ 34) :
    MetFree l (⟨"java/util/Arrays", "copyOfRangeByte", "([BII)[B"⟩ : MethodName) (head1 (Jvm.Cond.code (⟨"java/util/Arrays", "copyOfRangeByte", "([BII)[B"⟩ : MethodName) jdk_65_method_133_code 5 (some (.array .byte)) :: ws) (⟨1, 1, 34, 18⟩ : Room)) (fun aa U => aa = #[(.ref a), (.int 0), (.int cn)] ∧ Z.Warmed39 U.vm ∧ U.heap = h0) (fun _ _ _ _ _ => True) (fun _ U o U' => ∃ v L, o = .returned v ∧ own_cb_Q Z a cn z zCS dO dT ca cO cT cc h0 n0 v U'.heap L ∧ FrameEnd U o U' L (⟨1, 1, 34, 18⟩ : Room).cells (⟨1, 1, 34, 18⟩ : Room).slots) := by
  refine MetFree.of_bodySF (plainFor_of_name own_pn_java_util_Arrays) hisR ?_
  intro p e s m args below meth c s₁ Bd hml0 hP hK
  obtain ⟨rfl, hZ, hh⟩ := hP
  have hx := Bd.exec
  have hby := Bd.bytes
  have hml : c.maxLocals = 5 := hml0
  have hown : s.vm.findClass "java/util/Arrays" = some m.cls := findClass_of_methodNamed Bd.named
  have hnm := (name_of_methodNamed Bd.named Bd.method).1
  have hlk := Bd.notSynchronized
  have X0 : Stand p l e (⟨1, 1, 34, 18⟩ : Room) s m #[(.ref a), (.int 0), (.int cn)] below meth c s₁ [] 0 0 := Stand.of_body Bd
  have e0 : s₁.heap = h0 := by rw [← hh, Bd.state]; rfl
  have N0 := Fr.nil n0
  refine own_start (Q := own_cb_Q Z a cn z zCS dO dT ca cO cT cc h0 n0) (own_cb_ef m a cn) ?_
  have hcz2 : cn.toNatClampNeg ≤ z.toNatClampNeg := by have q := Int32.lt_iff_toInt_lt.mp hcz; simp only [Int32.toNatClampNeg]; omega
  refine own_g (mkF m 2 #[.val (.ref a), .val (.int 0), .val (.int cn), .unset, .unset] [(.int cn), (.int 0)]) (fun _ q => XS.iloadN X0.here hx rfl (hb hby own_d35_0) rfl (XS.iloadN X0.here hx rfl (hb hby own_d35_1) rfl q)) ?_
  refine own_callS X0 hx hZ (y := (⟨"java/util/Arrays", "checkLength", "(II)V"⟩ : MethodName)) hown (own_h hw 192 rfl) (own_h hw 193 rfl) (own_h hw 150 rfl) (own_h hw 194 rfl) (by decide) (own_cl2 l Z a0 hw [] cn zCS dO dT ca cO cT cc h0 n0 Z0 Cq O0 hc0) (by decide) (by decide) e0 (g := (mkF m 2 #[.val (.ref a), .val (.int 0), .val (.int cn), .unset, .unset] [(.int cn), (.int 0)])) rfl (by rw [hml]; rfl) (argsL := [(.int 0), (.int cn)]) (rest := []) (lenOf own_pd__28II_29V rfl) rfl (W := 0) (by show 2 * 0 + _ ≤ _; exact Nat.le_of_eq rfl) (hb hby own_d35_2) rfl (by decide) (by decide) ?_
  rintro rv1 T1 L1 X1 ⟨rfl, Nq1, eh1⟩
  have N1 := Fr.app N0 Nq1
  refine own_g (mkF m 8 #[.val (.ref a), .val (.int 0), .val (.int cn), .unset, .unset] [(.int (cn - (0 : Int32)))]) (fun _ q => XS.iloadN X1.here hx rfl (hb hby own_d35_5) rfl (XS.iloadN X1.here hx rfl (hb hby own_d35_6) rfl (XS.isub X1.here hx rfl (hb hby own_d35_7) rfl q))) ?_
  rw [own_sub0]
  refine own_g (mkF m 10 #[.val (.ref a), .val (.int 0), .val (.int cn), .val (.int cn), .unset] [(.int cn)]) (fun _ q => XS.istoreN X1.here hx rfl (hb hby own_d35_8) rfl (l' := #[.val (.ref a), .val (.int 0), .val (.int cn), .val (.int cn), .unset]) rfl (XS.iloadN X1.here hx rfl (hb hby own_d35_9) rfl q)) ?_
  obtain ⟨T2, h2, k2, X2, e2, E2, A2, Ex2, st2⟩ := newPE X1 hx hZ (own_h hw 38 rfl) eh1 (g := (mkF m 10 #[.val (.ref a), .val (.int 0), .val (.int cn), .val (.int cn), .unset] [(.int cn)])) rfl (hb hby own_d35_10) rfl hc0 (cap := 34) hc34 (by decide) (by decide) (by decide) (ad := "[B") (by decide)
  obtain ⟨b2, g2⟩ : ∃ z, z = h0.size := ⟨_, rfl⟩
  rw [← g2] at A2 Ex2 st2
  have g_b2 : n0 ≤ b2 := Nat.le_trans Z0 (Nat.le_of_eq g2.symm)
  have sz_b2 : h0.size ≤ b2 := Nat.le_trans (Keep.refl h0 []).1 (Nat.le_of_eq g2.symm)
  have ne_a_b2 : a ≠ b2 := Nat.ne_of_lt (Nat.lt_of_lt_of_le R_a.lt (Nat.le_of_eq g2.symm))
  have R_b2 := own_By.of (Arv.new A2 hc0)
  refine own_by (g' := (mkF m 12 #[.val (.ref a), .val (.int 0), .val (.int cn), .val (.int cn), .unset] [(.ref b2)])) st2 ?_
  refine own_g (mkF m 20 #[.val (.ref a), .val (.int 0), .val (.int cn), .val (.int cn), .val (.ref b2)] [(.ref a), (.int 0), (.ref b2), (.int 0), (.ref a)]) (fun _ q => XS.astore X2.here hx rfl (hb hby own_d35_12) rfl rfl (l' := #[.val (.ref a), .val (.int 0), .val (.int cn), .val (.int cn), .val (.ref b2)]) rfl (XS.aloadN X2.here hx rfl (hb hby own_d35_14) rfl rfl (XS.iloadN X2.here hx rfl (hb hby own_d35_15) rfl (XS.aload X2.here hx rfl (hb hby own_d35_16) rfl rfl (XS.iconst X2.here hx rfl (hb hby own_d35_18) (XS.aloadN X2.here hx rfl (hb hby own_d35_19) rfl rfl q)))))) ?_
  have r3_a := (R_a.ext E2)
  obtain ⟨kk4, vs4, ⟨cl4, Ar4, q4, S4, P4, H4, G4⟩, hl4⟩ := id r3_a
  refine own_by (g' := (mkF m 21 #[.val (.ref a), .val (.int 0), .val (.int cn), .val (.int cn), .val (.ref b2)] [(.int z), (.int 0), (.ref b2), (.int 0), (.ref a)])) (fun _ kq => X2.arraylength hx (by rw [e2]; exact Ar4.1) (State.isArrayOf_alike hZ.alike Ar4.2.1) (g := (mkF m 20 #[.val (.ref a), .val (.int 0), .val (.int cn), .val (.int cn), .val (.ref b2)] [(.ref a), (.int 0), (.ref b2), (.int 0), (.ref a)])) rfl rfl (hb hby own_d35_20) _ (by rw [len_of S4 P4]; exact kq)) ?_
  refine own_g (mkF m 23 #[.val (.ref a), .val (.int 0), .val (.int cn), .val (.int cn), .val (.ref b2)] [(.int (z - (0 : Int32))), (.int 0), (.ref b2), (.int 0), (.ref a)]) (fun _ q => XS.iloadN X2.here hx rfl (hb hby own_d35_21) rfl (XS.isub X2.here hx rfl (hb hby own_d35_22) rfl q)) ?_
  rw [own_sub0]
  refine own_g (mkF m 24 #[.val (.ref a), .val (.int 0), .val (.int cn), .val (.int cn), .val (.ref b2)] [(.int cn), (.int z), (.int 0), (.ref b2), (.int 0), (.ref a)]) (fun _ q => XS.iloadN X2.here hx rfl (hb hby own_d35_23) rfl q) ?_
  have k5_ := ((Keep.refl h0 []).ext E2)
  have o6_ := (O0.ext E2)
  refine own_callS X2 hx hZ (y := own_y21) hown (own_h hw 152 rfl) (own_h hw 153 rfl) (own_h hw 144 rfl) (own_h hw 154 rfl) (by decide) (own_mnB l Z a0 hw [] z cn zCS dO dT ca cO cT cc h2 n0 (Nat.le_trans Z0 k5_.1) Cq o6_ hcz) (by decide) (by decide) e2 (g := (mkF m 24 #[.val (.ref a), .val (.int 0), .val (.int cn), .val (.int cn), .val (.ref b2)] [(.int cn), (.int z), (.int 0), (.ref b2), (.int 0), (.ref a)])) rfl (by rw [hml]; rfl) (argsL := [(.int z), (.int cn)]) (rest := [(.int 0), (.ref b2), (.int 0), (.ref a)]) (lenOf own_pd__28II_29I rfl) rfl (W := 4) (by show 2 * 0 + _ ≤ _; exact Nat.le_of_eq rfl) (hb hby own_d35_24) rfl (by decide) (by decide) ?_
  rintro rv7 T7 L7 X7 ⟨rfl, Nq7, eh7⟩
  have N7 := Fr.app N1 Nq7
  show own_Fin p e below _ T7 (mkF m 27 #[.val (.ref a), .val (.int 0), .val (.int cn), .val (.int cn), .val (.ref b2)] [(.int cn), (.int 0), (.ref b2), (.int 0), (.ref a)])
  obtain ⟨ka8, va8, Aa8, la8⟩ := id r3_a
  obtain ⟨kb8, vb8, Ab8, lb8⟩ := id R_b2
  obtain ⟨T9, h9, L9, X9, e9, N9, Kc9, Ac9, st9⟩ := cpA X7 hx hZ hown (own_h hw 155 rfl) (own_h hw 98 rfl) (own_h hw 96 rfl) (own_h hw 97 rfl) eh7 Aa8 Ab8 (Or.inl ⟨rfl, rfl⟩) (sp := (0 : Int32)) (dp := (0 : Int32)) (nn := cn) (by decide) (by decide) hc0 (by show 0 + _ ≤ _; omega) (by show 0 + _ ≤ _; omega) rfl (by rw [lb8]; exact (by show 0 + _ ≤ _; omega)) N7 g_b2 (g := (mkF m 27 #[.val (.ref a), .val (.int 0), .val (.int cn), .val (.int cn), .val (.ref b2)] [(.int cn), (.int 0), (.ref b2), (.int 0), (.ref a)])) rfl (by rw [hml]; rfl) rfl (hb hby own_d35_27) (by decide) (W := 0) (by show 2 * 0 + _ ≤ _; exact Nat.le_of_eq rfl) (by decide)
  have R9 := own_By.of Ac9
  refine own_by (g' := (mkF m 30 #[.val (.ref a), .val (.int 0), .val (.int cn), .val (.int cn), .val (.ref b2)] [])) st9 ?_
  refine own_g (mkF m 32 #[.val (.ref a), .val (.int 0), .val (.int cn), .val (.int cn), .val (.ref b2)] [(.ref b2)]) (fun _ q => XS.aload X9.here hx rfl (hb hby own_d35_30) rfl rfl q) ?_
  have k10_ := (k5_.trans Kc9 (allS (Or.inr sz_b2) all0))
  exact own_end X9 (v := some (.ref b2)) (fun h => by rw [Bd.returns] at h; cases h) hlk (fun hr => retOut X9 hx Bd.returns (own_narR rfl) (Or.inr (Or.inr (Or.inr (Or.inr ⟨rfl, rfl, rfl⟩)))) (hb hby own_d35_32) hr) (by rw [e9]; exact ⟨_, rfl, N9, k10_⟩) (by decide) (by decide)
theorem own_d34_0 : decode jdk_65_method_132_code 0 = .ok (.iload_n 1, 1) := by decide +kernel
theorem own_d34_1 : decode jdk_65_method_132_code 1 = .ok (.ifCond .ne 9, 3) := by decide +kernel
theorem own_d34_4 : decode jdk_65_method_132_code 4 = .ok (.iload_n 2, 1) := by decide +kernel
theorem own_d34_5 : decode jdk_65_method_132_code 5 = .ok (.aload_n 0, 1) := by decide +kernel
theorem own_d34_6 : decode jdk_65_method_132_code 6 = .ok (.arraylength, 1) := by decide +kernel
theorem own_d34_7 : decode jdk_65_method_132_code 7 = .ok (.if_icmp .eq 10, 3) := by decide +kernel
theorem own_d34_10 : decode jdk_65_method_132_code 10 = .ok (.aload_n 0, 1) := by decide +kernel
theorem own_d34_11 : decode jdk_65_method_132_code 11 = .ok (.iload_n 1, 1) := by decide +kernel
theorem own_d34_12 : decode jdk_65_method_132_code 12 = .ok (.iload_n 2, 1) := by decide +kernel
theorem own_d34_13 : decode jdk_65_method_132_code 13 = .ok (.invokestatic 339, 3) := by decide +kernel
theorem own_pd__28_5bBII_29_5bB : parseMethodDescriptor "([BII)[B" = some ⟨[(.array .byte), .int, .int], some (.array .byte)⟩ := by decide +kernel
theorem own_d34_16 : decode jdk_65_method_132_code 16 = .ok (.areturn, 1) := by decide +kernel
theorem own_crL_ef (m : MethodId) (a : Addr) (cn : Int32) : entryFrame m #[(.ref a), (.int 0), (.int cn)] 3 = mkF m 0 #[.val (.ref a), .val (.int 0), .val (.int cn)] [] := by  first | (simp [entryFrame, mkF, argsToLocals, Value.category]; done) | rfl
def own_crL_Q (Z : State) (a : Addr) (cn : Int32) (z : Int32) (zCS : Int32) (dO : Addr) (dT : Addr) (ca : Addr) (cO : Cell) (cT : Cell) (cc : Cell) (h0 : Heap) (n0 : Nat) (v : Option Value) (h : Heap) (L : List Loc) : Prop := ∃ t : Addr, v = some (.ref t) ∧ Fr n0 L ∧ Keep h0 h []
set_option maxRecDepth 65536 in
set_option maxHeartbeats 40000000 in
theorem own_crL (l : Launch) (Z : State) (a0 : Array Value) (hw : ∀ d ∈ tables_1, d.before a0 Z = true) (ws : List Jvm.Cond) (a : Addr) (cn : Int32) (z : Int32) (zCS : Int32) (dO : Addr) (dT : Addr) (ca : Addr) (cO : Cell) (cT : Cell) (cc : Cell) (h0 : Heap) (n0 : Nat) (Z0 : n0 ≤ h0.size) (Cq : own_C Z zCS dO dT ca cO cT cc) (O0 : Old Z n0 h0) (R_a : own_By Z h0 a z) (hcz : cn < z) (hc0 : ¬ cn < 0) (hc34 : cn.toNatClampNeg ≤ 34) :
    MetFree l own_y39 (head1 (Jvm.Cond.code own_y39 jdk_65_method_132_code 3 (some (.array .byte)) :: ws) (⟨2, 1, 34, 34⟩ : Room)) (fun aa U => aa = #[(.ref a), (.int 0), (.int cn)] ∧ Z.Warmed39 U.vm ∧ U.heap = h0) (fun _ _ _ _ _ => True) (fun _ U o U' => ∃ v L, o = .returned v ∧ own_crL_Q Z a cn z zCS dO dT ca cO cT cc h0 n0 v U'.heap L ∧ FrameEnd U o U' L (⟨2, 1, 34, 34⟩ : Room).cells (⟨2, 1, 34, 34⟩ : Room).slots) := by
  refine MetFree.of_bodySF (plainFor_of_name own_pn_java_util_Arrays) hisR ?_
  intro p e s m args below meth c s₁ Bd hml0 hP hK
  obtain ⟨rfl, hZ, hh⟩ := hP
  have hx := Bd.exec
  have hby := Bd.bytes
  have hml : c.maxLocals = 3 := hml0
  have hown : s.vm.findClass "java/util/Arrays" = some m.cls := findClass_of_methodNamed Bd.named
  have hnm := (name_of_methodNamed Bd.named Bd.method).1
  have hlk := Bd.notSynchronized
  have X0 : Stand p l e (⟨2, 1, 34, 34⟩ : Room) s m #[(.ref a), (.int 0), (.int cn)] below meth c s₁ [] 0 0 := Stand.of_body Bd
  have e0 : s₁.heap = h0 := by rw [← hh, Bd.state]; rfl
  have N0 := Fr.nil n0
  refine own_start (Q := own_crL_Q Z a cn z zCS dO dT ca cO cT cc h0 n0) (own_crL_ef m a cn) ?_
  have hne : ¬ cn = z := fun q => by rw [q] at hcz; exact absurd hcz (own_nl (by omega))
  refine own_g (mkF m 6 #[.val (.ref a), .val (.int 0), .val (.int cn)] [(.ref a), (.int cn)]) (fun _ q => XS.iloadN X0.here hx rfl (hb hby own_d34_0) rfl (XS.ifNo X0.here hx rfl (hb hby own_d34_1) rfl ((if0 _ _).trans (teq (by decide : (0 : Int32) = (0 : Int32))).2) (XS.iloadN X0.here hx rfl (hb hby own_d34_4) rfl (XS.aloadN X0.here hx rfl (hb hby own_d34_5) rfl rfl q)))) ?_
  obtain ⟨kk1, vs1, ⟨cl1, Ar1, q1, S1, P1, H1, G1⟩, hl1⟩ := id R_a
  refine own_by (g' := (mkF m 7 #[.val (.ref a), .val (.int 0), .val (.int cn)] [(.int z), (.int cn)])) (fun _ kq => X0.arraylength hx (by rw [e0]; exact Ar1.1) (State.isArrayOf_alike hZ.alike Ar1.2.1) (g := (mkF m 6 #[.val (.ref a), .val (.int 0), .val (.int cn)] [(.ref a), (.int cn)])) rfl rfl (hb hby own_d34_6) _ (by rw [len_of S1 P1]; exact kq)) ?_
  refine own_g (mkF m 13 #[.val (.ref a), .val (.int 0), .val (.int cn)] [(.int cn), (.int 0), (.ref a)]) (fun _ q => XS.icmpNo X0.here hx rfl (hb hby own_d34_7) rfl (feq hne).1 (XS.aloadN X0.here hx rfl (hb hby own_d34_10) rfl rfl (XS.iloadN X0.here hx rfl (hb hby own_d34_11) rfl (XS.iloadN X0.here hx rfl (hb hby own_d34_12) rfl q)))) ?_
  refine own_callS X0 hx hZ (y := (⟨"java/util/Arrays", "copyOfRangeByte", "([BII)[B"⟩ : MethodName)) hown (own_h hw 189 rfl) (own_h hw 190 rfl) (own_h hw 150 rfl) (own_h hw 191 rfl) (by decide) (own_cb l Z a0 hw [] a cn z zCS dO dT ca cO cT cc h0 n0 Z0 Cq O0 R_a hcz hc0 hc34) (by decide) (by decide) e0 (g := (mkF m 13 #[.val (.ref a), .val (.int 0), .val (.int cn)] [(.int cn), (.int 0), (.ref a)])) rfl (by rw [hml]; rfl) (argsL := [(.ref a), (.int 0), (.int cn)]) (rest := []) (lenOf own_pd__28_5bBII_29_5bB rfl) rfl (W := 0) (by show 2 * 0 + _ ≤ _; exact Nat.le_of_eq rfl) (hb hby own_d34_13) rfl (by decide) (by decide) ?_
  rintro rv2 T2 L2 X2 ⟨t0, rfl, Nq2, Kq2⟩
  have N2 := Fr.app N0 Nq2
  show own_Fin p e below _ T2 (mkF m 16 #[.val (.ref a), .val (.int 0), .val (.int cn)] [(.ref t0)])
  have k3_ := ((Keep.refl h0 []).trans Kq2 all0)
  exact own_end X2 (v := some (.ref t0)) (fun h => by rw [Bd.returns] at h; cases h) hlk (fun hr => retOut X2 hx Bd.returns (own_narR rfl) (Or.inr (Or.inr (Or.inr (Or.inr ⟨rfl, rfl, rfl⟩)))) (hb hby own_d34_16) hr) (⟨_, rfl, N2, k3_⟩) (by decide) (by decide)
theorem own_d34_17 : decode jdk_65_method_132_code 17 = .ok (.aload_n 0, 1) := by decide +kernel
theorem own_d34_18 : decode jdk_65_method_132_code 18 = .ok (.invokevirtual 310, 3) := by decide +kernel
theorem own_d34_21 : decode jdk_65_method_132_code 21 = .ok (.checkcast 311, 3) := by decide +kernel
theorem own_d34_24 : decode jdk_65_method_132_code 24 = .ok (.areturn, 1) := by decide +kernel
theorem own_crE_ef (m : MethodId) (a : Addr) : entryFrame m #[(.ref a), (.int 0), (.int 34)] 3 = mkF m 0 #[.val (.ref a), .val (.int 0), .val (.int 34)] [] := by  first | (simp [entryFrame, mkF, argsToLocals, Value.category]; done) | rfl
def own_crE_Q (Z : State) (a : Addr) (zCS : Int32) (dO : Addr) (dT : Addr) (ca : Addr) (cO : Cell) (cT : Cell) (cc : Cell) (h0 : Heap) (n0 : Nat) (v : Option Value) (h : Heap) (L : List Loc) : Prop := ∃ t : Addr, v = some (.ref t) ∧ Fr n0 L ∧ Keep h0 h []
set_option maxRecDepth 65536 in
set_option maxHeartbeats 40000000 in
theorem own_crE (l : Launch) (Z : State) (a0 : Array Value) (hw : ∀ d ∈ tables_1, d.before a0 Z = true) (ws : List Jvm.Cond) (a : Addr) (zCS : Int32) (dO : Addr) (dT : Addr) (ca : Addr) (cO : Cell) (cT : Cell) (cc : Cell) (h0 : Heap) (n0 : Nat) (Z0 : n0 ≤ h0.size) (Cq : own_C Z zCS dO dT ca cO cT cc) (O0 : Old Z n0 h0) (R_a : own_By Z h0 a (34 : Int32)) (E_a : Exa Z h0 a "[B") :
    MetFree l own_y39 (head1 (Jvm.Cond.code own_y39 jdk_65_method_132_code 3 (some (.array .byte)) :: ws) (⟨1, 1, 34, 14⟩ : Room)) (fun aa U => aa = #[(.ref a), (.int 0), (.int 34)] ∧ Z.Warmed39 U.vm ∧ U.heap = h0) (fun _ _ _ _ _ => True) (fun _ U o U' => ∃ v L, o = .returned v ∧ own_crE_Q Z a zCS dO dT ca cO cT cc h0 n0 v U'.heap L ∧ FrameEnd U o U' L (⟨1, 1, 34, 14⟩ : Room).cells (⟨1, 1, 34, 14⟩ : Room).slots) := by
  refine MetFree.of_bodySF (plainFor_of_name own_pn_java_util_Arrays) hisR ?_
  intro p e s m args below meth c s₁ Bd hml0 hP hK
  obtain ⟨rfl, hZ, hh⟩ := hP
  have hx := Bd.exec
  have hby := Bd.bytes
  have hml : c.maxLocals = 3 := hml0
  have hown : s.vm.findClass "java/util/Arrays" = some m.cls := findClass_of_methodNamed Bd.named
  have hnm := (name_of_methodNamed Bd.named Bd.method).1
  have hlk := Bd.notSynchronized
  have X0 : Stand p l e (⟨1, 1, 34, 14⟩ : Room) s m #[(.ref a), (.int 0), (.int 34)] below meth c s₁ [] 0 0 := Stand.of_body Bd
  have e0 : s₁.heap = h0 := by rw [← hh, Bd.state]; rfl
  have N0 := Fr.nil n0
  refine own_start (Q := own_crE_Q Z a zCS dO dT ca cO cT cc h0 n0) (own_crE_ef m a) ?_
  refine own_g (mkF m 6 #[.val (.ref a), .val (.int 0), .val (.int 34)] [(.ref a), (.int 34)]) (fun _ q => XS.iloadN X0.here hx rfl (hb hby own_d34_0) rfl (XS.ifNo X0.here hx rfl (hb hby own_d34_1) rfl ((if0 _ _).trans (teq (by decide : (0 : Int32) = (0 : Int32))).2) (XS.iloadN X0.here hx rfl (hb hby own_d34_4) rfl (XS.aloadN X0.here hx rfl (hb hby own_d34_5) rfl rfl q)))) ?_
  obtain ⟨kk1, vs1, ⟨cl1, Ar1, q1, S1, P1, H1, G1⟩, hl1⟩ := id R_a
  refine own_by (g' := (mkF m 7 #[.val (.ref a), .val (.int 0), .val (.int 34)] [(.int 34), (.int 34)])) (fun _ kq => X0.arraylength hx (by rw [e0]; exact Ar1.1) (State.isArrayOf_alike hZ.alike Ar1.2.1) (g := (mkF m 6 #[.val (.ref a), .val (.int 0), .val (.int 34)] [(.ref a), (.int 34)])) rfl rfl (hb hby own_d34_6) _ (by rw [len_of S1 P1]; exact kq)) ?_
  refine own_g (mkF m 18 #[.val (.ref a), .val (.int 0), .val (.int 34)] [(.ref a)]) (fun _ q => XS.icmpYes X0.here hx rfl (pc0 := 7) (pc' := 17) rfl (hb hby own_d34_7) rfl (teq (by decide : (34 : Int32) = (34 : Int32))).1 (by decide) (by decide) (XS.aloadN X0.here hx rfl (hb hby own_d34_17) rfl rfl q)) ?_
  obtain ⟨kk2, vs2, Av2, hl2⟩ := id R_a
  have Ah2 : Arh Z h0 a kk2 .byte (34 : Int32) [] vs2 (.int 0) := Av2
  obtain ⟨T3, h3, X3, e3, E3, A3, Ex3, st3⟩ := cloneH X0 hx hZ hown (own_h hw 236 rfl) (own_h hw 237 rfl) (own_h hw 241 rfl) (own_h hw 239 rfl) (own_h hw 240 rfl) (own_h hw 242 rfl) e0 Ah2 E_a (g := (mkF m 18 #[.val (.ref a), .val (.int 0), .val (.int 34)] [(.ref a)])) rfl (by rw [hml]; rfl) rfl (hb hby own_d34_18) (by decide) (W := 0) (cap := 34) (by show 2 * 0 + _ ≤ _; exact Nat.le_of_eq rfl) (by decide) (by decide) (by decide) (by decide)
  obtain ⟨b3, g3⟩ : ∃ z, z = h0.size := ⟨_, rfl⟩
  rw [← g3] at A3 Ex3 st3
  have g_b3 : n0 ≤ b3 := Nat.le_trans Z0 (Nat.le_of_eq g3.symm)
  have sz_b3 : h0.size ≤ b3 := Nat.le_trans (Keep.refl h0 []).1 (Nat.le_of_eq g3.symm)
  have ne_a_b3 : a ≠ b3 := Nat.ne_of_lt (Nat.lt_of_lt_of_le R_a.lt (Nat.le_of_eq g3.symm))
  refine own_by (g' := (mkF m 21 #[.val (.ref a), .val (.int 0), .val (.int 34)] [(.ref b3)])) st3 ?_
  obtain ⟨T4, X4, e4, st4⟩ := castY X3 hx hZ hown (own_h hw 243 rfl) e3 (Ins.self Ex3) (g := (mkF m 21 #[.val (.ref a), .val (.int 0), .val (.int 34)] [(.ref b3)])) rfl rfl (hb hby own_d34_21)
  refine own_by (g' := (mkF m 24 #[.val (.ref a), .val (.int 0), .val (.int 34)] [(.ref b3)])) st4 ?_
  have k5_ := ((Keep.refl h0 []).ext E3)
  exact own_end X4 (v := some (.ref b3)) (fun h => by rw [Bd.returns] at h; cases h) hlk (fun hr => retOut X4 hx Bd.returns (own_narR rfl) (Or.inr (Or.inr (Or.inr (Or.inr ⟨rfl, rfl, rfl⟩)))) (hb hby own_d34_24) hr) (by rw [e4]; exact ⟨_, rfl, N0, k5_⟩) (by decide) (by decide)
theorem own_d30_0 : decode jdk_68_method_64_code 0 = .ok (.aload_n 0, 1) := by decide +kernel
theorem own_d30_1 : decode jdk_68_method_64_code 1 = .ok (.getfield 15, 3) := by decide +kernel
theorem own_d30_4 : decode jdk_68_method_64_code 4 = .ok (.areturn, 1) := by decide +kernel
theorem own_gv_ef (m : MethodId) (sb : Addr) : entryFrame m #[(.ref sb)] 1 = mkF m 0 #[.val (.ref sb)] [] := by  first | (simp [entryFrame, mkF, argsToLocals, Value.category]; done) | rfl
def own_gv_Q (Z : State) (sb : Addr) (bv : Addr) (cn : Int32) (zCS : Int32) (dO : Addr) (dT : Addr) (ca : Addr) (cO : Cell) (cT : Cell) (cc : Cell) (h0 : Heap) (n0 : Nat) (v : Option Value) (h : Heap) (L : List Loc) : Prop := v = some (.ref bv) ∧ Fr n0 L ∧ h = h0
set_option maxRecDepth 65536 in
set_option maxHeartbeats 40000000 in
theorem own_gv (l : Launch) (Z : State) (a0 : Array Value) (hw : ∀ d ∈ tables_1, d.before a0 Z = true) (ws : List Jvm.Cond) (sb : Addr) (bv : Addr) (cn : Int32) (zCS : Int32) (dO : Addr) (dT : Addr) (ca : Addr) (cO : Cell) (cT : Cell) (cc : Cell) (h0 : Heap) (n0 : Nat) (Z0 : n0 ≤ h0.size) (Cq : own_C Z zCS dO dT ca cO cT cc) (O0 : Old Z n0 h0) (E_sb : Exa Z h0 sb "java/lang/StringBuilder") (V_sb : Fld Z h0 sb "java/lang/AbstractStringBuilder" "value" "[B" (.ref bv)) (C_sb : Fld Z h0 sb "java/lang/AbstractStringBuilder" "coder" "B" (.int 0)) (N_sb : Fld Z h0 sb "java/lang/AbstractStringBuilder" "count" "I" (.int cn)) :
    MetFree l own_y7 (head1 (Jvm.Cond.code own_y7 jdk_68_method_64_code 1 (some (.array .byte)) :: ws) (⟨0, 0, 0, 0⟩ : Room)) (fun aa U => aa = #[(.ref sb)] ∧ Z.Warmed39 U.vm ∧ U.heap = h0) (fun _ _ _ _ _ => True) (fun _ U o U' => ∃ v L, o = .returned v ∧ own_gv_Q Z sb bv cn zCS dO dT ca cO cT cc h0 n0 v U'.heap L ∧ FrameEnd U o U' L (⟨0, 0, 0, 0⟩ : Room).cells (⟨0, 0, 0, 0⟩ : Room).slots) := by
  refine MetFree.of_bodySF (plainFor_of_name own_pn_java_lang_AbstractStringBuilder) hisR ?_
  intro p e s m args below meth c s₁ Bd hml0 hP hK
  obtain ⟨rfl, hZ, hh⟩ := hP
  have hx := Bd.exec
  have hby := Bd.bytes
  have hml : c.maxLocals = 1 := hml0
  have hown : s.vm.findClass "java/lang/AbstractStringBuilder" = some m.cls := findClass_of_methodNamed Bd.named
  have hnm := (name_of_methodNamed Bd.named Bd.method).1
  have hlk := Bd.notSynchronized
  have X0 : Stand p l e (⟨0, 0, 0, 0⟩ : Room) s m #[(.ref sb)] below meth c s₁ [] 0 0 := Stand.of_body Bd
  have e0 : s₁.heap = h0 := by rw [← hh, Bd.state]; rfl
  have N0 := Fr.nil n0
  refine own_start (Q := own_gv_Q Z sb bv cn zCS dO dT ca cO cT cc h0 n0) (own_gv_ef m sb) ?_
  refine own_g (mkF m 1 #[.val (.ref sb)] [(.ref sb)]) (fun _ q => XS.aloadN X0.here hx rfl (hb hby own_d30_0) rfl rfl q) ?_
  obtain ⟨T1, X1, e1, st1⟩ := getF X0 hx hZ hown (host := "") (Or.inl (own_h hw 39 rfl)) Via.refl e0 V_sb (g := (mkF m 1 #[.val (.ref sb)] [(.ref sb)])) rfl rfl (hb hby own_d30_1)
  refine own_by (g' := (mkF m 4 #[.val (.ref sb)] [(.ref bv)])) st1 ?_
  exact own_end X1 (v := some (.ref bv)) (fun h => by rw [Bd.returns] at h; cases h) hlk (fun hr => retOut X1 hx Bd.returns (own_narR rfl) (Or.inr (Or.inr (Or.inr (Or.inr ⟨rfl, rfl, rfl⟩)))) (hb hby own_d30_4) hr) (by rw [e1]; exact ⟨rfl, N0, rfl⟩) (by decide) (by decide)
theorem own_d32_0 : decode jdk_68_method_6_code 0 = .ok (.aload_n 0, 1) := by decide +kernel
theorem own_d32_1 : decode jdk_68_method_6_code 1 = .ok (.getfield 79, 3) := by decide +kernel
theorem own_d32_4 : decode jdk_68_method_6_code 4 = .ok (.ireturn, 1) := by decide +kernel
theorem own_al_ef (m : MethodId) (sb : Addr) : entryFrame m #[(.ref sb)] 1 = mkF m 0 #[.val (.ref sb)] [] := by  first | (simp [entryFrame, mkF, argsToLocals, Value.category]; done) | rfl
def own_al_Q (Z : State) (sb : Addr) (bv : Addr) (cn : Int32) (zCS : Int32) (dO : Addr) (dT : Addr) (ca : Addr) (cO : Cell) (cT : Cell) (cc : Cell) (h0 : Heap) (n0 : Nat) (v : Option Value) (h : Heap) (L : List Loc) : Prop := v = some (.int cn) ∧ Fr n0 L ∧ h = h0
set_option maxRecDepth 65536 in
set_option maxHeartbeats 40000000 in
theorem own_al (l : Launch) (Z : State) (a0 : Array Value) (hw : ∀ d ∈ tables_1, d.before a0 Z = true) (ws : List Jvm.Cond) (sb : Addr) (bv : Addr) (cn : Int32) (zCS : Int32) (dO : Addr) (dT : Addr) (ca : Addr) (cO : Cell) (cT : Cell) (cc : Cell) (h0 : Heap) (n0 : Nat) (Z0 : n0 ≤ h0.size) (Cq : own_C Z zCS dO dT ca cO cT cc) (O0 : Old Z n0 h0) (E_sb : Exa Z h0 sb "java/lang/StringBuilder") (V_sb : Fld Z h0 sb "java/lang/AbstractStringBuilder" "value" "[B" (.ref bv)) (C_sb : Fld Z h0 sb "java/lang/AbstractStringBuilder" "coder" "B" (.int 0)) (N_sb : Fld Z h0 sb "java/lang/AbstractStringBuilder" "count" "I" (.int cn)) :
    MetFree l own_y10 (head1 (Jvm.Cond.code own_y10 jdk_68_method_6_code 1 (some .int) :: ws) (⟨0, 0, 0, 0⟩ : Room)) (fun aa U => aa = #[(.ref sb)] ∧ Z.Warmed39 U.vm ∧ U.heap = h0) (fun _ _ _ _ _ => True) (fun _ U o U' => ∃ v L, o = .returned v ∧ own_al_Q Z sb bv cn zCS dO dT ca cO cT cc h0 n0 v U'.heap L ∧ FrameEnd U o U' L (⟨0, 0, 0, 0⟩ : Room).cells (⟨0, 0, 0, 0⟩ : Room).slots) := by
  refine MetFree.of_bodySF (plainFor_of_name own_pn_java_lang_AbstractStringBuilder) hisR ?_
  intro p e s m args below meth c s₁ Bd hml0 hP hK
  obtain ⟨rfl, hZ, hh⟩ := hP
  have hx := Bd.exec
  have hby := Bd.bytes
  have hml : c.maxLocals = 1 := hml0
  have hown : s.vm.findClass "java/lang/AbstractStringBuilder" = some m.cls := findClass_of_methodNamed Bd.named
  have hnm := (name_of_methodNamed Bd.named Bd.method).1
  have hlk := Bd.notSynchronized
  have X0 : Stand p l e (⟨0, 0, 0, 0⟩ : Room) s m #[(.ref sb)] below meth c s₁ [] 0 0 := Stand.of_body Bd
  have e0 : s₁.heap = h0 := by rw [← hh, Bd.state]; rfl
  have N0 := Fr.nil n0
  refine own_start (Q := own_al_Q Z sb bv cn zCS dO dT ca cO cT cc h0 n0) (own_al_ef m sb) ?_
  refine own_g (mkF m 1 #[.val (.ref sb)] [(.ref sb)]) (fun _ q => XS.aloadN X0.here hx rfl (hb hby own_d32_0) rfl rfl q) ?_
  obtain ⟨T1, X1, e1, st1⟩ := getF X0 hx hZ hown (host := "") (Or.inl (own_h hw 72 rfl)) Via.refl e0 N_sb (g := (mkF m 1 #[.val (.ref sb)] [(.ref sb)])) rfl rfl (hb hby own_d32_1)
  refine own_by (g' := (mkF m 4 #[.val (.ref sb)] [(.int cn)])) st1 ?_
  exact own_end X1 (v := some (.int cn)) (fun h => by rw [Bd.returns] at h; cases h) hlk (fun hr => retOut X1 hx Bd.returns rfl (Or.inl ⟨rfl, Or.inl rfl, _, rfl⟩) (hb hby own_d32_4) hr) (by rw [e1]; exact ⟨rfl, N0, rfl⟩) (by decide) (by decide)
theorem own_d31_0 : decode jdk_67_method_93_code 0 = .ok (.aload_n 0, 1) := by decide +kernel
theorem own_d31_1 : decode jdk_67_method_93_code 1 = .ok (.invokespecial 343, 3) := by decide +kernel
theorem own_d31_4 : decode jdk_67_method_93_code 4 = .ok (.ireturn, 1) := by decide +kernel
theorem own_sl_ef (m : MethodId) (sb : Addr) : entryFrame m #[(.ref sb)] 1 = mkF m 0 #[.val (.ref sb)] [] := by  first | (simp [entryFrame, mkF, argsToLocals, Value.category]; done) | rfl
def own_sl_Q (Z : State) (sb : Addr) (bv : Addr) (cn : Int32) (zCS : Int32) (dO : Addr) (dT : Addr) (ca : Addr) (cO : Cell) (cT : Cell) (cc : Cell) (h0 : Heap) (n0 : Nat) (v : Option Value) (h : Heap) (L : List Loc) : Prop := v = some (.int cn) ∧ Fr n0 L ∧ h = h0
set_option maxRecDepth 65536 in
set_option maxHeartbeats 40000000 in
theorem own_sl (l : Launch) (Z : State) (a0 : Array Value) (hw : ∀ d ∈ tables_1, d.before a0 Z = true) (ws : List Jvm.Cond) (sb : Addr) (bv : Addr) (cn : Int32) (zCS : Int32) (dO : Addr) (dT : Addr) (ca : Addr) (cO : Cell) (cT : Cell) (cc : Cell) (h0 : Heap) (n0 : Nat) (Z0 : n0 ≤ h0.size) (Cq : own_C Z zCS dO dT ca cO cT cc) (O0 : Old Z n0 h0) (E_sb : Exa Z h0 sb "java/lang/StringBuilder") (V_sb : Fld Z h0 sb "java/lang/AbstractStringBuilder" "value" "[B" (.ref bv)) (C_sb : Fld Z h0 sb "java/lang/AbstractStringBuilder" "coder" "B" (.int 0)) (N_sb : Fld Z h0 sb "java/lang/AbstractStringBuilder" "count" "I" (.int cn)) :
    MetFree l own_y35 (head1 (Jvm.Cond.code own_y35 jdk_67_method_93_code 1 (some .int) :: ws) (⟨1, 0, 0, 12⟩ : Room)) (fun aa U => aa = #[(.ref sb)] ∧ Z.Warmed39 U.vm ∧ U.heap = h0) (fun _ _ _ _ _ => True) (fun _ U o U' => ∃ v L, o = .returned v ∧ own_sl_Q Z sb bv cn zCS dO dT ca cO cT cc h0 n0 v U'.heap L ∧ FrameEnd U o U' L (⟨1, 0, 0, 12⟩ : Room).cells (⟨1, 0, 0, 12⟩ : Room).slots) := by
  refine MetFree.of_bodySF (plainFor_of_name own_pn_java_lang_StringBuilder) hisR ?_
  intro p e s m args below meth c s₁ Bd hml0 hP hK
  obtain ⟨rfl, hZ, hh⟩ := hP
  have hx := Bd.exec
  have hby := Bd.bytes
  have hml : c.maxLocals = 1 := hml0
  have hown : s.vm.findClass "java/lang/StringBuilder" = some m.cls := findClass_of_methodNamed Bd.named
  have hnm := (name_of_methodNamed Bd.named Bd.method).1
  have hlk := Bd.notSynchronized
  have X0 : Stand p l e (⟨1, 0, 0, 12⟩ : Room) s m #[(.ref sb)] below meth c s₁ [] 0 0 := Stand.of_body Bd
  have e0 : s₁.heap = h0 := by rw [← hh, Bd.state]; rfl
  have N0 := Fr.nil n0
  refine own_start (Q := own_sl_Q Z sb bv cn zCS dO dT ca cO cT cc h0 n0) (own_sl_ef m sb) ?_
  refine own_g (mkF m 1 #[.val (.ref sb)] [(.ref sb)]) (fun _ q => XS.aloadN X0.here hx rfl (hb hby own_d31_0) rfl rfl q) ?_
  refine own_callP X0 hx hZ (y := own_y10) hown (own_h hw 179 rfl) (own_h hw 174 rfl) (own_nfc (y' := own_y10) (own_h hw 77 rfl) rfl) (own_h hw 175 rfl) (own_h hw 56 rfl) (own_h hw 180 rfl) (own_h hw 33 rfl) (by decide) (by decide) E_sb (own_al l Z a0 hw [] sb bv cn zCS dO dT ca cO cT cc h0 n0 Z0 Cq O0 E_sb V_sb C_sb N_sb) (by decide) (by decide) e0 (g := (mkF m 1 #[.val (.ref sb)] [(.ref sb)])) rfl (by rw [hml]; rfl) (argsL := []) (rest := []) (lenOf own_pd__28_29I rfl) rfl (W := 0) (by show 2 * 0 + _ ≤ _; exact Nat.le_of_eq rfl) (hb hby own_d31_1) rfl (by decide) (by decide) ?_
  rintro rv1 T1 L1 X1 ⟨rfl, Nq1, eh1⟩
  have N1 := Fr.app N0 Nq1
  show own_Fin p e below _ T1 (mkF m 4 #[.val (.ref sb)] [(.int cn)])
  exact own_end X1 (v := some (.int cn)) (fun h => by rw [Bd.returns] at h; cases h) hlk (fun hr => retOut X1 hx Bd.returns rfl (Or.inl ⟨rfl, Or.inl rfl, _, rfl⟩) (hb hby own_d31_4) hr) (by rw [eh1]; exact ⟨rfl, N1, rfl⟩) (by decide) (by decide)
theorem own_d33_0 : decode jdk_68_method_68_code 0 = .ok (.getstatic 18, 3) := by decide +kernel
theorem own_d33_3 : decode jdk_68_method_68_code 3 = .ok (.ifCond .eq 14, 3) := by decide +kernel
theorem own_d33_6 : decode jdk_68_method_68_code 6 = .ok (.aload_n 0, 1) := by decide +kernel
theorem own_d33_7 : decode jdk_68_method_68_code 7 = .ok (.getfield 22, 3) := by decide +kernel
theorem own_d33_10 : decode jdk_68_method_68_code 10 = .ok (.ifCond .ne 7, 3) := by decide +kernel
theorem own_d33_13 : decode jdk_68_method_68_code 13 = .ok (.iconst 1, 1) := by decide +kernel
theorem own_d33_14 : decode jdk_68_method_68_code 14 = .ok (.goto 4, 3) := by decide +kernel
theorem own_d33_18 : decode jdk_68_method_68_code 18 = .ok (.ireturn, 1) := by decide +kernel
theorem own_la_ef (m : MethodId) (sb : Addr) : entryFrame m #[(.ref sb)] 1 = mkF m 0 #[.val (.ref sb)] [] := by  first | (simp [entryFrame, mkF, argsToLocals, Value.category]; done) | rfl
def own_la_Q (Z : State) (sb : Addr) (bv : Addr) (cn : Int32) (zCS : Int32) (dO : Addr) (dT : Addr) (ca : Addr) (cO : Cell) (cT : Cell) (cc : Cell) (h0 : Heap) (n0 : Nat) (v : Option Value) (h : Heap) (L : List Loc) : Prop := v = some (.int 1) ∧ Fr n0 L ∧ h = h0
set_option maxRecDepth 65536 in
set_option maxHeartbeats 40000000 in
theorem own_la (l : Launch) (Z : State) (a0 : Array Value) (hw : ∀ d ∈ tables_1, d.before a0 Z = true) (ws : List Jvm.Cond) (sb : Addr) (bv : Addr) (cn : Int32) (zCS : Int32) (dO : Addr) (dT : Addr) (ca : Addr) (cO : Cell) (cT : Cell) (cc : Cell) (h0 : Heap) (n0 : Nat) (Z0 : n0 ≤ h0.size) (Cq : own_C Z zCS dO dT ca cO cT cc) (O0 : Old Z n0 h0) (E_sb : Exa Z h0 sb "java/lang/StringBuilder") (V_sb : Fld Z h0 sb "java/lang/AbstractStringBuilder" "value" "[B" (.ref bv)) (C_sb : Fld Z h0 sb "java/lang/AbstractStringBuilder" "coder" "B" (.int 0)) (N_sb : Fld Z h0 sb "java/lang/AbstractStringBuilder" "count" "I" (.int cn)) :
    MetFree l own_y9 (head1 (Jvm.Cond.code own_y9 jdk_68_method_68_code 1 (some .boolean) :: ws) (⟨0, 0, 0, 0⟩ : Room)) (fun aa U => aa = #[(.ref sb)] ∧ Z.Warmed39 U.vm ∧ U.heap = h0) (fun _ _ _ _ _ => True) (fun _ U o U' => ∃ v L, o = .returned v ∧ own_la_Q Z sb bv cn zCS dO dT ca cO cT cc h0 n0 v U'.heap L ∧ FrameEnd U o U' L (⟨0, 0, 0, 0⟩ : Room).cells (⟨0, 0, 0, 0⟩ : Room).slots) := by
  refine MetFree.of_bodySF (plainFor_of_name own_pn_java_lang_AbstractStringBuilder) hisR ?_
  intro p e s m args below meth c s₁ Bd hml0 hP hK
  obtain ⟨rfl, hZ, hh⟩ := hP
  have hx := Bd.exec
  have hby := Bd.bytes
  have hml : c.maxLocals = 1 := hml0
  have hown : s.vm.findClass "java/lang/AbstractStringBuilder" = some m.cls := findClass_of_methodNamed Bd.named
  have hnm := (name_of_methodNamed Bd.named Bd.method).1
  have hlk := Bd.notSynchronized
  have X0 : Stand p l e (⟨0, 0, 0, 0⟩ : Room) s m #[(.ref sb)] below meth c s₁ [] 0 0 := Stand.of_body Bd
  have e0 : s₁.heap = h0 := by rw [← hh, Bd.state]; rfl
  have N0 := Fr.nil n0
  refine own_start (Q := own_la_Q Z sb bv cn zCS dO dT ca cO cT cc h0 n0) (own_la_ef m sb) ?_
  obtain ⟨T1, X1, e1, st1⟩ := getS2 X0 hx hZ hown (host := "") (Or.inl (own_h hw 36 rfl)) Via.refl e0 (Sta.ext O0.2 Cq.1) (g := (mkF m 0 #[.val (.ref sb)] [])) rfl (hb hby own_d33_0)
  refine own_by (g' := (mkF m 3 #[.val (.ref sb)] [(.int zCS)])) st1 ?_
  refine own_g (mkF m 7 #[.val (.ref sb)] [(.ref sb)]) (fun _ q => XS.ifNo X1.here hx rfl (hb hby own_d33_3) rfl ((if0 _ _).trans (feq Cq.2.1).1) (XS.aloadN X1.here hx rfl (hb hby own_d33_6) rfl rfl q)) ?_
  obtain ⟨T2, X2, e2, st2⟩ := getF X1 hx hZ hown (host := "") (Or.inl (own_h hw 41 rfl)) Via.refl e1 C_sb (g := (mkF m 7 #[.val (.ref sb)] [(.ref sb)])) rfl rfl (hb hby own_d33_7)
  refine own_by (g' := (mkF m 10 #[.val (.ref sb)] [(.int 0)])) st2 ?_
  refine own_g (mkF m 18 #[.val (.ref sb)] [(.int 1)]) (fun _ q => XS.ifNo X2.here hx rfl (hb hby own_d33_10) rfl ((if0 _ _).trans (teq (by decide : (0 : Int32) = (0 : Int32))).2) (XS.iconst X2.here hx rfl (hb hby own_d33_13) (XS.goto X2.here hx rfl (pc0 := 14) (pc' := 18) rfl (hb hby own_d33_14) (by decide) (by decide) q))) ?_
  exact own_end X2 (v := some (.int (nar .boolean (1 : Int32)))) (fun h => by rw [Bd.returns] at h; cases h) hlk (fun hr => retN X2 hx (t := .boolean) Bd.returns (by simp) (hb hby own_d33_18) hr) (by rw [e2]; exact ⟨rfl, N0, rfl⟩) (by decide) (by decide)
theorem own_d29_0 : decode jdk_42_method_150_code 0 = .ok (.aload_n 0, 1) := by decide +kernel
theorem own_d29_1 : decode jdk_42_method_150_code 1 = .ok (.invokespecial 1, 3) := by decide +kernel
theorem own_d29_4 : decode jdk_42_method_150_code 4 = .ok (.aload_n 1, 1) := by decide +kernel
theorem own_d29_5 : decode jdk_42_method_150_code 5 = .ok (.invokevirtual 552, 3) := by decide +kernel
theorem own_pd__28_29_5bB : parseMethodDescriptor "()[B" = some ⟨[], some (.array .byte)⟩ := by decide +kernel
theorem own_d29_8 : decode jdk_42_method_150_code 8 = .ok (.astore_n 3, 1) := by decide +kernel
theorem own_d29_9 : decode jdk_42_method_150_code 9 = .ok (.aload_n 1, 1) := by decide +kernel
theorem own_d29_10 : decode jdk_42_method_150_code 10 = .ok (.invokevirtual 549, 3) := by decide +kernel
theorem own_d29_13 : decode jdk_42_method_150_code 13 = .ok (.istore 4, 2) := by decide +kernel
theorem own_d29_15 : decode jdk_42_method_150_code 15 = .ok (.aload_n 1, 1) := by decide +kernel
theorem own_d29_16 : decode jdk_42_method_150_code 16 = .ok (.invokevirtual 1047, 3) := by decide +kernel
theorem own_pd__28_29Z : parseMethodDescriptor "()Z" = some ⟨[], some .boolean⟩ := by decide +kernel
theorem own_d29_19 : decode jdk_42_method_150_code 19 = .ok (.ifCond .eq 22, 3) := by decide +kernel
theorem own_d29_22 : decode jdk_42_method_150_code 22 = .ok (.aload_n 0, 1) := by decide +kernel
theorem own_d29_23 : decode jdk_42_method_150_code 23 = .ok (.iconst 0, 1) := by decide +kernel
theorem own_d29_24 : decode jdk_42_method_150_code 24 = .ok (.putfield 15, 3) := by decide +kernel
theorem own_d29_27 : decode jdk_42_method_150_code 27 = .ok (.aload_n 0, 1) := by decide +kernel
theorem own_d29_28 : decode jdk_42_method_150_code 28 = .ok (.aload_n 3, 1) := by decide +kernel
theorem own_d29_29 : decode jdk_42_method_150_code 29 = .ok (.iconst 0, 1) := by decide +kernel
theorem own_d29_30 : decode jdk_42_method_150_code 30 = .ok (.iload 4, 2) := by decide +kernel
theorem own_d29_32 : decode jdk_42_method_150_code 32 = .ok (.invokestatic 54, 3) := by decide +kernel
theorem own_d29_35 : decode jdk_42_method_150_code 35 = .ok (.putfield 9, 3) := by decide +kernel
theorem own_d29_38 : decode jdk_42_method_150_code 38 = .ok (.goto 59, 3) := by decide +kernel
theorem own_d29_97 : decode jdk_42_method_150_code 97 = .ok (.return_, 1) := by decide +kernel
theorem own_iaL_ef (m : MethodId) (x0 : Addr) (sb : Addr) : entryFrame m #[(.ref x0), (.ref sb), .null] 5 = mkF m 0 #[.val (.ref x0), .val (.ref sb), .val .null, .unset, .unset] [] := by  first | (simp [entryFrame, mkF, argsToLocals, Value.category]; done) | rfl
def own_iaL_Q (Z : State) (x0 : Addr) (sb : Addr) (bv : Addr) (cn : Int32) (z : Int32) (zCS : Int32) (dO : Addr) (dT : Addr) (ca : Addr) (cO : Cell) (cT : Cell) (cc : Cell) (h0 : Heap) (n0 : Nat) (v : Option Value) (h : Heap) (L : List Loc) : Prop := v = none ∧ Fr n0 L ∧ Keep h0 h [x0]
set_option maxRecDepth 65536 in
set_option maxHeartbeats 40000000 in
theorem own_iaL (l : Launch) (Z : State) (a0 : Array Value) (hw : ∀ d ∈ tables_1, d.before a0 Z = true) (ws : List Jvm.Cond) (x0 : Addr) (sb : Addr) (bv : Addr) (cn : Int32) (z : Int32) (zCS : Int32) (dO : Addr) (dT : Addr) (ca : Addr) (cO : Cell) (cT : Cell) (cc : Cell) (h0 : Heap) (n0 : Nat) (Z0 : n0 ≤ h0.size) (Cq : own_C Z zCS dO dT ca cO cT cc) (O0 : Old Z n0 h0) (E_sb : Exa Z h0 sb "java/lang/StringBuilder") (V_sb : Fld Z h0 sb "java/lang/AbstractStringBuilder" "value" "[B" (.ref bv)) (C_sb : Fld Z h0 sb "java/lang/AbstractStringBuilder" "coder" "B" (.int 0)) (N_sb : Fld Z h0 sb "java/lang/AbstractStringBuilder" "count" "I" (.int cn)) (E_x : Exa Z h0 x0 "java/lang/String") (V_x : Fld Z h0 x0 "java/lang/String" "value" "[B" .null) (C_x : Fld Z h0 x0 "java/lang/String" "coder" "B" (.int 0)) (g_x : n0 ≤ x0) (R_v : own_By Z h0 bv z) (hcz : cn < z) (hc0 : ¬ cn < 0) (hc34 : cn.toNatClampNeg ≤ 34) (n_sx : sb ≠ x0) (n_vx : bv ≠ x0) :
    MetFree l own_y25 (head1 (Jvm.Cond.code own_y25 jdk_42_method_150_code 5 none :: ws) (⟨3, 1, 34, 49⟩ : Room)) (fun aa U => aa = #[(.ref x0), (.ref sb), .null] ∧ Z.Warmed39 U.vm ∧ U.heap = h0) (fun _ _ _ _ _ => True) (fun _ U o U' => ∃ v L, o = .returned v ∧ own_iaL_Q Z x0 sb bv cn z zCS dO dT ca cO cT cc h0 n0 v U'.heap L ∧ FrameEnd U o U' L (⟨3, 1, 34, 49⟩ : Room).cells (⟨3, 1, 34, 49⟩ : Room).slots) := by
  refine MetFree.of_bodySF (plainFor_of_name own_pn_java_lang_String) hisR ?_
  intro p e s m args below meth c s₁ Bd hml0 hP hK
  obtain ⟨rfl, hZ, hh⟩ := hP
  have hx := Bd.exec
  have hby := Bd.bytes
  have hml : c.maxLocals = 5 := hml0
  have hown : s.vm.findClass "java/lang/String" = some m.cls := findClass_of_methodNamed Bd.named
  have hnm := (name_of_methodNamed Bd.named Bd.method).1
  have hlk := Bd.notSynchronized
  have X0 : Stand p l e (⟨3, 1, 34, 49⟩ : Room) s m #[(.ref x0), (.ref sb), .null] below meth c s₁ [] 0 0 := Stand.of_body Bd
  have e0 : s₁.heap = h0 := by rw [← hh, Bd.state]; rfl
  have N0 := Fr.nil n0
  refine own_start (Q := own_iaL_Q Z x0 sb bv cn z zCS dO dT ca cO cT cc h0 n0) (own_iaL_ef m x0 sb) ?_
  refine own_g (mkF m 1 #[.val (.ref x0), .val (.ref sb), .val .null, .unset, .unset] [(.ref x0)]) (fun _ q => XS.aloadN X0.here hx rfl (hb hby own_d29_0) rfl rfl q) ?_
  obtain ⟨T1, X1, e1, st1⟩ := initO X0 hx hZ hown (own_h hw 131 rfl) (own_h hw 21 rfl) (own_h hw 22 rfl) e0 (g := (mkF m 1 #[.val (.ref x0), .val (.ref sb), .val .null, .unset, .unset] [(.ref x0)])) rfl (by rw [hml]; rfl) rfl (hb hby own_d29_1) (by decide) (W := 0) (by show 2 * 0 + _ ≤ _; exact Nat.le_of_eq rfl) (by decide)
  refine own_by (g' := (mkF m 4 #[.val (.ref x0), .val (.ref sb), .val .null, .unset, .unset] [])) st1 ?_
  refine own_g (mkF m 5 #[.val (.ref x0), .val (.ref sb), .val .null, .unset, .unset] [(.ref sb)]) (fun _ q => XS.aloadN X1.here hx rfl (hb hby own_d29_4) rfl rfl q) ?_
  refine own_callV X1 hx hZ (y := own_y7) (z := own_y7) hown (own_h hw 168 rfl) (own_h hw 169 rfl) (own_nf (own_h hw 171 rfl)) (own_h hw 171 rfl) (own_h hw 170 rfl) (own_h hw 172 rfl) (own_h hw 33 rfl) (by decide) E_sb (own_gv l Z a0 hw [] sb bv cn zCS dO dT ca cO cT cc h0 n0 (Nat.le_trans Z0 (Keep.refl h0 [x0]).1) Cq O0 E_sb V_sb C_sb N_sb) (by decide) (by decide) e1 (g := (mkF m 5 #[.val (.ref x0), .val (.ref sb), .val .null, .unset, .unset] [(.ref sb)])) rfl (by rw [hml]; rfl) (argsL := []) (rest := []) (lenOf own_pd__28_29_5bB rfl) rfl (W := 0) (by show 2 * 0 + _ ≤ _; exact Nat.le_of_eq rfl) (hb hby own_d29_5) rfl (by decide) (by decide) ?_
  rintro rv2 T2 L2 X2 ⟨rfl, Nq2, eh2⟩
  have N2 := Fr.app N0 Nq2
  refine own_g (mkF m 10 #[.val (.ref x0), .val (.ref sb), .val .null, .val (.ref bv), .unset] [(.ref sb)]) (fun _ q => XS.astoreN X2.here hx rfl (hb hby own_d29_8) rfl rfl (l' := #[.val (.ref x0), .val (.ref sb), .val .null, .val (.ref bv), .unset]) rfl (XS.aloadN X2.here hx rfl (hb hby own_d29_9) rfl rfl q)) ?_
  refine own_callV X2 hx hZ (y := own_y10) (z := own_y35) hown (own_h hw 173 rfl) (own_h hw 174 rfl) (own_nfc (y' := own_y10) (own_h hw 77 rfl) rfl) (own_h hw 176 rfl) (own_h hw 177 rfl) (own_h hw 178 rfl) (own_h hw 25 rfl) (by decide) E_sb (own_sl l Z a0 hw [] sb bv cn zCS dO dT ca cO cT cc h0 n0 (Nat.le_trans Z0 (Keep.refl h0 [x0]).1) Cq O0 E_sb V_sb C_sb N_sb) (by decide) (by decide) eh2 (g := (mkF m 10 #[.val (.ref x0), .val (.ref sb), .val .null, .val (.ref bv), .unset] [(.ref sb)])) rfl (by rw [hml]; rfl) (argsL := []) (rest := []) (lenOf own_pd__28_29I rfl) rfl (W := 0) (by show 2 * 0 + _ ≤ _; exact Nat.le_of_eq rfl) (hb hby own_d29_10) rfl (by decide) (by decide) ?_
  rintro rv3 T3 L3 X3 ⟨rfl, Nq3, eh3⟩
  have N3 := Fr.app N2 Nq3
  refine own_g (mkF m 16 #[.val (.ref x0), .val (.ref sb), .val .null, .val (.ref bv), .val (.int cn)] [(.ref sb)]) (fun _ q => XS.istore X3.here hx rfl (hb hby own_d29_13) rfl (l' := #[.val (.ref x0), .val (.ref sb), .val .null, .val (.ref bv), .val (.int cn)]) rfl (XS.aloadN X3.here hx rfl (hb hby own_d29_15) rfl rfl q)) ?_
  refine own_callV X3 hx hZ (y := own_y9) (z := own_y9) hown (own_h hw 181 rfl) (own_h hw 182 rfl) (own_nf (own_h hw 184 rfl)) (own_h hw 184 rfl) (own_h hw 183 rfl) (own_h hw 185 rfl) (own_h hw 33 rfl) (by decide) E_sb (own_la l Z a0 hw [] sb bv cn zCS dO dT ca cO cT cc h0 n0 (Nat.le_trans Z0 (Keep.refl h0 [x0]).1) Cq O0 E_sb V_sb C_sb N_sb) (by decide) (by decide) eh3 (g := (mkF m 16 #[.val (.ref x0), .val (.ref sb), .val .null, .val (.ref bv), .val (.int cn)] [(.ref sb)])) rfl (by rw [hml]; rfl) (argsL := []) (rest := []) (lenOf own_pd__28_29Z rfl) rfl (W := 0) (by show 2 * 0 + _ ≤ _; exact Nat.le_of_eq rfl) (hb hby own_d29_16) rfl (by decide) (by decide) ?_
  rintro rv4 T4 L4 X4 ⟨rfl, Nq4, eh4⟩
  have N4 := Fr.app N3 Nq4
  refine own_g (mkF m 24 #[.val (.ref x0), .val (.ref sb), .val .null, .val (.ref bv), .val (.int cn)] [(.int 0), (.ref x0)]) (fun _ q => XS.ifNo X4.here hx rfl (hb hby own_d29_19) rfl ((if0 _ _).trans (feq (by decide : ¬ ((1 : Int32) = (0 : Int32)))).1) (XS.aloadN X4.here hx rfl (hb hby own_d29_22) rfl rfl (XS.iconst X4.here hx rfl (hb hby own_d29_23) q))) ?_
  obtain ⟨T5, h5, X5, e5, W5, st5⟩ := putFN X4 hx hZ hown (own_h hw 71 rfl) Via.refl eh4 C_x E_x (Or.inr ⟨(own_h hw 46 rfl), rfl, hnm⟩) (own_h hw 44 rfl) (ty := .byte) (v' := (.int 0)) (by decide) rfl (by decide) (g := (mkF m 24 #[.val (.ref x0), .val (.ref sb), .val .null, .val (.ref bv), .val (.int cn)] [(.int 0), (.ref x0)])) rfl rfl (hb hby own_d29_24)
  have Fw5 := C_x.same W5
  have N5 := Fr.snoc X5 N4 g_x
  refine own_by (g' := (mkF m 27 #[.val (.ref x0), .val (.ref sb), .val .null, .val (.ref bv), .val (.int cn)] [])) st5 ?_
  refine own_g (mkF m 32 #[.val (.ref x0), .val (.ref sb), .val .null, .val (.ref bv), .val (.int cn)] [(.int cn), (.int 0), (.ref bv), (.ref x0)]) (fun _ q => XS.aloadN X5.here hx rfl (hb hby own_d29_27) rfl rfl (XS.aloadN X5.here hx rfl (hb hby own_d29_28) rfl rfl (XS.iconst X5.here hx rfl (hb hby own_d29_29) (XS.iload X5.here hx rfl (hb hby own_d29_30) rfl q)))) ?_
  have r6_bv := (R_v.other W5 n_vx)
  have k7_ := ((Keep.refl h0 [x0]).wr W5 (Or.inl (List.mem_of_getElem? (i := 0) rfl)))
  have o8_ := (O0.wr W5 g_x)
  refine own_callS X5 hx hZ (y := own_y39) hown (own_h hw 186 rfl) (own_h hw 187 rfl) (own_h hw 150 rfl) (own_h hw 188 rfl) (by decide) (own_crL l Z a0 hw [] bv cn z zCS dO dT ca cO cT cc h5 n0 (Nat.le_trans Z0 k7_.1) Cq o8_ r6_bv hcz hc0 hc34) (by decide) (by decide) e5 (g := (mkF m 32 #[.val (.ref x0), .val (.ref sb), .val .null, .val (.ref bv), .val (.int cn)] [(.int cn), (.int 0), (.ref bv), (.ref x0)])) rfl (by rw [hml]; rfl) (argsL := [(.ref bv), (.int 0), (.int cn)]) (rest := [(.ref x0)]) (lenOf own_pd__28_5bBII_29_5bB rfl) rfl (W := 1) (by show 2 * 0 + _ ≤ _; exact Nat.le_of_eq rfl) (hb hby own_d29_32) rfl (by decide) (by decide) ?_
  rintro rv9 T9 L9 X9 ⟨t0, rfl, Nq9, Kq9⟩
  have N9 := Fr.app N5 Nq9
  show own_Fin p e below _ T9 (mkF m 35 #[.val (.ref x0), .val (.ref sb), .val .null, .val (.ref bv), .val (.int cn)] [(.ref t0), (.ref x0)])
  have e10_x0 := ((E_x.wr W5).keep Kq9)
  have f11_x0 := ((V_x.other W5 (Or.inr (slot_ne (Or.inr (own_h hw 45 rfl)) (Or.inr (own_h hw 46 rfl)) (by decide) (t := (.array .byte)) (t' := .byte) (by decide) (by decide)))).keep Kq9 nin0)
  obtain ⟨T12, h12, X12, e12, W12, st12⟩ := putF X9 hx hZ hown (host := "") (Or.inl (own_h hw 64 rfl)) Via.refl rfl f11_x0 e10_x0 (Or.inr ⟨(own_h hw 45 rfl), rfl, hnm⟩) (own_h hw 44 rfl) (ty := (.array .byte)) (by decide) (rfl) (rfl) (g := (mkF m 35 #[.val (.ref x0), .val (.ref sb), .val .null, .val (.ref bv), .val (.int cn)] [(.ref t0), (.ref x0)])) rfl rfl (hb hby own_d29_35)
  have Fw12 := f11_x0.same W12
  have N12 := Fr.snoc X12 N9 g_x
  refine own_by (g' := (mkF m 38 #[.val (.ref x0), .val (.ref sb), .val .null, .val (.ref bv), .val (.int cn)] [])) st12 ?_
  refine own_g (mkF m 97 #[.val (.ref x0), .val (.ref sb), .val .null, .val (.ref bv), .val (.int cn)] []) (fun _ q => XS.goto X12.here hx rfl (pc0 := 38) (pc' := 97) rfl (hb hby own_d29_38) (by decide) (by decide) q) ?_
  have k13_ := ((k7_.trans Kq9 all0).wr W12 (Or.inl (List.mem_of_getElem? (i := 0) rfl)))
  exact own_end X12 (v := none) (fun _ => rfl) hlk (fun hr => X12.returnOut hx Bd.returns (hb hby own_d29_97) hr) (by rw [e12]; exact ⟨rfl, N12, k13_⟩) (by decide) (by decide)
theorem own_d28_0 : decode jdk_42_method_53_code 0 = .ok (.aload_n 0, 1) := by decide +kernel
theorem own_d28_1 : decode jdk_42_method_53_code 1 = .ok (.aload_n 1, 1) := by decide +kernel
theorem own_d28_2 : decode jdk_42_method_53_code 2 = .ok (.aconst_null, 1) := by decide +kernel
theorem own_d28_3 : decode jdk_42_method_53_code 3 = .ok (.invokespecial 489, 3) := by decide +kernel
theorem own_pd__28Ljava_2flang_2fAbstractStringBuilder_3bLjava_2flang_2fVoid_3b_29V : parseMethodDescriptor "(Ljava/lang/AbstractStringBuilder;Ljava/lang/Void;)V" = some ⟨[(.object "java/lang/AbstractStringBuilder"), (.object "java/lang/Void")], none⟩ := by decide +kernel
theorem own_d28_6 : decode jdk_42_method_53_code 6 = .ok (.return_, 1) := by decide +kernel
theorem own_ibL_ef (m : MethodId) (x0 : Addr) (sb : Addr) : entryFrame m #[(.ref x0), (.ref sb)] 2 = mkF m 0 #[.val (.ref x0), .val (.ref sb)] [] := by  first | (simp [entryFrame, mkF, argsToLocals, Value.category]; done) | rfl
def own_ibL_Q (Z : State) (x0 : Addr) (sb : Addr) (bv : Addr) (cn : Int32) (z : Int32) (zCS : Int32) (dO : Addr) (dT : Addr) (ca : Addr) (cO : Cell) (cT : Cell) (cc : Cell) (h0 : Heap) (n0 : Nat) (v : Option Value) (h : Heap) (L : List Loc) : Prop := v = none ∧ Fr n0 L ∧ Keep h0 h [x0]
set_option maxRecDepth 65536 in
set_option maxHeartbeats 40000000 in
theorem own_ibL (l : Launch) (Z : State) (a0 : Array Value) (hw : ∀ d ∈ tables_1, d.before a0 Z = true) (ws : List Jvm.Cond) (x0 : Addr) (sb : Addr) (bv : Addr) (cn : Int32) (z : Int32) (zCS : Int32) (dO : Addr) (dT : Addr) (ca : Addr) (cO : Cell) (cT : Cell) (cc : Cell) (h0 : Heap) (n0 : Nat) (Z0 : n0 ≤ h0.size) (Cq : own_C Z zCS dO dT ca cO cT cc) (O0 : Old Z n0 h0) (E_sb : Exa Z h0 sb "java/lang/StringBuilder") (V_sb : Fld Z h0 sb "java/lang/AbstractStringBuilder" "value" "[B" (.ref bv)) (C_sb : Fld Z h0 sb "java/lang/AbstractStringBuilder" "coder" "B" (.int 0)) (N_sb : Fld Z h0 sb "java/lang/AbstractStringBuilder" "count" "I" (.int cn)) (E_x : Exa Z h0 x0 "java/lang/String") (V_x : Fld Z h0 x0 "java/lang/String" "value" "[B" .null) (C_x : Fld Z h0 x0 "java/lang/String" "coder" "B" (.int 0)) (g_x : n0 ≤ x0) (R_v : own_By Z h0 bv z) (hcz : cn < z) (hc0 : ¬ cn < 0) (hc34 : cn.toNatClampNeg ≤ 34) (n_sx : sb ≠ x0) (n_vx : bv ≠ x0) :
    MetFree l own_y26 (head1 (Jvm.Cond.code own_y26 jdk_42_method_53_code 2 none :: ws) (⟨4, 1, 34, 65⟩ : Room)) (fun aa U => aa = #[(.ref x0), (.ref sb)] ∧ Z.Warmed39 U.vm ∧ U.heap = h0) (fun _ _ _ _ _ => True) (fun _ U o U' => ∃ v L, o = .returned v ∧ own_ibL_Q Z x0 sb bv cn z zCS dO dT ca cO cT cc h0 n0 v U'.heap L ∧ FrameEnd U o U' L (⟨4, 1, 34, 65⟩ : Room).cells (⟨4, 1, 34, 65⟩ : Room).slots) := by
  refine MetFree.of_bodySF (plainFor_of_name own_pn_java_lang_String) hisR ?_
  intro p e s m args below meth c s₁ Bd hml0 hP hK
  obtain ⟨rfl, hZ, hh⟩ := hP
  have hx := Bd.exec
  have hby := Bd.bytes
  have hml : c.maxLocals = 2 := hml0
  have hown : s.vm.findClass "java/lang/String" = some m.cls := findClass_of_methodNamed Bd.named
  have hnm := (name_of_methodNamed Bd.named Bd.method).1
  have hlk := Bd.notSynchronized
  have X0 : Stand p l e (⟨4, 1, 34, 65⟩ : Room) s m #[(.ref x0), (.ref sb)] below meth c s₁ [] 0 0 := Stand.of_body Bd
  have e0 : s₁.heap = h0 := by rw [← hh, Bd.state]; rfl
  have N0 := Fr.nil n0
  refine own_start (Q := own_ibL_Q Z x0 sb bv cn z zCS dO dT ca cO cT cc h0 n0) (own_ibL_ef m x0 sb) ?_
  refine own_g (mkF m 3 #[.val (.ref x0), .val (.ref sb)] [.null, (.ref sb), (.ref x0)]) (fun _ q => XS.aloadN X0.here hx rfl (hb hby own_d28_0) rfl rfl (XS.aloadN X0.here hx rfl (hb hby own_d28_1) rfl rfl (XS.aconstNull X0.here hx rfl (hb hby own_d28_2) q))) ?_
  refine own_callI X0 hx hZ (y := own_y25) rfl hown (own_h hw 165 rfl) (own_h hw 166 rfl) (own_h hw 167 rfl) (own_h hw 37 rfl) (by decide) (own_iaL l Z a0 hw [] x0 sb bv cn z zCS dO dT ca cO cT cc h0 n0 (Nat.le_trans Z0 (Keep.refl h0 [x0]).1) Cq O0 E_sb V_sb C_sb N_sb E_x V_x C_x g_x R_v hcz hc0 hc34 n_sx n_vx) (by decide) (by decide) e0 (g := (mkF m 3 #[.val (.ref x0), .val (.ref sb)] [.null, (.ref sb), (.ref x0)])) rfl (by rw [hml]; rfl) (argsL := [(.ref sb), .null]) (rest := []) (lenOf own_pd__28Ljava_2flang_2fAbstractStringBuilder_3bLjava_2flang_2fVoid_3b_29V rfl) rfl (W := 0) (by show 2 * 0 + _ ≤ _; exact Nat.le_of_eq rfl) (hb hby own_d28_3) rfl (by decide) (by decide) ?_
  rintro rv1 T1 L1 X1 ⟨rfl, Nq1, Kq1⟩
  have N1 := Fr.app N0 Nq1
  show own_Fin p e below _ T1 (mkF m 6 #[.val (.ref x0), .val (.ref sb)] [])
  have k2_ := ((Keep.refl h0 [x0]).trans Kq1 (allS (Or.inl (List.mem_of_getElem? (i := 0) rfl)) all0))
  exact own_end X1 (v := none) (fun _ => rfl) hlk (fun hr => X1.returnOut hx Bd.returns (hb hby own_d28_6) hr) (⟨rfl, N1, k2_⟩) (by decide) (by decide)
theorem own_d27_0 : decode jdk_67_method_42_code 0 = .ok (.new 18, 3) := by decide +kernel
theorem own_d27_3 : decode jdk_67_method_42_code 3 = .ok (.dup, 1) := by decide +kernel
theorem own_d27_4 : decode jdk_67_method_42_code 4 = .ok (.aload_n 0, 1) := by decide +kernel
theorem own_d27_5 : decode jdk_67_method_42_code 5 = .ok (.invokespecial 137, 3) := by decide +kernel
theorem own_pd__28Ljava_2flang_2fStringBuilder_3b_29V : parseMethodDescriptor "(Ljava/lang/StringBuilder;)V" = some ⟨[(.object "java/lang/StringBuilder")], none⟩ := by decide +kernel
theorem own_d27_8 : decode jdk_67_method_42_code 8 = .ok (.areturn, 1) := by decide +kernel
theorem own_tsL_ef (m : MethodId) (sb : Addr) : entryFrame m #[(.ref sb)] 1 = mkF m 0 #[.val (.ref sb)] [] := by  first | (simp [entryFrame, mkF, argsToLocals, Value.category]; done) | rfl
def own_tsL_Q (Z : State) (sb : Addr) (bv : Addr) (cn : Int32) (z : Int32) (zCS : Int32) (dO : Addr) (dT : Addr) (ca : Addr) (cO : Cell) (cT : Cell) (cc : Cell) (h0 : Heap) (n0 : Nat) (v : Option Value) (h : Heap) (L : List Loc) : Prop := ∃ t : Addr, v = some (.ref t) ∧ Fr n0 L ∧ Keep h0 h []
set_option maxRecDepth 65536 in
set_option maxHeartbeats 40000000 in
theorem own_tsL (l : Launch) (Z : State) (a0 : Array Value) (hw : ∀ d ∈ tables_1, d.before a0 Z = true) (ws : List Jvm.Cond) (sb : Addr) (bv : Addr) (cn : Int32) (z : Int32) (zCS : Int32) (dO : Addr) (dT : Addr) (ca : Addr) (cO : Cell) (cT : Cell) (cc : Cell) (h0 : Heap) (n0 : Nat) (Z0 : n0 ≤ h0.size) (Cq : own_C Z zCS dO dT ca cO cT cc) (O0 : Old Z n0 h0) (E_sb : Exa Z h0 sb "java/lang/StringBuilder") (V_sb : Fld Z h0 sb "java/lang/AbstractStringBuilder" "value" "[B" (.ref bv)) (C_sb : Fld Z h0 sb "java/lang/AbstractStringBuilder" "coder" "B" (.int 0)) (N_sb : Fld Z h0 sb "java/lang/AbstractStringBuilder" "count" "I" (.int cn)) (R_v : own_By Z h0 bv z) (hcz : cn < z) (hc0 : ¬ cn < 0) (hc34 : cn.toNatClampNeg ≤ 34) :
    MetFree l own_y36 (head1 (Jvm.Cond.code own_y36 jdk_67_method_42_code 1 (some (.object "java/lang/String")) :: ws) (⟨5, 2, 38, 79⟩ : Room)) (fun aa U => aa = #[(.ref sb)] ∧ Z.Warmed39 U.vm ∧ U.heap = h0) (fun _ _ _ _ _ => True) (fun _ U o U' => ∃ v L, o = .returned v ∧ own_tsL_Q Z sb bv cn z zCS dO dT ca cO cT cc h0 n0 v U'.heap L ∧ FrameEnd U o U' L (⟨5, 2, 38, 79⟩ : Room).cells (⟨5, 2, 38, 79⟩ : Room).slots) := by
  refine MetFree.of_bodySF (plainFor_of_name own_pn_java_lang_StringBuilder) hisR ?_
  intro p e s m args below meth c s₁ Bd hml0 hP hK
  obtain ⟨rfl, hZ, hh⟩ := hP
  have hx := Bd.exec
  have hby := Bd.bytes
  have hml : c.maxLocals = 1 := hml0
  have hown : s.vm.findClass "java/lang/StringBuilder" = some m.cls := findClass_of_methodNamed Bd.named
  have hnm := (name_of_methodNamed Bd.named Bd.method).1
  have hlk := Bd.notSynchronized
  have X0 : Stand p l e (⟨5, 2, 38, 79⟩ : Room) s m #[(.ref sb)] below meth c s₁ [] 0 0 := Stand.of_body Bd
  have e0 : s₁.heap = h0 := by rw [← hh, Bd.state]; rfl
  have N0 := Fr.nil n0
  refine own_start (Q := own_tsL_Q Z sb bv cn z zCS dO dT ca cO cT cc h0 n0) (own_tsL_ef m sb) ?_
  obtain ⟨T1, h1, X1, e1, E1, A1, D1, U1, st1⟩ := newO X0 hx hZ hown (own_h hw 161 rfl) (own_h hw 44 rfl) (own_h hw 37 rfl) e0 (g := (mkF m 0 #[.val (.ref sb)] [])) rfl (hb hby own_d27_0) (by decide) (by decide)
  obtain ⟨b1, g1⟩ : ∃ z, z = h0.size := ⟨_, rfl⟩
  rw [← g1] at A1 D1 U1 st1
  have g_b1 : n0 ≤ b1 := Nat.le_trans Z0 (Nat.le_of_eq g1.symm)
  have sz_b1 : h0.size ≤ b1 := Nat.le_trans (Keep.refl h0 []).1 (Nat.le_of_eq g1.symm)
  have ne_sb_b1 : sb ≠ b1 := Nat.ne_of_lt (Nat.lt_of_lt_of_le E_sb.lt (Nat.le_of_eq g1.symm))
  have ne_bv_b1 : bv ≠ b1 := Nat.ne_of_lt (Nat.lt_of_lt_of_le R_v.lt (Nat.le_of_eq g1.symm))
  have F_value_b1 : Fld Z h1 b1 "java/lang/String" "value" "[B" .null := D1 (Or.inr (own_h hw 45 rfl)) (ty := (.array .byte)) (by decide)
  have F_coder_b1 : Fld Z h1 b1 "java/lang/String" "coder" "B" (.int 0) := D1 (Or.inr (own_h hw 46 rfl)) (ty := .byte) (by decide)
  refine own_by (g' := (mkF m 3 #[.val (.ref sb)] [(.ref b1)])) st1 ?_
  refine own_g (mkF m 5 #[.val (.ref sb)] [(.ref sb), (.ref b1), (.ref b1)]) (fun _ q => XS.dup X1.here hx rfl (hb hby own_d27_3) rfl rfl (XS.aloadN X1.here hx rfl (hb hby own_d27_4) rfl rfl q)) ?_
  have e2_sb := (E_sb.ext E1)
  have f3_sb := (V_sb.ext E1)
  have f4_sb := (C_sb.ext E1)
  have f5_sb := (N_sb.ext E1)
  have r6_bv := (R_v.ext E1)
  have k7_ := ((Keep.refl h0 []).ext E1)
  have o8_ := (O0.ext E1)
  refine own_callI X1 hx hZ (y := own_y26) rfl hown (own_h hw 162 rfl) (own_h hw 163 rfl) (own_h hw 164 rfl) (own_h hw 37 rfl) (by decide) (own_ibL l Z a0 hw [] b1 sb bv cn z zCS dO dT ca cO cT cc h1 n0 (Nat.le_trans Z0 k7_.1) Cq o8_ e2_sb f3_sb f4_sb f5_sb A1 F_value_b1 F_coder_b1 g_b1 r6_bv hcz hc0 hc34 ne_sb_b1 ne_bv_b1) (by decide) (by decide) e1 (g := (mkF m 5 #[.val (.ref sb)] [(.ref sb), (.ref b1), (.ref b1)])) rfl (by rw [hml]; rfl) (argsL := [(.ref sb)]) (rest := [(.ref b1)]) (lenOf own_pd__28Ljava_2flang_2fStringBuilder_3b_29V rfl) rfl (W := 1) (by show 2 * 0 + _ ≤ _; exact Nat.le_of_eq rfl) (hb hby own_d27_5) rfl (by decide) (by decide) ?_
  rintro rv9 T9 L9 X9 ⟨rfl, Nq9, Kq9⟩
  have N9 := Fr.app N0 Nq9
  show own_Fin p e below _ T9 (mkF m 8 #[.val (.ref sb)] [(.ref b1)])
  have k10_ := (k7_.trans Kq9 (allS (Or.inr sz_b1) all0))
  exact own_end X9 (v := some (.ref b1)) (fun h => by rw [Bd.returns] at h; cases h) hlk (fun hr => retOut X9 hx Bd.returns (own_narR rfl) (Or.inr (Or.inr (Or.inr (Or.inr ⟨rfl, rfl, rfl⟩)))) (hb hby own_d27_8) hr) (⟨_, rfl, N9, k10_⟩) (by decide) (by decide)
theorem own_iaE_ef (m : MethodId) (x0 : Addr) (sb : Addr) : entryFrame m #[(.ref x0), (.ref sb), .null] 5 = mkF m 0 #[.val (.ref x0), .val (.ref sb), .val .null, .unset, .unset] [] := by  first | (simp [entryFrame, mkF, argsToLocals, Value.category]; done) | rfl
def own_iaE_Q (Z : State) (x0 : Addr) (sb : Addr) (bv : Addr) (zCS : Int32) (dO : Addr) (dT : Addr) (ca : Addr) (cO : Cell) (cT : Cell) (cc : Cell) (h0 : Heap) (n0 : Nat) (v : Option Value) (h : Heap) (L : List Loc) : Prop := v = none ∧ Fr n0 L ∧ Keep h0 h [x0]
set_option maxRecDepth 65536 in
set_option maxHeartbeats 40000000 in
theorem own_iaE (l : Launch) (Z : State) (a0 : Array Value) (hw : ∀ d ∈ tables_1, d.before a0 Z = true) (ws : List Jvm.Cond) (x0 : Addr) (sb : Addr) (bv : Addr) (zCS : Int32) (dO : Addr) (dT : Addr) (ca : Addr) (cO : Cell) (cT : Cell) (cc : Cell) (h0 : Heap) (n0 : Nat) (Z0 : n0 ≤ h0.size) (Cq : own_C Z zCS dO dT ca cO cT cc) (O0 : Old Z n0 h0) (E_sb : Exa Z h0 sb "java/lang/StringBuilder") (V_sb : Fld Z h0 sb "java/lang/AbstractStringBuilder" "value" "[B" (.ref bv)) (C_sb : Fld Z h0 sb "java/lang/AbstractStringBuilder" "coder" "B" (.int 0)) (N_sb : Fld Z h0 sb "java/lang/AbstractStringBuilder" "count" "I" (.int 34)) (E_x : Exa Z h0 x0 "java/lang/String") (V_x : Fld Z h0 x0 "java/lang/String" "value" "[B" .null) (C_x : Fld Z h0 x0 "java/lang/String" "coder" "B" (.int 0)) (g_x : n0 ≤ x0) (R_v : own_By Z h0 bv (34 : Int32)) (E_v : Exa Z h0 bv "[B") (n_sx : sb ≠ x0) (n_vx : bv ≠ x0) :
    MetFree l own_y25 (head1 (Jvm.Cond.code own_y25 jdk_42_method_150_code 5 none :: ws) (⟨2, 1, 34, 29⟩ : Room)) (fun aa U => aa = #[(.ref x0), (.ref sb), .null] ∧ Z.Warmed39 U.vm ∧ U.heap = h0) (fun _ _ _ _ _ => True) (fun _ U o U' => ∃ v L, o = .returned v ∧ own_iaE_Q Z x0 sb bv zCS dO dT ca cO cT cc h0 n0 v U'.heap L ∧ FrameEnd U o U' L (⟨2, 1, 34, 29⟩ : Room).cells (⟨2, 1, 34, 29⟩ : Room).slots) := by
  refine MetFree.of_bodySF (plainFor_of_name own_pn_java_lang_String) hisR ?_
  intro p e s m args below meth c s₁ Bd hml0 hP hK
  obtain ⟨rfl, hZ, hh⟩ := hP
  have hx := Bd.exec
  have hby := Bd.bytes
  have hml : c.maxLocals = 5 := hml0
  have hown : s.vm.findClass "java/lang/String" = some m.cls := findClass_of_methodNamed Bd.named
  have hnm := (name_of_methodNamed Bd.named Bd.method).1
  have hlk := Bd.notSynchronized
  have X0 : Stand p l e (⟨2, 1, 34, 29⟩ : Room) s m #[(.ref x0), (.ref sb), .null] below meth c s₁ [] 0 0 := Stand.of_body Bd
  have e0 : s₁.heap = h0 := by rw [← hh, Bd.state]; rfl
  have N0 := Fr.nil n0
  refine own_start (Q := own_iaE_Q Z x0 sb bv zCS dO dT ca cO cT cc h0 n0) (own_iaE_ef m x0 sb) ?_
  refine own_g (mkF m 1 #[.val (.ref x0), .val (.ref sb), .val .null, .unset, .unset] [(.ref x0)]) (fun _ q => XS.aloadN X0.here hx rfl (hb hby own_d29_0) rfl rfl q) ?_
  obtain ⟨T1, X1, e1, st1⟩ := initO X0 hx hZ hown (own_h hw 131 rfl) (own_h hw 21 rfl) (own_h hw 22 rfl) e0 (g := (mkF m 1 #[.val (.ref x0), .val (.ref sb), .val .null, .unset, .unset] [(.ref x0)])) rfl (by rw [hml]; rfl) rfl (hb hby own_d29_1) (by decide) (W := 0) (by show 2 * 0 + _ ≤ _; exact Nat.le_of_eq rfl) (by decide)
  refine own_by (g' := (mkF m 4 #[.val (.ref x0), .val (.ref sb), .val .null, .unset, .unset] [])) st1 ?_
  refine own_g (mkF m 5 #[.val (.ref x0), .val (.ref sb), .val .null, .unset, .unset] [(.ref sb)]) (fun _ q => XS.aloadN X1.here hx rfl (hb hby own_d29_4) rfl rfl q) ?_
  refine own_callV X1 hx hZ (y := own_y7) (z := own_y7) hown (own_h hw 168 rfl) (own_h hw 169 rfl) (own_nf (own_h hw 171 rfl)) (own_h hw 171 rfl) (own_h hw 170 rfl) (own_h hw 172 rfl) (own_h hw 33 rfl) (by decide) E_sb (own_gv l Z a0 hw [] sb bv (34 : Int32) zCS dO dT ca cO cT cc h0 n0 (Nat.le_trans Z0 (Keep.refl h0 [x0]).1) Cq O0 E_sb V_sb C_sb N_sb) (by decide) (by decide) e1 (g := (mkF m 5 #[.val (.ref x0), .val (.ref sb), .val .null, .unset, .unset] [(.ref sb)])) rfl (by rw [hml]; rfl) (argsL := []) (rest := []) (lenOf own_pd__28_29_5bB rfl) rfl (W := 0) (by show 2 * 0 + _ ≤ _; exact Nat.le_of_eq rfl) (hb hby own_d29_5) rfl (by decide) (by decide) ?_
  rintro rv2 T2 L2 X2 ⟨rfl, Nq2, eh2⟩
  have N2 := Fr.app N0 Nq2
  refine own_g (mkF m 10 #[.val (.ref x0), .val (.ref sb), .val .null, .val (.ref bv), .unset] [(.ref sb)]) (fun _ q => XS.astoreN X2.here hx rfl (hb hby own_d29_8) rfl rfl (l' := #[.val (.ref x0), .val (.ref sb), .val .null, .val (.ref bv), .unset]) rfl (XS.aloadN X2.here hx rfl (hb hby own_d29_9) rfl rfl q)) ?_
  refine own_callV X2 hx hZ (y := own_y10) (z := own_y35) hown (own_h hw 173 rfl) (own_h hw 174 rfl) (own_nfc (y' := own_y10) (own_h hw 77 rfl) rfl) (own_h hw 176 rfl) (own_h hw 177 rfl) (own_h hw 178 rfl) (own_h hw 25 rfl) (by decide) E_sb (own_sl l Z a0 hw [] sb bv (34 : Int32) zCS dO dT ca cO cT cc h0 n0 (Nat.le_trans Z0 (Keep.refl h0 [x0]).1) Cq O0 E_sb V_sb C_sb N_sb) (by decide) (by decide) eh2 (g := (mkF m 10 #[.val (.ref x0), .val (.ref sb), .val .null, .val (.ref bv), .unset] [(.ref sb)])) rfl (by rw [hml]; rfl) (argsL := []) (rest := []) (lenOf own_pd__28_29I rfl) rfl (W := 0) (by show 2 * 0 + _ ≤ _; exact Nat.le_of_eq rfl) (hb hby own_d29_10) rfl (by decide) (by decide) ?_
  rintro rv3 T3 L3 X3 ⟨rfl, Nq3, eh3⟩
  have N3 := Fr.app N2 Nq3
  refine own_g (mkF m 16 #[.val (.ref x0), .val (.ref sb), .val .null, .val (.ref bv), .val (.int 34)] [(.ref sb)]) (fun _ q => XS.istore X3.here hx rfl (hb hby own_d29_13) rfl (l' := #[.val (.ref x0), .val (.ref sb), .val .null, .val (.ref bv), .val (.int 34)]) rfl (XS.aloadN X3.here hx rfl (hb hby own_d29_15) rfl rfl q)) ?_
  refine own_callV X3 hx hZ (y := own_y9) (z := own_y9) hown (own_h hw 181 rfl) (own_h hw 182 rfl) (own_nf (own_h hw 184 rfl)) (own_h hw 184 rfl) (own_h hw 183 rfl) (own_h hw 185 rfl) (own_h hw 33 rfl) (by decide) E_sb (own_la l Z a0 hw [] sb bv (34 : Int32) zCS dO dT ca cO cT cc h0 n0 (Nat.le_trans Z0 (Keep.refl h0 [x0]).1) Cq O0 E_sb V_sb C_sb N_sb) (by decide) (by decide) eh3 (g := (mkF m 16 #[.val (.ref x0), .val (.ref sb), .val .null, .val (.ref bv), .val (.int 34)] [(.ref sb)])) rfl (by rw [hml]; rfl) (argsL := []) (rest := []) (lenOf own_pd__28_29Z rfl) rfl (W := 0) (by show 2 * 0 + _ ≤ _; exact Nat.le_of_eq rfl) (hb hby own_d29_16) rfl (by decide) (by decide) ?_
  rintro rv4 T4 L4 X4 ⟨rfl, Nq4, eh4⟩
  have N4 := Fr.app N3 Nq4
  refine own_g (mkF m 24 #[.val (.ref x0), .val (.ref sb), .val .null, .val (.ref bv), .val (.int 34)] [(.int 0), (.ref x0)]) (fun _ q => XS.ifNo X4.here hx rfl (hb hby own_d29_19) rfl ((if0 _ _).trans (feq (by decide : ¬ ((1 : Int32) = (0 : Int32)))).1) (XS.aloadN X4.here hx rfl (hb hby own_d29_22) rfl rfl (XS.iconst X4.here hx rfl (hb hby own_d29_23) q))) ?_
  obtain ⟨T5, h5, X5, e5, W5, st5⟩ := putFN X4 hx hZ hown (own_h hw 71 rfl) Via.refl eh4 C_x E_x (Or.inr ⟨(own_h hw 46 rfl), rfl, hnm⟩) (own_h hw 44 rfl) (ty := .byte) (v' := (.int 0)) (by decide) rfl (by decide) (g := (mkF m 24 #[.val (.ref x0), .val (.ref sb), .val .null, .val (.ref bv), .val (.int 34)] [(.int 0), (.ref x0)])) rfl rfl (hb hby own_d29_24)
  have Fw5 := C_x.same W5
  have N5 := Fr.snoc X5 N4 g_x
  refine own_by (g' := (mkF m 27 #[.val (.ref x0), .val (.ref sb), .val .null, .val (.ref bv), .val (.int 34)] [])) st5 ?_
  refine own_g (mkF m 32 #[.val (.ref x0), .val (.ref sb), .val .null, .val (.ref bv), .val (.int 34)] [(.int 34), (.int 0), (.ref bv), (.ref x0)]) (fun _ q => XS.aloadN X5.here hx rfl (hb hby own_d29_27) rfl rfl (XS.aloadN X5.here hx rfl (hb hby own_d29_28) rfl rfl (XS.iconst X5.here hx rfl (hb hby own_d29_29) (XS.iload X5.here hx rfl (hb hby own_d29_30) rfl q)))) ?_
  have r6_bv := (R_v.other W5 n_vx)
  have e7_bv := (E_v.wr W5)
  have k8_ := ((Keep.refl h0 [x0]).wr W5 (Or.inl (List.mem_of_getElem? (i := 0) rfl)))
  have o9_ := (O0.wr W5 g_x)
  refine own_callS X5 hx hZ (y := own_y39) hown (own_h hw 186 rfl) (own_h hw 187 rfl) (own_h hw 150 rfl) (own_h hw 188 rfl) (by decide) (own_crE l Z a0 hw [] bv zCS dO dT ca cO cT cc h5 n0 (Nat.le_trans Z0 k8_.1) Cq o9_ r6_bv e7_bv) (by decide) (by decide) e5 (g := (mkF m 32 #[.val (.ref x0), .val (.ref sb), .val .null, .val (.ref bv), .val (.int 34)] [(.int 34), (.int 0), (.ref bv), (.ref x0)])) rfl (by rw [hml]; rfl) (argsL := [(.ref bv), (.int 0), (.int 34)]) (rest := [(.ref x0)]) (lenOf own_pd__28_5bBII_29_5bB rfl) rfl (W := 1) (by show 2 * 0 + _ ≤ _; exact Nat.le_of_eq rfl) (hb hby own_d29_32) rfl (by decide) (by decide) ?_
  rintro rv10 T10 L10 X10 ⟨t0, rfl, Nq10, Kq10⟩
  have N10 := Fr.app N5 Nq10
  show own_Fin p e below _ T10 (mkF m 35 #[.val (.ref x0), .val (.ref sb), .val .null, .val (.ref bv), .val (.int 34)] [(.ref t0), (.ref x0)])
  have e11_x0 := ((E_x.wr W5).keep Kq10)
  have f12_x0 := ((V_x.other W5 (Or.inr (slot_ne (Or.inr (own_h hw 45 rfl)) (Or.inr (own_h hw 46 rfl)) (by decide) (t := (.array .byte)) (t' := .byte) (by decide) (by decide)))).keep Kq10 nin0)
  obtain ⟨T13, h13, X13, e13, W13, st13⟩ := putF X10 hx hZ hown (host := "") (Or.inl (own_h hw 64 rfl)) Via.refl rfl f12_x0 e11_x0 (Or.inr ⟨(own_h hw 45 rfl), rfl, hnm⟩) (own_h hw 44 rfl) (ty := (.array .byte)) (by decide) (rfl) (rfl) (g := (mkF m 35 #[.val (.ref x0), .val (.ref sb), .val .null, .val (.ref bv), .val (.int 34)] [(.ref t0), (.ref x0)])) rfl rfl (hb hby own_d29_35)
  have Fw13 := f12_x0.same W13
  have N13 := Fr.snoc X13 N10 g_x
  refine own_by (g' := (mkF m 38 #[.val (.ref x0), .val (.ref sb), .val .null, .val (.ref bv), .val (.int 34)] [])) st13 ?_
  refine own_g (mkF m 97 #[.val (.ref x0), .val (.ref sb), .val .null, .val (.ref bv), .val (.int 34)] []) (fun _ q => XS.goto X13.here hx rfl (pc0 := 38) (pc' := 97) rfl (hb hby own_d29_38) (by decide) (by decide) q) ?_
  have k14_ := ((k8_.trans Kq10 all0).wr W13 (Or.inl (List.mem_of_getElem? (i := 0) rfl)))
  exact own_end X13 (v := none) (fun _ => rfl) hlk (fun hr => X13.returnOut hx Bd.returns (hb hby own_d29_97) hr) (by rw [e13]; exact ⟨rfl, N13, k14_⟩) (by decide) (by decide)
theorem own_ibE_ef (m : MethodId) (x0 : Addr) (sb : Addr) : entryFrame m #[(.ref x0), (.ref sb)] 2 = mkF m 0 #[.val (.ref x0), .val (.ref sb)] [] := by  first | (simp [entryFrame, mkF, argsToLocals, Value.category]; done) | rfl
def own_ibE_Q (Z : State) (x0 : Addr) (sb : Addr) (bv : Addr) (zCS : Int32) (dO : Addr) (dT : Addr) (ca : Addr) (cO : Cell) (cT : Cell) (cc : Cell) (h0 : Heap) (n0 : Nat) (v : Option Value) (h : Heap) (L : List Loc) : Prop := v = none ∧ Fr n0 L ∧ Keep h0 h [x0]
set_option maxRecDepth 65536 in
set_option maxHeartbeats 40000000 in
theorem own_ibE (l : Launch) (Z : State) (a0 : Array Value) (hw : ∀ d ∈ tables_1, d.before a0 Z = true) (ws : List Jvm.Cond) (x0 : Addr) (sb : Addr) (bv : Addr) (zCS : Int32) (dO : Addr) (dT : Addr) (ca : Addr) (cO : Cell) (cT : Cell) (cc : Cell) (h0 : Heap) (n0 : Nat) (Z0 : n0 ≤ h0.size) (Cq : own_C Z zCS dO dT ca cO cT cc) (O0 : Old Z n0 h0) (E_sb : Exa Z h0 sb "java/lang/StringBuilder") (V_sb : Fld Z h0 sb "java/lang/AbstractStringBuilder" "value" "[B" (.ref bv)) (C_sb : Fld Z h0 sb "java/lang/AbstractStringBuilder" "coder" "B" (.int 0)) (N_sb : Fld Z h0 sb "java/lang/AbstractStringBuilder" "count" "I" (.int 34)) (E_x : Exa Z h0 x0 "java/lang/String") (V_x : Fld Z h0 x0 "java/lang/String" "value" "[B" .null) (C_x : Fld Z h0 x0 "java/lang/String" "coder" "B" (.int 0)) (g_x : n0 ≤ x0) (R_v : own_By Z h0 bv (34 : Int32)) (E_v : Exa Z h0 bv "[B") (n_sx : sb ≠ x0) (n_vx : bv ≠ x0) :
    MetFree l own_y26 (head1 (Jvm.Cond.code own_y26 jdk_42_method_53_code 2 none :: ws) (⟨3, 1, 34, 45⟩ : Room)) (fun aa U => aa = #[(.ref x0), (.ref sb)] ∧ Z.Warmed39 U.vm ∧ U.heap = h0) (fun _ _ _ _ _ => True) (fun _ U o U' => ∃ v L, o = .returned v ∧ own_ibE_Q Z x0 sb bv zCS dO dT ca cO cT cc h0 n0 v U'.heap L ∧ FrameEnd U o U' L (⟨3, 1, 34, 45⟩ : Room).cells (⟨3, 1, 34, 45⟩ : Room).slots) := by
  refine MetFree.of_bodySF (plainFor_of_name own_pn_java_lang_String) hisR ?_
  intro p e s m args below meth c s₁ Bd hml0 hP hK
  obtain ⟨rfl, hZ, hh⟩ := hP
  have hx := Bd.exec
  have hby := Bd.bytes
  have hml : c.maxLocals = 2 := hml0
  have hown : s.vm.findClass "java/lang/String" = some m.cls := findClass_of_methodNamed Bd.named
  have hnm := (name_of_methodNamed Bd.named Bd.method).1
  have hlk := Bd.notSynchronized
  have X0 : Stand p l e (⟨3, 1, 34, 45⟩ : Room) s m #[(.ref x0), (.ref sb)] below meth c s₁ [] 0 0 := Stand.of_body Bd
  have e0 : s₁.heap = h0 := by rw [← hh, Bd.state]; rfl
  have N0 := Fr.nil n0
  refine own_start (Q := own_ibE_Q Z x0 sb bv zCS dO dT ca cO cT cc h0 n0) (own_ibE_ef m x0 sb) ?_
  refine own_g (mkF m 3 #[.val (.ref x0), .val (.ref sb)] [.null, (.ref sb), (.ref x0)]) (fun _ q => XS.aloadN X0.here hx rfl (hb hby own_d28_0) rfl rfl (XS.aloadN X0.here hx rfl (hb hby own_d28_1) rfl rfl (XS.aconstNull X0.here hx rfl (hb hby own_d28_2) q))) ?_
  refine own_callI X0 hx hZ (y := own_y25) rfl hown (own_h hw 165 rfl) (own_h hw 166 rfl) (own_h hw 167 rfl) (own_h hw 37 rfl) (by decide) (own_iaE l Z a0 hw [] x0 sb bv zCS dO dT ca cO cT cc h0 n0 (Nat.le_trans Z0 (Keep.refl h0 [x0]).1) Cq O0 E_sb V_sb C_sb N_sb E_x V_x C_x g_x R_v E_v n_sx n_vx) (by decide) (by decide) e0 (g := (mkF m 3 #[.val (.ref x0), .val (.ref sb)] [.null, (.ref sb), (.ref x0)])) rfl (by rw [hml]; rfl) (argsL := [(.ref sb), .null]) (rest := []) (lenOf own_pd__28Ljava_2flang_2fAbstractStringBuilder_3bLjava_2flang_2fVoid_3b_29V rfl) rfl (W := 0) (by show 2 * 0 + _ ≤ _; exact Nat.le_of_eq rfl) (hb hby own_d28_3) rfl (by decide) (by decide) ?_
  rintro rv1 T1 L1 X1 ⟨rfl, Nq1, Kq1⟩
  have N1 := Fr.app N0 Nq1
  show own_Fin p e below _ T1 (mkF m 6 #[.val (.ref x0), .val (.ref sb)] [])
  have k2_ := ((Keep.refl h0 [x0]).trans Kq1 (allS (Or.inl (List.mem_of_getElem? (i := 0) rfl)) all0))
  exact own_end X1 (v := none) (fun _ => rfl) hlk (fun hr => X1.returnOut hx Bd.returns (hb hby own_d28_6) hr) (⟨rfl, N1, k2_⟩) (by decide) (by decide)
theorem own_tsE_ef (m : MethodId) (sb : Addr) : entryFrame m #[(.ref sb)] 1 = mkF m 0 #[.val (.ref sb)] [] := by  first | (simp [entryFrame, mkF, argsToLocals, Value.category]; done) | rfl
def own_tsE_Q (Z : State) (sb : Addr) (bv : Addr) (zCS : Int32) (dO : Addr) (dT : Addr) (ca : Addr) (cO : Cell) (cT : Cell) (cc : Cell) (h0 : Heap) (n0 : Nat) (v : Option Value) (h : Heap) (L : List Loc) : Prop := ∃ t : Addr, v = some (.ref t) ∧ Fr n0 L ∧ Keep h0 h []
set_option maxRecDepth 65536 in
set_option maxHeartbeats 40000000 in
theorem own_tsE (l : Launch) (Z : State) (a0 : Array Value) (hw : ∀ d ∈ tables_1, d.before a0 Z = true) (ws : List Jvm.Cond) (sb : Addr) (bv : Addr) (zCS : Int32) (dO : Addr) (dT : Addr) (ca : Addr) (cO : Cell) (cT : Cell) (cc : Cell) (h0 : Heap) (n0 : Nat) (Z0 : n0 ≤ h0.size) (Cq : own_C Z zCS dO dT ca cO cT cc) (O0 : Old Z n0 h0) (E_sb : Exa Z h0 sb "java/lang/StringBuilder") (V_sb : Fld Z h0 sb "java/lang/AbstractStringBuilder" "value" "[B" (.ref bv)) (C_sb : Fld Z h0 sb "java/lang/AbstractStringBuilder" "coder" "B" (.int 0)) (N_sb : Fld Z h0 sb "java/lang/AbstractStringBuilder" "count" "I" (.int 34)) (R_v : own_By Z h0 bv (34 : Int32)) (E_v : Exa Z h0 bv "[B") :
    MetFree l own_y36 (head1 (Jvm.Cond.code own_y36 jdk_67_method_42_code 1 (some (.object "java/lang/String")) :: ws) (⟨4, 2, 38, 59⟩ : Room)) (fun aa U => aa = #[(.ref sb)] ∧ Z.Warmed39 U.vm ∧ U.heap = h0) (fun _ _ _ _ _ => True) (fun _ U o U' => ∃ v L, o = .returned v ∧ own_tsE_Q Z sb bv zCS dO dT ca cO cT cc h0 n0 v U'.heap L ∧ FrameEnd U o U' L (⟨4, 2, 38, 59⟩ : Room).cells (⟨4, 2, 38, 59⟩ : Room).slots) := by
  refine MetFree.of_bodySF (plainFor_of_name own_pn_java_lang_StringBuilder) hisR ?_
  intro p e s m args below meth c s₁ Bd hml0 hP hK
  obtain ⟨rfl, hZ, hh⟩ := hP
  have hx := Bd.exec
  have hby := Bd.bytes
  have hml : c.maxLocals = 1 := hml0
  have hown : s.vm.findClass "java/lang/StringBuilder" = some m.cls := findClass_of_methodNamed Bd.named
  have hnm := (name_of_methodNamed Bd.named Bd.method).1
  have hlk := Bd.notSynchronized
  have X0 : Stand p l e (⟨4, 2, 38, 59⟩ : Room) s m #[(.ref sb)] below meth c s₁ [] 0 0 := Stand.of_body Bd
  have e0 : s₁.heap = h0 := by rw [← hh, Bd.state]; rfl
  have N0 := Fr.nil n0
  refine own_start (Q := own_tsE_Q Z sb bv zCS dO dT ca cO cT cc h0 n0) (own_tsE_ef m sb) ?_
  obtain ⟨T1, h1, X1, e1, E1, A1, D1, U1, st1⟩ := newO X0 hx hZ hown (own_h hw 161 rfl) (own_h hw 44 rfl) (own_h hw 37 rfl) e0 (g := (mkF m 0 #[.val (.ref sb)] [])) rfl (hb hby own_d27_0) (by decide) (by decide)
  obtain ⟨b1, g1⟩ : ∃ z, z = h0.size := ⟨_, rfl⟩
  rw [← g1] at A1 D1 U1 st1
  have g_b1 : n0 ≤ b1 := Nat.le_trans Z0 (Nat.le_of_eq g1.symm)
  have sz_b1 : h0.size ≤ b1 := Nat.le_trans (Keep.refl h0 []).1 (Nat.le_of_eq g1.symm)
  have ne_sb_b1 : sb ≠ b1 := Nat.ne_of_lt (Nat.lt_of_lt_of_le E_sb.lt (Nat.le_of_eq g1.symm))
  have ne_bv_b1 : bv ≠ b1 := Nat.ne_of_lt (Nat.lt_of_lt_of_le R_v.lt (Nat.le_of_eq g1.symm))
  have F_value_b1 : Fld Z h1 b1 "java/lang/String" "value" "[B" .null := D1 (Or.inr (own_h hw 45 rfl)) (ty := (.array .byte)) (by decide)
  have F_coder_b1 : Fld Z h1 b1 "java/lang/String" "coder" "B" (.int 0) := D1 (Or.inr (own_h hw 46 rfl)) (ty := .byte) (by decide)
  refine own_by (g' := (mkF m 3 #[.val (.ref sb)] [(.ref b1)])) st1 ?_
  refine own_g (mkF m 5 #[.val (.ref sb)] [(.ref sb), (.ref b1), (.ref b1)]) (fun _ q => XS.dup X1.here hx rfl (hb hby own_d27_3) rfl rfl (XS.aloadN X1.here hx rfl (hb hby own_d27_4) rfl rfl q)) ?_
  have e2_sb := (E_sb.ext E1)
  have f3_sb := (V_sb.ext E1)
  have f4_sb := (C_sb.ext E1)
  have f5_sb := (N_sb.ext E1)
  have r6_bv := (R_v.ext E1)
  have e7_bv := (E_v.ext E1)
  have k8_ := ((Keep.refl h0 []).ext E1)
  have o9_ := (O0.ext E1)
  refine own_callI X1 hx hZ (y := own_y26) rfl hown (own_h hw 162 rfl) (own_h hw 163 rfl) (own_h hw 164 rfl) (own_h hw 37 rfl) (by decide) (own_ibE l Z a0 hw [] b1 sb bv zCS dO dT ca cO cT cc h1 n0 (Nat.le_trans Z0 k8_.1) Cq o9_ e2_sb f3_sb f4_sb f5_sb A1 F_value_b1 F_coder_b1 g_b1 r6_bv e7_bv ne_sb_b1 ne_bv_b1) (by decide) (by decide) e1 (g := (mkF m 5 #[.val (.ref sb)] [(.ref sb), (.ref b1), (.ref b1)])) rfl (by rw [hml]; rfl) (argsL := [(.ref sb)]) (rest := [(.ref b1)]) (lenOf own_pd__28Ljava_2flang_2fStringBuilder_3b_29V rfl) rfl (W := 1) (by show 2 * 0 + _ ≤ _; exact Nat.le_of_eq rfl) (hb hby own_d27_5) rfl (by decide) (by decide) ?_
  rintro rv10 T10 L10 X10 ⟨rfl, Nq10, Kq10⟩
  have N10 := Fr.app N0 Nq10
  show own_Fin p e below _ T10 (mkF m 8 #[.val (.ref sb)] [(.ref b1)])
  have k11_ := (k8_.trans Kq10 (allS (Or.inr sz_b1) all0))
  exact own_end X10 (v := some (.ref b1)) (fun h => by rw [Bd.returns] at h; cases h) hlk (fun hr => retOut X10 hx Bd.returns (own_narR rfl) (Or.inr (Or.inr (Or.inr (Or.inr ⟨rfl, rfl, rfl⟩)))) (hb hby own_d27_8) hr) (⟨_, rfl, N10, k11_⟩) (by decide) (by decide)
theorem own_d6_0 : decode jdk_68_method_2_code 0 = .ok (.aload_n 0, 1) := by decide +kernel
theorem own_d6_1 : decode jdk_68_method_2_code 1 = .ok (.invokespecial 3, 3) := by decide +kernel
theorem own_d6_4 : decode jdk_68_method_2_code 4 = .ok (.getstatic 18, 3) := by decide +kernel
theorem own_d6_7 : decode jdk_68_method_2_code 7 = .ok (.ifCond .eq 18, 3) := by decide +kernel
theorem own_d6_10 : decode jdk_68_method_2_code 10 = .ok (.aload_n 0, 1) := by decide +kernel
theorem own_d6_11 : decode jdk_68_method_2_code 11 = .ok (.iload_n 1, 1) := by decide +kernel
theorem own_d6_12 : decode jdk_68_method_2_code 12 = .ok (.newarray .byte, 2) := by decide +kernel
theorem own_d6_14 : decode jdk_68_method_2_code 14 = .ok (.putfield 15, 3) := by decide +kernel
theorem own_d6_17 : decode jdk_68_method_2_code 17 = .ok (.aload_n 0, 1) := by decide +kernel
theorem own_d6_18 : decode jdk_68_method_2_code 18 = .ok (.iconst 0, 1) := by decide +kernel
theorem own_d6_19 : decode jdk_68_method_2_code 19 = .ok (.putfield 22, 3) := by decide +kernel
theorem own_d6_22 : decode jdk_68_method_2_code 22 = .ok (.goto 16, 3) := by decide +kernel
theorem own_d6_38 : decode jdk_68_method_2_code 38 = .ok (.return_, 1) := by decide +kernel
theorem own_abi_ef (m : MethodId) (sb : Addr) : entryFrame m #[(.ref sb), (.int 16)] 2 = mkF m 0 #[.val (.ref sb), .val (.int 16)] [] := by  first | (simp [entryFrame, mkF, argsToLocals, Value.category]; done) | rfl
def own_abi_Q (Z : State) (sb : Addr) (zCS : Int32) (dO : Addr) (dT : Addr) (ca : Addr) (cO : Cell) (cT : Cell) (cc : Cell) (h0 : Heap) (n0 : Nat) (v : Option Value) (h : Heap) (L : List Loc) : Prop := v = none ∧ Fr n0 L ∧ Keep h0 h [sb] ∧ ∃ bv : Addr, h0.size ≤ bv ∧ n0 ≤ bv ∧ Exa Z h bv "[B" ∧ own_By Z h bv (16 : Int32) ∧ Fld Z h sb "java/lang/AbstractStringBuilder" "value" "[B" (.ref bv) ∧ Fld Z h sb "java/lang/AbstractStringBuilder" "coder" "B" (.int 0) ∧ Fld Z h sb "java/lang/AbstractStringBuilder" "count" "I" (.int 0)
set_option maxRecDepth 65536 in
set_option maxHeartbeats 40000000 in
theorem own_abi (l : Launch) (Z : State) (a0 : Array Value) (hw : ∀ d ∈ tables_1, d.before a0 Z = true) (ws : List Jvm.Cond) (sb : Addr) (zCS : Int32) (dO : Addr) (dT : Addr) (ca : Addr) (cO : Cell) (cT : Cell) (cc : Cell) (h0 : Heap) (n0 : Nat) (Z0 : n0 ≤ h0.size) (Cq : own_C Z zCS dO dT ca cO cT cc) (O0 : Old Z n0 h0) (E_sb : Exa Z h0 sb "java/lang/StringBuilder") (V_sb : Fld Z h0 sb "java/lang/AbstractStringBuilder" "value" "[B" .null) (C_sb : Fld Z h0 sb "java/lang/AbstractStringBuilder" "coder" "B" (.int 0)) (N_sb : Fld Z h0 sb "java/lang/AbstractStringBuilder" "count" "I" (.int 0)) (g_sb : n0 ≤ sb) :
    MetFree l (⟨"java/lang/AbstractStringBuilder", "<init>", "(I)V"⟩ : MethodName) (head1 (Jvm.Cond.code (⟨"java/lang/AbstractStringBuilder", "<init>", "(I)V"⟩ : MethodName) jdk_68_method_2_code 2 none :: ws) (⟨1, 1, 16, 12⟩ : Room)) (fun aa U => aa = #[(.ref sb), (.int 16)] ∧ Z.Warmed39 U.vm ∧ U.heap = h0) (fun _ _ _ _ _ => True) (fun _ U o U' => ∃ v L, o = .returned v ∧ own_abi_Q Z sb zCS dO dT ca cO cT cc h0 n0 v U'.heap L ∧ FrameEnd U o U' L (⟨1, 1, 16, 12⟩ : Room).cells (⟨1, 1, 16, 12⟩ : Room).slots) := by
  refine MetFree.of_bodySF (plainFor_of_name own_pn_java_lang_AbstractStringBuilder) hisR ?_
  intro p e s m args below meth c s₁ Bd hml0 hP hK
  obtain ⟨rfl, hZ, hh⟩ := hP
  have hx := Bd.exec
  have hby := Bd.bytes
  have hml : c.maxLocals = 2 := hml0
  have hown : s.vm.findClass "java/lang/AbstractStringBuilder" = some m.cls := findClass_of_methodNamed Bd.named
  have hnm := (name_of_methodNamed Bd.named Bd.method).1
  have hlk := Bd.notSynchronized
  have X0 : Stand p l e (⟨1, 1, 16, 12⟩ : Room) s m #[(.ref sb), (.int 16)] below meth c s₁ [] 0 0 := Stand.of_body Bd
  have e0 : s₁.heap = h0 := by rw [← hh, Bd.state]; rfl
  have N0 := Fr.nil n0
  refine own_start (Q := own_abi_Q Z sb zCS dO dT ca cO cT cc h0 n0) (own_abi_ef m sb) ?_
  refine own_g (mkF m 1 #[.val (.ref sb), .val (.int 16)] [(.ref sb)]) (fun _ q => XS.aloadN X0.here hx rfl (hb hby own_d6_0) rfl rfl q) ?_
  obtain ⟨T1, X1, e1, st1⟩ := initO X0 hx hZ hown (own_h hw 35 rfl) (own_h hw 21 rfl) (own_h hw 22 rfl) e0 (g := (mkF m 1 #[.val (.ref sb), .val (.int 16)] [(.ref sb)])) rfl (by rw [hml]; rfl) rfl (hb hby own_d6_1) (by decide) (W := 0) (by show 2 * 0 + _ ≤ _; exact Nat.le_of_eq rfl) (by decide)
  refine own_by (g' := (mkF m 4 #[.val (.ref sb), .val (.int 16)] [])) st1 ?_
  obtain ⟨T2, X2, e2, st2⟩ := getS2 X1 hx hZ hown (host := "") (Or.inl (own_h hw 36 rfl)) Via.refl e1 (Sta.ext O0.2 Cq.1) (g := (mkF m 4 #[.val (.ref sb), .val (.int 16)] [])) rfl (hb hby own_d6_4)
  refine own_by (g' := (mkF m 7 #[.val (.ref sb), .val (.int 16)] [(.int zCS)])) st2 ?_
  refine own_g (mkF m 12 #[.val (.ref sb), .val (.int 16)] [(.int 16), (.ref sb)]) (fun _ q => XS.ifNo X2.here hx rfl (hb hby own_d6_7) rfl ((if0 _ _).trans (feq Cq.2.1).1) (XS.aloadN X2.here hx rfl (hb hby own_d6_10) rfl rfl (XS.iloadN X2.here hx rfl (hb hby own_d6_11) rfl q))) ?_
  obtain ⟨T3, h3, k3, X3, e3, E3, A3, Ex3, st3⟩ := newPE X2 hx hZ (own_h hw 38 rfl) e2 (g := (mkF m 12 #[.val (.ref sb), .val (.int 16)] [(.int 16), (.ref sb)])) rfl (hb hby own_d6_12) rfl (by decide) (cap := 16) (by decide) (by decide) (by decide) (by decide) (ad := "[B") (by decide)
  obtain ⟨b3, g3⟩ : ∃ z, z = h0.size := ⟨_, rfl⟩
  rw [← g3] at A3 Ex3 st3
  have g_b3 : n0 ≤ b3 := Nat.le_trans (Nat.le_trans Z0 (Keep.refl h0 [sb]).1) (Nat.le_of_eq g3.symm)
  have sz_b3 : h0.size ≤ b3 := Nat.le_trans (Keep.refl h0 [sb]).1 (Nat.le_of_eq g3.symm)
  have ne_sb_b3 : sb ≠ b3 := Nat.ne_of_lt (Nat.lt_of_lt_of_le E_sb.lt (Nat.le_of_eq g3.symm))
  have R_b3 := own_By.of (Arv.new A3 (by decide))
  refine own_by (g' := (mkF m 14 #[.val (.ref sb), .val (.int 16)] [(.ref b3), (.ref sb)])) st3 ?_
  have e4_sb := (E_sb.ext E3)
  have f5_sb := (V_sb.ext E3)
  obtain ⟨T6, h6, X6, e6, W6, st6⟩ := putF X3 hx hZ hown (host := "") (Or.inl (own_h hw 39 rfl)) Via.refl e3 f5_sb e4_sb (Or.inl (own_h hw 40 rfl)) (own_h hw 24 rfl) (ty := (.array .byte)) (by decide) (rfl) (rfl) (g := (mkF m 14 #[.val (.ref sb), .val (.int 16)] [(.ref b3), (.ref sb)])) rfl rfl (hb hby own_d6_14)
  have Fw6 := f5_sb.same W6
  have N6 := Fr.snoc X6 N0 g_sb
  refine own_by (g' := (mkF m 17 #[.val (.ref sb), .val (.int 16)] [])) st6 ?_
  refine own_g (mkF m 19 #[.val (.ref sb), .val (.int 16)] [(.int 0), (.ref sb)]) (fun _ q => XS.aloadN X6.here hx rfl (hb hby own_d6_17) rfl rfl (XS.iconst X6.here hx rfl (hb hby own_d6_18) q)) ?_
  have e7_sb := (e4_sb.wr W6)
  have f8_sb := ((C_sb.ext E3).other W6 (Or.inr (slot_ne (Or.inl (own_h hw 42 rfl)) (Or.inl (own_h hw 40 rfl)) (by decide) (t := .byte) (t' := (.array .byte)) (by decide) (by decide))))
  obtain ⟨T9, h9, X9, e9, W9, st9⟩ := putFN X6 hx hZ hown (own_h hw 41 rfl) Via.refl e6 f8_sb e7_sb (Or.inl (own_h hw 42 rfl)) (own_h hw 24 rfl) (ty := .byte) (v' := (.int 0)) (by decide) rfl (by decide) (g := (mkF m 19 #[.val (.ref sb), .val (.int 16)] [(.int 0), (.ref sb)])) rfl rfl (hb hby own_d6_19)
  have Fw9 := f8_sb.same W9
  have N9 := Fr.snoc X9 N6 g_sb
  refine own_by (g' := (mkF m 22 #[.val (.ref sb), .val (.int 16)] [])) st9 ?_
  refine own_g (mkF m 38 #[.val (.ref sb), .val (.int 16)] []) (fun _ q => XS.goto X9.here hx rfl (pc0 := 22) (pc' := 38) rfl (hb hby own_d6_22) (by decide) (by decide) q) ?_
  have k10_ := ((((Keep.refl h0 [sb]).ext E3).wr W6 (Or.inl (List.mem_of_getElem? (i := 0) rfl))).wr W9 (Or.inl (List.mem_of_getElem? (i := 0) rfl)))
  have e11_b3 := ((Ex3.wr W6).wr W9)
  have r12_b3 := ((R_b3.other W6 (Ne.symm ne_sb_b3)).other W9 (Ne.symm ne_sb_b3))
  have f13_sb := (Fw6.other W9 (Or.inr (slot_ne (Or.inl (own_h hw 40 rfl)) (Or.inl (own_h hw 42 rfl)) (by decide) (t := (.array .byte)) (t' := .byte) (by decide) (by decide))))
  have f14_sb := (((N_sb.ext E3).other W6 (Or.inr (slot_ne (Or.inl (own_h hw 73 rfl)) (Or.inl (own_h hw 40 rfl)) (by decide) (t := .int) (t' := (.array .byte)) (by decide) (by decide)))).other W9 (Or.inr (slot_ne (Or.inl (own_h hw 73 rfl)) (Or.inl (own_h hw 42 rfl)) (by decide) (t := .int) (t' := .byte) (by decide) (by decide))))
  exact own_end X9 (v := none) (fun _ => rfl) hlk (fun hr => X9.returnOut hx Bd.returns (hb hby own_d6_38) hr) (by rw [e9]; exact ⟨rfl, N9, k10_, b3, sz_b3, g_b3, e11_b3, r12_b3, f13_sb, Fw9, f14_sb⟩) (by decide) (by decide)
theorem own_d5_0 : decode jdk_67_method_1_code 0 = .ok (.aload_n 0, 1) := by decide +kernel
theorem own_d5_1 : decode jdk_67_method_1_code 1 = .ok (.bipush 16, 2) := by decide +kernel
theorem own_d5_3 : decode jdk_67_method_1_code 3 = .ok (.invokespecial 1, 3) := by decide +kernel
theorem own_d5_6 : decode jdk_67_method_1_code 6 = .ok (.return_, 1) := by decide +kernel
theorem own_sbi_ef (m : MethodId) (sb : Addr) : entryFrame m #[(.ref sb)] 1 = mkF m 0 #[.val (.ref sb)] [] := by  first | (simp [entryFrame, mkF, argsToLocals, Value.category]; done) | rfl
def own_sbi_Q (Z : State) (sb : Addr) (zCS : Int32) (dO : Addr) (dT : Addr) (ca : Addr) (cO : Cell) (cT : Cell) (cc : Cell) (h0 : Heap) (n0 : Nat) (v : Option Value) (h : Heap) (L : List Loc) : Prop := v = none ∧ Fr n0 L ∧ Keep h0 h [sb] ∧ ∃ bv : Addr, h0.size ≤ bv ∧ n0 ≤ bv ∧ Exa Z h bv "[B" ∧ own_By Z h bv (16 : Int32) ∧ Fld Z h sb "java/lang/AbstractStringBuilder" "value" "[B" (.ref bv) ∧ Fld Z h sb "java/lang/AbstractStringBuilder" "coder" "B" (.int 0) ∧ Fld Z h sb "java/lang/AbstractStringBuilder" "count" "I" (.int 0)
set_option maxRecDepth 65536 in
set_option maxHeartbeats 40000000 in
theorem own_sbi (l : Launch) (Z : State) (a0 : Array Value) (hw : ∀ d ∈ tables_1, d.before a0 Z = true) (ws : List Jvm.Cond) (sb : Addr) (zCS : Int32) (dO : Addr) (dT : Addr) (ca : Addr) (cO : Cell) (cT : Cell) (cc : Cell) (h0 : Heap) (n0 : Nat) (Z0 : n0 ≤ h0.size) (Cq : own_C Z zCS dO dT ca cO cT cc) (O0 : Old Z n0 h0) (E_sb : Exa Z h0 sb "java/lang/StringBuilder") (V_sb : Fld Z h0 sb "java/lang/AbstractStringBuilder" "value" "[B" .null) (C_sb : Fld Z h0 sb "java/lang/AbstractStringBuilder" "coder" "B" (.int 0)) (N_sb : Fld Z h0 sb "java/lang/AbstractStringBuilder" "count" "I" (.int 0)) (g_sb : n0 ≤ sb) :
    MetFree l own_y32 (head1 (Jvm.Cond.code own_y32 jdk_67_method_1_code 1 none :: ws) (⟨2, 1, 16, 25⟩ : Room)) (fun aa U => aa = #[(.ref sb)] ∧ Z.Warmed39 U.vm ∧ U.heap = h0) (fun _ _ _ _ _ => True) (fun _ U o U' => ∃ v L, o = .returned v ∧ own_sbi_Q Z sb zCS dO dT ca cO cT cc h0 n0 v U'.heap L ∧ FrameEnd U o U' L (⟨2, 1, 16, 25⟩ : Room).cells (⟨2, 1, 16, 25⟩ : Room).slots) := by
  refine MetFree.of_bodySF (plainFor_of_name own_pn_java_lang_StringBuilder) hisR ?_
  intro p e s m args below meth c s₁ Bd hml0 hP hK
  obtain ⟨rfl, hZ, hh⟩ := hP
  have hx := Bd.exec
  have hby := Bd.bytes
  have hml : c.maxLocals = 1 := hml0
  have hown : s.vm.findClass "java/lang/StringBuilder" = some m.cls := findClass_of_methodNamed Bd.named
  have hnm := (name_of_methodNamed Bd.named Bd.method).1
  have hlk := Bd.notSynchronized
  have X0 : Stand p l e (⟨2, 1, 16, 25⟩ : Room) s m #[(.ref sb)] below meth c s₁ [] 0 0 := Stand.of_body Bd
  have e0 : s₁.heap = h0 := by rw [← hh, Bd.state]; rfl
  have N0 := Fr.nil n0
  refine own_start (Q := own_sbi_Q Z sb zCS dO dT ca cO cT cc h0 n0) (own_sbi_ef m sb) ?_
  refine own_g (mkF m 3 #[.val (.ref sb)] [(.int 16), (.ref sb)]) (fun _ q => XS.aloadN X0.here hx rfl (hb hby own_d5_0) rfl rfl (XS.bipush X0.here hx rfl (hb hby own_d5_1) q)) ?_
  refine own_callI X0 hx hZ (y := (⟨"java/lang/AbstractStringBuilder", "<init>", "(I)V"⟩ : MethodName)) rfl hown (own_h hw 29 rfl) (own_h hw 30 rfl) (own_h hw 34 rfl) (own_h hw 33 rfl) (by decide) (own_abi l Z a0 hw [] sb zCS dO dT ca cO cT cc h0 n0 (Nat.le_trans Z0 (Keep.refl h0 [sb]).1) Cq O0 E_sb V_sb C_sb N_sb g_sb) (by decide) (by decide) e0 (g := (mkF m 3 #[.val (.ref sb)] [(.int 16), (.ref sb)])) rfl (by rw [hml]; rfl) (argsL := [(.int 16)]) (rest := []) (lenOf own_pd__28I_29V rfl) rfl (W := 0) (by show 2 * 0 + _ ≤ _; exact Nat.le_of_eq rfl) (hb hby own_d5_3) rfl (by decide) (by decide) ?_
  rintro rv1 T1 L1 X1 ⟨rfl, Nq1, Kq1, bv, sz1, g1, Et1, Rt1, Fv1, Fc1, Fn1⟩
  have N1 := Fr.app N0 Nq1
  show own_Fin p e below _ T1 (mkF m 6 #[.val (.ref sb)] [])
  have ne_sb_bv : sb ≠ bv := Nat.ne_of_lt (Nat.lt_of_lt_of_le E_sb.lt sz1)
  have sz_bv := Nat.le_trans (Keep.refl h0 [sb]).1 sz1
  have k2_ := ((Keep.refl h0 [sb]).trans Kq1 (allS (Or.inl (List.mem_of_getElem? (i := 0) rfl)) all0))
  exact own_end X1 (v := none) (fun _ => rfl) hlk (fun hr => X1.returnOut hx Bd.returns (hb hby own_d5_6) hr) (⟨rfl, N1, k2_, bv, sz_bv, g1, Et1, Rt1, Fv1, Fc1, Fn1⟩) (by decide) (by decide)
theorem own_d3_0 : decode jdk_30_method_1_code 0 = .ok (.aload_n 0, 1) := by decide +kernel
theorem own_d3_1 : decode jdk_30_method_1_code 1 = .ok (.invokespecial 1, 3) := by decide +kernel
theorem own_d3_4 : decode jdk_30_method_1_code 4 = .ok (.return_, 1) := by decide +kernel
theorem own_rec_ef (m : MethodId) (a : Addr) : entryFrame m #[(.ref a)] 1 = mkF m 0 #[.val (.ref a)] [] := by  first | (simp [entryFrame, mkF, argsToLocals, Value.category]; done) | rfl
def own_rec_Q (Z : State) (a : Addr) (zCS : Int32) (dO : Addr) (dT : Addr) (ca : Addr) (cO : Cell) (cT : Cell) (cc : Cell) (h0 : Heap) (n0 : Nat) (v : Option Value) (h : Heap) (L : List Loc) : Prop := v = none ∧ Fr n0 L ∧ h = h0
theorem own_pn_java_lang_Record : plainName "java/lang/Record" = true := by first | (simp [plainName, overriddenIn]; done) | decide +kernel
set_option maxRecDepth 65536 in
set_option maxHeartbeats 40000000 in
theorem own_rec (l : Launch) (Z : State) (a0 : Array Value) (hw : ∀ d ∈ tables_1, d.before a0 Z = true) (ws : List Jvm.Cond) (a : Addr) (zCS : Int32) (dO : Addr) (dT : Addr) (ca : Addr) (cO : Cell) (cT : Cell) (cc : Cell) (h0 : Heap) (n0 : Nat) (Z0 : n0 ≤ h0.size) (Cq : own_C Z zCS dO dT ca cO cT cc) (O0 : Old Z n0 h0) :
    MetFree l own_y24 (head1 (Jvm.Cond.code own_y24 jdk_30_method_1_code 1 none :: ws) (⟨1, 0, 0, 12⟩ : Room)) (fun aa U => aa = #[(.ref a)] ∧ Z.Warmed39 U.vm ∧ U.heap = h0) (fun _ _ _ _ _ => True) (fun _ U o U' => ∃ v L, o = .returned v ∧ own_rec_Q Z a zCS dO dT ca cO cT cc h0 n0 v U'.heap L ∧ FrameEnd U o U' L (⟨1, 0, 0, 12⟩ : Room).cells (⟨1, 0, 0, 12⟩ : Room).slots) := by
  refine MetFree.of_bodySF (plainFor_of_name own_pn_java_lang_Record) hisR ?_
  intro p e s m args below meth c s₁ Bd hml0 hP hK
  obtain ⟨rfl, hZ, hh⟩ := hP
  have hx := Bd.exec
  have hby := Bd.bytes
  have hml : c.maxLocals = 1 := hml0
  have hown : s.vm.findClass "java/lang/Record" = some m.cls := findClass_of_methodNamed Bd.named
  have hnm := (name_of_methodNamed Bd.named Bd.method).1
  have hlk := Bd.notSynchronized
  have X0 : Stand p l e (⟨1, 0, 0, 12⟩ : Room) s m #[(.ref a)] below meth c s₁ [] 0 0 := Stand.of_body Bd
  have e0 : s₁.heap = h0 := by rw [← hh, Bd.state]; rfl
  have N0 := Fr.nil n0
  refine own_start (Q := own_rec_Q Z a zCS dO dT ca cO cT cc h0 n0) (own_rec_ef m a) ?_
  refine own_g (mkF m 1 #[.val (.ref a)] [(.ref a)]) (fun _ q => XS.aloadN X0.here hx rfl (hb hby own_d3_0) rfl rfl q) ?_
  obtain ⟨T1, X1, e1, st1⟩ := initO X0 hx hZ hown (own_h hw 20 rfl) (own_h hw 21 rfl) (own_h hw 22 rfl) e0 (g := (mkF m 1 #[.val (.ref a)] [(.ref a)])) rfl (by rw [hml]; rfl) rfl (hb hby own_d3_1) (by decide) (W := 0) (by show 2 * 0 + _ ≤ _; exact Nat.le_of_eq rfl) (by decide)
  refine own_by (g' := (mkF m 4 #[.val (.ref a)] [])) st1 ?_
  exact own_end X1 (v := none) (fun _ => rfl) hlk (fun hr => X1.returnOut hx Bd.returns (hb hby own_d3_4) hr) (by rw [e1]; exact ⟨rfl, N0, rfl⟩) (by decide) (by decide)
theorem own_d42_0 : decode jdk_18_method_1_code 0 = .ok (.aload_n 0, 1) := by decide +kernel
theorem own_d42_1 : decode jdk_18_method_1_code 1 = .ok (.invokespecial 1, 3) := by decide +kernel
theorem own_d42_4 : decode jdk_18_method_1_code 4 = .ok (.return_, 1) := by decide +kernel
theorem own_num_ef (m : MethodId) (a : Addr) : entryFrame m #[(.ref a)] 1 = mkF m 0 #[.val (.ref a)] [] := by  first | (simp [entryFrame, mkF, argsToLocals, Value.category]; done) | rfl
def own_num_Q (Z : State) (a : Addr) (zCS : Int32) (dO : Addr) (dT : Addr) (ca : Addr) (cO : Cell) (cT : Cell) (cc : Cell) (h0 : Heap) (n0 : Nat) (v : Option Value) (h : Heap) (L : List Loc) : Prop := v = none ∧ Fr n0 L ∧ h = h0
theorem own_pn_java_lang_Number : plainName "java/lang/Number" = true := by first | (simp [plainName, overriddenIn]; done) | decide +kernel
set_option maxRecDepth 65536 in
set_option maxHeartbeats 40000000 in
theorem own_num (l : Launch) (Z : State) (a0 : Array Value) (hw : ∀ d ∈ tables_1, d.before a0 Z = true) (ws : List Jvm.Cond) (a : Addr) (zCS : Int32) (dO : Addr) (dT : Addr) (ca : Addr) (cO : Cell) (cT : Cell) (cc : Cell) (h0 : Heap) (n0 : Nat) (Z0 : n0 ≤ h0.size) (Cq : own_C Z zCS dO dT ca cO cT cc) (O0 : Old Z n0 h0) :
    MetFree l (⟨"java/lang/Number", "<init>", "()V"⟩ : MethodName) (head1 (Jvm.Cond.code (⟨"java/lang/Number", "<init>", "()V"⟩ : MethodName) jdk_18_method_1_code 1 none :: ws) (⟨1, 0, 0, 12⟩ : Room)) (fun aa U => aa = #[(.ref a)] ∧ Z.Warmed39 U.vm ∧ U.heap = h0) (fun _ _ _ _ _ => True) (fun _ U o U' => ∃ v L, o = .returned v ∧ own_num_Q Z a zCS dO dT ca cO cT cc h0 n0 v U'.heap L ∧ FrameEnd U o U' L (⟨1, 0, 0, 12⟩ : Room).cells (⟨1, 0, 0, 12⟩ : Room).slots) := by
  refine MetFree.of_bodySF (plainFor_of_name own_pn_java_lang_Number) hisR ?_
  intro p e s m args below meth c s₁ Bd hml0 hP hK
  obtain ⟨rfl, hZ, hh⟩ := hP
  have hx := Bd.exec
  have hby := Bd.bytes
  have hml : c.maxLocals = 1 := hml0
  have hown : s.vm.findClass "java/lang/Number" = some m.cls := findClass_of_methodNamed Bd.named
  have hnm := (name_of_methodNamed Bd.named Bd.method).1
  have hlk := Bd.notSynchronized
  have X0 : Stand p l e (⟨1, 0, 0, 12⟩ : Room) s m #[(.ref a)] below meth c s₁ [] 0 0 := Stand.of_body Bd
  have e0 : s₁.heap = h0 := by rw [← hh, Bd.state]; rfl
  have N0 := Fr.nil n0
  refine own_start (Q := own_num_Q Z a zCS dO dT ca cO cT cc h0 n0) (own_num_ef m a) ?_
  refine own_g (mkF m 1 #[.val (.ref a)] [(.ref a)]) (fun _ q => XS.aloadN X0.here hx rfl (hb hby own_d42_0) rfl rfl q) ?_
  obtain ⟨T1, X1, e1, st1⟩ := initO X0 hx hZ hown (own_h hw 235 rfl) (own_h hw 21 rfl) (own_h hw 22 rfl) e0 (g := (mkF m 1 #[.val (.ref a)] [(.ref a)])) rfl (by rw [hml]; rfl) rfl (hb hby own_d42_1) (by decide) (W := 0) (by show 2 * 0 + _ ≤ _; exact Nat.le_of_eq rfl) (by decide)
  refine own_by (g' := (mkF m 4 #[.val (.ref a)] [])) st1 ?_
  exact own_end X1 (v := none) (fun _ => rfl) hlk (fun hr => X1.returnOut hx Bd.returns (hb hby own_d42_4) hr) (by rw [e1]; exact ⟨rfl, N0, rfl⟩) (by decide) (by decide)
theorem own_d41_0 : decode jdk_33_method_23_code 0 = .ok (.aload_n 0, 1) := by decide +kernel
theorem own_d41_1 : decode jdk_33_method_23_code 1 = .ok (.invokespecial 202, 3) := by decide +kernel
theorem own_pd__28_29V : parseMethodDescriptor "()V" = some ⟨[], none⟩ := by decide +kernel
theorem own_d41_4 : decode jdk_33_method_23_code 4 = .ok (.aload_n 0, 1) := by decide +kernel
theorem own_d41_5 : decode jdk_33_method_23_code 5 = .ok (.iload_n 1, 1) := by decide +kernel
theorem own_d41_6 : decode jdk_33_method_23_code 6 = .ok (.putfield 205, 3) := by decide +kernel
theorem own_d41_9 : decode jdk_33_method_23_code 9 = .ok (.return_, 1) := by decide +kernel
theorem own_ii_ef (m : MethodId) (x0 : Addr) (x : Int32) : entryFrame m #[(.ref x0), (.int x)] 2 = mkF m 0 #[.val (.ref x0), .val (.int x)] [] := by  first | (simp [entryFrame, mkF, argsToLocals, Value.category]; done) | rfl
def own_ii_Q (Z : State) (x0 : Addr) (x : Int32) (zCS : Int32) (dO : Addr) (dT : Addr) (ca : Addr) (cO : Cell) (cT : Cell) (cc : Cell) (h0 : Heap) (n0 : Nat) (v : Option Value) (h : Heap) (L : List Loc) : Prop := v = none ∧ Fr n0 L ∧ Keep h0 h [x0] ∧ Fld Z h x0 "java/lang/Integer" "value" "I" (.int x)
set_option maxRecDepth 65536 in
set_option maxHeartbeats 40000000 in
theorem own_ii (l : Launch) (Z : State) (a0 : Array Value) (hw : ∀ d ∈ tables_1, d.before a0 Z = true) (ws : List Jvm.Cond) (x0 : Addr) (x : Int32) (zCS : Int32) (dO : Addr) (dT : Addr) (ca : Addr) (cO : Cell) (cT : Cell) (cc : Cell) (h0 : Heap) (n0 : Nat) (Z0 : n0 ≤ h0.size) (Cq : own_C Z zCS dO dT ca cO cT cc) (O0 : Old Z n0 h0) (E_x : Exa Z h0 x0 "java/lang/Integer") (V_x : Fld Z h0 x0 "java/lang/Integer" "value" "I" (.int 0)) (g_x : n0 ≤ x0) :
    MetFree l (⟨"java/lang/Integer", "<init>", "(I)V"⟩ : MethodName) (head1 (Jvm.Cond.code (⟨"java/lang/Integer", "<init>", "(I)V"⟩ : MethodName) jdk_33_method_23_code 2 none :: ws) (⟨2, 0, 0, 24⟩ : Room)) (fun aa U => aa = #[(.ref x0), (.int x)] ∧ Z.Warmed39 U.vm ∧ U.heap = h0) (fun _ _ _ _ _ => True) (fun _ U o U' => ∃ v L, o = .returned v ∧ own_ii_Q Z x0 x zCS dO dT ca cO cT cc h0 n0 v U'.heap L ∧ FrameEnd U o U' L (⟨2, 0, 0, 24⟩ : Room).cells (⟨2, 0, 0, 24⟩ : Room).slots) := by
  refine MetFree.of_bodySF (plainFor_of_name own_pn_java_lang_Integer) hisR ?_
  intro p e s m args below meth c s₁ Bd hml0 hP hK
  obtain ⟨rfl, hZ, hh⟩ := hP
  have hx := Bd.exec
  have hby := Bd.bytes
  have hml : c.maxLocals = 2 := hml0
  have hown : s.vm.findClass "java/lang/Integer" = some m.cls := findClass_of_methodNamed Bd.named
  have hnm := (name_of_methodNamed Bd.named Bd.method).1
  have hlk := Bd.notSynchronized
  have X0 : Stand p l e (⟨2, 0, 0, 24⟩ : Room) s m #[(.ref x0), (.int x)] below meth c s₁ [] 0 0 := Stand.of_body Bd
  have e0 : s₁.heap = h0 := by rw [← hh, Bd.state]; rfl
  have N0 := Fr.nil n0
  refine own_start (Q := own_ii_Q Z x0 x zCS dO dT ca cO cT cc h0 n0) (own_ii_ef m x0 x) ?_
  refine own_g (mkF m 1 #[.val (.ref x0), .val (.int x)] [(.ref x0)]) (fun _ q => XS.aloadN X0.here hx rfl (hb hby own_d41_0) rfl rfl q) ?_
  refine own_callI X0 hx hZ (y := (⟨"java/lang/Number", "<init>", "()V"⟩ : MethodName)) rfl hown (own_h hw 229 rfl) (own_h hw 230 rfl) (own_h hw 234 rfl) (own_h hw 233 rfl) (by decide) (own_num l Z a0 hw [] x0 zCS dO dT ca cO cT cc h0 n0 (Nat.le_trans Z0 (Keep.refl h0 [x0]).1) Cq O0 ) (by decide) (by decide) e0 (g := (mkF m 1 #[.val (.ref x0), .val (.int x)] [(.ref x0)])) rfl (by rw [hml]; rfl) (argsL := []) (rest := []) (lenOf own_pd__28_29V rfl) rfl (W := 0) (by show 2 * 0 + _ ≤ _; exact Nat.le_of_eq rfl) (hb hby own_d41_1) rfl (by decide) (by decide) ?_
  rintro rv1 T1 L1 X1 ⟨rfl, Nq1, eh1⟩
  have N1 := Fr.app N0 Nq1
  refine own_g (mkF m 6 #[.val (.ref x0), .val (.int x)] [(.int x), (.ref x0)]) (fun _ q => XS.aloadN X1.here hx rfl (hb hby own_d41_4) rfl rfl (XS.iloadN X1.here hx rfl (hb hby own_d41_5) rfl q)) ?_
  obtain ⟨T2, h2, X2, e2, W2, st2⟩ := putF X1 hx hZ hown (host := "") (Or.inl (own_h hw 113 rfl)) Via.refl eh1 V_x E_x (Or.inr ⟨(own_h hw 114 rfl), rfl, hnm⟩) (own_h hw 224 rfl) (ty := .int) (by decide) (rfl) (rfl) (g := (mkF m 6 #[.val (.ref x0), .val (.int x)] [(.int x), (.ref x0)])) rfl rfl (hb hby own_d41_6)
  have Fw2 := V_x.same W2
  have N2 := Fr.snoc X2 N1 g_x
  refine own_by (g' := (mkF m 9 #[.val (.ref x0), .val (.int x)] [])) st2 ?_
  have k3_ := ((Keep.refl h0 [x0]).wr W2 (Or.inl (List.mem_of_getElem? (i := 0) rfl)))
  exact own_end X2 (v := none) (fun _ => rfl) hlk (fun hr => X2.returnOut hx Bd.returns (hb hby own_d41_9) hr) (by rw [e2]; exact ⟨rfl, N2, k3_, Fw2⟩) (by decide) (by decide)
theorem own_d37_0 : decode jdk_33_method_27_code 0 = .ok (.aload_n 0, 1) := by decide +kernel
theorem own_d37_1 : decode jdk_33_method_27_code 1 = .ok (.getfield 205, 3) := by decide +kernel
theorem own_d37_4 : decode jdk_33_method_27_code 4 = .ok (.ireturn, 1) := by decide +kernel
theorem own_iv_ef (m : MethodId) (t : Addr) : entryFrame m #[(.ref t)] 1 = mkF m 0 #[.val (.ref t)] [] := by  first | (simp [entryFrame, mkF, argsToLocals, Value.category]; done) | rfl
def own_iv_Q (Z : State) (t : Addr) (x : Int32) (zCS : Int32) (dO : Addr) (dT : Addr) (ca : Addr) (cO : Cell) (cT : Cell) (cc : Cell) (h0 : Heap) (n0 : Nat) (v : Option Value) (h : Heap) (L : List Loc) : Prop := v = some (.int x) ∧ Fr n0 L ∧ h = h0
set_option maxRecDepth 65536 in
set_option maxHeartbeats 40000000 in
theorem own_iv (l : Launch) (Z : State) (a0 : Array Value) (hw : ∀ d ∈ tables_1, d.before a0 Z = true) (ws : List Jvm.Cond) (t : Addr) (x : Int32) (zCS : Int32) (dO : Addr) (dT : Addr) (ca : Addr) (cO : Cell) (cT : Cell) (cc : Cell) (h0 : Heap) (n0 : Nat) (Z0 : n0 ≤ h0.size) (Cq : own_C Z zCS dO dT ca cO cT cc) (O0 : Old Z n0 h0) (E_t : Exa Z h0 t "java/lang/Integer") (V_t : Fld Z h0 t "java/lang/Integer" "value" "I" (.int x)) :
    MetFree l own_y15 (head1 (Jvm.Cond.code own_y15 jdk_33_method_27_code 1 (some .int) :: ws) (⟨0, 0, 0, 0⟩ : Room)) (fun aa U => aa = #[(.ref t)] ∧ Z.Warmed39 U.vm ∧ U.heap = h0) (fun _ _ _ _ _ => True) (fun _ U o U' => ∃ v L, o = .returned v ∧ own_iv_Q Z t x zCS dO dT ca cO cT cc h0 n0 v U'.heap L ∧ FrameEnd U o U' L (⟨0, 0, 0, 0⟩ : Room).cells (⟨0, 0, 0, 0⟩ : Room).slots) := by
  refine MetFree.of_bodySF (plainFor_of_name own_pn_java_lang_Integer) hisR ?_
  intro p e s m args below meth c s₁ Bd hml0 hP hK
  obtain ⟨rfl, hZ, hh⟩ := hP
  have hx := Bd.exec
  have hby := Bd.bytes
  have hml : c.maxLocals = 1 := hml0
  have hown : s.vm.findClass "java/lang/Integer" = some m.cls := findClass_of_methodNamed Bd.named
  have hnm := (name_of_methodNamed Bd.named Bd.method).1
  have hlk := Bd.notSynchronized
  have X0 : Stand p l e (⟨0, 0, 0, 0⟩ : Room) s m #[(.ref t)] below meth c s₁ [] 0 0 := Stand.of_body Bd
  have e0 : s₁.heap = h0 := by rw [← hh, Bd.state]; rfl
  have N0 := Fr.nil n0
  refine own_start (Q := own_iv_Q Z t x zCS dO dT ca cO cT cc h0 n0) (own_iv_ef m t) ?_
  refine own_g (mkF m 1 #[.val (.ref t)] [(.ref t)]) (fun _ q => XS.aloadN X0.here hx rfl (hb hby own_d37_0) rfl rfl q) ?_
  obtain ⟨T1, X1, e1, st1⟩ := getF X0 hx hZ hown (host := "") (Or.inl (own_h hw 113 rfl)) Via.refl e0 V_t (g := (mkF m 1 #[.val (.ref t)] [(.ref t)])) rfl rfl (hb hby own_d37_1)
  refine own_by (g' := (mkF m 4 #[.val (.ref t)] [(.int x)])) st1 ?_
  exact own_end X1 (v := some (.int x)) (fun h => by rw [Bd.returns] at h; cases h) hlk (fun hr => retOut X1 hx Bd.returns rfl (Or.inl ⟨rfl, Or.inl rfl, _, rfl⟩) (hb hby own_d37_4) hr) (by rw [e1]; exact ⟨rfl, N0, rfl⟩) (by decide) (by decide)
theorem own_d1_0 : decode jdk_33_method_22_code 0 = .ok (.iload_n 0, 1) := by decide +kernel
theorem own_d1_1 : decode jdk_33_method_22_code 1 = .ok (.bipush (-128), 2) := by decide +kernel
theorem own_d1_3 : decode jdk_33_method_22_code 3 = .ok (.if_icmp .lt 20, 3) := by decide +kernel
theorem own_d1_6 : decode jdk_33_method_22_code 6 = .ok (.iload_n 0, 1) := by decide +kernel
theorem own_d1_7 : decode jdk_33_method_22_code 7 = .ok (.getstatic 191, 3) := by decide +kernel
theorem own_d1_10 : decode jdk_33_method_22_code 10 = .ok (.if_icmp .gt 13, 3) := by decide +kernel
theorem own_d1_23 : decode jdk_33_method_22_code 23 = .ok (.new 1, 3) := by decide +kernel
theorem own_d1_26 : decode jdk_33_method_22_code 26 = .ok (.dup, 1) := by decide +kernel
theorem own_d1_27 : decode jdk_33_method_22_code 27 = .ok (.iload_n 0, 1) := by decide +kernel
theorem own_d1_28 : decode jdk_33_method_22_code 28 = .ok (.invokespecial 199, 3) := by decide +kernel
theorem own_d1_31 : decode jdk_33_method_22_code 31 = .ok (.areturn, 1) := by decide +kernel
theorem own_d1_13 : decode jdk_33_method_22_code 13 = .ok (.getstatic 195, 3) := by decide +kernel
theorem own_d1_16 : decode jdk_33_method_22_code 16 = .ok (.iload_n 0, 1) := by decide +kernel
theorem own_d1_17 : decode jdk_33_method_22_code 17 = .ok (.sipush 128, 3) := by decide +kernel
theorem own_d1_20 : decode jdk_33_method_22_code 20 = .ok (.iadd, 1) := by decide +kernel
theorem own_d1_21 : decode jdk_33_method_22_code 21 = .ok (.aaload, 1) := by decide +kernel
theorem own_d1_22 : decode jdk_33_method_22_code 22 = .ok (.areturn, 1) := by decide +kernel
theorem own_val_ef (m : MethodId) (x : Int32) : entryFrame m #[(.int x)] 1 = mkF m 0 #[.val (.int x)] [] := by  first | (simp [entryFrame, mkF, argsToLocals, Value.category]; done) | rfl
def own_val_Q (Z : State) (x : Int32) (zCS : Int32) (dO : Addr) (dT : Addr) (ca : Addr) (cO : Cell) (cT : Cell) (cc : Cell) (h0 : Heap) (n0 : Nat) (v : Option Value) (h : Heap) (L : List Loc) : Prop := ∃ t : Addr, v = some (.ref t) ∧ Fr n0 L ∧ Keep h0 h [] ∧ Exa Z h t "java/lang/Integer" ∧ Fld Z h t "java/lang/Integer" "value" "I" (.int x) ∧ ∀ y : Addr, n0 ≤ y → y < h0.size → t ≠ y
set_option maxRecDepth 65536 in
set_option maxHeartbeats 40000000 in
theorem own_val (l : Launch) (Z : State) (a0 : Array Value) (hw : ∀ d ∈ tables_1, d.before a0 Z = true) (ws : List Jvm.Cond) (x : Int32) (zCS : Int32) (dO : Addr) (dT : Addr) (ca : Addr) (cO : Cell) (cT : Cell) (cc : Cell) (h0 : Heap) (n0 : Nat) (Z0 : n0 ≤ h0.size) (Cq : own_C Z zCS dO dT ca cO cT cc) (O0 : Old Z n0 h0) (hxb : 0 ≤ x.toInt ∧ x.toInt < 1000000) :
    MetFree l own_y19 (head1 (Jvm.Cond.code own_y19 jdk_33_method_22_code 1 (some (.object "java/lang/Integer")) :: ws) (⟨3, 1, 1, 38⟩ : Room)) (fun aa U => aa = #[(.int x)] ∧ Z.Warmed39 U.vm ∧ U.heap = h0) (fun _ _ _ _ _ => True) (fun _ U o U' => ∃ v L, o = .returned v ∧ own_val_Q Z x zCS dO dT ca cO cT cc h0 n0 v U'.heap L ∧ FrameEnd U o U' L (⟨3, 1, 1, 38⟩ : Room).cells (⟨3, 1, 1, 38⟩ : Room).slots) := by
  refine MetFree.of_bodySF (plainFor_of_name own_pn_java_lang_Integer) hisR ?_
  intro p e s m args below meth c s₁ Bd hml0 hP hK
  obtain ⟨rfl, hZ, hh⟩ := hP
  have hx := Bd.exec
  have hby := Bd.bytes
  have hml : c.maxLocals = 1 := hml0
  have hown : s.vm.findClass "java/lang/Integer" = some m.cls := findClass_of_methodNamed Bd.named
  have hnm := (name_of_methodNamed Bd.named Bd.method).1
  have hlk := Bd.notSynchronized
  have X0 : Stand p l e (⟨3, 1, 1, 38⟩ : Room) s m #[(.int x)] below meth c s₁ [] 0 0 := Stand.of_body Bd
  have e0 : s₁.heap = h0 := by rw [← hh, Bd.state]; rfl
  have N0 := Fr.nil n0
  refine own_start (Q := own_val_Q Z x zCS dO dT ca cO cT cc h0 n0) (own_val_ef m x) ?_
  have c_m128 : (-128 : Int32).toInt = -128 := by decide
  have hlo : ¬ x < (-128 : Int32) := own_nl (by omega)
  refine own_g (mkF m 7 #[.val (.int x)] [(.int x)]) (fun _ q => XS.iloadN X0.here hx rfl (hb hby own_d1_0) rfl (XS.bipush X0.here hx rfl (hb hby own_d1_1) (XS.icmpNo X0.here hx rfl (hb hby own_d1_3) rfl (flt hlo).1 (XS.iloadN X0.here hx rfl (hb hby own_d1_6) rfl q)))) ?_
  obtain ⟨T1, X1, e1, st1⟩ := getS2 X0 hx hZ hown (host := "") (Or.inl (own_h hw 9 rfl)) Via.refl e0 (Sta.ext O0.2 Cq.2.2.2.2.2.2.1) (g := (mkF m 7 #[.val (.int x)] [(.int x)])) rfl (hb hby own_d1_7)
  refine own_by (g' := (mkF m 10 #[.val (.int x)] [(.int 127), (.int x)])) st1 ?_
  by_cases hc2 : (127 : Int32) < x
  · refine own_g (mkF m 23 #[.val (.int x)] []) (fun _ q => XS.icmpYes X1.here hx rfl (pc0 := 10) (pc' := 23) rfl (hb hby own_d1_10) rfl (tlt hc2).2.2.1 (by decide) (by decide) q) ?_
    obtain ⟨T3, h3, X3, e3, E3, A3, D3, U3, st3⟩ := newO X1 hx hZ hown (own_h hw 223 rfl) (own_h hw 224 rfl) (own_h hw 7 rfl) e1 (g := (mkF m 23 #[.val (.int x)] [])) rfl (hb hby own_d1_23) (by decide) (by decide)
    obtain ⟨b3, g3⟩ : ∃ z, z = h0.size := ⟨_, rfl⟩
    rw [← g3] at A3 D3 U3 st3
    have g_b3 : n0 ≤ b3 := Nat.le_trans Z0 (Nat.le_of_eq g3.symm)
    have sz_b3 : h0.size ≤ b3 := Nat.le_trans (Keep.refl h0 []).1 (Nat.le_of_eq g3.symm)
    have F_value_b3 : Fld Z h3 b3 "java/lang/Integer" "value" "I" (.int 0) := D3 (Or.inr (own_h hw 114 rfl)) (ty := .int) (by decide)
    refine own_by (g' := (mkF m 26 #[.val (.int x)] [(.ref b3)])) st3 ?_
    refine own_g (mkF m 28 #[.val (.int x)] [(.int x), (.ref b3), (.ref b3)]) (fun _ q => XS.dup X3.here hx rfl (hb hby own_d1_26) rfl rfl (XS.iloadN X3.here hx rfl (hb hby own_d1_27) rfl q)) ?_
    have k4_ := ((Keep.refl h0 []).ext E3)
    have o5_ := (O0.ext E3)
    refine own_callI X3 hx hZ (y := (⟨"java/lang/Integer", "<init>", "(I)V"⟩ : MethodName)) rfl hown (own_h hw 225 rfl) (own_h hw 226 rfl) (own_h hw 228 rfl) (own_h hw 7 rfl) (by decide) (own_ii l Z a0 hw [] b3 x zCS dO dT ca cO cT cc h3 n0 (Nat.le_trans Z0 k4_.1) Cq o5_ A3 F_value_b3 g_b3) (by decide) (by decide) e3 (g := (mkF m 28 #[.val (.int x)] [(.int x), (.ref b3), (.ref b3)])) rfl (by rw [hml]; rfl) (argsL := [(.int x)]) (rest := [(.ref b3)]) (lenOf own_pd__28I_29V rfl) rfl (W := 1) (by show 2 * 0 + _ ≤ _; exact Nat.le_of_eq rfl) (hb hby own_d1_28) rfl (by decide) (by decide) ?_
    rintro rv6 T6 L6 X6 ⟨rfl, Nq6, Kq6, Fq6⟩
    have N6 := Fr.app N0 Nq6
    show own_Fin p e below _ T6 (mkF m 31 #[.val (.int x)] [(.ref b3)])
    have k7_ := (k4_.trans Kq6 (allS (Or.inr sz_b3) all0))
    have e8_b3 := (A3.keep Kq6)
    exact own_end X6 (v := some (.ref b3)) (fun h => by rw [Bd.returns] at h; cases h) hlk (fun hr => retOut X6 hx Bd.returns (own_narR rfl) (Or.inr (Or.inr (Or.inr (Or.inr ⟨rfl, rfl, rfl⟩)))) (hb hby own_d1_31) hr) (⟨b3, rfl, N6, k7_, e8_b3, Fq6, fun y _ hy q => absurd (q ▸ sz_b3) (Nat.not_le.mpr hy)⟩) (by decide) (by decide)
  · refine own_g (mkF m 13 #[.val (.int x)] []) (fun _ q => XS.icmpNo X1.here hx rfl (hb hby own_d1_10) rfl (flt hc2).2.2.1 q) ?_
    obtain ⟨T9, X9, e9, st9⟩ := getS2 X1 hx hZ hown (host := "") (Or.inl (own_h hw 11 rfl)) Via.refl e1 (Sta.ext O0.2 Cq.2.2.2.2.2.2.2.1) (g := (mkF m 13 #[.val (.int x)] [])) rfl (hb hby own_d1_13)
    refine own_by (g' := (mkF m 16 #[.val (.int x)] [(.ref ca)])) st9 ?_
    refine own_g (mkF m 21 #[.val (.int x)] [(.int (x + (128 : Int32))), (.ref ca)]) (fun _ q => XS.iloadN X9.here hx rfl (hb hby own_d1_16) rfl (XS.sipush X9.here hx rfl (hb hby own_d1_17) (XS.iadd X9.here hx rfl (hb hby own_d1_20) rfl q))) ?_
    have c127 : (127 : Int32).toInt = 127 := by decide
    have c128 : (128 : Int32).toInt = 128 := by decide
    have c256 : (256 : Int32).toInt = 256 := by decide
    have c00 : (0 : Int32).toInt = 0 := by decide
    have hle : x.toInt ≤ 127 := by have q := hc2; have q2 : ¬ (127 : Int32).toInt < x.toInt := fun z => q (own_lt z); omega
    have ej := own_iadd (x := x) (y := (128 : Int32)) (by omega)
    have BX := Cq.2.2.2.2.2.2.2.2
    have hin := inb_of (j := x + (128 : Int32)) BX.2.1 ⟨own_nl (by omega), own_lt (by omega)⟩
    obtain ⟨t0, ht0, Et0, Vt0⟩ := BX.2.2.2 _ hin
    have exx : (x + (128 : Int32)) - (128 : Int32) = x := by apply own_eqI; have q := own_sub (x := x + (128 : Int32)) (y := (128 : Int32)) (by omega); omega
    have Vt1 : Fld Z Z.heap t0 "java/lang/Integer" "value" "I" (.int x) := by have q := Vt0; simp only [exx] at q; exact q
    have AB := BX.1.ext O0.2
    refine own_by (g' := (mkF m 22 #[.val (.int x)] [(.ref t0)])) (fun _ kq => X9.aaload hx (j := (x + (128 : Int32))) (v := (.ref t0)) (by rw [e9]; exact AB.1) (State.isArrayOf_alike hZ.alike AB.2.1) rfl AB.2.2 hin ht0 (g := (mkF m 21 #[.val (.int x)] [(.int (x + (128 : Int32))), (.ref ca)])) rfl rfl (hb hby own_d1_21) _ kq) ?_
    exact own_end X9 (v := some (.ref t0)) (fun h => by rw [Bd.returns] at h; cases h) hlk (fun hr => retOut X9 hx Bd.returns (own_narR rfl) (Or.inr (Or.inr (Or.inr (Or.inr ⟨rfl, rfl, rfl⟩)))) (hb hby own_d1_22) hr) (by rw [e9]; exact ⟨t0, rfl, N0, (Keep.refl h0 []), (Et0.ext O0.2), (Vt1.ext O0.2), fun y hy _ => Old.ne O0 Et0.lt hy⟩) (by decide) (by decide)
theorem own_d39_0 : decode prog_60_method_7_code 0 = .ok (.iload_n 1, 1) := by decide +kernel
theorem own_d39_1 : decode prog_60_method_7_code 1 = .ok (.iload_n 2, 1) := by decide +kernel
theorem own_d39_2 : decode prog_60_method_7_code 2 = .ok (.if_icmp .ge 34, 3) := by decide +kernel
theorem own_d39_36 : decode prog_60_method_7_code 36 = .ok (.iload_n 1, 1) := by decide +kernel
theorem own_d39_37 : decode prog_60_method_7_code 37 = .ok (.iload 4, 2) := by decide +kernel
theorem own_d39_39 : decode prog_60_method_7_code 39 = .ok (.if_icmp .le 50, 3) := by decide +kernel
theorem own_d39_89 : decode prog_60_method_7_code 89 = .ok (.return_, 1) := by decide +kernel
theorem own_wi_ef (m : MethodId) (sa : Addr) (x : Int32) (mn : Int32) (se : Addr) (su : Addr) : entryFrame m #[(.ref sa), (.int x), (.int mn), (.ref se), (.int 119999), (.ref su)] 6 = mkF m 0 #[.val (.ref sa), .val (.int x), .val (.int mn), .val (.ref se), .val (.int 119999), .val (.ref su)] [] := by  first | (simp [entryFrame, mkF, argsToLocals, Value.category]; done) | rfl
def own_wi_Q (Z : State) (sa : Addr) (x : Int32) (mn : Int32) (se : Addr) (su : Addr) (zCS : Int32) (dO : Addr) (dT : Addr) (ca : Addr) (cO : Cell) (cT : Cell) (cc : Cell) (h0 : Heap) (n0 : Nat) (v : Option Value) (h : Heap) (L : List Loc) : Prop := v = none ∧ Fr n0 L ∧ h = h0
theorem own_pn_com_example_abeyance_abeyance_plan_PlanTerms : plainName "com/example/abeyance/abeyance/plan/PlanTerms" = true := by first | (simp [plainName, overriddenIn]; done) | decide +kernel
set_option maxRecDepth 65536 in
set_option maxHeartbeats 40000000 in
theorem own_wi (l : Launch) (Z : State) (a0 : Array Value) (hw : ∀ d ∈ tables_1, d.before a0 Z = true) (ws : List Jvm.Cond) (sa : Addr) (x : Int32) (mn : Int32) (se : Addr) (su : Addr) (zCS : Int32) (dO : Addr) (dT : Addr) (ca : Addr) (cO : Cell) (cT : Cell) (cc : Cell) (h0 : Heap) (n0 : Nat) (Z0 : n0 ≤ h0.size) (Cq : own_C Z zCS dO dT ca cO cT cc) (O0 : Old Z n0 h0) (hmin : ¬ x < mn) (hmax : ¬ (119999 : Int32) < x) :
    MetFree l (⟨"com/example/abeyance/abeyance/plan/PlanTerms", "within", "(Ljava/lang/String;IILjava/lang/String;ILjava/lang/String;)V"⟩ : MethodName) (head1 (Jvm.Cond.code (⟨"com/example/abeyance/abeyance/plan/PlanTerms", "within", "(Ljava/lang/String;IILjava/lang/String;ILjava/lang/String;)V"⟩ : MethodName) prog_60_method_7_code 6 none :: ws) (⟨0, 0, 0, 0⟩ : Room)) (fun aa U => aa = #[(.ref sa), (.int x), (.int mn), (.ref se), (.int 119999), (.ref su)] ∧ Z.Warmed39 U.vm ∧ U.heap = h0) (fun _ _ _ _ _ => True) (fun _ U o U' => ∃ v L, o = .returned v ∧ own_wi_Q Z sa x mn se su zCS dO dT ca cO cT cc h0 n0 v U'.heap L ∧ FrameEnd U o U' L (⟨0, 0, 0, 0⟩ : Room).cells (⟨0, 0, 0, 0⟩ : Room).slots) := by
  refine MetFree.of_bodySF (plainFor_of_name own_pn_com_example_abeyance_abeyance_plan_PlanTerms) hisR ?_
  intro p e s m args below meth c s₁ Bd hml0 hP hK
  obtain ⟨rfl, hZ, hh⟩ := hP
  have hx := Bd.exec
  have hby := Bd.bytes
  have hml : c.maxLocals = 6 := hml0
  have hown : s.vm.findClass "com/example/abeyance/abeyance/plan/PlanTerms" = some m.cls := findClass_of_methodNamed Bd.named
  have hnm := (name_of_methodNamed Bd.named Bd.method).1
  have hlk := Bd.notSynchronized
  have X0 : Stand p l e (⟨0, 0, 0, 0⟩ : Room) s m #[(.ref sa), (.int x), (.int mn), (.ref se), (.int 119999), (.ref su)] below meth c s₁ [] 0 0 := Stand.of_body Bd
  have e0 : s₁.heap = h0 := by rw [← hh, Bd.state]; rfl
  have N0 := Fr.nil n0
  refine own_start (Q := own_wi_Q Z sa x mn se su zCS dO dT ca cO cT cc h0 n0) (own_wi_ef m sa x mn se su) ?_
  refine own_g (mkF m 89 #[.val (.ref sa), .val (.int x), .val (.int mn), .val (.ref se), .val (.int 119999), .val (.ref su)] []) (fun _ q => XS.iloadN X0.here hx rfl (hb hby own_d39_0) rfl (XS.iloadN X0.here hx rfl (hb hby own_d39_1) rfl (XS.icmpYes X0.here hx rfl (pc0 := 2) (pc' := 36) rfl (hb hby own_d39_2) rfl (flt hmin).2.1 (by decide) (by decide) (XS.iloadN X0.here hx rfl (hb hby own_d39_36) rfl (XS.iload X0.here hx rfl (hb hby own_d39_37) rfl (XS.icmpYes X0.here hx rfl (pc0 := 39) (pc' := 89) rfl (hb hby own_d39_39) rfl (flt hmax).2.2.2 (by decide) (by decide) q)))))) ?_
  exact own_end X0 (v := none) (fun _ => rfl) hlk (fun hr => X0.returnOut hx Bd.returns (hb hby own_d39_89) hr) (by rw [e0]; exact ⟨rfl, N0, rfl⟩) (by decide) (by decide)
theorem own_d38_0 : decode prog_60_method_4_code 0 = .ok (.aload_n 0, 1) := by decide +kernel
theorem own_d38_1 : decode prog_60_method_4_code 1 = .ok (.iload_n 1, 1) := by decide +kernel
theorem own_d38_2 : decode prog_60_method_4_code 2 = .ok (.iload_n 2, 1) := by decide +kernel
theorem own_d38_3 : decode prog_60_method_4_code 3 = .ok (.aload_n 3, 1) := by decide +kernel
theorem own_d38_4 : decode prog_60_method_4_code 4 = .ok (.ldc 85, 2) := by decide +kernel
theorem own_d38_6 : decode prog_60_method_4_code 6 = .ok (.ldc 86, 2) := by decide +kernel
theorem own_d38_8 : decode prog_60_method_4_code 8 = .ok (.invokestatic 81, 3) := by decide +kernel
theorem own_pd__28Ljava_2flang_2fString_3bIILjava_2flang_2fString_3bILjava_2flang_2fString_3b_29V : parseMethodDescriptor "(Ljava/lang/String;IILjava/lang/String;ILjava/lang/String;)V" = some ⟨[(.object "java/lang/String"), .int, .int, (.object "java/lang/String"), .int, (.object "java/lang/String")], none⟩ := by decide +kernel
theorem own_d38_11 : decode prog_60_method_4_code 11 = .ok (.return_, 1) := by decide +kernel
theorem own_mo_ef (m : MethodId) (sa : Addr) (x : Int32) (mn : Int32) (se : Addr) : entryFrame m #[(.ref sa), (.int x), (.int mn), (.ref se)] 4 = mkF m 0 #[.val (.ref sa), .val (.int x), .val (.int mn), .val (.ref se)] [] := by  first | (simp [entryFrame, mkF, argsToLocals, Value.category]; done) | rfl
def own_mo_Q (Z : State) (sa : Addr) (x : Int32) (mn : Int32) (se : Addr) (zCS : Int32) (dO : Addr) (dT : Addr) (ca : Addr) (cO : Cell) (cT : Cell) (cc : Cell) (h0 : Heap) (n0 : Nat) (v : Option Value) (h : Heap) (L : List Loc) : Prop := v = none ∧ Fr n0 L ∧ Keep h0 h []
set_option maxRecDepth 65536 in
set_option maxHeartbeats 40000000 in
theorem own_mo (l : Launch) (Z : State) (a0 : Array Value) (hw : ∀ d ∈ tables_1, d.before a0 Z = true) (ws : List Jvm.Cond) (sa : Addr) (x : Int32) (mn : Int32) (se : Addr) (zCS : Int32) (dO : Addr) (dT : Addr) (ca : Addr) (cO : Cell) (cT : Cell) (cc : Cell) (h0 : Heap) (n0 : Nat) (Z0 : n0 ≤ h0.size) (Cq : own_C Z zCS dO dT ca cO cT cc) (O0 : Old Z n0 h0) (hmin : ¬ x < mn) (hmax : ¬ (119999 : Int32) < x) :
    MetFree l own_y2 (head1 (Jvm.Cond.code own_y2 prog_60_method_4_code 4 none :: ws) (⟨1, 2, 28, 17⟩ : Room)) (fun aa U => aa = #[(.ref sa), (.int x), (.int mn), (.ref se)] ∧ Z.Warmed39 U.vm ∧ U.heap = h0 ∧ CHv Z consts_1 U.vm h0) (fun _ _ _ _ _ => True) (fun _ U o U' => ∃ v L, o = .returned v ∧ own_mo_Q Z sa x mn se zCS dO dT ca cO cT cc h0 n0 v U'.heap L ∧ CHr Z consts_1 U.vm U.heap U'.vm U'.heap ∧ ReturnedEndW U o U' L (⟨1, 2, 28, 17⟩ : Room).cells (⟨1, 2, 28, 17⟩ : Room).slots) := by
  refine MetFree.of_bodySF (plainFor_of_name own_pn_com_example_abeyance_abeyance_plan_PlanTerms) hisR ?_
  intro p e s m args below meth c s₁ Bd hml0 hP hK
  obtain ⟨rfl, hZ, hh, CH0⟩ := hP
  have hx := Bd.exec
  have hby := Bd.bytes
  have hml : c.maxLocals = 4 := hml0
  have hown : s.vm.findClass "com/example/abeyance/abeyance/plan/PlanTerms" = some m.cls := findClass_of_methodNamed Bd.named
  have hnm := (name_of_methodNamed Bd.named Bd.method).1
  have hlk := Bd.notSynchronized
  have X0 : Stand p l e (⟨1, 2, 28, 17⟩ : Room) (s.setVm s.vm) m #[(.ref sa), (.int x), (.int mn), (.ref se)] below meth c s₁ [] 0 0 := Stand.of_body Bd
  have e0 : s₁.heap = h0 := by rw [← hh, Bd.state]; rfl
  have N0 := Fr.nil n0
  have hS : s.Since s.vm 0 := (State.WarmedH.refl s).since 0
  have hk0 : 0 ≤ h0.size := Nat.zero_le _
  have wS := own_wS hw
  have C0 : CHr Z consts_1 s.vm h0 s.vm h0 := CHr.refl CH0
  have hEL := own_hEL hw
  refine own_startW (EL := consts_1) (Q := own_mo_Q Z sa x mn se zCS dO dT ca cO cT cc h0 n0) (own_mo_ef m sa x mn se) ?_
  refine own_g (mkF m 4 #[.val (.ref sa), .val (.int x), .val (.int mn), .val (.ref se)] [(.ref se), (.int mn), (.int x), (.ref sa)]) (fun _ q => XS.aloadN X0.here hx rfl (hb hby own_d38_0) rfl rfl (XS.iloadN X0.here hx rfl (hb hby own_d38_1) rfl (XS.iloadN X0.here hx rfl (hb hby own_d38_2) rfl (XS.aloadN X0.here hx rfl (hb hby own_d38_3) rfl rfl q)))) ?_
  refine own_by (g' := (mkF m 6 #[.val (.ref sa), .val (.int x), .val (.int mn), .val (.ref se)] [(.int 119999), (.ref se), (.int mn), (.int x), (.ref sa)])) (fun _ kq => X0.ldcInt hx hown (mvT hZ (own_h hw 205 rfl)) (g := (mkF m 4 #[.val (.ref sa), .val (.int x), .val (.int mn), .val (.ref se)] [(.ref se), (.int mn), (.int x), (.ref sa)])) rfl (hb hby own_d38_4) _ kq) ?_
  obtain ⟨a1, T1, h1, j1, b1, k1, X1, e1, E1, hS, hk1, hZ, hown, Ea1, Fc1, Fv1, Av1, -, -, CH1, -, Sf1, st1⟩ := ldcCH X0 hx hZ hown (own_h hw 206 rfl) wS e0 hS hk0 hEL (by decide) C0.1 (vs := [(.int 109), (.int 111), (.int 110), (.int 116), (.int 104), (.int 115)]) (z := (6 : Int32)) ⟨by decide, by first | rfl | decide⟩ (by decide) (by decide) (g := (mkF m 6 #[.val (.ref sa), .val (.int x), .val (.int mn), .val (.ref se)] [(.int 119999), (.ref se), (.int mn), (.int x), (.ref sa)])) rfl (hb hby own_d38_6) (n := 24) (by decide) (by decide) (by decide) (by decide)
  have C2 := C0.trans CH1
  refine own_by (g' := (mkF m 8 #[.val (.ref sa), .val (.int x), .val (.int mn), .val (.ref se)] [(.ref a1), (.int 119999), (.ref se), (.int mn), (.int x), (.ref sa)])) st1 ?_
  have k3_ := ((Keep.refl h0 []).ext E1)
  have o4_ := (O0.ext E1)
  refine own_callS X1 hx hZ (y := (⟨"com/example/abeyance/abeyance/plan/PlanTerms", "within", "(Ljava/lang/String;IILjava/lang/String;ILjava/lang/String;)V"⟩ : MethodName)) hown (own_h hw 207 rfl) (own_h hw 208 rfl) (own_h hw 203 rfl) (own_h hw 209 rfl) (by decide) (own_wi l Z a0 hw [] sa x mn se a1 zCS dO dT ca cO cT cc h1 n0 (Nat.le_trans Z0 k3_.1) Cq o4_ hmin hmax) (by decide) (by decide) e1 (g := (mkF m 8 #[.val (.ref sa), .val (.int x), .val (.int mn), .val (.ref se)] [(.ref a1), (.int 119999), (.ref se), (.int mn), (.int x), (.ref sa)])) rfl (by rw [hml]; rfl) (argsL := [(.ref sa), (.int x), (.int mn), (.ref se), (.int 119999), (.ref a1)]) (rest := []) (lenOf own_pd__28Ljava_2flang_2fString_3bIILjava_2flang_2fString_3bILjava_2flang_2fString_3b_29V rfl) rfl (W := 0) (by show 2 * 0 + _ ≤ _; exact Nat.le_of_eq rfl) (hb hby own_d38_8) rfl (by decide) (by decide) ?_
  rintro rv5 T5 L5 X5 ⟨rfl, Nq5, eh5⟩
  have N5 := Fr.app N0 Nq5
  show own_Fin p e below _ T5 (mkF m 11 #[.val (.ref sa), .val (.int x), .val (.int mn), .val (.ref se)] [])
  exact own_endW X5 hS (by rw [eh5]; exact hk1) hZ hEL (by rw [hh]; rw [eh5]; exact C2) (v := none) (fun _ => rfl) hlk (fun hr => X5.returnOut hx Bd.returns (hb hby own_d38_11) hr) (by rw [eh5]; exact ⟨rfl, N5, k3_⟩) (by decide) (by decide)
theorem own_d2_0 : decode prog_56_method_1_code 0 = .ok (.aload_n 0, 1) := by decide +kernel
theorem own_d2_1 : decode prog_56_method_1_code 1 = .ok (.invokespecial 1, 3) := by decide +kernel
theorem own_d2_4 : decode prog_56_method_1_code 4 = .ok (.aload_n 1, 1) := by decide +kernel
theorem own_d2_5 : decode prog_56_method_1_code 5 = .ok (.ifnonnull 17, 3) := by decide +kernel
theorem own_d2_22 : decode prog_56_method_1_code 22 = .ok (.aload_n 1, 1) := by decide +kernel
theorem own_d2_23 : decode prog_56_method_1_code 23 = .ok (.ifnull 17, 3) := by decide +kernel
theorem own_d2_26 : decode prog_56_method_1_code 26 = .ok (.aload_n 2, 1) := by decide +kernel
theorem own_d2_27 : decode prog_56_method_1_code 27 = .ok (.ifnull 13, 3) := by decide +kernel
theorem own_d2_40 : decode prog_56_method_1_code 40 = .ok (.aload_n 1, 1) := by decide +kernel
theorem own_d2_41 : decode prog_56_method_1_code 41 = .ok (.ifnull 32, 3) := by decide +kernel
theorem own_d2_44 : decode prog_56_method_1_code 44 = .ok (.new 16, 3) := by decide +kernel
theorem own_d2_47 : decode prog_56_method_1_code 47 = .ok (.dup, 1) := by decide +kernel
theorem own_d2_48 : decode prog_56_method_1_code 48 = .ok (.invokespecial 18, 3) := by decide +kernel
theorem own_d2_51 : decode prog_56_method_1_code 51 = .ok (.ldc 19, 2) := by decide +kernel
theorem own_d2_53 : decode prog_56_method_1_code 53 = .ok (.invokevirtual 21, 3) := by decide +kernel
theorem own_d2_56 : decode prog_56_method_1_code 56 = .ok (.aload_n 1, 1) := by decide +kernel
theorem own_d2_57 : decode prog_56_method_1_code 57 = .ok (.invokevirtual 25, 3) := by decide +kernel
theorem own_pd__28Ljava_2flang_2fObject_3b_29Ljava_2flang_2fStringBuilder_3b : parseMethodDescriptor "(Ljava/lang/Object;)Ljava/lang/StringBuilder;" = some ⟨[(.object "java/lang/Object")], some (.object "java/lang/StringBuilder")⟩ := by decide +kernel
theorem own_d2_60 : decode prog_56_method_1_code 60 = .ok (.invokevirtual 28, 3) := by decide +kernel
theorem own_d2_63 : decode prog_56_method_1_code 63 = .ok (.aload_n 1, 1) := by decide +kernel
theorem own_d2_64 : decode prog_56_method_1_code 64 = .ok (.invokevirtual 32, 3) := by decide +kernel
theorem own_d2_67 : decode prog_56_method_1_code 67 = .ok (.iconst 1, 1) := by decide +kernel
theorem own_d2_68 : decode prog_56_method_1_code 68 = .ok (.ldc 38, 2) := by decide +kernel
theorem own_d2_70 : decode prog_56_method_1_code 70 = .ok (.invokestatic 40, 3) := by decide +kernel
theorem own_pd__28Ljava_2flang_2fString_3bIILjava_2flang_2fString_3b_29V : parseMethodDescriptor "(Ljava/lang/String;IILjava/lang/String;)V" = some ⟨[(.object "java/lang/String"), .int, .int, (.object "java/lang/String")], none⟩ := by decide +kernel
theorem own_d2_73 : decode prog_56_method_1_code 73 = .ok (.aload_n 2, 1) := by decide +kernel
theorem own_d2_74 : decode prog_56_method_1_code 74 = .ok (.ifnull 32, 3) := by decide +kernel
theorem own_d2_106 : decode prog_56_method_1_code 106 = .ok (.aload_n 0, 1) := by decide +kernel
theorem own_d2_107 : decode prog_56_method_1_code 107 = .ok (.aload_n 1, 1) := by decide +kernel
theorem own_d2_108 : decode prog_56_method_1_code 108 = .ok (.putfield 50, 3) := by decide +kernel
theorem own_d2_111 : decode prog_56_method_1_code 111 = .ok (.aload_n 0, 1) := by decide +kernel
theorem own_d2_112 : decode prog_56_method_1_code 112 = .ok (.aload_n 2, 1) := by decide +kernel
theorem own_d2_113 : decode prog_56_method_1_code 113 = .ok (.putfield 56, 3) := by decide +kernel
theorem own_d2_116 : decode prog_56_method_1_code 116 = .ok (.return_, 1) := by decide +kernel
theorem own_pdA_ef (m : MethodId) (x0 : Addr) (t : Addr) : entryFrame m #[(.ref x0), (.ref t), .null] 3 = mkF m 0 #[.val (.ref x0), .val (.ref t), .val .null] [] := by  first | (simp [entryFrame, mkF, argsToLocals, Value.category]; done) | rfl
def own_pdA_Q (Z : State) (x0 : Addr) (t : Addr) (x : Int32) (zCS : Int32) (dO : Addr) (dT : Addr) (ca : Addr) (cO : Cell) (cT : Cell) (cc : Cell) (h0 : Heap) (n0 : Nat) (v : Option Value) (h : Heap) (L : List Loc) : Prop := v = none ∧ Fr n0 L ∧ Keep h0 h [x0] ∧ Exa Z h x0 "com/example/abeyance/abeyance/plan/PayDay" ∧ Fld Z h x0 "com/example/abeyance/abeyance/plan/PayDay" "firstDayOfMonthAfter" "Ljava/lang/Integer;" (.ref t) ∧ Fld Z h x0 "com/example/abeyance/abeyance/plan/PayDay" "monthsAfter" "Ljava/lang/Integer;" .null
theorem own_pn_com_example_abeyance_abeyance_plan_PayDay : plainName "com/example/abeyance/abeyance/plan/PayDay" = true := by first | (simp [plainName, overriddenIn]; done) | decide +kernel
set_option maxRecDepth 65536 in
set_option maxHeartbeats 40000000 in
theorem own_pdA (l : Launch) (Z : State) (a0 : Array Value) (hw : ∀ d ∈ tables_1, d.before a0 Z = true) (ws : List Jvm.Cond) (x0 : Addr) (t : Addr) (x : Int32) (zCS : Int32) (dO : Addr) (dT : Addr) (ca : Addr) (cO : Cell) (cT : Cell) (cc : Cell) (h0 : Heap) (n0 : Nat) (Z0 : n0 ≤ h0.size) (Cq : own_C Z zCS dO dT ca cO cT cc) (O0 : Old Z n0 h0) (E_x : Exa Z h0 x0 "com/example/abeyance/abeyance/plan/PayDay") (A_x : Fld Z h0 x0 "com/example/abeyance/abeyance/plan/PayDay" "firstDayOfMonthAfter" "Ljava/lang/Integer;" .null) (B_x : Fld Z h0 x0 "com/example/abeyance/abeyance/plan/PayDay" "monthsAfter" "Ljava/lang/Integer;" .null) (g_x : n0 ≤ x0) (E_t : Exa Z h0 t "java/lang/Integer") (V_t : Fld Z h0 t "java/lang/Integer" "value" "I" (.int x)) (hxb : 0 ≤ x.toInt ∧ x.toInt < 1000000) (n_tx : t ≠ x0) (hmin : ¬ x < (1 : Int32)) (hmax : ¬ (119999 : Int32) < x) :
    MetFree l own_y0 (head1 (Jvm.Cond.code own_y0 prog_56_method_1_code 3 none :: ws) (⟨6, 13, 442, 91⟩ : Room)) (fun aa U => aa = #[(.ref x0), (.ref t), .null] ∧ Z.Warmed39 U.vm ∧ U.heap = h0 ∧ CHv Z consts_1 U.vm h0) (fun _ _ _ _ _ => True) (fun _ U o U' => ∃ v L, o = .returned v ∧ own_pdA_Q Z x0 t x zCS dO dT ca cO cT cc h0 n0 v U'.heap L ∧ CHr Z consts_1 U.vm U.heap U'.vm U'.heap ∧ ReturnedEndW U o U' L (⟨6, 13, 442, 91⟩ : Room).cells (⟨6, 13, 442, 91⟩ : Room).slots) := by
  refine MetFree.of_bodySF (plainFor_of_name own_pn_com_example_abeyance_abeyance_plan_PayDay) hisR ?_
  intro p e s m args below meth c s₁ Bd hml0 hP hK
  obtain ⟨rfl, hZ, hh, CH0⟩ := hP
  have hx := Bd.exec
  have hby := Bd.bytes
  have hml : c.maxLocals = 3 := hml0
  have hown : s.vm.findClass "com/example/abeyance/abeyance/plan/PayDay" = some m.cls := findClass_of_methodNamed Bd.named
  have hnm := (name_of_methodNamed Bd.named Bd.method).1
  have hlk := Bd.notSynchronized
  have X0 : Stand p l e (⟨6, 13, 442, 91⟩ : Room) (s.setVm s.vm) m #[(.ref x0), (.ref t), .null] below meth c s₁ [] 0 0 := Stand.of_body Bd
  have e0 : s₁.heap = h0 := by rw [← hh, Bd.state]; rfl
  have N0 := Fr.nil n0
  have hS : s.Since s.vm 0 := (State.WarmedH.refl s).since 0
  have hk0 : 0 ≤ h0.size := Nat.zero_le _
  have wS := own_wS hw
  have C0 : CHr Z consts_1 s.vm h0 s.vm h0 := CHr.refl CH0
  have hEL := own_hEL hw
  refine own_startW (EL := consts_1) (Q := own_pdA_Q Z x0 t x zCS dO dT ca cO cT cc h0 n0) (own_pdA_ef m x0 t) ?_
  refine own_g (mkF m 1 #[.val (.ref x0), .val (.ref t), .val .null] [(.ref x0)]) (fun _ q => XS.aloadN X0.here hx rfl (hb hby own_d2_0) rfl rfl q) ?_
  refine own_callI X0 hx hZ (y := own_y24) rfl hown (own_h hw 15 rfl) (own_h hw 16 rfl) (own_h hw 19 rfl) (own_h hw 18 rfl) (by decide) (own_rec l Z a0 hw [] x0 zCS dO dT ca cO cT cc h0 n0 (Nat.le_trans Z0 (Keep.refl h0 [x0]).1) Cq O0 ) (by decide) (by decide) e0 (g := (mkF m 1 #[.val (.ref x0), .val (.ref t), .val .null] [(.ref x0)])) rfl (by rw [hml]; rfl) (argsL := []) (rest := []) (lenOf own_pd__28_29V rfl) rfl (W := 0) (by show 2 * 0 + _ ≤ _; exact Nat.le_of_eq rfl) (hb hby own_d2_1) rfl (by decide) (by decide) ?_
  rintro rv1 T1 L1 X1 ⟨rfl, Nq1, eh1⟩
  have N1 := Fr.app N0 Nq1
  refine own_g (mkF m 44 #[.val (.ref x0), .val (.ref t), .val .null] []) (fun _ q => XS.aloadN X1.here hx rfl (hb hby own_d2_4) rfl rfl (XS.ifnonnullYes X1.here hx rfl (pc0 := 5) (pc' := 22) rfl (hb hby own_d2_5) rfl (by decide) (by decide) (XS.aloadN X1.here hx rfl (hb hby own_d2_22) rfl rfl (XS.ifnullNo X1.here hx rfl (hb hby own_d2_23) rfl (XS.aloadN X1.here hx rfl (hb hby own_d2_26) rfl rfl (XS.ifnullYes X1.here hx rfl (pc0 := 27) (pc' := 40) rfl (hb hby own_d2_27) rfl (by decide) (by decide) (XS.aloadN X1.here hx rfl (hb hby own_d2_40) rfl rfl (XS.ifnullNo X1.here hx rfl (hb hby own_d2_41) rfl q)))))))) ?_
  obtain ⟨T2, h2, X2, e2, E2, A2, D2, U2, st2⟩ := newO X1 hx hZ hown (own_h hw 23 rfl) (own_h hw 24 rfl) (own_h hw 25 rfl) eh1 (g := (mkF m 44 #[.val (.ref x0), .val (.ref t), .val .null] [])) rfl (hb hby own_d2_44) (by decide) (by decide)
  obtain ⟨b2, g2⟩ : ∃ z, z = h0.size := ⟨_, rfl⟩
  rw [← g2] at A2 D2 U2 st2
  have g_b2 : n0 ≤ b2 := Nat.le_trans (Nat.le_trans Z0 (Keep.refl h0 [x0]).1) (Nat.le_of_eq g2.symm)
  have sz_b2 : h0.size ≤ b2 := Nat.le_trans (Keep.refl h0 [x0]).1 (Nat.le_of_eq g2.symm)
  have sf_b2 : Safe Z consts_1 s.vm h0 b2 := Safe.new (Nat.le_of_eq g2.symm)
  have ne_x0_b2 : x0 ≠ b2 := Nat.ne_of_lt (Nat.lt_of_lt_of_le E_x.lt (Nat.le_of_eq g2.symm))
  have ne_t_b2 : t ≠ b2 := Nat.ne_of_lt (Nat.lt_of_lt_of_le E_t.lt (Nat.le_of_eq g2.symm))
  have C3 := C0.trans (CHr.ext E2 C0.1)
  have F_value_b2 : Fld Z h2 b2 "java/lang/AbstractStringBuilder" "value" "[B" .null := D2 (Or.inl (own_h hw 40 rfl)) (ty := (.array .byte)) (by decide)
  have F_coder_b2 : Fld Z h2 b2 "java/lang/AbstractStringBuilder" "coder" "B" (.int 0) := D2 (Or.inl (own_h hw 42 rfl)) (ty := .byte) (by decide)
  have F_count_b2 : Fld Z h2 b2 "java/lang/AbstractStringBuilder" "count" "I" (.int 0) := D2 (Or.inl (own_h hw 73 rfl)) (ty := .int) (by decide)
  refine own_by (g' := (mkF m 47 #[.val (.ref x0), .val (.ref t), .val .null] [(.ref b2)])) st2 ?_
  refine own_g (mkF m 48 #[.val (.ref x0), .val (.ref t), .val .null] [(.ref b2), (.ref b2)]) (fun _ q => XS.dup X2.here hx rfl (hb hby own_d2_47) rfl rfl q) ?_
  have e4_x0 := (E_x.ext E2)
  have e5_t := (E_t.ext E2)
  have k6_ := ((Keep.refl h0 [x0]).ext E2)
  have o7_ := (O0.ext E2)
  refine own_callI X2 hx hZ (y := own_y32) rfl hown (own_h hw 26 rfl) (own_h hw 27 rfl) (own_h hw 28 rfl) (own_h hw 25 rfl) (by decide) (own_sbi l Z a0 hw [] b2 zCS dO dT ca cO cT cc h2 n0 (Nat.le_trans Z0 k6_.1) Cq o7_ A2 F_value_b2 F_coder_b2 F_count_b2 g_b2) (by decide) (by decide) e2 (g := (mkF m 48 #[.val (.ref x0), .val (.ref t), .val .null] [(.ref b2), (.ref b2)])) rfl (by rw [hml]; rfl) (argsL := []) (rest := [(.ref b2)]) (lenOf own_pd__28_29V rfl) rfl (W := 1) (by show 2 * 0 + _ ≤ _; exact Nat.le_of_eq rfl) (hb hby own_d2_48) rfl (by decide) (by decide) ?_
  rintro rv8 T8 L8 X8 ⟨rfl, Nq8, Kq8, bv, sz8, g8, Et8, Rt8, Fv8, Fc8, Fn8⟩
  have N8 := Fr.app N1 Nq8
  show own_Fin p e below _ T8 (mkF m 51 #[.val (.ref x0), .val (.ref t), .val .null] [(.ref b2)])
  have ne_x0_bv : x0 ≠ bv := Nat.ne_of_lt (Nat.lt_of_lt_of_le e4_x0.lt sz8)
  have ne_t_bv : t ≠ bv := Nat.ne_of_lt (Nat.lt_of_lt_of_le e5_t.lt sz8)
  have ne_b2_bv : b2 ≠ bv := Nat.ne_of_lt (Nat.lt_of_lt_of_le A2.lt sz8)
  have sz_bv := Nat.le_trans k6_.1 sz8
  have sf_bv : Safe Z consts_1 s.vm h2 bv := Safe.new sz8
  have C9 := C3.trans (CHr.keep Kq8 (sfS (Safe.exa hZ.alike A2 (by decide) (by decide)) sf0) C3.1)
  have sf10_b2 := (Safe.keep Kq8 (sfS (Safe.exa hZ.alike A2 (by decide) (by decide)) sf0) C3.1 (sf_b2.ext E2 C0.1))
  have sf11_bv := (Safe.keep Kq8 (sfS (Safe.exa hZ.alike A2 (by decide) (by decide)) sf0) C3.1 sf_bv)
  have hk12_ := (Nat.le_trans (Nat.le_trans hk0 E2.1) Kq8.1)
  obtain ⟨a13, T13, h13, j13, b13, k13, X13, e13, E13, hS, hk13, hZ, hown, Ea13, Fc13, Fv13, Av13, -, -, CH13, -, Sf13, st13⟩ := ldcCH X8 hx hZ hown (own_h hw 220 rfl) wS rfl hS hk12_ hEL (by decide) C9.1 (vs := [(.int 102), (.int 105), (.int 114), (.int 115), (.int 116), (.int 95), (.int 100), (.int 97), (.int 121), (.int 95), (.int 111), (.int 102), (.int 95), (.int 109), (.int 111), (.int 110), (.int 116), (.int 104), (.int 95), (.int 97), (.int 102), (.int 116), (.int 101), (.int 114), (.int 32), (.int 105), (.int 115), (.int 32)]) (z := (28 : Int32)) ⟨by decide, by first | rfl | decide⟩ (by decide) (by decide) (g := (mkF m 51 #[.val (.ref x0), .val (.ref t), .val .null] [(.ref b2)])) rfl (hb hby own_d2_51) (n := 112) (by decide) (by decide) (by decide) (by decide)
  have e16_b2 := (A2.keep Kq8)
  have sf15 := CH13.safe e16_b2.lt sf10_b2
  have sf17 := CH13.safe Et8.lt sf11_bv
  have C14 := C9.trans CH13
  have e18_x0 := ((e4_x0.keep Kq8).ext E13)
  have nl13_x0 := Sf13 x0 (Safe.exa hZ.alike e18_x0 (by decide) (by decide))
  have e19_t := ((e5_t.keep Kq8).ext E13)
  have nl13_t := Sf13 t (Safe.exa hZ.alike e19_t (by decide) (by decide))
  have e20_b2 := (e16_b2.ext E13)
  have nl13_b2 := Sf13 b2 (Safe.exa hZ.alike e20_b2 (by decide) (by decide))
  have nl13_bv := Sf13 bv sf17
  refine own_by (g' := (mkF m 53 #[.val (.ref x0), .val (.ref t), .val .null] [(.ref a13), (.ref b2)])) st13 ?_
  have Rc := own_By.of Av13
  have e21_bv := (Et8.ext E13)
  have k22_ := ((k6_.trans Kq8 (allS (Or.inr sz_b2) all0)).ext E13)
  have f23_b2 := (Fv8.ext E13)
  have f24_b2 := (Fc8.ext E13)
  have f25_b2 := (Fn8.ext E13)
  have r26_bv := (Rt8.ext E13)
  have o27_ := ((o7_.keep Kq8 (allS g_b2 all0)).ext E13)
  refine own_callV X13 hx hZ (y := own_y34) (z := own_y34) hown (own_h hw 49 rfl) (own_h hw 50 rfl) (own_nf (own_h hw 52 rfl)) (own_h hw 52 rfl) (own_h hw 51 rfl) (own_h hw 53 rfl) (own_h hw 25 rfl) (by decide) e20_b2 (own_saG l Z a0 hw [] b2 a13 bv b13 (28 : Int32) (0 : Int32) zCS dO dT ca cO cT cc h13 n0 (Nat.le_trans Z0 k22_.1) Cq o27_ e20_b2 f23_b2 f24_b2 f25_b2 Ea13 Fv13 Fc13 Rc g_b2 r26_bv (Ne.symm nl13_b2.1) (Ne.symm nl13_b2.2) (by decide) (by decide) (by decide) (by decide)) (by decide) (by decide) e13 (g := (mkF m 53 #[.val (.ref x0), .val (.ref t), .val .null] [(.ref a13), (.ref b2)])) rfl (by rw [hml]; rfl) (argsL := [(.ref a13)]) (rest := []) (lenOf own_pd__28Ljava_2flang_2fString_3b_29Ljava_2flang_2fStringBuilder_3b rfl) rfl (W := 0) (by show 2 * 0 + _ ≤ _; exact Nat.le_of_eq rfl) (hb hby own_d2_53) rfl (by decide) (by decide) ?_
  rintro rv28 T28 L28 X28 ⟨rfl, Nq28, Kq28, bw, sz28, g28, Et28, Rt28, Fv28, Fc28, Fn28⟩
  have N28 := Fr.app N8 Nq28
  show own_Fin p e below _ T28 (mkF m 56 #[.val (.ref x0), .val (.ref t), .val .null] [(.ref b2)])
  have ne_x0_bw : x0 ≠ bw := Nat.ne_of_lt (Nat.lt_of_lt_of_le e18_x0.lt sz28)
  have ne_t_bw : t ≠ bw := Nat.ne_of_lt (Nat.lt_of_lt_of_le e19_t.lt sz28)
  have ne_b2_bw : b2 ≠ bw := Nat.ne_of_lt (Nat.lt_of_lt_of_le e20_b2.lt sz28)
  have ne_bv_bw : bv ≠ bw := Nat.ne_of_lt (Nat.lt_of_lt_of_le e21_bv.lt sz28)
  have ne_a13_bw : a13 ≠ bw := Nat.ne_of_lt (Nat.lt_of_lt_of_le Ea13.lt sz28)
  have ne_b13_bw : b13 ≠ bw := Nat.ne_of_lt (Nat.lt_of_lt_of_le Rc.lt sz28)
  have sz_bw := Nat.le_trans k22_.1 sz28
  have sf_bw : Safe Z consts_1 T13.vm h13 bw := Safe.new sz28
  have C29 := C14.trans (CHr.keep Kq28 (sfS (Safe.exa hZ.alike e20_b2 (by decide) (by decide)) sf0) C14.1)
  have ecn : (0 : Int32) + (28 : Int32) = (28 : Int32) := by decide
  rw [ecn] at Fn28
  refine own_g (mkF m 57 #[.val (.ref x0), .val (.ref t), .val .null] [(.ref t), (.ref b2)]) (fun _ q => XS.aloadN X28.here hx rfl (hb hby own_d2_56) rfl rfl q) ?_
  have e30_x0 := (e18_x0.keep Kq28)
  have e31_t := (e19_t.keep Kq28)
  have e32_b2 := (e20_b2.keep Kq28)
  have e33_bv := (e21_bv.keep Kq28)
  have k34_ := (k22_.trans Kq28 (allS (Or.inr sz_b2) all0))
  have f35_t := ((((V_t.ext E2).keep Kq8 (ninS ne_t_b2 nin0)).ext E13).keep Kq28 (ninS ne_t_b2 nin0))
  have o36_ := (o27_.keep Kq28 (allS g_b2 all0))
  refine own_callV X28 hx hZ (y := own_y33) (z := own_y33) hown (own_h hw 99 rfl) (own_h hw 100 rfl) (own_nf (own_h hw 102 rfl)) (own_h hw 102 rfl) (own_h hw 101 rfl) (own_h hw 103 rfl) (own_h hw 25 rfl) (by decide) e32_b2 (own_aoN l Z a0 hw [] b2 t x bw zCS dO dT ca cO cT cc T28.heap n0 (Nat.le_trans Z0 k34_.1) Cq o36_ e32_b2 Fv28 Fc28 Fn28 e31_t f35_t hxb g_b2 Rt28 g28 ne_b2_bw) (by decide) (by decide) rfl (g := (mkF m 57 #[.val (.ref x0), .val (.ref t), .val .null] [(.ref t), (.ref b2)])) rfl (by rw [hml]; rfl) (argsL := [(.ref t)]) (rest := []) (lenOf own_pd__28Ljava_2flang_2fObject_3b_29Ljava_2flang_2fStringBuilder_3b rfl) rfl (W := 0) (by show 2 * 0 + _ ≤ _; exact Nat.le_of_eq rfl) (hb hby own_d2_57) rfl (by decide) (by decide) ?_
  rintro rv37 T37 L37 X37 ⟨dz, hdz, rfl, Nq37, Kq37, Fv37, Fc37, Fn37, Rv37⟩
  have N37 := Fr.app N28 Nq37
  show own_Fin p e below _ T37 (mkF m 60 #[.val (.ref x0), .val (.ref t), .val .null] [(.ref b2)])
  have sf39_bw := (Safe.keep Kq28 (sfS (Safe.exa hZ.alike e20_b2 (by decide) (by decide)) sf0) C14.1 sf_bw)
  have C38 := C29.trans (CHr.keep Kq37 (sfS (Safe.exa hZ.alike e32_b2 (by decide) (by decide)) (sfS sf39_bw sf0)) C29.1)
  have c1 : (28 : Int32).toInt = 28 := by decide
  have c34 : (34 : Int32).toInt = 34 := by decide
  have c00 : (0 : Int32).toInt = 0 := by decide
  have hd1 := hdz.1
  have hd2 := hdz.2
  have ead := own_add (x := (28 : Int32)) (y := dz) (by omega)
  by_cases hce : ((28 : Int32) + dz) = (34 : Int32)
  · have fcn := Fn37
    rw [hce] at fcn
    have e40_b2 := (e32_b2.keep Kq37)
    have e41_bw := (Et28.keep Kq37)
    have k42_ := (k34_.trans Kq37 (allS (Or.inr sz_b2) (allS (Or.inr sz_bw) all0)))
    have o43_ := (o36_.keep Kq37 (allS g_b2 (allS g28 all0)))
    refine own_callV X37 hx hZ (y := own_y36) (z := own_y36) hown (own_h hw 156 rfl) (own_h hw 157 rfl) (own_nf (own_h hw 159 rfl)) (own_h hw 159 rfl) (own_h hw 158 rfl) (own_h hw 160 rfl) (own_h hw 25 rfl) (by decide) e40_b2 (own_tsE l Z a0 hw [] b2 bw zCS dO dT ca cO cT cc T37.heap n0 (Nat.le_trans Z0 k42_.1) Cq o43_ e40_b2 Fv37 Fc37 fcn Rv37 e41_bw) (by decide) (by decide) rfl (g := (mkF m 60 #[.val (.ref x0), .val (.ref t), .val .null] [(.ref b2)])) rfl (by rw [hml]; rfl) (argsL := []) (rest := []) (lenOf own_pd__28_29Ljava_2flang_2fString_3b rfl) rfl (W := 0) (by show 2 * 0 + _ ≤ _; exact Nat.le_of_eq rfl) (hb hby own_d2_60) rfl (by decide) (by decide) ?_
    rintro rv44 T44 L44 X44 ⟨ts, rfl, Nq44, Kq44⟩
    have N44 := Fr.app N37 Nq44
    show own_Fin p e below _ T44 (mkF m 63 #[.val (.ref x0), .val (.ref t), .val .null] [(.ref ts)])
    have C45 := C38.trans (CHr.keep Kq44 sf0 C38.1)
    refine own_g (mkF m 64 #[.val (.ref x0), .val (.ref t), .val .null] [(.ref t), (.ref ts)]) (fun _ q => XS.aloadN X44.here hx rfl (hb hby own_d2_63) rfl rfl q) ?_
    have e46_t := ((e31_t.keep Kq37).keep Kq44)
    have f47_t := ((f35_t.keep Kq37 (ninS ne_t_b2 (ninS ne_t_bw nin0))).keep Kq44 nin0)
    have k48_ := (k42_.trans Kq44 all0)
    have o49_ := (o43_.keep Kq44 all0)
    refine own_callV X44 hx hZ (y := own_y15) (z := own_y15) hown (own_h hw 195 rfl) (own_h hw 196 rfl) (own_nf (own_h hw 198 rfl)) (own_h hw 198 rfl) (own_h hw 197 rfl) (own_h hw 199 rfl) (own_h hw 7 rfl) (by decide) e46_t (own_iv l Z a0 hw [] t x zCS dO dT ca cO cT cc T44.heap n0 (Nat.le_trans Z0 k48_.1) Cq o49_ e46_t f47_t) (by decide) (by decide) rfl (g := (mkF m 64 #[.val (.ref x0), .val (.ref t), .val .null] [(.ref t), (.ref ts)])) rfl (by rw [hml]; rfl) (argsL := []) (rest := [(.ref ts)]) (lenOf own_pd__28_29I rfl) rfl (W := 1) (by show 2 * 0 + _ ≤ _; exact Nat.le_of_eq rfl) (hb hby own_d2_64) rfl (by decide) (by decide) ?_
    rintro rv50 T50 L50 X50 ⟨rfl, Nq50, eh50⟩
    have N50 := Fr.app N44 Nq50
    refine own_g (mkF m 68 #[.val (.ref x0), .val (.ref t), .val .null] [(.int 1), (.int x), (.ref ts)]) (fun _ q => XS.iconst X50.here hx rfl (hb hby own_d2_67) q) ?_
    have hk51_ := (Nat.le_trans (Nat.le_trans (Nat.le_trans hk13 Kq28.1) Kq37.1) Kq44.1)
    obtain ⟨a52, T52, h52, j52, b52, k52, X52, e52, E52, hS, hk52, hZ, hown, Ea52, Fc52, Fv52, Av52, -, -, CH52, -, Sf52, st52⟩ := ldcCH X50 hx hZ hown (own_h hw 222 rfl) wS eh50 hS hk51_ hEL (by decide) C45.1 (vs := [(.int 105), (.int 116), (.int 32), (.int 99), (.int 111), (.int 117), (.int 110), (.int 116), (.int 115), (.int 32), (.int 109), (.int 111), (.int 110), (.int 116), (.int 104), (.int 115), (.int 32), (.int 97), (.int 102), (.int 116), (.int 101), (.int 114), (.int 32), (.int 116), (.int 104), (.int 101), (.int 32), (.int 101), (.int 118), (.int 101), (.int 110), (.int 116), (.int 39), (.int 115), (.int 32), (.int 109), (.int 111), (.int 110), (.int 116), (.int 104), (.int 44), (.int 32), (.int 102), (.int 114), (.int 111), (.int 109), (.int 32), (.int 49)]) (z := (48 : Int32)) ⟨by decide, by first | rfl | decide⟩ (by decide) (by decide) (g := (mkF m 68 #[.val (.ref x0), .val (.ref t), .val .null] [(.int 1), (.int x), (.ref ts)])) rfl (hb hby own_d2_68) (n := 192) (by decide) (by decide) (by decide) (by decide)
    have C53 := C45.trans CH52
    have e54_x0 := (((e30_x0.keep Kq37).keep Kq44).ext E52)
    have nl52_x0 := Sf52 x0 (Safe.exa hZ.alike e54_x0 (by decide) (by decide))
    have e55_t := (e46_t.ext E52)
    have nl52_t := Sf52 t (Safe.exa hZ.alike e55_t (by decide) (by decide))
    refine own_by (g' := (mkF m 70 #[.val (.ref x0), .val (.ref t), .val .null] [(.ref a52), (.int 1), (.int x), (.ref ts)])) st52 ?_
    have k56_ := (k48_.ext E52)
    have o57_ := (o49_.ext E52)
    refine own_callSW X52 hx hZ (y := own_y2) hown (own_h hw 201 rfl) (own_h hw 202 rfl) (own_h hw 203 rfl) (own_h hw 204 rfl) (by decide) hS hk52 hEL C53.1 (own_mo l Z a0 hw [] ts x (1 : Int32) a52 zCS dO dT ca cO cT cc h52 n0 (Nat.le_trans Z0 k56_.1) Cq o57_ hmin hmax) (by decide) (by decide) e52 (g := (mkF m 70 #[.val (.ref x0), .val (.ref t), .val .null] [(.ref a52), (.int 1), (.int x), (.ref ts)])) rfl (by rw [hml]; rfl) (argsL := [(.ref ts), (.int x), (.int 1), (.ref a52)]) (rest := []) (lenOf own_pd__28Ljava_2flang_2fString_3bIILjava_2flang_2fString_3b_29V rfl) rfl (W := 0) (by show 2 * 0 + _ ≤ _; exact Nat.le_of_eq rfl) (hb hby own_d2_70) rfl (by decide) (by decide) ?_
    rintro rv58 T58 L58 X58 hS hZ hown CH58 ⟨rfl, Nq58, Kq58⟩
    have N58 := Fr.app N50 Nq58
    show own_Fin p e below _ T58 (mkF m 73 #[.val (.ref x0), .val (.ref t), .val .null] [])
    have C59 := C53.trans CH58
    refine own_g (mkF m 108 #[.val (.ref x0), .val (.ref t), .val .null] [(.ref t), (.ref x0)]) (fun _ q => XS.aloadN X58.here hx rfl (hb hby own_d2_73) rfl rfl (XS.ifnullYes X58.here hx rfl (pc0 := 74) (pc' := 106) rfl (hb hby own_d2_74) rfl (by decide) (by decide) (XS.aloadN X58.here hx rfl (hb hby own_d2_106) rfl rfl (XS.aloadN X58.here hx rfl (hb hby own_d2_107) rfl rfl q)))) ?_
    have e60_x0 := (e54_x0.keep Kq58)
    have f61_x0 := ((((((((A_x.ext E2).keep Kq8 (ninS ne_x0_b2 nin0)).ext E13).keep Kq28 (ninS ne_x0_b2 nin0)).keep Kq37 (ninS ne_x0_b2 (ninS ne_x0_bw nin0))).keep Kq44 nin0).ext E52).keep Kq58 nin0)
    obtain ⟨T62, h62, X62, e62, W62, st62⟩ := putF X58 hx hZ hown (host := "") (Or.inl (own_h hw 210 rfl)) Via.refl rfl f61_x0 e60_x0 (Or.inr ⟨(own_h hw 211 rfl), rfl, hnm⟩) (own_h hw 3 rfl) (ty := (.object "java/lang/Integer")) (by decide) (rfl) (rfl) (g := (mkF m 108 #[.val (.ref x0), .val (.ref t), .val .null] [(.ref t), (.ref x0)])) rfl rfl (hb hby own_d2_108)
    have Fw62 := f61_x0.same W62
    have C63 := C59.trans (CHr.wr W62 (Safe.exa hZ.alike e60_x0 (by decide) (by decide)) C59.1)
    have N62 := Fr.snoc X62 N58 g_x
    refine own_by (g' := (mkF m 111 #[.val (.ref x0), .val (.ref t), .val .null] [])) st62 ?_
    refine own_g (mkF m 113 #[.val (.ref x0), .val (.ref t), .val .null] [.null, (.ref x0)]) (fun _ q => XS.aloadN X62.here hx rfl (hb hby own_d2_111) rfl rfl (XS.aloadN X62.here hx rfl (hb hby own_d2_112) rfl rfl q)) ?_
    have e64_x0 := (e60_x0.wr W62)
    have f65_x0 := (((((((((B_x.ext E2).keep Kq8 (ninS ne_x0_b2 nin0)).ext E13).keep Kq28 (ninS ne_x0_b2 nin0)).keep Kq37 (ninS ne_x0_b2 (ninS ne_x0_bw nin0))).keep Kq44 nin0).ext E52).keep Kq58 nin0).other W62 (Or.inr (slot_ne (Or.inr (own_h hw 213 rfl)) (Or.inr (own_h hw 211 rfl)) (by decide) (t := (.object "java/lang/Integer")) (t' := (.object "java/lang/Integer")) (by decide) (by decide))))
    obtain ⟨T66, h66, X66, e66, W66, st66⟩ := putF X62 hx hZ hown (host := "") (Or.inl (own_h hw 212 rfl)) Via.refl e62 f65_x0 e64_x0 (Or.inr ⟨(own_h hw 213 rfl), rfl, hnm⟩) (own_h hw 3 rfl) (ty := (.object "java/lang/Integer")) (by decide) (rfl) (rfl) (g := (mkF m 113 #[.val (.ref x0), .val (.ref t), .val .null] [.null, (.ref x0)])) rfl rfl (hb hby own_d2_113)
    have Fw66 := f65_x0.same W66
    have C67 := C63.trans (CHr.wr W66 (Safe.exa hZ.alike e64_x0 (by decide) (by decide)) C63.1)
    have N66 := Fr.snoc X66 N62 g_x
    refine own_by (g' := (mkF m 116 #[.val (.ref x0), .val (.ref t), .val .null] [])) st66 ?_
    have k68_ := (((k56_.trans Kq58 all0).wr W62 (Or.inl (List.mem_of_getElem? (i := 0) rfl))).wr W66 (Or.inl (List.mem_of_getElem? (i := 0) rfl)))
    have e69_x0 := (e64_x0.wr W66)
    have f70_x0 := (Fw62.other W66 (Or.inr (slot_ne (Or.inr (own_h hw 211 rfl)) (Or.inr (own_h hw 213 rfl)) (by decide) (t := (.object "java/lang/Integer")) (t' := (.object "java/lang/Integer")) (by decide) (by decide))))
    have hk71_ := (Nat.le_trans (Nat.le_trans (Nat.le_refl _) (Keep.of_wr W62).1) (Keep.of_wr W66).1)
    exact own_endW X66 hS (by rw [e66]; exact hk71_) hZ hEL (by rw [hh]; rw [e66]; exact C67) (v := none) (fun _ => rfl) hlk (fun hr => X66.returnOut hx Bd.returns (hb hby own_d2_116) hr) (by rw [e66]; exact ⟨rfl, N66, k68_, e69_x0, f70_x0, Fw66⟩) (by decide) (by decide)
  · have hne34 : ¬ ((28 : Int32) + dz).toInt = 34 := fun q => hce (own_eqI (by rw [q]; rfl))
    have ecl := own_cl (x := ((28 : Int32) + dz)) (by omega)
    have e72_b2 := (e32_b2.keep Kq37)
    have k73_ := (k34_.trans Kq37 (allS (Or.inr sz_b2) (allS (Or.inr sz_bw) all0)))
    have o74_ := (o36_.keep Kq37 (allS g_b2 (allS g28 all0)))
    refine own_callV X37 hx hZ (y := own_y36) (z := own_y36) hown (own_h hw 156 rfl) (own_h hw 157 rfl) (own_nf (own_h hw 159 rfl)) (own_h hw 159 rfl) (own_h hw 158 rfl) (own_h hw 160 rfl) (own_h hw 25 rfl) (by decide) e72_b2 (own_tsL l Z a0 hw [] b2 bw ((28 : Int32) + dz) (34 : Int32) zCS dO dT ca cO cT cc T37.heap n0 (Nat.le_trans Z0 k73_.1) Cq o74_ e72_b2 Fv37 Fc37 Fn37 Rv37 (own_lt (by omega)) (own_nl (by omega)) (by omega)) (by decide) (by decide) rfl (g := (mkF m 60 #[.val (.ref x0), .val (.ref t), .val .null] [(.ref b2)])) rfl (by rw [hml]; rfl) (argsL := []) (rest := []) (lenOf own_pd__28_29Ljava_2flang_2fString_3b rfl) rfl (W := 0) (by show 2 * 0 + _ ≤ _; exact Nat.le_of_eq rfl) (hb hby own_d2_60) rfl (by decide) (by decide) ?_
    rintro rv75 T75 L75 X75 ⟨ts, rfl, Nq75, Kq75⟩
    have N75 := Fr.app N37 Nq75
    show own_Fin p e below _ T75 (mkF m 63 #[.val (.ref x0), .val (.ref t), .val .null] [(.ref ts)])
    have C76 := C38.trans (CHr.keep Kq75 sf0 C38.1)
    refine own_g (mkF m 64 #[.val (.ref x0), .val (.ref t), .val .null] [(.ref t), (.ref ts)]) (fun _ q => XS.aloadN X75.here hx rfl (hb hby own_d2_63) rfl rfl q) ?_
    have e77_t := ((e31_t.keep Kq37).keep Kq75)
    have f78_t := ((f35_t.keep Kq37 (ninS ne_t_b2 (ninS ne_t_bw nin0))).keep Kq75 nin0)
    have k79_ := (k73_.trans Kq75 all0)
    have o80_ := (o74_.keep Kq75 all0)
    refine own_callV X75 hx hZ (y := own_y15) (z := own_y15) hown (own_h hw 195 rfl) (own_h hw 196 rfl) (own_nf (own_h hw 198 rfl)) (own_h hw 198 rfl) (own_h hw 197 rfl) (own_h hw 199 rfl) (own_h hw 7 rfl) (by decide) e77_t (own_iv l Z a0 hw [] t x zCS dO dT ca cO cT cc T75.heap n0 (Nat.le_trans Z0 k79_.1) Cq o80_ e77_t f78_t) (by decide) (by decide) rfl (g := (mkF m 64 #[.val (.ref x0), .val (.ref t), .val .null] [(.ref t), (.ref ts)])) rfl (by rw [hml]; rfl) (argsL := []) (rest := [(.ref ts)]) (lenOf own_pd__28_29I rfl) rfl (W := 1) (by show 2 * 0 + _ ≤ _; exact Nat.le_of_eq rfl) (hb hby own_d2_64) rfl (by decide) (by decide) ?_
    rintro rv81 T81 L81 X81 ⟨rfl, Nq81, eh81⟩
    have N81 := Fr.app N75 Nq81
    refine own_g (mkF m 68 #[.val (.ref x0), .val (.ref t), .val .null] [(.int 1), (.int x), (.ref ts)]) (fun _ q => XS.iconst X81.here hx rfl (hb hby own_d2_67) q) ?_
    have hk82_ := (Nat.le_trans (Nat.le_trans (Nat.le_trans hk13 Kq28.1) Kq37.1) Kq75.1)
    obtain ⟨a83, T83, h83, j83, b83, k83, X83, e83, E83, hS, hk83, hZ, hown, Ea83, Fc83, Fv83, Av83, -, -, CH83, -, Sf83, st83⟩ := ldcCH X81 hx hZ hown (own_h hw 222 rfl) wS eh81 hS hk82_ hEL (by decide) C76.1 (vs := [(.int 105), (.int 116), (.int 32), (.int 99), (.int 111), (.int 117), (.int 110), (.int 116), (.int 115), (.int 32), (.int 109), (.int 111), (.int 110), (.int 116), (.int 104), (.int 115), (.int 32), (.int 97), (.int 102), (.int 116), (.int 101), (.int 114), (.int 32), (.int 116), (.int 104), (.int 101), (.int 32), (.int 101), (.int 118), (.int 101), (.int 110), (.int 116), (.int 39), (.int 115), (.int 32), (.int 109), (.int 111), (.int 110), (.int 116), (.int 104), (.int 44), (.int 32), (.int 102), (.int 114), (.int 111), (.int 109), (.int 32), (.int 49)]) (z := (48 : Int32)) ⟨by decide, by first | rfl | decide⟩ (by decide) (by decide) (g := (mkF m 68 #[.val (.ref x0), .val (.ref t), .val .null] [(.int 1), (.int x), (.ref ts)])) rfl (hb hby own_d2_68) (n := 192) (by decide) (by decide) (by decide) (by decide)
    have C84 := C76.trans CH83
    have e85_x0 := (((e30_x0.keep Kq37).keep Kq75).ext E83)
    have nl83_x0 := Sf83 x0 (Safe.exa hZ.alike e85_x0 (by decide) (by decide))
    have e86_t := (e77_t.ext E83)
    have nl83_t := Sf83 t (Safe.exa hZ.alike e86_t (by decide) (by decide))
    refine own_by (g' := (mkF m 70 #[.val (.ref x0), .val (.ref t), .val .null] [(.ref a83), (.int 1), (.int x), (.ref ts)])) st83 ?_
    have k87_ := (k79_.ext E83)
    have o88_ := (o80_.ext E83)
    refine own_callSW X83 hx hZ (y := own_y2) hown (own_h hw 201 rfl) (own_h hw 202 rfl) (own_h hw 203 rfl) (own_h hw 204 rfl) (by decide) hS hk83 hEL C84.1 (own_mo l Z a0 hw [] ts x (1 : Int32) a83 zCS dO dT ca cO cT cc h83 n0 (Nat.le_trans Z0 k87_.1) Cq o88_ hmin hmax) (by decide) (by decide) e83 (g := (mkF m 70 #[.val (.ref x0), .val (.ref t), .val .null] [(.ref a83), (.int 1), (.int x), (.ref ts)])) rfl (by rw [hml]; rfl) (argsL := [(.ref ts), (.int x), (.int 1), (.ref a83)]) (rest := []) (lenOf own_pd__28Ljava_2flang_2fString_3bIILjava_2flang_2fString_3b_29V rfl) rfl (W := 0) (by show 2 * 0 + _ ≤ _; exact Nat.le_of_eq rfl) (hb hby own_d2_70) rfl (by decide) (by decide) ?_
    rintro rv89 T89 L89 X89 hS hZ hown CH89 ⟨rfl, Nq89, Kq89⟩
    have N89 := Fr.app N81 Nq89
    show own_Fin p e below _ T89 (mkF m 73 #[.val (.ref x0), .val (.ref t), .val .null] [])
    have C90 := C84.trans CH89
    refine own_g (mkF m 108 #[.val (.ref x0), .val (.ref t), .val .null] [(.ref t), (.ref x0)]) (fun _ q => XS.aloadN X89.here hx rfl (hb hby own_d2_73) rfl rfl (XS.ifnullYes X89.here hx rfl (pc0 := 74) (pc' := 106) rfl (hb hby own_d2_74) rfl (by decide) (by decide) (XS.aloadN X89.here hx rfl (hb hby own_d2_106) rfl rfl (XS.aloadN X89.here hx rfl (hb hby own_d2_107) rfl rfl q)))) ?_
    have e91_x0 := (e85_x0.keep Kq89)
    have f92_x0 := ((((((((A_x.ext E2).keep Kq8 (ninS ne_x0_b2 nin0)).ext E13).keep Kq28 (ninS ne_x0_b2 nin0)).keep Kq37 (ninS ne_x0_b2 (ninS ne_x0_bw nin0))).keep Kq75 nin0).ext E83).keep Kq89 nin0)
    obtain ⟨T93, h93, X93, e93, W93, st93⟩ := putF X89 hx hZ hown (host := "") (Or.inl (own_h hw 210 rfl)) Via.refl rfl f92_x0 e91_x0 (Or.inr ⟨(own_h hw 211 rfl), rfl, hnm⟩) (own_h hw 3 rfl) (ty := (.object "java/lang/Integer")) (by decide) (rfl) (rfl) (g := (mkF m 108 #[.val (.ref x0), .val (.ref t), .val .null] [(.ref t), (.ref x0)])) rfl rfl (hb hby own_d2_108)
    have Fw93 := f92_x0.same W93
    have C94 := C90.trans (CHr.wr W93 (Safe.exa hZ.alike e91_x0 (by decide) (by decide)) C90.1)
    have N93 := Fr.snoc X93 N89 g_x
    refine own_by (g' := (mkF m 111 #[.val (.ref x0), .val (.ref t), .val .null] [])) st93 ?_
    refine own_g (mkF m 113 #[.val (.ref x0), .val (.ref t), .val .null] [.null, (.ref x0)]) (fun _ q => XS.aloadN X93.here hx rfl (hb hby own_d2_111) rfl rfl (XS.aloadN X93.here hx rfl (hb hby own_d2_112) rfl rfl q)) ?_
    have e95_x0 := (e91_x0.wr W93)
    have f96_x0 := (((((((((B_x.ext E2).keep Kq8 (ninS ne_x0_b2 nin0)).ext E13).keep Kq28 (ninS ne_x0_b2 nin0)).keep Kq37 (ninS ne_x0_b2 (ninS ne_x0_bw nin0))).keep Kq75 nin0).ext E83).keep Kq89 nin0).other W93 (Or.inr (slot_ne (Or.inr (own_h hw 213 rfl)) (Or.inr (own_h hw 211 rfl)) (by decide) (t := (.object "java/lang/Integer")) (t' := (.object "java/lang/Integer")) (by decide) (by decide))))
    obtain ⟨T97, h97, X97, e97, W97, st97⟩ := putF X93 hx hZ hown (host := "") (Or.inl (own_h hw 212 rfl)) Via.refl e93 f96_x0 e95_x0 (Or.inr ⟨(own_h hw 213 rfl), rfl, hnm⟩) (own_h hw 3 rfl) (ty := (.object "java/lang/Integer")) (by decide) (rfl) (rfl) (g := (mkF m 113 #[.val (.ref x0), .val (.ref t), .val .null] [.null, (.ref x0)])) rfl rfl (hb hby own_d2_113)
    have Fw97 := f96_x0.same W97
    have C98 := C94.trans (CHr.wr W97 (Safe.exa hZ.alike e95_x0 (by decide) (by decide)) C94.1)
    have N97 := Fr.snoc X97 N93 g_x
    refine own_by (g' := (mkF m 116 #[.val (.ref x0), .val (.ref t), .val .null] [])) st97 ?_
    have k99_ := (((k87_.trans Kq89 all0).wr W93 (Or.inl (List.mem_of_getElem? (i := 0) rfl))).wr W97 (Or.inl (List.mem_of_getElem? (i := 0) rfl)))
    have e100_x0 := (e95_x0.wr W97)
    have f101_x0 := (Fw93.other W97 (Or.inr (slot_ne (Or.inr (own_h hw 211 rfl)) (Or.inr (own_h hw 213 rfl)) (by decide) (t := (.object "java/lang/Integer")) (t' := (.object "java/lang/Integer")) (by decide) (by decide))))
    have hk102_ := (Nat.le_trans (Nat.le_trans (Nat.le_refl _) (Keep.of_wr W93).1) (Keep.of_wr W97).1)
    exact own_endW X97 hS (by rw [e97]; exact hk102_) hZ hEL (by rw [hh]; rw [e97]; exact C98) (v := none) (fun _ => rfl) hlk (fun hr => X97.returnOut hx Bd.returns (hb hby own_d2_116) hr) (by rw [e97]; exact ⟨rfl, N97, k99_, e100_x0, f101_x0, Fw97⟩) (by decide) (by decide)
theorem own_d40_0 : decode prog_56_method_3_code 0 = .ok (.aload_n 0, 1) := by decide +kernel
theorem own_d40_1 : decode prog_56_method_3_code 1 = .ok (.getfield 50, 3) := by decide +kernel
theorem own_d40_4 : decode prog_56_method_3_code 4 = .ok (.ifnull 22, 3) := by decide +kernel
theorem own_d40_7 : decode prog_56_method_3_code 7 = .ok (.aload_n 0, 1) := by decide +kernel
theorem own_d40_8 : decode prog_56_method_3_code 8 = .ok (.getfield 50, 3) := by decide +kernel
theorem own_d40_11 : decode prog_56_method_3_code 11 = .ok (.invokevirtual 32, 3) := by decide +kernel
theorem own_d40_14 : decode prog_56_method_3_code 14 = .ok (.iload_n 1, 1) := by decide +kernel
theorem own_d40_15 : decode prog_56_method_3_code 15 = .ok (.if_icmp .gt 7, 3) := by decide +kernel
theorem own_d40_22 : decode prog_56_method_3_code 22 = .ok (.iconst 0, 1) := by decide +kernel
theorem own_d40_23 : decode prog_56_method_3_code 23 = .ok (.goto 19, 3) := by decide +kernel
theorem own_d40_42 : decode prog_56_method_3_code 42 = .ok (.ireturn, 1) := by decide +kernel
theorem own_d40_18 : decode prog_56_method_3_code 18 = .ok (.iconst 1, 1) := by decide +kernel
theorem own_d40_19 : decode prog_56_method_3_code 19 = .ok (.goto 23, 3) := by decide +kernel
theorem own_cfA_ef (m : MethodId) (x0 : Addr) (mo : Int32) : entryFrame m #[(.ref x0), (.int mo)] 2 = mkF m 0 #[.val (.ref x0), .val (.int mo)] [] := by  first | (simp [entryFrame, mkF, argsToLocals, Value.category]; done) | rfl
def own_cfA_Q (Z : State) (x0 : Addr) (mo : Int32) (t : Addr) (x : Int32) (zCS : Int32) (dO : Addr) (dT : Addr) (ca : Addr) (cO : Cell) (cT : Cell) (cc : Cell) (h0 : Heap) (n0 : Nat) (v : Option Value) (h : Heap) (L : List Loc) : Prop := v = some (.int (if mo < x then 0 else 1)) ∧ Fr n0 L ∧ h = h0
set_option maxRecDepth 65536 in
set_option maxHeartbeats 40000000 in
theorem own_cfA (l : Launch) (Z : State) (a0 : Array Value) (hw : ∀ d ∈ tables_1, d.before a0 Z = true) (ws : List Jvm.Cond) (x0 : Addr) (mo : Int32) (t : Addr) (x : Int32) (zCS : Int32) (dO : Addr) (dT : Addr) (ca : Addr) (cO : Cell) (cT : Cell) (cc : Cell) (h0 : Heap) (n0 : Nat) (Z0 : n0 ≤ h0.size) (Cq : own_C Z zCS dO dT ca cO cT cc) (O0 : Old Z n0 h0) (A_x : Fld Z h0 x0 "com/example/abeyance/abeyance/plan/PayDay" "firstDayOfMonthAfter" "Ljava/lang/Integer;" (.ref t)) (B_x : Fld Z h0 x0 "com/example/abeyance/abeyance/plan/PayDay" "monthsAfter" "Ljava/lang/Integer;" .null) (E_t : Exa Z h0 t "java/lang/Integer") (V_t : Fld Z h0 t "java/lang/Integer" "value" "I" (.int x)) :
    MetFree l own_y1 (head1 (Jvm.Cond.code own_y1 prog_56_method_3_code 2 (some .boolean) :: ws) (⟨1, 0, 0, 12⟩ : Room)) (fun aa U => aa = #[(.ref x0), (.int mo)] ∧ Z.Warmed39 U.vm ∧ U.heap = h0) (fun _ _ _ _ _ => True) (fun _ U o U' => ∃ v L, o = .returned v ∧ own_cfA_Q Z x0 mo t x zCS dO dT ca cO cT cc h0 n0 v U'.heap L ∧ FrameEnd U o U' L (⟨1, 0, 0, 12⟩ : Room).cells (⟨1, 0, 0, 12⟩ : Room).slots) := by
  refine MetFree.of_bodySF (plainFor_of_name own_pn_com_example_abeyance_abeyance_plan_PayDay) hisR ?_
  intro p e s m args below meth c s₁ Bd hml0 hP hK
  obtain ⟨rfl, hZ, hh⟩ := hP
  have hx := Bd.exec
  have hby := Bd.bytes
  have hml : c.maxLocals = 2 := hml0
  have hown : s.vm.findClass "com/example/abeyance/abeyance/plan/PayDay" = some m.cls := findClass_of_methodNamed Bd.named
  have hnm := (name_of_methodNamed Bd.named Bd.method).1
  have hlk := Bd.notSynchronized
  have X0 : Stand p l e (⟨1, 0, 0, 12⟩ : Room) s m #[(.ref x0), (.int mo)] below meth c s₁ [] 0 0 := Stand.of_body Bd
  have e0 : s₁.heap = h0 := by rw [← hh, Bd.state]; rfl
  have N0 := Fr.nil n0
  refine own_start (Q := own_cfA_Q Z x0 mo t x zCS dO dT ca cO cT cc h0 n0) (own_cfA_ef m x0 mo) ?_
  refine own_g (mkF m 1 #[.val (.ref x0), .val (.int mo)] [(.ref x0)]) (fun _ q => XS.aloadN X0.here hx rfl (hb hby own_d40_0) rfl rfl q) ?_
  obtain ⟨T1, X1, e1, st1⟩ := getF X0 hx hZ hown (host := "") (Or.inl (own_h hw 210 rfl)) Via.refl e0 A_x (g := (mkF m 1 #[.val (.ref x0), .val (.int mo)] [(.ref x0)])) rfl rfl (hb hby own_d40_1)
  refine own_by (g' := (mkF m 4 #[.val (.ref x0), .val (.int mo)] [(.ref t)])) st1 ?_
  refine own_g (mkF m 8 #[.val (.ref x0), .val (.int mo)] [(.ref x0)]) (fun _ q => XS.ifnullNo X1.here hx rfl (hb hby own_d40_4) rfl (XS.aloadN X1.here hx rfl (hb hby own_d40_7) rfl rfl q)) ?_
  obtain ⟨T2, X2, e2, st2⟩ := getF X1 hx hZ hown (host := "") (Or.inl (own_h hw 210 rfl)) Via.refl e1 A_x (g := (mkF m 8 #[.val (.ref x0), .val (.int mo)] [(.ref x0)])) rfl rfl (hb hby own_d40_8)
  refine own_by (g' := (mkF m 11 #[.val (.ref x0), .val (.int mo)] [(.ref t)])) st2 ?_
  refine own_callV X2 hx hZ (y := own_y15) (z := own_y15) hown (own_h hw 195 rfl) (own_h hw 196 rfl) (own_nf (own_h hw 198 rfl)) (own_h hw 198 rfl) (own_h hw 197 rfl) (own_h hw 199 rfl) (own_h hw 7 rfl) (by decide) E_t (own_iv l Z a0 hw [] t x zCS dO dT ca cO cT cc h0 n0 Z0 Cq O0 E_t V_t) (by decide) (by decide) e2 (g := (mkF m 11 #[.val (.ref x0), .val (.int mo)] [(.ref t)])) rfl (by rw [hml]; rfl) (argsL := []) (rest := []) (lenOf own_pd__28_29I rfl) rfl (W := 0) (by show 2 * 0 + _ ≤ _; exact Nat.le_of_eq rfl) (hb hby own_d40_11) rfl (by decide) (by decide) ?_
  rintro rv3 T3 L3 X3 ⟨rfl, Nq3, eh3⟩
  have N3 := Fr.app N0 Nq3
  refine own_g (mkF m 15 #[.val (.ref x0), .val (.int mo)] [(.int mo), (.int x)]) (fun _ q => XS.iloadN X3.here hx rfl (hb hby own_d40_14) rfl q) ?_
  by_cases hc4 : mo < x
  · refine own_g (mkF m 42 #[.val (.ref x0), .val (.int mo)] [(.int 0)]) (fun _ q => XS.icmpYes X3.here hx rfl (pc0 := 15) (pc' := 22) rfl (hb hby own_d40_15) rfl (tlt hc4).2.2.1 (by decide) (by decide) (XS.iconst X3.here hx rfl (hb hby own_d40_22) (XS.goto X3.here hx rfl (pc0 := 23) (pc' := 42) rfl (hb hby own_d40_23) (by decide) (by decide) q))) ?_
    exact own_end X3 (v := some (.int (nar .boolean (0 : Int32)))) (fun h => by rw [Bd.returns] at h; cases h) hlk (fun hr => retN X3 hx (t := .boolean) Bd.returns (by simp) (hb hby own_d40_42) hr) (by rw [eh3]; exact ⟨by rw [if_pos hc4]; rfl, N3, rfl⟩) (by decide) (by decide)
  · refine own_g (mkF m 42 #[.val (.ref x0), .val (.int mo)] [(.int 1)]) (fun _ q => XS.icmpNo X3.here hx rfl (hb hby own_d40_15) rfl (flt hc4).2.2.1 (XS.iconst X3.here hx rfl (hb hby own_d40_18) (XS.goto X3.here hx rfl (pc0 := 19) (pc' := 42) rfl (hb hby own_d40_19) (by decide) (by decide) q))) ?_
    exact own_end X3 (v := some (.int (nar .boolean (1 : Int32)))) (fun h => by rw [Bd.returns] at h; cases h) hlk (fun hr => retN X3 hx (t := .boolean) Bd.returns (by simp) (hb hby own_d40_42) hr) (by rw [eh3]; exact ⟨by rw [if_neg hc4]; rfl, N3, rfl⟩) (by decide) (by decide)
theorem own_d2_8 : decode prog_56_method_1_code 8 = .ok (.aload_n 2, 1) := by decide +kernel
theorem own_d2_9 : decode prog_56_method_1_code 9 = .ok (.ifnonnull 13, 3) := by decide +kernel
theorem own_d2_77 : decode prog_56_method_1_code 77 = .ok (.new 16, 3) := by decide +kernel
theorem own_d2_80 : decode prog_56_method_1_code 80 = .ok (.dup, 1) := by decide +kernel
theorem own_d2_81 : decode prog_56_method_1_code 81 = .ok (.invokespecial 18, 3) := by decide +kernel
theorem own_d2_84 : decode prog_56_method_1_code 84 = .ok (.ldc 46, 2) := by decide +kernel
theorem own_d2_86 : decode prog_56_method_1_code 86 = .ok (.invokevirtual 21, 3) := by decide +kernel
theorem own_d2_89 : decode prog_56_method_1_code 89 = .ok (.aload_n 2, 1) := by decide +kernel
theorem own_d2_90 : decode prog_56_method_1_code 90 = .ok (.invokevirtual 25, 3) := by decide +kernel
theorem own_d2_93 : decode prog_56_method_1_code 93 = .ok (.invokevirtual 28, 3) := by decide +kernel
theorem own_d2_96 : decode prog_56_method_1_code 96 = .ok (.aload_n 2, 1) := by decide +kernel
theorem own_d2_97 : decode prog_56_method_1_code 97 = .ok (.invokevirtual 32, 3) := by decide +kernel
theorem own_d2_100 : decode prog_56_method_1_code 100 = .ok (.iconst 0, 1) := by decide +kernel
theorem own_d2_101 : decode prog_56_method_1_code 101 = .ok (.ldc 48, 2) := by decide +kernel
theorem own_d2_103 : decode prog_56_method_1_code 103 = .ok (.invokestatic 40, 3) := by decide +kernel
theorem own_pdB_ef (m : MethodId) (x0 : Addr) (t : Addr) : entryFrame m #[(.ref x0), .null, (.ref t)] 3 = mkF m 0 #[.val (.ref x0), .val .null, .val (.ref t)] [] := by  first | (simp [entryFrame, mkF, argsToLocals, Value.category]; done) | rfl
def own_pdB_Q (Z : State) (x0 : Addr) (t : Addr) (x : Int32) (zCS : Int32) (dO : Addr) (dT : Addr) (ca : Addr) (cO : Cell) (cT : Cell) (cc : Cell) (h0 : Heap) (n0 : Nat) (v : Option Value) (h : Heap) (L : List Loc) : Prop := v = none ∧ Fr n0 L ∧ Keep h0 h [x0] ∧ Exa Z h x0 "com/example/abeyance/abeyance/plan/PayDay" ∧ Fld Z h x0 "com/example/abeyance/abeyance/plan/PayDay" "firstDayOfMonthAfter" "Ljava/lang/Integer;" .null ∧ Fld Z h x0 "com/example/abeyance/abeyance/plan/PayDay" "monthsAfter" "Ljava/lang/Integer;" (.ref t)
set_option maxRecDepth 65536 in
set_option maxHeartbeats 40000000 in
theorem own_pdB (l : Launch) (Z : State) (a0 : Array Value) (hw : ∀ d ∈ tables_1, d.before a0 Z = true) (ws : List Jvm.Cond) (x0 : Addr) (t : Addr) (x : Int32) (zCS : Int32) (dO : Addr) (dT : Addr) (ca : Addr) (cO : Cell) (cT : Cell) (cc : Cell) (h0 : Heap) (n0 : Nat) (Z0 : n0 ≤ h0.size) (Cq : own_C Z zCS dO dT ca cO cT cc) (O0 : Old Z n0 h0) (E_x : Exa Z h0 x0 "com/example/abeyance/abeyance/plan/PayDay") (A_x : Fld Z h0 x0 "com/example/abeyance/abeyance/plan/PayDay" "firstDayOfMonthAfter" "Ljava/lang/Integer;" .null) (B_x : Fld Z h0 x0 "com/example/abeyance/abeyance/plan/PayDay" "monthsAfter" "Ljava/lang/Integer;" .null) (g_x : n0 ≤ x0) (E_t : Exa Z h0 t "java/lang/Integer") (V_t : Fld Z h0 t "java/lang/Integer" "value" "I" (.int x)) (hxb : 0 ≤ x.toInt ∧ x.toInt < 1000000) (n_tx : t ≠ x0) (hmin : ¬ x < (0 : Int32)) (hmax : ¬ (119999 : Int32) < x) :
    MetFree l own_y0 (head1 (Jvm.Cond.code own_y0 prog_56_method_1_code 3 none :: ws) (⟨7, 13, 362, 102⟩ : Room)) (fun aa U => aa = #[(.ref x0), .null, (.ref t)] ∧ Z.Warmed39 U.vm ∧ U.heap = h0 ∧ CHv Z consts_1 U.vm h0) (fun _ _ _ _ _ => True) (fun _ U o U' => ∃ v L, o = .returned v ∧ own_pdB_Q Z x0 t x zCS dO dT ca cO cT cc h0 n0 v U'.heap L ∧ CHr Z consts_1 U.vm U.heap U'.vm U'.heap ∧ ReturnedEndW U o U' L (⟨7, 13, 362, 102⟩ : Room).cells (⟨7, 13, 362, 102⟩ : Room).slots) := by
  refine MetFree.of_bodySF (plainFor_of_name own_pn_com_example_abeyance_abeyance_plan_PayDay) hisR ?_
  intro p e s m args below meth c s₁ Bd hml0 hP hK
  obtain ⟨rfl, hZ, hh, CH0⟩ := hP
  have hx := Bd.exec
  have hby := Bd.bytes
  have hml : c.maxLocals = 3 := hml0
  have hown : s.vm.findClass "com/example/abeyance/abeyance/plan/PayDay" = some m.cls := findClass_of_methodNamed Bd.named
  have hnm := (name_of_methodNamed Bd.named Bd.method).1
  have hlk := Bd.notSynchronized
  have X0 : Stand p l e (⟨7, 13, 362, 102⟩ : Room) (s.setVm s.vm) m #[(.ref x0), .null, (.ref t)] below meth c s₁ [] 0 0 := Stand.of_body Bd
  have e0 : s₁.heap = h0 := by rw [← hh, Bd.state]; rfl
  have N0 := Fr.nil n0
  have hS : s.Since s.vm 0 := (State.WarmedH.refl s).since 0
  have hk0 : 0 ≤ h0.size := Nat.zero_le _
  have wS := own_wS hw
  have C0 : CHr Z consts_1 s.vm h0 s.vm h0 := CHr.refl CH0
  have hEL := own_hEL hw
  refine own_startW (EL := consts_1) (Q := own_pdB_Q Z x0 t x zCS dO dT ca cO cT cc h0 n0) (own_pdB_ef m x0 t) ?_
  refine own_g (mkF m 1 #[.val (.ref x0), .val .null, .val (.ref t)] [(.ref x0)]) (fun _ q => XS.aloadN X0.here hx rfl (hb hby own_d2_0) rfl rfl q) ?_
  refine own_callI X0 hx hZ (y := own_y24) rfl hown (own_h hw 15 rfl) (own_h hw 16 rfl) (own_h hw 19 rfl) (own_h hw 18 rfl) (by decide) (own_rec l Z a0 hw [] x0 zCS dO dT ca cO cT cc h0 n0 (Nat.le_trans Z0 (Keep.refl h0 [x0]).1) Cq O0 ) (by decide) (by decide) e0 (g := (mkF m 1 #[.val (.ref x0), .val .null, .val (.ref t)] [(.ref x0)])) rfl (by rw [hml]; rfl) (argsL := []) (rest := []) (lenOf own_pd__28_29V rfl) rfl (W := 0) (by show 2 * 0 + _ ≤ _; exact Nat.le_of_eq rfl) (hb hby own_d2_1) rfl (by decide) (by decide) ?_
  rintro rv1 T1 L1 X1 ⟨rfl, Nq1, eh1⟩
  have N1 := Fr.app N0 Nq1
  refine own_g (mkF m 73 #[.val (.ref x0), .val .null, .val (.ref t)] []) (fun _ q => XS.aloadN X1.here hx rfl (hb hby own_d2_4) rfl rfl (XS.ifnonnullNo X1.here hx rfl (hb hby own_d2_5) rfl (XS.aloadN X1.here hx rfl (hb hby own_d2_8) rfl rfl (XS.ifnonnullYes X1.here hx rfl (pc0 := 9) (pc' := 22) rfl (hb hby own_d2_9) rfl (by decide) (by decide) (XS.aloadN X1.here hx rfl (hb hby own_d2_22) rfl rfl (XS.ifnullYes X1.here hx rfl (pc0 := 23) (pc' := 40) rfl (hb hby own_d2_23) rfl (by decide) (by decide) (XS.aloadN X1.here hx rfl (hb hby own_d2_40) rfl rfl (XS.ifnullYes X1.here hx rfl (pc0 := 41) (pc' := 73) rfl (hb hby own_d2_41) rfl (by decide) (by decide) q)))))))) ?_
  refine own_g (mkF m 77 #[.val (.ref x0), .val .null, .val (.ref t)] []) (fun _ q => XS.aloadN X1.here hx rfl (hb hby own_d2_73) rfl rfl (XS.ifnullNo X1.here hx rfl (hb hby own_d2_74) rfl q)) ?_
  obtain ⟨T2, h2, X2, e2, E2, A2, D2, U2, st2⟩ := newO X1 hx hZ hown (own_h hw 23 rfl) (own_h hw 24 rfl) (own_h hw 25 rfl) eh1 (g := (mkF m 77 #[.val (.ref x0), .val .null, .val (.ref t)] [])) rfl (hb hby own_d2_77) (by decide) (by decide)
  obtain ⟨b2, g2⟩ : ∃ z, z = h0.size := ⟨_, rfl⟩
  rw [← g2] at A2 D2 U2 st2
  have g_b2 : n0 ≤ b2 := Nat.le_trans (Nat.le_trans Z0 (Keep.refl h0 [x0]).1) (Nat.le_of_eq g2.symm)
  have sz_b2 : h0.size ≤ b2 := Nat.le_trans (Keep.refl h0 [x0]).1 (Nat.le_of_eq g2.symm)
  have sf_b2 : Safe Z consts_1 s.vm h0 b2 := Safe.new (Nat.le_of_eq g2.symm)
  have ne_x0_b2 : x0 ≠ b2 := Nat.ne_of_lt (Nat.lt_of_lt_of_le E_x.lt (Nat.le_of_eq g2.symm))
  have ne_t_b2 : t ≠ b2 := Nat.ne_of_lt (Nat.lt_of_lt_of_le E_t.lt (Nat.le_of_eq g2.symm))
  have C3 := C0.trans (CHr.ext E2 C0.1)
  have F_value_b2 : Fld Z h2 b2 "java/lang/AbstractStringBuilder" "value" "[B" .null := D2 (Or.inl (own_h hw 40 rfl)) (ty := (.array .byte)) (by decide)
  have F_coder_b2 : Fld Z h2 b2 "java/lang/AbstractStringBuilder" "coder" "B" (.int 0) := D2 (Or.inl (own_h hw 42 rfl)) (ty := .byte) (by decide)
  have F_count_b2 : Fld Z h2 b2 "java/lang/AbstractStringBuilder" "count" "I" (.int 0) := D2 (Or.inl (own_h hw 73 rfl)) (ty := .int) (by decide)
  refine own_by (g' := (mkF m 80 #[.val (.ref x0), .val .null, .val (.ref t)] [(.ref b2)])) st2 ?_
  refine own_g (mkF m 81 #[.val (.ref x0), .val .null, .val (.ref t)] [(.ref b2), (.ref b2)]) (fun _ q => XS.dup X2.here hx rfl (hb hby own_d2_80) rfl rfl q) ?_
  have e4_x0 := (E_x.ext E2)
  have e5_t := (E_t.ext E2)
  have k6_ := ((Keep.refl h0 [x0]).ext E2)
  have o7_ := (O0.ext E2)
  refine own_callI X2 hx hZ (y := own_y32) rfl hown (own_h hw 26 rfl) (own_h hw 27 rfl) (own_h hw 28 rfl) (own_h hw 25 rfl) (by decide) (own_sbi l Z a0 hw [] b2 zCS dO dT ca cO cT cc h2 n0 (Nat.le_trans Z0 k6_.1) Cq o7_ A2 F_value_b2 F_coder_b2 F_count_b2 g_b2) (by decide) (by decide) e2 (g := (mkF m 81 #[.val (.ref x0), .val .null, .val (.ref t)] [(.ref b2), (.ref b2)])) rfl (by rw [hml]; rfl) (argsL := []) (rest := [(.ref b2)]) (lenOf own_pd__28_29V rfl) rfl (W := 1) (by show 2 * 0 + _ ≤ _; exact Nat.le_of_eq rfl) (hb hby own_d2_81) rfl (by decide) (by decide) ?_
  rintro rv8 T8 L8 X8 ⟨rfl, Nq8, Kq8, bv, sz8, g8, Et8, Rt8, Fv8, Fc8, Fn8⟩
  have N8 := Fr.app N1 Nq8
  show own_Fin p e below _ T8 (mkF m 84 #[.val (.ref x0), .val .null, .val (.ref t)] [(.ref b2)])
  have ne_x0_bv : x0 ≠ bv := Nat.ne_of_lt (Nat.lt_of_lt_of_le e4_x0.lt sz8)
  have ne_t_bv : t ≠ bv := Nat.ne_of_lt (Nat.lt_of_lt_of_le e5_t.lt sz8)
  have ne_b2_bv : b2 ≠ bv := Nat.ne_of_lt (Nat.lt_of_lt_of_le A2.lt sz8)
  have sz_bv := Nat.le_trans k6_.1 sz8
  have sf_bv : Safe Z consts_1 s.vm h2 bv := Safe.new sz8
  have C9 := C3.trans (CHr.keep Kq8 (sfS (Safe.exa hZ.alike A2 (by decide) (by decide)) sf0) C3.1)
  have sf10_b2 := (Safe.keep Kq8 (sfS (Safe.exa hZ.alike A2 (by decide) (by decide)) sf0) C3.1 (sf_b2.ext E2 C0.1))
  have sf11_bv := (Safe.keep Kq8 (sfS (Safe.exa hZ.alike A2 (by decide) (by decide)) sf0) C3.1 sf_bv)
  have hk12_ := (Nat.le_trans (Nat.le_trans hk0 E2.1) Kq8.1)
  obtain ⟨a13, T13, h13, j13, b13, k13, X13, e13, E13, hS, hk13, hZ, hown, Ea13, Fc13, Fv13, Av13, -, -, CH13, -, Sf13, st13⟩ := ldcCH X8 hx hZ hown (own_h hw 43 rfl) wS rfl hS hk12_ hEL (by decide) C9.1 (vs := [(.int 109), (.int 111), (.int 110), (.int 116), (.int 104), (.int 115), (.int 95), (.int 97), (.int 102), (.int 116), (.int 101), (.int 114), (.int 32), (.int 105), (.int 115), (.int 32)]) (z := (16 : Int32)) ⟨by decide, by first | rfl | decide⟩ (by decide) (by decide) (g := (mkF m 84 #[.val (.ref x0), .val .null, .val (.ref t)] [(.ref b2)])) rfl (hb hby own_d2_84) (n := 64) (by decide) (by decide) (by decide) (by decide)
  have e16_b2 := (A2.keep Kq8)
  have sf15 := CH13.safe e16_b2.lt sf10_b2
  have sf17 := CH13.safe Et8.lt sf11_bv
  have C14 := C9.trans CH13
  have e18_x0 := ((e4_x0.keep Kq8).ext E13)
  have nl13_x0 := Sf13 x0 (Safe.exa hZ.alike e18_x0 (by decide) (by decide))
  have e19_t := ((e5_t.keep Kq8).ext E13)
  have nl13_t := Sf13 t (Safe.exa hZ.alike e19_t (by decide) (by decide))
  have e20_b2 := (e16_b2.ext E13)
  have nl13_b2 := Sf13 b2 (Safe.exa hZ.alike e20_b2 (by decide) (by decide))
  have nl13_bv := Sf13 bv sf17
  refine own_by (g' := (mkF m 86 #[.val (.ref x0), .val .null, .val (.ref t)] [(.ref a13), (.ref b2)])) st13 ?_
  have Rc := own_By.of Av13
  have e21_bv := (Et8.ext E13)
  have k22_ := ((k6_.trans Kq8 (allS (Or.inr sz_b2) all0)).ext E13)
  have f23_b2 := (Fv8.ext E13)
  have f24_b2 := (Fc8.ext E13)
  have f25_b2 := (Fn8.ext E13)
  have r26_bv := (Rt8.ext E13)
  have o27_ := ((o7_.keep Kq8 (allS g_b2 all0)).ext E13)
  refine own_callV X13 hx hZ (y := own_y34) (z := own_y34) hown (own_h hw 49 rfl) (own_h hw 50 rfl) (own_nf (own_h hw 52 rfl)) (own_h hw 52 rfl) (own_h hw 51 rfl) (own_h hw 53 rfl) (own_h hw 25 rfl) (by decide) e20_b2 (own_saN l Z a0 hw [] b2 a13 bv b13 (16 : Int32) (16 : Int32) (0 : Int32) zCS dO dT ca cO cT cc h13 n0 (Nat.le_trans Z0 k22_.1) Cq o27_ e20_b2 f23_b2 f24_b2 f25_b2 Ea13 Fv13 Fc13 Rc g_b2 r26_bv g8 ne_b2_bv (by decide) (by decide) (by decide)) (by decide) (by decide) e13 (g := (mkF m 86 #[.val (.ref x0), .val .null, .val (.ref t)] [(.ref a13), (.ref b2)])) rfl (by rw [hml]; rfl) (argsL := [(.ref a13)]) (rest := []) (lenOf own_pd__28Ljava_2flang_2fString_3b_29Ljava_2flang_2fStringBuilder_3b rfl) rfl (W := 0) (by show 2 * 0 + _ ≤ _; exact Nat.le_of_eq rfl) (hb hby own_d2_86) rfl (by decide) (by decide) ?_
  rintro rv28 T28 L28 X28 ⟨rfl, Nq28, Kq28, Fv28, Fc28, Fn28, Rv28⟩
  have N28 := Fr.app N8 Nq28
  show own_Fin p e below _ T28 (mkF m 89 #[.val (.ref x0), .val .null, .val (.ref t)] [(.ref b2)])
  have C29 := C14.trans (CHr.keep Kq28 (sfS (Safe.exa hZ.alike e20_b2 (by decide) (by decide)) (sfS sf17 sf0)) C14.1)
  have ecn : (0 : Int32) + (16 : Int32) = (16 : Int32) := by decide
  rw [ecn] at Fn28
  refine own_g (mkF m 90 #[.val (.ref x0), .val .null, .val (.ref t)] [(.ref t), (.ref b2)]) (fun _ q => XS.aloadN X28.here hx rfl (hb hby own_d2_89) rfl rfl q) ?_
  have e30_x0 := (e18_x0.keep Kq28)
  have e31_t := (e19_t.keep Kq28)
  have e32_b2 := (e20_b2.keep Kq28)
  have e33_bv := (e21_bv.keep Kq28)
  have k34_ := (k22_.trans Kq28 (allS (Or.inr sz_b2) (allS (Or.inr sz_bv) all0)))
  have f35_t := ((((V_t.ext E2).keep Kq8 (ninS ne_t_b2 nin0)).ext E13).keep Kq28 (ninS ne_t_b2 (ninS ne_t_bv nin0)))
  have o36_ := (o27_.keep Kq28 (allS g_b2 (allS g8 all0)))
  refine own_callV X28 hx hZ (y := own_y33) (z := own_y33) hown (own_h hw 99 rfl) (own_h hw 100 rfl) (own_nf (own_h hw 102 rfl)) (own_h hw 102 rfl) (own_h hw 101 rfl) (own_h hw 103 rfl) (own_h hw 25 rfl) (by decide) e32_b2 (own_aoG l Z a0 hw [] b2 t x bv zCS dO dT ca cO cT cc T28.heap n0 (Nat.le_trans Z0 k34_.1) Cq o36_ e32_b2 Fv28 Fc28 Fn28 e31_t f35_t hxb g_b2 Rv28 g8 ne_b2_bv) (by decide) (by decide) rfl (g := (mkF m 90 #[.val (.ref x0), .val .null, .val (.ref t)] [(.ref t), (.ref b2)])) rfl (by rw [hml]; rfl) (argsL := [(.ref t)]) (rest := []) (lenOf own_pd__28Ljava_2flang_2fObject_3b_29Ljava_2flang_2fStringBuilder_3b rfl) rfl (W := 0) (by show 2 * 0 + _ ≤ _; exact Nat.le_of_eq rfl) (hb hby own_d2_90) rfl (by decide) (by decide) ?_
  rintro rv37 T37 L37 X37 ⟨dz, hdz, rfl, Nq37, Kq37, bw, sz37, g37, Et37, Rt37, Fv37, Fc37, Fn37⟩
  have N37 := Fr.app N28 Nq37
  show own_Fin p e below _ T37 (mkF m 93 #[.val (.ref x0), .val .null, .val (.ref t)] [(.ref b2)])
  have ne_x0_bw : x0 ≠ bw := Nat.ne_of_lt (Nat.lt_of_lt_of_le e30_x0.lt sz37)
  have ne_t_bw : t ≠ bw := Nat.ne_of_lt (Nat.lt_of_lt_of_le e31_t.lt sz37)
  have ne_b2_bw : b2 ≠ bw := Nat.ne_of_lt (Nat.lt_of_lt_of_le e32_b2.lt sz37)
  have ne_bv_bw : bv ≠ bw := Nat.ne_of_lt (Nat.lt_of_lt_of_le e33_bv.lt sz37)
  have sz_bw := Nat.le_trans k34_.1 sz37
  have sf_bw : Safe Z consts_1 T13.vm T28.heap bw := Safe.new sz37
  have C38 := C29.trans (CHr.keep Kq37 (sfS (Safe.exa hZ.alike e32_b2 (by decide) (by decide)) sf0) C29.1)
  have c1 : (16 : Int32).toInt = 16 := by decide
  have c34 : (34 : Int32).toInt = 34 := by decide
  have c00 : (0 : Int32).toInt = 0 := by decide
  have hd1 := hdz.1
  have hd2 := hdz.2
  have ead := own_add (x := (16 : Int32)) (y := dz) (by omega)
  have hne34 : ¬ ((16 : Int32) + dz).toInt = 34 := by omega
  have ecl := own_cl (x := ((16 : Int32) + dz)) (by omega)
  have e39_b2 := (e32_b2.keep Kq37)
  have k40_ := (k34_.trans Kq37 (allS (Or.inr sz_b2) all0))
  have o41_ := (o36_.keep Kq37 (allS g_b2 all0))
  refine own_callV X37 hx hZ (y := own_y36) (z := own_y36) hown (own_h hw 156 rfl) (own_h hw 157 rfl) (own_nf (own_h hw 159 rfl)) (own_h hw 159 rfl) (own_h hw 158 rfl) (own_h hw 160 rfl) (own_h hw 25 rfl) (by decide) e39_b2 (own_tsL l Z a0 hw [] b2 bw ((16 : Int32) + dz) (34 : Int32) zCS dO dT ca cO cT cc T37.heap n0 (Nat.le_trans Z0 k40_.1) Cq o41_ e39_b2 Fv37 Fc37 Fn37 Rt37 (own_lt (by omega)) (own_nl (by omega)) (by omega)) (by decide) (by decide) rfl (g := (mkF m 93 #[.val (.ref x0), .val .null, .val (.ref t)] [(.ref b2)])) rfl (by rw [hml]; rfl) (argsL := []) (rest := []) (lenOf own_pd__28_29Ljava_2flang_2fString_3b rfl) rfl (W := 0) (by show 2 * 0 + _ ≤ _; exact Nat.le_of_eq rfl) (hb hby own_d2_93) rfl (by decide) (by decide) ?_
  rintro rv42 T42 L42 X42 ⟨ts, rfl, Nq42, Kq42⟩
  have N42 := Fr.app N37 Nq42
  show own_Fin p e below _ T42 (mkF m 96 #[.val (.ref x0), .val .null, .val (.ref t)] [(.ref ts)])
  have C43 := C38.trans (CHr.keep Kq42 sf0 C38.1)
  refine own_g (mkF m 97 #[.val (.ref x0), .val .null, .val (.ref t)] [(.ref t), (.ref ts)]) (fun _ q => XS.aloadN X42.here hx rfl (hb hby own_d2_96) rfl rfl q) ?_
  have e44_t := ((e31_t.keep Kq37).keep Kq42)
  have f45_t := ((f35_t.keep Kq37 (ninS ne_t_b2 nin0)).keep Kq42 nin0)
  have k46_ := (k40_.trans Kq42 all0)
  have o47_ := (o41_.keep Kq42 all0)
  refine own_callV X42 hx hZ (y := own_y15) (z := own_y15) hown (own_h hw 195 rfl) (own_h hw 196 rfl) (own_nf (own_h hw 198 rfl)) (own_h hw 198 rfl) (own_h hw 197 rfl) (own_h hw 199 rfl) (own_h hw 7 rfl) (by decide) e44_t (own_iv l Z a0 hw [] t x zCS dO dT ca cO cT cc T42.heap n0 (Nat.le_trans Z0 k46_.1) Cq o47_ e44_t f45_t) (by decide) (by decide) rfl (g := (mkF m 97 #[.val (.ref x0), .val .null, .val (.ref t)] [(.ref t), (.ref ts)])) rfl (by rw [hml]; rfl) (argsL := []) (rest := [(.ref ts)]) (lenOf own_pd__28_29I rfl) rfl (W := 1) (by show 2 * 0 + _ ≤ _; exact Nat.le_of_eq rfl) (hb hby own_d2_97) rfl (by decide) (by decide) ?_
  rintro rv48 T48 L48 X48 ⟨rfl, Nq48, eh48⟩
  have N48 := Fr.app N42 Nq48
  refine own_g (mkF m 101 #[.val (.ref x0), .val .null, .val (.ref t)] [(.int 0), (.int x), (.ref ts)]) (fun _ q => XS.iconst X48.here hx rfl (hb hby own_d2_100) q) ?_
  have hk49_ := (Nat.le_trans (Nat.le_trans (Nat.le_trans hk13 Kq28.1) Kq37.1) Kq42.1)
  obtain ⟨a50, T50, h50, j50, b50, k50, X50, e50, E50, hS, hk50, hZ, hown, Ea50, Fc50, Fv50, Av50, -, -, CH50, -, Sf50, st50⟩ := ldcCH X48 hx hZ hown (own_h hw 200 rfl) wS eh48 hS hk49_ hEL (by decide) C43.1 (vs := [(.int 105), (.int 116), (.int 32), (.int 99), (.int 111), (.int 117), (.int 110), (.int 116), (.int 115), (.int 32), (.int 109), (.int 111), (.int 110), (.int 116), (.int 104), (.int 115), (.int 32), (.int 97), (.int 102), (.int 116), (.int 101), (.int 114), (.int 32), (.int 116), (.int 104), (.int 101), (.int 32), (.int 101), (.int 118), (.int 101), (.int 110), (.int 116), (.int 44), (.int 32), (.int 102), (.int 114), (.int 111), (.int 109), (.int 32), (.int 48)]) (z := (40 : Int32)) ⟨by decide, by first | rfl | decide⟩ (by decide) (by decide) (g := (mkF m 101 #[.val (.ref x0), .val .null, .val (.ref t)] [(.int 0), (.int x), (.ref ts)])) rfl (hb hby own_d2_101) (n := 160) (by decide) (by decide) (by decide) (by decide)
  have C51 := C43.trans CH50
  have e52_x0 := (((e30_x0.keep Kq37).keep Kq42).ext E50)
  have nl50_x0 := Sf50 x0 (Safe.exa hZ.alike e52_x0 (by decide) (by decide))
  have e53_t := (e44_t.ext E50)
  have nl50_t := Sf50 t (Safe.exa hZ.alike e53_t (by decide) (by decide))
  refine own_by (g' := (mkF m 103 #[.val (.ref x0), .val .null, .val (.ref t)] [(.ref a50), (.int 0), (.int x), (.ref ts)])) st50 ?_
  have k54_ := (k46_.ext E50)
  have o55_ := (o47_.ext E50)
  refine own_callSW X50 hx hZ (y := own_y2) hown (own_h hw 201 rfl) (own_h hw 202 rfl) (own_h hw 203 rfl) (own_h hw 204 rfl) (by decide) hS hk50 hEL C51.1 (own_mo l Z a0 hw [] ts x (0 : Int32) a50 zCS dO dT ca cO cT cc h50 n0 (Nat.le_trans Z0 k54_.1) Cq o55_ hmin hmax) (by decide) (by decide) e50 (g := (mkF m 103 #[.val (.ref x0), .val .null, .val (.ref t)] [(.ref a50), (.int 0), (.int x), (.ref ts)])) rfl (by rw [hml]; rfl) (argsL := [(.ref ts), (.int x), (.int 0), (.ref a50)]) (rest := []) (lenOf own_pd__28Ljava_2flang_2fString_3bIILjava_2flang_2fString_3b_29V rfl) rfl (W := 0) (by show 2 * 0 + _ ≤ _; exact Nat.le_of_eq rfl) (hb hby own_d2_103) rfl (by decide) (by decide) ?_
  rintro rv56 T56 L56 X56 hS hZ hown CH56 ⟨rfl, Nq56, Kq56⟩
  have N56 := Fr.app N48 Nq56
  show own_Fin p e below _ T56 (mkF m 106 #[.val (.ref x0), .val .null, .val (.ref t)] [])
  have C57 := C51.trans CH56
  refine own_g (mkF m 108 #[.val (.ref x0), .val .null, .val (.ref t)] [.null, (.ref x0)]) (fun _ q => XS.aloadN X56.here hx rfl (hb hby own_d2_106) rfl rfl (XS.aloadN X56.here hx rfl (hb hby own_d2_107) rfl rfl q)) ?_
  have e58_x0 := (e52_x0.keep Kq56)
  have f59_x0 := ((((((((A_x.ext E2).keep Kq8 (ninS ne_x0_b2 nin0)).ext E13).keep Kq28 (ninS ne_x0_b2 (ninS ne_x0_bv nin0))).keep Kq37 (ninS ne_x0_b2 nin0)).keep Kq42 nin0).ext E50).keep Kq56 nin0)
  obtain ⟨T60, h60, X60, e60, W60, st60⟩ := putF X56 hx hZ hown (host := "") (Or.inl (own_h hw 210 rfl)) Via.refl rfl f59_x0 e58_x0 (Or.inr ⟨(own_h hw 211 rfl), rfl, hnm⟩) (own_h hw 3 rfl) (ty := (.object "java/lang/Integer")) (by decide) (rfl) (rfl) (g := (mkF m 108 #[.val (.ref x0), .val .null, .val (.ref t)] [.null, (.ref x0)])) rfl rfl (hb hby own_d2_108)
  have Fw60 := f59_x0.same W60
  have C61 := C57.trans (CHr.wr W60 (Safe.exa hZ.alike e58_x0 (by decide) (by decide)) C57.1)
  have N60 := Fr.snoc X60 N56 g_x
  refine own_by (g' := (mkF m 111 #[.val (.ref x0), .val .null, .val (.ref t)] [])) st60 ?_
  refine own_g (mkF m 113 #[.val (.ref x0), .val .null, .val (.ref t)] [(.ref t), (.ref x0)]) (fun _ q => XS.aloadN X60.here hx rfl (hb hby own_d2_111) rfl rfl (XS.aloadN X60.here hx rfl (hb hby own_d2_112) rfl rfl q)) ?_
  have e62_x0 := (e58_x0.wr W60)
  have f63_x0 := (((((((((B_x.ext E2).keep Kq8 (ninS ne_x0_b2 nin0)).ext E13).keep Kq28 (ninS ne_x0_b2 (ninS ne_x0_bv nin0))).keep Kq37 (ninS ne_x0_b2 nin0)).keep Kq42 nin0).ext E50).keep Kq56 nin0).other W60 (Or.inr (slot_ne (Or.inr (own_h hw 213 rfl)) (Or.inr (own_h hw 211 rfl)) (by decide) (t := (.object "java/lang/Integer")) (t' := (.object "java/lang/Integer")) (by decide) (by decide))))
  obtain ⟨T64, h64, X64, e64, W64, st64⟩ := putF X60 hx hZ hown (host := "") (Or.inl (own_h hw 212 rfl)) Via.refl e60 f63_x0 e62_x0 (Or.inr ⟨(own_h hw 213 rfl), rfl, hnm⟩) (own_h hw 3 rfl) (ty := (.object "java/lang/Integer")) (by decide) (rfl) (rfl) (g := (mkF m 113 #[.val (.ref x0), .val .null, .val (.ref t)] [(.ref t), (.ref x0)])) rfl rfl (hb hby own_d2_113)
  have Fw64 := f63_x0.same W64
  have C65 := C61.trans (CHr.wr W64 (Safe.exa hZ.alike e62_x0 (by decide) (by decide)) C61.1)
  have N64 := Fr.snoc X64 N60 g_x
  refine own_by (g' := (mkF m 116 #[.val (.ref x0), .val .null, .val (.ref t)] [])) st64 ?_
  have k66_ := (((k54_.trans Kq56 all0).wr W60 (Or.inl (List.mem_of_getElem? (i := 0) rfl))).wr W64 (Or.inl (List.mem_of_getElem? (i := 0) rfl)))
  have e67_x0 := (e62_x0.wr W64)
  have f68_x0 := (Fw60.other W64 (Or.inr (slot_ne (Or.inr (own_h hw 211 rfl)) (Or.inr (own_h hw 213 rfl)) (by decide) (t := (.object "java/lang/Integer")) (t' := (.object "java/lang/Integer")) (by decide) (by decide))))
  have hk69_ := (Nat.le_trans (Nat.le_trans (Nat.le_refl _) (Keep.of_wr W60).1) (Keep.of_wr W64).1)
  exact own_endW X64 hS (by rw [e64]; exact hk69_) hZ hEL (by rw [hh]; rw [e64]; exact C65) (v := none) (fun _ => rfl) hlk (fun hr => X64.returnOut hx Bd.returns (hb hby own_d2_116) hr) (by rw [e64]; exact ⟨rfl, N64, k66_, e67_x0, f68_x0, Fw64⟩) (by decide) (by decide)
theorem own_d40_26 : decode prog_56_method_3_code 26 = .ok (.aload_n 0, 1) := by decide +kernel
theorem own_d40_27 : decode prog_56_method_3_code 27 = .ok (.getfield 56, 3) := by decide +kernel
theorem own_d40_30 : decode prog_56_method_3_code 30 = .ok (.invokevirtual 32, 3) := by decide +kernel
theorem own_d40_33 : decode prog_56_method_3_code 33 = .ok (.iload_n 1, 1) := by decide +kernel
theorem own_d40_34 : decode prog_56_method_3_code 34 = .ok (.if_icmp .ge 7, 3) := by decide +kernel
theorem own_d40_37 : decode prog_56_method_3_code 37 = .ok (.iconst 1, 1) := by decide +kernel
theorem own_d40_38 : decode prog_56_method_3_code 38 = .ok (.goto 4, 3) := by decide +kernel
theorem own_d40_41 : decode prog_56_method_3_code 41 = .ok (.iconst 0, 1) := by decide +kernel
theorem own_cfB_ef (m : MethodId) (x0 : Addr) (mo : Int32) : entryFrame m #[(.ref x0), (.int mo)] 2 = mkF m 0 #[.val (.ref x0), .val (.int mo)] [] := by  first | (simp [entryFrame, mkF, argsToLocals, Value.category]; done) | rfl
def own_cfB_Q (Z : State) (x0 : Addr) (mo : Int32) (t : Addr) (x : Int32) (zCS : Int32) (dO : Addr) (dT : Addr) (ca : Addr) (cO : Cell) (cT : Cell) (cc : Cell) (h0 : Heap) (n0 : Nat) (v : Option Value) (h : Heap) (L : List Loc) : Prop := v = some (.int (if x < mo then 1 else 0)) ∧ Fr n0 L ∧ h = h0
set_option maxRecDepth 65536 in
set_option maxHeartbeats 40000000 in
theorem own_cfB (l : Launch) (Z : State) (a0 : Array Value) (hw : ∀ d ∈ tables_1, d.before a0 Z = true) (ws : List Jvm.Cond) (x0 : Addr) (mo : Int32) (t : Addr) (x : Int32) (zCS : Int32) (dO : Addr) (dT : Addr) (ca : Addr) (cO : Cell) (cT : Cell) (cc : Cell) (h0 : Heap) (n0 : Nat) (Z0 : n0 ≤ h0.size) (Cq : own_C Z zCS dO dT ca cO cT cc) (O0 : Old Z n0 h0) (A_x : Fld Z h0 x0 "com/example/abeyance/abeyance/plan/PayDay" "firstDayOfMonthAfter" "Ljava/lang/Integer;" .null) (B_x : Fld Z h0 x0 "com/example/abeyance/abeyance/plan/PayDay" "monthsAfter" "Ljava/lang/Integer;" (.ref t)) (E_t : Exa Z h0 t "java/lang/Integer") (V_t : Fld Z h0 t "java/lang/Integer" "value" "I" (.int x)) :
    MetFree l own_y1 (head1 (Jvm.Cond.code own_y1 prog_56_method_3_code 2 (some .boolean) :: ws) (⟨1, 0, 0, 12⟩ : Room)) (fun aa U => aa = #[(.ref x0), (.int mo)] ∧ Z.Warmed39 U.vm ∧ U.heap = h0) (fun _ _ _ _ _ => True) (fun _ U o U' => ∃ v L, o = .returned v ∧ own_cfB_Q Z x0 mo t x zCS dO dT ca cO cT cc h0 n0 v U'.heap L ∧ FrameEnd U o U' L (⟨1, 0, 0, 12⟩ : Room).cells (⟨1, 0, 0, 12⟩ : Room).slots) := by
  refine MetFree.of_bodySF (plainFor_of_name own_pn_com_example_abeyance_abeyance_plan_PayDay) hisR ?_
  intro p e s m args below meth c s₁ Bd hml0 hP hK
  obtain ⟨rfl, hZ, hh⟩ := hP
  have hx := Bd.exec
  have hby := Bd.bytes
  have hml : c.maxLocals = 2 := hml0
  have hown : s.vm.findClass "com/example/abeyance/abeyance/plan/PayDay" = some m.cls := findClass_of_methodNamed Bd.named
  have hnm := (name_of_methodNamed Bd.named Bd.method).1
  have hlk := Bd.notSynchronized
  have X0 : Stand p l e (⟨1, 0, 0, 12⟩ : Room) s m #[(.ref x0), (.int mo)] below meth c s₁ [] 0 0 := Stand.of_body Bd
  have e0 : s₁.heap = h0 := by rw [← hh, Bd.state]; rfl
  have N0 := Fr.nil n0
  refine own_start (Q := own_cfB_Q Z x0 mo t x zCS dO dT ca cO cT cc h0 n0) (own_cfB_ef m x0 mo) ?_
  refine own_g (mkF m 1 #[.val (.ref x0), .val (.int mo)] [(.ref x0)]) (fun _ q => XS.aloadN X0.here hx rfl (hb hby own_d40_0) rfl rfl q) ?_
  obtain ⟨T1, X1, e1, st1⟩ := getF X0 hx hZ hown (host := "") (Or.inl (own_h hw 210 rfl)) Via.refl e0 A_x (g := (mkF m 1 #[.val (.ref x0), .val (.int mo)] [(.ref x0)])) rfl rfl (hb hby own_d40_1)
  refine own_by (g' := (mkF m 4 #[.val (.ref x0), .val (.int mo)] [.null])) st1 ?_
  refine own_g (mkF m 27 #[.val (.ref x0), .val (.int mo)] [(.ref x0)]) (fun _ q => XS.ifnullYes X1.here hx rfl (pc0 := 4) (pc' := 26) rfl (hb hby own_d40_4) rfl (by decide) (by decide) (XS.aloadN X1.here hx rfl (hb hby own_d40_26) rfl rfl q)) ?_
  obtain ⟨T2, X2, e2, st2⟩ := getF X1 hx hZ hown (host := "") (Or.inl (own_h hw 212 rfl)) Via.refl e1 B_x (g := (mkF m 27 #[.val (.ref x0), .val (.int mo)] [(.ref x0)])) rfl rfl (hb hby own_d40_27)
  refine own_by (g' := (mkF m 30 #[.val (.ref x0), .val (.int mo)] [(.ref t)])) st2 ?_
  refine own_callV X2 hx hZ (y := own_y15) (z := own_y15) hown (own_h hw 195 rfl) (own_h hw 196 rfl) (own_nf (own_h hw 198 rfl)) (own_h hw 198 rfl) (own_h hw 197 rfl) (own_h hw 199 rfl) (own_h hw 7 rfl) (by decide) E_t (own_iv l Z a0 hw [] t x zCS dO dT ca cO cT cc h0 n0 Z0 Cq O0 E_t V_t) (by decide) (by decide) e2 (g := (mkF m 30 #[.val (.ref x0), .val (.int mo)] [(.ref t)])) rfl (by rw [hml]; rfl) (argsL := []) (rest := []) (lenOf own_pd__28_29I rfl) rfl (W := 0) (by show 2 * 0 + _ ≤ _; exact Nat.le_of_eq rfl) (hb hby own_d40_30) rfl (by decide) (by decide) ?_
  rintro rv3 T3 L3 X3 ⟨rfl, Nq3, eh3⟩
  have N3 := Fr.app N0 Nq3
  refine own_g (mkF m 34 #[.val (.ref x0), .val (.int mo)] [(.int mo), (.int x)]) (fun _ q => XS.iloadN X3.here hx rfl (hb hby own_d40_33) rfl q) ?_
  by_cases hc4 : x < mo
  · refine own_g (mkF m 42 #[.val (.ref x0), .val (.int mo)] [(.int 1)]) (fun _ q => XS.icmpNo X3.here hx rfl (hb hby own_d40_34) rfl (tlt hc4).2.1 (XS.iconst X3.here hx rfl (hb hby own_d40_37) (XS.goto X3.here hx rfl (pc0 := 38) (pc' := 42) rfl (hb hby own_d40_38) (by decide) (by decide) q))) ?_
    exact own_end X3 (v := some (.int (nar .boolean (1 : Int32)))) (fun h => by rw [Bd.returns] at h; cases h) hlk (fun hr => retN X3 hx (t := .boolean) Bd.returns (by simp) (hb hby own_d40_42) hr) (by rw [eh3]; exact ⟨by rw [if_pos hc4]; rfl, N3, rfl⟩) (by decide) (by decide)
  · refine own_g (mkF m 42 #[.val (.ref x0), .val (.int mo)] [(.int 0)]) (fun _ q => XS.icmpYes X3.here hx rfl (pc0 := 34) (pc' := 41) rfl (hb hby own_d40_34) rfl (flt hc4).2.1 (by decide) (by decide) (XS.iconst X3.here hx rfl (hb hby own_d40_41) q)) ?_
    exact own_end X3 (v := some (.int (nar .boolean (0 : Int32)))) (fun h => by rw [Bd.returns] at h; cases h) hlk (fun hr => retN X3 hx (t := .boolean) Bd.returns (by simp) (hb hby own_d40_42) hr) (by rw [eh3]; exact ⟨by rw [if_neg hc4]; rfl, N3, rfl⟩) (by decide) (by decide)
theorem own_irr (k : Int32) : ¬ k < k := own_nl (by omega)
theorem own_a1 {k : Int32} (h : ¬ k < (1 : Int32)) : (k - (1 : Int32)) < k := by
  have c1 : (1 : Int32).toInt = 1 := by decide
  have q : ¬ k.toInt < 1 := fun z => h (own_lt (by omega))
  have a := c_isub k 1
  have b := rng32 (k - 1)
  have r := rng32 k
  exact own_lt (by omega)
theorem own_k1 {k : Int32} (h : ¬ (119999 : Int32) < k) : (k + (1 : Int32)).toInt = k.toInt + 1 := by
  have c1 : (1 : Int32).toInt = 1 := by decide
  have c2 : (119999 : Int32).toInt = 119999 := by decide
  have q : ¬ 119999 < k.toInt := fun z => h (own_lt (by omega))
  have a := c_iadd k 1
  have b := rng32 (k + 1)
  have r := rng32 k
  omega
theorem own_b1 {k p : Int32} (h : ¬ (119999 : Int32) < k) (q : p < (k + (1 : Int32))) : ¬ k < p := own_nl (by have a := own_k1 h; have b := Int32.lt_iff_toInt_lt.mp q; omega)
theorem own_b2 {k p : Int32} (h : ¬ (119999 : Int32) < k) (q : ¬ p < (k + (1 : Int32))) : k < p := own_lt (by have a := own_k1 h; have b : ¬ p.toInt < (k + 1).toInt := fun z => q (own_lt z); omega)
theorem own_b3 {k : Int32} (h : ¬ (119999 : Int32) < k) : k < (k + (1 : Int32)) := own_lt (by have a := own_k1 h; omega)
theorem own_b4 {k : Int32} (h : ¬ (119999 : Int32) < k) : ¬ k < ((k + (1 : Int32)) - (1 : Int32)) := own_nl (by
  have a := own_k1 h
  have c1 : (1 : Int32).toInt = 1 := by decide
  have b := c_isub (k + 1) 1
  have r := rng32 ((k + 1) - 1)
  have r2 := rng32 k
  have r3 := rng32 (k + 1)
  omega)
theorem own_pd__28I_29Ljava_2flang_2fInteger_3b : parseMethodDescriptor "(I)Ljava/lang/Integer;" = some ⟨[.int], some (.object "java/lang/Integer")⟩ := by decide +kernel
theorem own_pd__28Ljava_2flang_2fInteger_3bLjava_2flang_2fInteger_3b_29V : parseMethodDescriptor "(Ljava/lang/Integer;Ljava/lang/Integer;)V" = some ⟨[(.object "java/lang/Integer"), (.object "java/lang/Integer")], none⟩ := by decide +kernel
theorem own_pd__28I_29Z : parseMethodDescriptor "(I)Z" = some ⟨[.int], some .boolean⟩ := by decide +kernel
theorem own_rm0_ef (m : MethodId) (p0 : Int32) (p1 : Int32) (p2 : Int32) : entryFrame m #[(.int p0), (.int p1), (.int p2)] maxLocals = mkF m 0 #[.val (.int p0), .val (.int p1), .val (.int p2), .unset, .unset, .unset, .unset, .unset, .unset, .unset] [] := by  first | (simp [entryFrame, mkF, argsToLocals, Value.category, maxLocals]; done) | rfl
def own_rm0_Q (Z : State) (p0 : Int32) (p1 : Int32) (p2 : Int32) (zCS : Int32) (dO : Addr) (dT : Addr) (ca : Addr) (cO : Cell) (cT : Cell) (cc : Cell) (h0 : Heap) (n0 : Nat) (v : Option Value) (h : Heap) (L : List Loc) : Prop := v = some (.int 1) ∧ Fr n0 L
theorem own_pn_com_example_abeyance_abeyance_plan_PayDayCanFallBeforePinLaw : plainName "com/example/abeyance/abeyance/plan/PayDayCanFallBeforePinLaw" = true := by first | (simp [plainName, overriddenIn]; done) | decide +kernel
set_option maxRecDepth 65536 in
set_option maxHeartbeats 40000000 in
theorem own_rm0 (l : Launch) (Z : State) (a0 : Array Value) (hw : ∀ d ∈ tables_1, d.before a0 Z = true) (ws : List Jvm.Cond) (p0 : Int32) (p1 : Int32) (p2 : Int32) (zCS : Int32) (dO : Addr) (dT : Addr) (ca : Addr) (cO : Cell) (cT : Cell) (cc : Cell) (h0 : Heap) (n0 : Nat) (Z0 : n0 ≤ h0.size) (Cq : own_C Z zCS dO dT ca cO cT cc) (O0 : Old Z n0 h0) :
    MetFree l x (head1 (Jvm.Cond.code x code maxLocals ret :: ws) room_1) (fun aa U => aa = #[(.int p0), (.int p1), (.int p2)] ∧ Z.Warmed39 U.vm ∧ U.heap = h0 ∧ CHv Z consts_1 U.vm h0) (fun _ _ _ _ _ => True) (fun _ U o U' => ∃ v L, o = .returned v ∧ own_rm0_Q Z p0 p1 p2 zCS dO dT ca cO cT cc h0 n0 v U'.heap L ∧ CHr Z consts_1 U.vm U.heap U'.vm U'.heap ∧ ReturnedEndW U o U' L room_1.cells room_1.slots) := by
  refine MetFree.of_bodySF (plainFor_of_name own_pn_com_example_abeyance_abeyance_plan_PayDayCanFallBeforePinLaw) hisR ?_
  intro p e s m args below meth c s₁ Bd hml0 hP hK
  obtain ⟨rfl, hZ, hh, CH0⟩ := hP
  have hx := Bd.exec
  have hby := Bd.bytes
  have hml : c.maxLocals = 10 := hml0
  have hown : s.vm.findClass "com/example/abeyance/abeyance/plan/PayDayCanFallBeforePinLaw" = some m.cls := findClass_of_methodNamed Bd.named
  have hnm := (name_of_methodNamed Bd.named Bd.method).1
  have hlk := Bd.notSynchronized
  have X0 : Stand p l e room_1 (s.setVm s.vm) m #[(.int p0), (.int p1), (.int p2)] below meth c s₁ [] 0 0 := Stand.of_body Bd
  have e0 : s₁.heap = h0 := by rw [← hh, Bd.state]; rfl
  have N0 := Fr.nil n0
  have hS : s.Since s.vm 0 := (State.WarmedH.refl s).since 0
  have hk0 : 0 ≤ h0.size := Nat.zero_le _
  have wS := own_wS hw
  have C0 : CHr Z consts_1 s.vm h0 s.vm h0 := CHr.refl CH0
  have hEL := own_hEL hw
  refine own_startW (EL := consts_1) (Q := own_rm0_Q Z p0 p1 p2 zCS dO dT ca cO cT cc h0 n0) (own_rm0_ef m p0 p1 p2) ?_
  refine own_g (mkF m 3 #[.val (.int p0), .val (.int p1), .val (.int p2), .unset, .unset, .unset, .unset, .unset, .unset, .unset] [(.int (p0 &&& (1 : Int32)))]) (fun _ q => XS.iloadN X0.here hx rfl (hb hby at_0) rfl (XS.iconst X0.here hx rfl (hb hby at_1) (XS.iand X0.here hx rfl (hb hby at_2) rfl q))) ?_
  by_cases hc1 : (p0 &&& (1 : Int32)) = (0 : Int32)
  · refine own_g (mkF m 50 #[.val (.int p0), .val (.int p1), .val (.int p2), .val (.int 0), .unset, .unset, .unset, .unset, .unset, .unset] [(.int p1)]) (fun _ q => XS.ifYes X0.here hx rfl (pc0 := 3) (pc' := 10) rfl (hb hby at_3) rfl ((if0 _ _).trans (teq hc1).1) (by decide) (by decide) (XS.iconst X0.here hx rfl (hb hby at_10) (XS.istoreN X0.here hx rfl (hb hby at_11) rfl (l' := #[.val (.int p0), .val (.int p1), .val (.int p2), .val (.int 0), .unset, .unset, .unset, .unset, .unset, .unset]) rfl (XS.iloadN X0.here hx rfl (hb hby at_12) rfl (XS.ifYes X0.here hx rfl (pc0 := 13) (pc' := 49) rfl (hb hby at_13) rfl ((if0 _ _).trans (teq (by decide : (0 : Int32) = (0 : Int32))).1) (by decide) (by decide) (XS.iloadN X0.here hx rfl (hb hby at_49) rfl q)))))) ?_
    refine own_by (g' := (mkF m 52 #[.val (.int p0), .val (.int p1), .val (.int p2), .val (.int 0), .unset, .unset, .unset, .unset, .unset, .unset] [(.int 2147483647), (.int p1)])) (fun _ kq => X0.ldcInt hx hown (mvT hZ (own_h hw 0 rfl)) (g := (mkF m 50 #[.val (.int p0), .val (.int p1), .val (.int p2), .val (.int 0), .unset, .unset, .unset, .unset, .unset, .unset] [(.int p1)])) rfl (hb hby at_50) _ kq) ?_
    refine own_g (mkF m 53 #[.val (.int p0), .val (.int p1), .val (.int p2), .val (.int 0), .unset, .unset, .unset, .unset, .unset, .unset] [(.int (p1 &&& (2147483647 : Int32)))]) (fun _ q => XS.iand X0.here hx rfl (hb hby at_52) rfl q) ?_
    refine own_by (g' := (mkF m 55 #[.val (.int p0), .val (.int p1), .val (.int p2), .val (.int 0), .unset, .unset, .unset, .unset, .unset, .unset] [(.int 120000), (.int (p1 &&& (2147483647 : Int32)))])) (fun _ kq => X0.ldcInt hx hown (mvT hZ (own_h hw 1 rfl)) (g := (mkF m 53 #[.val (.int p0), .val (.int p1), .val (.int p2), .val (.int 0), .unset, .unset, .unset, .unset, .unset, .unset] [(.int (p1 &&& (2147483647 : Int32)))])) rfl (hb hby at_53) _ kq) ?_
    refine own_by (g' := (mkF m 56 #[.val (.int p0), .val (.int p1), .val (.int p2), .val (.int 0), .unset, .unset, .unset, .unset, .unset, .unset] [(.int ((p1 &&& (2147483647 : Int32)) % (120000 : Int32)))])) (fun _ kq => Jvm.RoadKit.iremM (g := (mkF m 55 #[.val (.int p0), .val (.int p1), .val (.int p2), .val (.int 0), .unset, .unset, .unset, .unset, .unset, .unset] [(.int 120000), (.int (p1 &&& (2147483647 : Int32)))])) X0 hx rfl (hb hby at_55) rfl (by decide) kq) ?_
    have hr := own_rem p1 (120000 : Int32) 120000 (by decide) (by decide)
    generalize hkk : ((p1 &&& (2147483647 : Int32)) % (120000 : Int32)) = k at hr ⊢
    have hkb : 0 ≤ k.toInt ∧ k.toInt ≤ 119999 := by omega
    have hxb : 0 ≤ k.toInt ∧ k.toInt < 1000000 := by omega
    have cM : (119999 : Int32).toInt = 119999 := by decide
    have cm : (0 : Int32).toInt = 0 := by decide
    have hmin : ¬ k < (0 : Int32) := own_nl (by omega)
    have hmax : ¬ (119999 : Int32) < k := own_nl (by omega)
    show own_Fin p e below _ s₁ (mkF m 56 #[.val (.int p0), .val (.int p1), .val (.int p2), .val (.int 0), .unset, .unset, .unset, .unset, .unset, .unset] [(.int k)])
    refine own_g (mkF m 58 #[.val (.int p0), .val (.int p1), .val (.int p2), .val (.int 0), .unset, .unset, .val (.int k), .unset, .unset, .unset] []) (fun _ q => XS.istore X0.here hx rfl (hb hby at_56) rfl (l' := #[.val (.int p0), .val (.int p1), .val (.int p2), .val (.int 0), .unset, .unset, .val (.int k), .unset, .unset, .unset]) rfl q) ?_
    obtain ⟨T2, h2, X2, e2, E2, A2, D2, U2, st2⟩ := newO X0 hx hZ hown (own_h hw 2 rfl) (own_h hw 3 rfl) (own_h hw 4 rfl) e0 (g := (mkF m 58 #[.val (.int p0), .val (.int p1), .val (.int p2), .val (.int 0), .unset, .unset, .val (.int k), .unset, .unset, .unset] [])) rfl (hb hby at_58) (by decide) (by decide)
    obtain ⟨b2, g2⟩ : ∃ z, z = h0.size := ⟨_, rfl⟩
    rw [← g2] at A2 D2 U2 st2
    have g_b2 : n0 ≤ b2 := Nat.le_trans Z0 (Nat.le_of_eq g2.symm)
    have sz_b2 : h0.size ≤ b2 := Nat.le_trans (Keep.refl h0 []).1 (Nat.le_of_eq g2.symm)
    have sf_b2 : Safe Z consts_1 s.vm h0 b2 := Safe.new (Nat.le_of_eq g2.symm)
    have C3 := C0.trans (CHr.ext E2 C0.1)
    have F_firstDayOfMonthAfter_b2 : Fld Z h2 b2 "com/example/abeyance/abeyance/plan/PayDay" "firstDayOfMonthAfter" "Ljava/lang/Integer;" .null := D2 (Or.inr (own_h hw 211 rfl)) (ty := (.object "java/lang/Integer")) (by decide)
    have F_monthsAfter_b2 : Fld Z h2 b2 "com/example/abeyance/abeyance/plan/PayDay" "monthsAfter" "Ljava/lang/Integer;" .null := D2 (Or.inr (own_h hw 213 rfl)) (ty := (.object "java/lang/Integer")) (by decide)
    refine own_by (g' := (mkF m 61 #[.val (.int p0), .val (.int p1), .val (.int p2), .val (.int 0), .unset, .unset, .val (.int k), .unset, .unset, .unset] [(.ref b2)])) st2 ?_
    refine own_g (mkF m 65 #[.val (.int p0), .val (.int p1), .val (.int p2), .val (.int 0), .unset, .unset, .val (.int k), .unset, .unset, .unset] [(.int k), .null, (.ref b2), (.ref b2)]) (fun _ q => XS.dup X2.here hx rfl (hb hby at_61) rfl rfl (XS.aconstNull X2.here hx rfl (hb hby at_62) (XS.iload X2.here hx rfl (hb hby at_63) rfl q))) ?_
    have k4_ := ((Keep.refl h0 []).ext E2)
    have o5_ := (O0.ext E2)
    refine own_callS X2 hx hZ (y := own_y19) hown (own_h hw 5 rfl) (own_h hw 6 rfl) (own_h hw 7 rfl) (own_h hw 8 rfl) (by decide) (own_val l Z a0 hw [] k zCS dO dT ca cO cT cc h2 n0 (Nat.le_trans Z0 k4_.1) Cq o5_ hxb) (by decide) (by decide) e2 (g := (mkF m 65 #[.val (.int p0), .val (.int p1), .val (.int p2), .val (.int 0), .unset, .unset, .val (.int k), .unset, .unset, .unset] [(.int k), .null, (.ref b2), (.ref b2)])) rfl (by rw [hml]; rfl) (argsL := [(.int k)]) (rest := [.null, (.ref b2), (.ref b2)]) (lenOf own_pd__28I_29Ljava_2flang_2fInteger_3b rfl) rfl (W := 3) (by show 2 * 0 + _ ≤ _; exact Nat.le_of_eq rfl) (hb hby at_65) rfl (by decide) (by decide) ?_
    rintro rv6 T6 L6 X6 ⟨t, rfl, Nq6, Kq6, Et6, Vt6, ny6⟩
    have N6 := Fr.app N0 Nq6
    show own_Fin p e below _ T6 (mkF m 68 #[.val (.int p0), .val (.int p1), .val (.int p2), .val (.int 0), .unset, .unset, .val (.int k), .unset, .unset, .unset] [(.ref t), .null, (.ref b2), (.ref b2)])
    have n_tx : t ≠ b2 := ny6 b2 g_b2 A2.lt
    have C7 := C3.trans (CHr.keep Kq6 sf0 C3.1)
    have e8_b2 := (A2.keep Kq6)
    have f9_b2 := (F_firstDayOfMonthAfter_b2.keep Kq6 nin0)
    have f10_b2 := (F_monthsAfter_b2.keep Kq6 nin0)
    have k11_ := (k4_.trans Kq6 all0)
    have o12_ := (o5_.keep Kq6 all0)
    have sf13_b2 := (Safe.keep Kq6 sf0 C3.1 (sf_b2.ext E2 C0.1))
    have hk15_ := (Nat.le_trans (Nat.le_trans hk0 E2.1) Kq6.1)
    refine own_callIW X6 hx hZ (y := own_y0) rfl hown (own_h hw 12 rfl) (own_h hw 13 rfl) (own_h hw 14 rfl) (own_h hw 4 rfl) (by decide) hS hk15_ hEL C7.1 (own_pdB l Z a0 hw [] b2 t k zCS dO dT ca cO cT cc T6.heap n0 (Nat.le_trans Z0 k11_.1) Cq o12_ e8_b2 f9_b2 f10_b2 g_b2 Et6 Vt6 hxb n_tx hmin hmax) (by decide) (by decide) rfl (g := (mkF m 68 #[.val (.int p0), .val (.int p1), .val (.int p2), .val (.int 0), .unset, .unset, .val (.int k), .unset, .unset, .unset] [(.ref t), .null, (.ref b2), (.ref b2)])) rfl (by rw [hml]; rfl) (argsL := [.null, (.ref t)]) (rest := [(.ref b2)]) (lenOf own_pd__28Ljava_2flang_2fInteger_3bLjava_2flang_2fInteger_3b_29V rfl) rfl (W := 1) (by show 2 * 0 + _ ≤ _; exact Nat.le_of_eq rfl) (hb hby at_68) rfl (by decide) (by decide) ?_
    rintro rv14 T14 L14 X14 hS hZ hown CH14 ⟨rfl, Nq14, Kq14, Ex14, Fa14, Fb14⟩
    have N14 := Fr.app N6 Nq14
    show own_Fin p e below _ T14 (mkF m 71 #[.val (.int p0), .val (.int p1), .val (.int p2), .val (.int 0), .unset, .unset, .val (.int k), .unset, .unset, .unset] [(.ref b2)])
    have sf17 := CH14.safe e8_b2.lt sf13_b2
    have C16 := C7.trans CH14
    refine own_g (mkF m 82 #[.val (.int p0), .val (.int p1), .val (.int p2), .val (.int 0), .val (.ref b2), .val (.int (k + (1 : Int32))), .val (.int k), .unset, .unset, .unset] [(.int (k + (1 : Int32))), (.int p2)]) (fun _ q => XS.astore X14.here hx rfl (hb hby at_71) rfl rfl (l' := #[.val (.int p0), .val (.int p1), .val (.int p2), .val (.int 0), .val (.ref b2), .unset, .val (.int k), .unset, .unset, .unset]) rfl (XS.iload X14.here hx rfl (hb hby at_73) rfl (XS.iconst X14.here hx rfl (hb hby at_75) (XS.iadd X14.here hx rfl (hb hby at_76) rfl (XS.istore X14.here hx rfl (hb hby at_77) rfl (l' := #[.val (.int p0), .val (.int p1), .val (.int p2), .val (.int 0), .val (.ref b2), .val (.int (k + (1 : Int32))), .val (.int k), .unset, .unset, .unset]) rfl (XS.iloadN X14.here hx rfl (hb hby at_79) rfl (XS.iload X14.here hx rfl (hb hby at_80) rfl q))))))) ?_
    by_cases hc18 : p2 < (k + (1 : Int32))
    · refine own_g (mkF m 96 #[.val (.int p0), .val (.int p1), .val (.int p2), .val (.int 0), .val (.ref b2), .val (.int (k + (1 : Int32))), .val (.int 0), .unset, .unset, .unset] [(.int (k + (1 : Int32))), (.ref b2)]) (fun _ q => XS.icmpYes X14.here hx rfl (pc0 := 82) (pc' := 89) rfl (hb hby at_82) rfl (tlt hc18).1 (by decide) (by decide) (XS.iconst X14.here hx rfl (hb hby at_89) (XS.istore X14.here hx rfl (hb hby at_90) rfl (l' := #[.val (.int p0), .val (.int p1), .val (.int p2), .val (.int 0), .val (.ref b2), .val (.int (k + (1 : Int32))), .val (.int 0), .unset, .unset, .unset]) rfl (XS.aload X14.here hx rfl (hb hby at_92) rfl rfl (XS.iload X14.here hx rfl (hb hby at_94) rfl q))))) ?_
      have e19_t := (Et6.keep Kq14)
      have f20_t := (Vt6.keep Kq14 (ninS n_tx nin0))
      have k21_ := (k11_.trans Kq14 (allS (Or.inr sz_b2) all0))
      have o22_ := (o12_.keep Kq14 (allS g_b2 all0))
      refine own_callV X14 hx hZ (y := own_y1) (z := own_y1) hown (own_h hw 214 rfl) (own_h hw 215 rfl) (own_nf (own_h hw 217 rfl)) (own_h hw 217 rfl) (own_h hw 216 rfl) (own_h hw 218 rfl) (own_h hw 4 rfl) (by decide) Ex14 (own_cfB l Z a0 hw [] b2 (k + (1 : Int32)) t k zCS dO dT ca cO cT cc T14.heap n0 (Nat.le_trans Z0 k21_.1) Cq o22_ Fa14 Fb14 e19_t f20_t) (by decide) (by decide) rfl (g := (mkF m 96 #[.val (.int p0), .val (.int p1), .val (.int p2), .val (.int 0), .val (.ref b2), .val (.int (k + (1 : Int32))), .val (.int 0), .unset, .unset, .unset] [(.int (k + (1 : Int32))), (.ref b2)])) rfl (by rw [hml]; rfl) (argsL := [(.int (k + (1 : Int32)))]) (rest := []) (lenOf own_pd__28I_29Z rfl) rfl (W := 0) (by show 2 * 0 + _ ≤ _; exact Nat.le_of_eq rfl) (hb hby at_96) rfl (by decide) (by decide) ?_
      rintro rv23 T23 L23 X23 ⟨hv23, Nq23, eh23⟩
      have N23 := Fr.app N14 Nq23
      rw [if_pos (own_b3 hmax)] at hv23
      subst hv23
      refine own_g (mkF m 107 #[.val (.int p0), .val (.int p1), .val (.int p2), .val (.int 0), .val (.ref b2), .val (.int (k + (1 : Int32))), .val (.int 0), .val (.int 1), .unset, .unset] [(.int ((k + (1 : Int32)) - (1 : Int32))), (.ref b2)]) (fun _ q => XS.istore X23.here hx rfl (hb hby at_99) rfl (l' := #[.val (.int p0), .val (.int p1), .val (.int p2), .val (.int 0), .val (.ref b2), .val (.int (k + (1 : Int32))), .val (.int 0), .val (.int 1), .unset, .unset]) rfl (XS.aload X23.here hx rfl (hb hby at_101) rfl rfl (XS.iload X23.here hx rfl (hb hby at_103) rfl (XS.iconst X23.here hx rfl (hb hby at_105) (XS.isub X23.here hx rfl (hb hby at_106) rfl q))))) ?_
      refine own_callV X23 hx hZ (y := own_y1) (z := own_y1) hown (own_h hw 214 rfl) (own_h hw 215 rfl) (own_nf (own_h hw 217 rfl)) (own_h hw 217 rfl) (own_h hw 216 rfl) (own_h hw 218 rfl) (own_h hw 4 rfl) (by decide) Ex14 (own_cfB l Z a0 hw [] b2 ((k + (1 : Int32)) - (1 : Int32)) t k zCS dO dT ca cO cT cc T14.heap n0 (Nat.le_trans Z0 k21_.1) Cq o22_ Fa14 Fb14 e19_t f20_t) (by decide) (by decide) eh23 (g := (mkF m 107 #[.val (.int p0), .val (.int p1), .val (.int p2), .val (.int 0), .val (.ref b2), .val (.int (k + (1 : Int32))), .val (.int 0), .val (.int 1), .unset, .unset] [(.int ((k + (1 : Int32)) - (1 : Int32))), (.ref b2)])) rfl (by rw [hml]; rfl) (argsL := [(.int ((k + (1 : Int32)) - (1 : Int32)))]) (rest := []) (lenOf own_pd__28I_29Z rfl) rfl (W := 0) (by show 2 * 0 + _ ≤ _; exact Nat.le_of_eq rfl) (hb hby at_107) rfl (by decide) (by decide) ?_
      rintro rv24 T24 L24 X24 ⟨hv24, Nq24, eh24⟩
      have N24 := Fr.app N23 Nq24
      rw [if_neg (own_b4 hmax)] at hv24
      subst hv24
      refine own_g (mkF m 115 #[.val (.int p0), .val (.int p1), .val (.int p2), .val (.int 0), .val (.ref b2), .val (.int (k + (1 : Int32))), .val (.int 0), .val (.int 1), .val (.int 0), .unset] [(.int p2), (.ref b2)]) (fun _ q => XS.istore X24.here hx rfl (hb hby at_110) rfl (l' := #[.val (.int p0), .val (.int p1), .val (.int p2), .val (.int 0), .val (.ref b2), .val (.int (k + (1 : Int32))), .val (.int 0), .val (.int 1), .val (.int 0), .unset]) rfl (XS.aload X24.here hx rfl (hb hby at_112) rfl rfl (XS.iloadN X24.here hx rfl (hb hby at_114) rfl q))) ?_
      refine own_callV X24 hx hZ (y := own_y1) (z := own_y1) hown (own_h hw 214 rfl) (own_h hw 215 rfl) (own_nf (own_h hw 217 rfl)) (own_h hw 217 rfl) (own_h hw 216 rfl) (own_h hw 218 rfl) (own_h hw 4 rfl) (by decide) Ex14 (own_cfB l Z a0 hw [] b2 p2 t k zCS dO dT ca cO cT cc T14.heap n0 (Nat.le_trans Z0 k21_.1) Cq o22_ Fa14 Fb14 e19_t f20_t) (by decide) (by decide) eh24 (g := (mkF m 115 #[.val (.int p0), .val (.int p1), .val (.int p2), .val (.int 0), .val (.ref b2), .val (.int (k + (1 : Int32))), .val (.int 0), .val (.int 1), .val (.int 0), .unset] [(.int p2), (.ref b2)])) rfl (by rw [hml]; rfl) (argsL := [(.int p2)]) (rest := []) (lenOf own_pd__28I_29Z rfl) rfl (W := 0) (by show 2 * 0 + _ ≤ _; exact Nat.le_of_eq rfl) (hb hby at_115) rfl (by decide) (by decide) ?_
      rintro rv25 T25 L25 X25 ⟨hv25, Nq25, eh25⟩
      have N25 := Fr.app N24 Nq25
      rw [if_neg (own_b1 hmax hc18)] at hv25
      subst hv25
      refine own_g (mkF m 137 #[.val (.int p0), .val (.int p1), .val (.int p2), .val (.int 0), .val (.ref b2), .val (.int (k + (1 : Int32))), .val (.int 0), .val (.int 1), .val (.int 0), .val (.int 0)] []) (fun _ q => XS.istore X25.here hx rfl (hb hby at_118) rfl (l' := #[.val (.int p0), .val (.int p1), .val (.int p2), .val (.int 0), .val (.ref b2), .val (.int (k + (1 : Int32))), .val (.int 0), .val (.int 1), .val (.int 0), .val (.int 0)]) rfl (XS.iload X25.here hx rfl (hb hby at_120) rfl (XS.iload X25.here hx rfl (hb hby at_122) rfl (XS.icmpNo X25.here hx rfl (hb hby at_124) rfl (teq (by decide : (0 : Int32) = (0 : Int32))).2 (XS.iload X25.here hx rfl (hb hby at_127) rfl (XS.ifNo X25.here hx rfl (hb hby at_129) rfl ((if0 _ _).trans (feq (by decide : ¬ ((1 : Int32) = (0 : Int32)))).1) (XS.iload X25.here hx rfl (hb hby at_132) rfl (XS.ifNo X25.here hx rfl (hb hby at_134) rfl ((if0 _ _).trans (teq (by decide : (0 : Int32) = (0 : Int32))).2) q)))))))) ?_
      refine own_g (mkF m 142 #[.val (.int p0), .val (.int p1), .val (.int p2), .val (.int 0), .val (.ref b2), .val (.int (k + (1 : Int32))), .val (.int 0), .val (.int 1), .val (.int 0), .val (.int 0)] [(.int 1)]) (fun _ q => XS.iconst X25.here hx rfl (hb hby at_137) (XS.goto X25.here hx rfl (pc0 := 138) (pc' := 142) rfl (hb hby at_138) (by decide) (by decide) q)) ?_
      exact own_endW X25 hS (by rw [eh25]; exact (Nat.le_refl _)) hZ hEL (by rw [hh]; rw [eh25]; exact C16) (v := some (.int (nar .boolean (1 : Int32)))) (fun h => by rw [Bd.returns] at h; cases h) hlk (fun hr => retN X25 hx (t := .boolean) Bd.returns (by simp) (hb hby at_142) hr) (by rw [eh25]; exact ⟨rfl, N25⟩) (by decide) (by decide)
    · refine own_g (mkF m 96 #[.val (.int p0), .val (.int p1), .val (.int p2), .val (.int 0), .val (.ref b2), .val (.int (k + (1 : Int32))), .val (.int 1), .unset, .unset, .unset] [(.int (k + (1 : Int32))), (.ref b2)]) (fun _ q => XS.icmpNo X14.here hx rfl (hb hby at_82) rfl (flt hc18).1 (XS.iconst X14.here hx rfl (hb hby at_85) (XS.goto X14.here hx rfl (pc0 := 86) (pc' := 90) rfl (hb hby at_86) (by decide) (by decide) (XS.istore X14.here hx rfl (hb hby at_90) rfl (l' := #[.val (.int p0), .val (.int p1), .val (.int p2), .val (.int 0), .val (.ref b2), .val (.int (k + (1 : Int32))), .val (.int 1), .unset, .unset, .unset]) rfl (XS.aload X14.here hx rfl (hb hby at_92) rfl rfl (XS.iload X14.here hx rfl (hb hby at_94) rfl q)))))) ?_
      have e26_t := (Et6.keep Kq14)
      have f27_t := (Vt6.keep Kq14 (ninS n_tx nin0))
      have k28_ := (k11_.trans Kq14 (allS (Or.inr sz_b2) all0))
      have o29_ := (o12_.keep Kq14 (allS g_b2 all0))
      refine own_callV X14 hx hZ (y := own_y1) (z := own_y1) hown (own_h hw 214 rfl) (own_h hw 215 rfl) (own_nf (own_h hw 217 rfl)) (own_h hw 217 rfl) (own_h hw 216 rfl) (own_h hw 218 rfl) (own_h hw 4 rfl) (by decide) Ex14 (own_cfB l Z a0 hw [] b2 (k + (1 : Int32)) t k zCS dO dT ca cO cT cc T14.heap n0 (Nat.le_trans Z0 k28_.1) Cq o29_ Fa14 Fb14 e26_t f27_t) (by decide) (by decide) rfl (g := (mkF m 96 #[.val (.int p0), .val (.int p1), .val (.int p2), .val (.int 0), .val (.ref b2), .val (.int (k + (1 : Int32))), .val (.int 1), .unset, .unset, .unset] [(.int (k + (1 : Int32))), (.ref b2)])) rfl (by rw [hml]; rfl) (argsL := [(.int (k + (1 : Int32)))]) (rest := []) (lenOf own_pd__28I_29Z rfl) rfl (W := 0) (by show 2 * 0 + _ ≤ _; exact Nat.le_of_eq rfl) (hb hby at_96) rfl (by decide) (by decide) ?_
      rintro rv30 T30 L30 X30 ⟨hv30, Nq30, eh30⟩
      have N30 := Fr.app N14 Nq30
      rw [if_pos (own_b3 hmax)] at hv30
      subst hv30
      refine own_g (mkF m 107 #[.val (.int p0), .val (.int p1), .val (.int p2), .val (.int 0), .val (.ref b2), .val (.int (k + (1 : Int32))), .val (.int 1), .val (.int 1), .unset, .unset] [(.int ((k + (1 : Int32)) - (1 : Int32))), (.ref b2)]) (fun _ q => XS.istore X30.here hx rfl (hb hby at_99) rfl (l' := #[.val (.int p0), .val (.int p1), .val (.int p2), .val (.int 0), .val (.ref b2), .val (.int (k + (1 : Int32))), .val (.int 1), .val (.int 1), .unset, .unset]) rfl (XS.aload X30.here hx rfl (hb hby at_101) rfl rfl (XS.iload X30.here hx rfl (hb hby at_103) rfl (XS.iconst X30.here hx rfl (hb hby at_105) (XS.isub X30.here hx rfl (hb hby at_106) rfl q))))) ?_
      refine own_callV X30 hx hZ (y := own_y1) (z := own_y1) hown (own_h hw 214 rfl) (own_h hw 215 rfl) (own_nf (own_h hw 217 rfl)) (own_h hw 217 rfl) (own_h hw 216 rfl) (own_h hw 218 rfl) (own_h hw 4 rfl) (by decide) Ex14 (own_cfB l Z a0 hw [] b2 ((k + (1 : Int32)) - (1 : Int32)) t k zCS dO dT ca cO cT cc T14.heap n0 (Nat.le_trans Z0 k28_.1) Cq o29_ Fa14 Fb14 e26_t f27_t) (by decide) (by decide) eh30 (g := (mkF m 107 #[.val (.int p0), .val (.int p1), .val (.int p2), .val (.int 0), .val (.ref b2), .val (.int (k + (1 : Int32))), .val (.int 1), .val (.int 1), .unset, .unset] [(.int ((k + (1 : Int32)) - (1 : Int32))), (.ref b2)])) rfl (by rw [hml]; rfl) (argsL := [(.int ((k + (1 : Int32)) - (1 : Int32)))]) (rest := []) (lenOf own_pd__28I_29Z rfl) rfl (W := 0) (by show 2 * 0 + _ ≤ _; exact Nat.le_of_eq rfl) (hb hby at_107) rfl (by decide) (by decide) ?_
      rintro rv31 T31 L31 X31 ⟨hv31, Nq31, eh31⟩
      have N31 := Fr.app N30 Nq31
      rw [if_neg (own_b4 hmax)] at hv31
      subst hv31
      refine own_g (mkF m 115 #[.val (.int p0), .val (.int p1), .val (.int p2), .val (.int 0), .val (.ref b2), .val (.int (k + (1 : Int32))), .val (.int 1), .val (.int 1), .val (.int 0), .unset] [(.int p2), (.ref b2)]) (fun _ q => XS.istore X31.here hx rfl (hb hby at_110) rfl (l' := #[.val (.int p0), .val (.int p1), .val (.int p2), .val (.int 0), .val (.ref b2), .val (.int (k + (1 : Int32))), .val (.int 1), .val (.int 1), .val (.int 0), .unset]) rfl (XS.aload X31.here hx rfl (hb hby at_112) rfl rfl (XS.iloadN X31.here hx rfl (hb hby at_114) rfl q))) ?_
      refine own_callV X31 hx hZ (y := own_y1) (z := own_y1) hown (own_h hw 214 rfl) (own_h hw 215 rfl) (own_nf (own_h hw 217 rfl)) (own_h hw 217 rfl) (own_h hw 216 rfl) (own_h hw 218 rfl) (own_h hw 4 rfl) (by decide) Ex14 (own_cfB l Z a0 hw [] b2 p2 t k zCS dO dT ca cO cT cc T14.heap n0 (Nat.le_trans Z0 k28_.1) Cq o29_ Fa14 Fb14 e26_t f27_t) (by decide) (by decide) eh31 (g := (mkF m 115 #[.val (.int p0), .val (.int p1), .val (.int p2), .val (.int 0), .val (.ref b2), .val (.int (k + (1 : Int32))), .val (.int 1), .val (.int 1), .val (.int 0), .unset] [(.int p2), (.ref b2)])) rfl (by rw [hml]; rfl) (argsL := [(.int p2)]) (rest := []) (lenOf own_pd__28I_29Z rfl) rfl (W := 0) (by show 2 * 0 + _ ≤ _; exact Nat.le_of_eq rfl) (hb hby at_115) rfl (by decide) (by decide) ?_
      rintro rv32 T32 L32 X32 ⟨hv32, Nq32, eh32⟩
      have N32 := Fr.app N31 Nq32
      rw [if_pos (own_b2 hmax hc18)] at hv32
      subst hv32
      refine own_g (mkF m 137 #[.val (.int p0), .val (.int p1), .val (.int p2), .val (.int 0), .val (.ref b2), .val (.int (k + (1 : Int32))), .val (.int 1), .val (.int 1), .val (.int 0), .val (.int 1)] []) (fun _ q => XS.istore X32.here hx rfl (hb hby at_118) rfl (l' := #[.val (.int p0), .val (.int p1), .val (.int p2), .val (.int 0), .val (.ref b2), .val (.int (k + (1 : Int32))), .val (.int 1), .val (.int 1), .val (.int 0), .val (.int 1)]) rfl (XS.iload X32.here hx rfl (hb hby at_120) rfl (XS.iload X32.here hx rfl (hb hby at_122) rfl (XS.icmpNo X32.here hx rfl (hb hby at_124) rfl (teq (by decide : (1 : Int32) = (1 : Int32))).2 (XS.iload X32.here hx rfl (hb hby at_127) rfl (XS.ifNo X32.here hx rfl (hb hby at_129) rfl ((if0 _ _).trans (feq (by decide : ¬ ((1 : Int32) = (0 : Int32)))).1) (XS.iload X32.here hx rfl (hb hby at_132) rfl (XS.ifNo X32.here hx rfl (hb hby at_134) rfl ((if0 _ _).trans (teq (by decide : (0 : Int32) = (0 : Int32))).2) q)))))))) ?_
      refine own_g (mkF m 142 #[.val (.int p0), .val (.int p1), .val (.int p2), .val (.int 0), .val (.ref b2), .val (.int (k + (1 : Int32))), .val (.int 1), .val (.int 1), .val (.int 0), .val (.int 1)] [(.int 1)]) (fun _ q => XS.iconst X32.here hx rfl (hb hby at_137) (XS.goto X32.here hx rfl (pc0 := 138) (pc' := 142) rfl (hb hby at_138) (by decide) (by decide) q)) ?_
      exact own_endW X32 hS (by rw [eh32]; exact (Nat.le_refl _)) hZ hEL (by rw [hh]; rw [eh32]; exact C16) (v := some (.int (nar .boolean (1 : Int32)))) (fun h => by rw [Bd.returns] at h; cases h) hlk (fun hr => retN X32 hx (t := .boolean) Bd.returns (by simp) (hb hby at_142) hr) (by rw [eh32]; exact ⟨rfl, N32⟩) (by decide) (by decide)
  · refine own_g (mkF m 18 #[.val (.int p0), .val (.int p1), .val (.int p2), .val (.int 1), .unset, .unset, .unset, .unset, .unset, .unset] [(.int p1), (.int 1)]) (fun _ q => XS.ifNo X0.here hx rfl (hb hby at_3) rfl ((if0 _ _).trans (feq hc1).1) (XS.iconst X0.here hx rfl (hb hby at_6) (XS.goto X0.here hx rfl (pc0 := 7) (pc' := 11) rfl (hb hby at_7) (by decide) (by decide) (XS.istoreN X0.here hx rfl (hb hby at_11) rfl (l' := #[.val (.int p0), .val (.int p1), .val (.int p2), .val (.int 1), .unset, .unset, .unset, .unset, .unset, .unset]) rfl (XS.iloadN X0.here hx rfl (hb hby at_12) rfl (XS.ifNo X0.here hx rfl (hb hby at_13) rfl ((if0 _ _).trans (feq (by decide : ¬ ((1 : Int32) = (0 : Int32)))).1) (XS.iconst X0.here hx rfl (hb hby at_16) (XS.iloadN X0.here hx rfl (hb hby at_17) rfl q)))))))) ?_
    refine own_by (g' := (mkF m 20 #[.val (.int p0), .val (.int p1), .val (.int p2), .val (.int 1), .unset, .unset, .unset, .unset, .unset, .unset] [(.int 2147483647), (.int p1), (.int 1)])) (fun _ kq => X0.ldcInt hx hown (mvT hZ (own_h hw 0 rfl)) (g := (mkF m 18 #[.val (.int p0), .val (.int p1), .val (.int p2), .val (.int 1), .unset, .unset, .unset, .unset, .unset, .unset] [(.int p1), (.int 1)])) rfl (hb hby at_18) _ kq) ?_
    refine own_g (mkF m 21 #[.val (.int p0), .val (.int p1), .val (.int p2), .val (.int 1), .unset, .unset, .unset, .unset, .unset, .unset] [(.int (p1 &&& (2147483647 : Int32))), (.int 1)]) (fun _ q => XS.iand X0.here hx rfl (hb hby at_20) rfl q) ?_
    refine own_by (g' := (mkF m 23 #[.val (.int p0), .val (.int p1), .val (.int p2), .val (.int 1), .unset, .unset, .unset, .unset, .unset, .unset] [(.int 119999), (.int (p1 &&& (2147483647 : Int32))), (.int 1)])) (fun _ kq => X0.ldcInt hx hown (mvT hZ (own_h hw 219 rfl)) (g := (mkF m 21 #[.val (.int p0), .val (.int p1), .val (.int p2), .val (.int 1), .unset, .unset, .unset, .unset, .unset, .unset] [(.int (p1 &&& (2147483647 : Int32))), (.int 1)])) rfl (hb hby at_21) _ kq) ?_
    refine own_by (g' := (mkF m 24 #[.val (.int p0), .val (.int p1), .val (.int p2), .val (.int 1), .unset, .unset, .unset, .unset, .unset, .unset] [(.int ((p1 &&& (2147483647 : Int32)) % (119999 : Int32))), (.int 1)])) (fun _ kq => Jvm.RoadKit.iremM (g := (mkF m 23 #[.val (.int p0), .val (.int p1), .val (.int p2), .val (.int 1), .unset, .unset, .unset, .unset, .unset, .unset] [(.int 119999), (.int (p1 &&& (2147483647 : Int32))), (.int 1)])) X0 hx rfl (hb hby at_23) rfl (by decide) kq) ?_
    refine own_g (mkF m 25 #[.val (.int p0), .val (.int p1), .val (.int p2), .val (.int 1), .unset, .unset, .unset, .unset, .unset, .unset] [(.int ((1 : Int32) + ((p1 &&& (2147483647 : Int32)) % (119999 : Int32))))]) (fun _ q => XS.iadd X0.here hx rfl (hb hby at_24) rfl q) ?_
    have hr := own_rem p1 (119999 : Int32) 119999 (by decide) (by decide)
    have c1 : (1 : Int32).toInt = 1 := by decide
    have hk := own_iadd (x := (1 : Int32)) (y := (p1 &&& (2147483647 : Int32)) % (119999 : Int32)) (by omega)
    generalize hkk : ((1 : Int32) + ((p1 &&& (2147483647 : Int32)) % (119999 : Int32))) = k at hk ⊢
    have hkb : 1 ≤ k.toInt ∧ k.toInt ≤ 119999 := by omega
    have hxb : 0 ≤ k.toInt ∧ k.toInt < 1000000 := by omega
    have cM : (119999 : Int32).toInt = 119999 := by decide
    have cm : (1 : Int32).toInt = 1 := by decide
    have hmin : ¬ k < (1 : Int32) := own_nl (by omega)
    have hmax : ¬ (119999 : Int32) < k := own_nl (by omega)
    show own_Fin p e below _ s₁ (mkF m 25 #[.val (.int p0), .val (.int p1), .val (.int p2), .val (.int 1), .unset, .unset, .unset, .unset, .unset, .unset] [(.int k)])
    refine own_g (mkF m 27 #[.val (.int p0), .val (.int p1), .val (.int p2), .val (.int 1), .unset, .unset, .val (.int k), .unset, .unset, .unset] []) (fun _ q => XS.istore X0.here hx rfl (hb hby at_25) rfl (l' := #[.val (.int p0), .val (.int p1), .val (.int p2), .val (.int 1), .unset, .unset, .val (.int k), .unset, .unset, .unset]) rfl q) ?_
    obtain ⟨T33, h33, X33, e33, E33, A33, D33, U33, st33⟩ := newO X0 hx hZ hown (own_h hw 2 rfl) (own_h hw 3 rfl) (own_h hw 4 rfl) e0 (g := (mkF m 27 #[.val (.int p0), .val (.int p1), .val (.int p2), .val (.int 1), .unset, .unset, .val (.int k), .unset, .unset, .unset] [])) rfl (hb hby at_27) (by decide) (by decide)
    obtain ⟨b33, g33⟩ : ∃ z, z = h0.size := ⟨_, rfl⟩
    rw [← g33] at A33 D33 U33 st33
    have g_b33 : n0 ≤ b33 := Nat.le_trans Z0 (Nat.le_of_eq g33.symm)
    have sz_b33 : h0.size ≤ b33 := Nat.le_trans (Keep.refl h0 []).1 (Nat.le_of_eq g33.symm)
    have sf_b33 : Safe Z consts_1 s.vm h0 b33 := Safe.new (Nat.le_of_eq g33.symm)
    have C34 := C0.trans (CHr.ext E33 C0.1)
    have F_firstDayOfMonthAfter_b33 : Fld Z h33 b33 "com/example/abeyance/abeyance/plan/PayDay" "firstDayOfMonthAfter" "Ljava/lang/Integer;" .null := D33 (Or.inr (own_h hw 211 rfl)) (ty := (.object "java/lang/Integer")) (by decide)
    have F_monthsAfter_b33 : Fld Z h33 b33 "com/example/abeyance/abeyance/plan/PayDay" "monthsAfter" "Ljava/lang/Integer;" .null := D33 (Or.inr (own_h hw 213 rfl)) (ty := (.object "java/lang/Integer")) (by decide)
    refine own_by (g' := (mkF m 30 #[.val (.int p0), .val (.int p1), .val (.int p2), .val (.int 1), .unset, .unset, .val (.int k), .unset, .unset, .unset] [(.ref b33)])) st33 ?_
    refine own_g (mkF m 33 #[.val (.int p0), .val (.int p1), .val (.int p2), .val (.int 1), .unset, .unset, .val (.int k), .unset, .unset, .unset] [(.int k), (.ref b33), (.ref b33)]) (fun _ q => XS.dup X33.here hx rfl (hb hby at_30) rfl rfl (XS.iload X33.here hx rfl (hb hby at_31) rfl q)) ?_
    have k35_ := ((Keep.refl h0 []).ext E33)
    have o36_ := (O0.ext E33)
    refine own_callS X33 hx hZ (y := own_y19) hown (own_h hw 5 rfl) (own_h hw 6 rfl) (own_h hw 7 rfl) (own_h hw 8 rfl) (by decide) (own_val l Z a0 hw [] k zCS dO dT ca cO cT cc h33 n0 (Nat.le_trans Z0 k35_.1) Cq o36_ hxb) (by decide) (by decide) e33 (g := (mkF m 33 #[.val (.int p0), .val (.int p1), .val (.int p2), .val (.int 1), .unset, .unset, .val (.int k), .unset, .unset, .unset] [(.int k), (.ref b33), (.ref b33)])) rfl (by rw [hml]; rfl) (argsL := [(.int k)]) (rest := [(.ref b33), (.ref b33)]) (lenOf own_pd__28I_29Ljava_2flang_2fInteger_3b rfl) rfl (W := 2) (by show 2 * 0 + _ ≤ _; exact Nat.le_of_eq rfl) (hb hby at_33) rfl (by decide) (by decide) ?_
    rintro rv37 T37 L37 X37 ⟨t, rfl, Nq37, Kq37, Et37, Vt37, ny37⟩
    have N37 := Fr.app N0 Nq37
    show own_Fin p e below _ T37 (mkF m 36 #[.val (.int p0), .val (.int p1), .val (.int p2), .val (.int 1), .unset, .unset, .val (.int k), .unset, .unset, .unset] [(.ref t), (.ref b33), (.ref b33)])
    have n_tx : t ≠ b33 := ny37 b33 g_b33 A33.lt
    have C38 := C34.trans (CHr.keep Kq37 sf0 C34.1)
    refine own_g (mkF m 37 #[.val (.int p0), .val (.int p1), .val (.int p2), .val (.int 1), .unset, .unset, .val (.int k), .unset, .unset, .unset] [.null, (.ref t), (.ref b33), (.ref b33)]) (fun _ q => XS.aconstNull X37.here hx rfl (hb hby at_36) q) ?_
    have e39_b33 := (A33.keep Kq37)
    have f40_b33 := (F_firstDayOfMonthAfter_b33.keep Kq37 nin0)
    have f41_b33 := (F_monthsAfter_b33.keep Kq37 nin0)
    have k42_ := (k35_.trans Kq37 all0)
    have o43_ := (o36_.keep Kq37 all0)
    have sf44_b33 := (Safe.keep Kq37 sf0 C34.1 (sf_b33.ext E33 C0.1))
    have hk46_ := (Nat.le_trans (Nat.le_trans hk0 E33.1) Kq37.1)
    refine own_callIW X37 hx hZ (y := own_y0) rfl hown (own_h hw 12 rfl) (own_h hw 13 rfl) (own_h hw 14 rfl) (own_h hw 4 rfl) (by decide) hS hk46_ hEL C38.1 (own_pdA l Z a0 hw [] b33 t k zCS dO dT ca cO cT cc T37.heap n0 (Nat.le_trans Z0 k42_.1) Cq o43_ e39_b33 f40_b33 f41_b33 g_b33 Et37 Vt37 hxb n_tx hmin hmax) (by decide) (by decide) rfl (g := (mkF m 37 #[.val (.int p0), .val (.int p1), .val (.int p2), .val (.int 1), .unset, .unset, .val (.int k), .unset, .unset, .unset] [.null, (.ref t), (.ref b33), (.ref b33)])) rfl (by rw [hml]; rfl) (argsL := [(.ref t), .null]) (rest := [(.ref b33)]) (lenOf own_pd__28Ljava_2flang_2fInteger_3bLjava_2flang_2fInteger_3b_29V rfl) rfl (W := 1) (by show 2 * 0 + _ ≤ _; exact Nat.le_of_eq rfl) (hb hby at_37) rfl (by decide) (by decide) ?_
    rintro rv45 T45 L45 X45 hS hZ hown CH45 ⟨rfl, Nq45, Kq45, Ex45, Fa45, Fb45⟩
    have N45 := Fr.app N37 Nq45
    show own_Fin p e below _ T45 (mkF m 40 #[.val (.int p0), .val (.int p1), .val (.int p2), .val (.int 1), .unset, .unset, .val (.int k), .unset, .unset, .unset] [(.ref b33)])
    have sf48 := CH45.safe e39_b33.lt sf44_b33
    have C47 := C38.trans CH45
    refine own_g (mkF m 82 #[.val (.int p0), .val (.int p1), .val (.int p2), .val (.int 1), .val (.ref b33), .val (.int k), .val (.int k), .unset, .unset, .unset] [(.int k), (.int p2)]) (fun _ q => XS.astore X45.here hx rfl (hb hby at_40) rfl rfl (l' := #[.val (.int p0), .val (.int p1), .val (.int p2), .val (.int 1), .val (.ref b33), .unset, .val (.int k), .unset, .unset, .unset]) rfl (XS.iload X45.here hx rfl (hb hby at_42) rfl (XS.istore X45.here hx rfl (hb hby at_44) rfl (l' := #[.val (.int p0), .val (.int p1), .val (.int p2), .val (.int 1), .val (.ref b33), .val (.int k), .val (.int k), .unset, .unset, .unset]) rfl (XS.goto X45.here hx rfl (pc0 := 46) (pc' := 79) rfl (hb hby at_46) (by decide) (by decide) (XS.iloadN X45.here hx rfl (hb hby at_79) rfl (XS.iload X45.here hx rfl (hb hby at_80) rfl q)))))) ?_
    by_cases hc49 : p2 < k
    · refine own_g (mkF m 96 #[.val (.int p0), .val (.int p1), .val (.int p2), .val (.int 1), .val (.ref b33), .val (.int k), .val (.int 0), .unset, .unset, .unset] [(.int k), (.ref b33)]) (fun _ q => XS.icmpYes X45.here hx rfl (pc0 := 82) (pc' := 89) rfl (hb hby at_82) rfl (tlt hc49).1 (by decide) (by decide) (XS.iconst X45.here hx rfl (hb hby at_89) (XS.istore X45.here hx rfl (hb hby at_90) rfl (l' := #[.val (.int p0), .val (.int p1), .val (.int p2), .val (.int 1), .val (.ref b33), .val (.int k), .val (.int 0), .unset, .unset, .unset]) rfl (XS.aload X45.here hx rfl (hb hby at_92) rfl rfl (XS.iload X45.here hx rfl (hb hby at_94) rfl q))))) ?_
      have e50_t := (Et37.keep Kq45)
      have f51_t := (Vt37.keep Kq45 (ninS n_tx nin0))
      have k52_ := (k42_.trans Kq45 (allS (Or.inr sz_b33) all0))
      have o53_ := (o43_.keep Kq45 (allS g_b33 all0))
      refine own_callV X45 hx hZ (y := own_y1) (z := own_y1) hown (own_h hw 214 rfl) (own_h hw 215 rfl) (own_nf (own_h hw 217 rfl)) (own_h hw 217 rfl) (own_h hw 216 rfl) (own_h hw 218 rfl) (own_h hw 4 rfl) (by decide) Ex45 (own_cfA l Z a0 hw [] b33 k t k zCS dO dT ca cO cT cc T45.heap n0 (Nat.le_trans Z0 k52_.1) Cq o53_ Fa45 Fb45 e50_t f51_t) (by decide) (by decide) rfl (g := (mkF m 96 #[.val (.int p0), .val (.int p1), .val (.int p2), .val (.int 1), .val (.ref b33), .val (.int k), .val (.int 0), .unset, .unset, .unset] [(.int k), (.ref b33)])) rfl (by rw [hml]; rfl) (argsL := [(.int k)]) (rest := []) (lenOf own_pd__28I_29Z rfl) rfl (W := 0) (by show 2 * 0 + _ ≤ _; exact Nat.le_of_eq rfl) (hb hby at_96) rfl (by decide) (by decide) ?_
      rintro rv54 T54 L54 X54 ⟨hv54, Nq54, eh54⟩
      have N54 := Fr.app N45 Nq54
      rw [if_neg (own_irr k)] at hv54
      subst hv54
      refine own_g (mkF m 107 #[.val (.int p0), .val (.int p1), .val (.int p2), .val (.int 1), .val (.ref b33), .val (.int k), .val (.int 0), .val (.int 1), .unset, .unset] [(.int (k - (1 : Int32))), (.ref b33)]) (fun _ q => XS.istore X54.here hx rfl (hb hby at_99) rfl (l' := #[.val (.int p0), .val (.int p1), .val (.int p2), .val (.int 1), .val (.ref b33), .val (.int k), .val (.int 0), .val (.int 1), .unset, .unset]) rfl (XS.aload X54.here hx rfl (hb hby at_101) rfl rfl (XS.iload X54.here hx rfl (hb hby at_103) rfl (XS.iconst X54.here hx rfl (hb hby at_105) (XS.isub X54.here hx rfl (hb hby at_106) rfl q))))) ?_
      refine own_callV X54 hx hZ (y := own_y1) (z := own_y1) hown (own_h hw 214 rfl) (own_h hw 215 rfl) (own_nf (own_h hw 217 rfl)) (own_h hw 217 rfl) (own_h hw 216 rfl) (own_h hw 218 rfl) (own_h hw 4 rfl) (by decide) Ex45 (own_cfA l Z a0 hw [] b33 (k - (1 : Int32)) t k zCS dO dT ca cO cT cc T45.heap n0 (Nat.le_trans Z0 k52_.1) Cq o53_ Fa45 Fb45 e50_t f51_t) (by decide) (by decide) eh54 (g := (mkF m 107 #[.val (.int p0), .val (.int p1), .val (.int p2), .val (.int 1), .val (.ref b33), .val (.int k), .val (.int 0), .val (.int 1), .unset, .unset] [(.int (k - (1 : Int32))), (.ref b33)])) rfl (by rw [hml]; rfl) (argsL := [(.int (k - (1 : Int32)))]) (rest := []) (lenOf own_pd__28I_29Z rfl) rfl (W := 0) (by show 2 * 0 + _ ≤ _; exact Nat.le_of_eq rfl) (hb hby at_107) rfl (by decide) (by decide) ?_
      rintro rv55 T55 L55 X55 ⟨hv55, Nq55, eh55⟩
      have N55 := Fr.app N54 Nq55
      rw [if_pos (own_a1 hmin)] at hv55
      subst hv55
      refine own_g (mkF m 115 #[.val (.int p0), .val (.int p1), .val (.int p2), .val (.int 1), .val (.ref b33), .val (.int k), .val (.int 0), .val (.int 1), .val (.int 0), .unset] [(.int p2), (.ref b33)]) (fun _ q => XS.istore X55.here hx rfl (hb hby at_110) rfl (l' := #[.val (.int p0), .val (.int p1), .val (.int p2), .val (.int 1), .val (.ref b33), .val (.int k), .val (.int 0), .val (.int 1), .val (.int 0), .unset]) rfl (XS.aload X55.here hx rfl (hb hby at_112) rfl rfl (XS.iloadN X55.here hx rfl (hb hby at_114) rfl q))) ?_
      refine own_callV X55 hx hZ (y := own_y1) (z := own_y1) hown (own_h hw 214 rfl) (own_h hw 215 rfl) (own_nf (own_h hw 217 rfl)) (own_h hw 217 rfl) (own_h hw 216 rfl) (own_h hw 218 rfl) (own_h hw 4 rfl) (by decide) Ex45 (own_cfA l Z a0 hw [] b33 p2 t k zCS dO dT ca cO cT cc T45.heap n0 (Nat.le_trans Z0 k52_.1) Cq o53_ Fa45 Fb45 e50_t f51_t) (by decide) (by decide) eh55 (g := (mkF m 115 #[.val (.int p0), .val (.int p1), .val (.int p2), .val (.int 1), .val (.ref b33), .val (.int k), .val (.int 0), .val (.int 1), .val (.int 0), .unset] [(.int p2), (.ref b33)])) rfl (by rw [hml]; rfl) (argsL := [(.int p2)]) (rest := []) (lenOf own_pd__28I_29Z rfl) rfl (W := 0) (by show 2 * 0 + _ ≤ _; exact Nat.le_of_eq rfl) (hb hby at_115) rfl (by decide) (by decide) ?_
      rintro rv56 T56 L56 X56 ⟨hv56, Nq56, eh56⟩
      have N56 := Fr.app N55 Nq56
      rw [if_pos hc49] at hv56
      subst hv56
      refine own_g (mkF m 137 #[.val (.int p0), .val (.int p1), .val (.int p2), .val (.int 1), .val (.ref b33), .val (.int k), .val (.int 0), .val (.int 1), .val (.int 0), .val (.int 0)] []) (fun _ q => XS.istore X56.here hx rfl (hb hby at_118) rfl (l' := #[.val (.int p0), .val (.int p1), .val (.int p2), .val (.int 1), .val (.ref b33), .val (.int k), .val (.int 0), .val (.int 1), .val (.int 0), .val (.int 0)]) rfl (XS.iload X56.here hx rfl (hb hby at_120) rfl (XS.iload X56.here hx rfl (hb hby at_122) rfl (XS.icmpNo X56.here hx rfl (hb hby at_124) rfl (teq (by decide : (0 : Int32) = (0 : Int32))).2 (XS.iload X56.here hx rfl (hb hby at_127) rfl (XS.ifNo X56.here hx rfl (hb hby at_129) rfl ((if0 _ _).trans (feq (by decide : ¬ ((1 : Int32) = (0 : Int32)))).1) (XS.iload X56.here hx rfl (hb hby at_132) rfl (XS.ifNo X56.here hx rfl (hb hby at_134) rfl ((if0 _ _).trans (teq (by decide : (0 : Int32) = (0 : Int32))).2) q)))))))) ?_
      refine own_g (mkF m 142 #[.val (.int p0), .val (.int p1), .val (.int p2), .val (.int 1), .val (.ref b33), .val (.int k), .val (.int 0), .val (.int 1), .val (.int 0), .val (.int 0)] [(.int 1)]) (fun _ q => XS.iconst X56.here hx rfl (hb hby at_137) (XS.goto X56.here hx rfl (pc0 := 138) (pc' := 142) rfl (hb hby at_138) (by decide) (by decide) q)) ?_
      exact own_endW X56 hS (by rw [eh56]; exact (Nat.le_refl _)) hZ hEL (by rw [hh]; rw [eh56]; exact C47) (v := some (.int (nar .boolean (1 : Int32)))) (fun h => by rw [Bd.returns] at h; cases h) hlk (fun hr => retN X56 hx (t := .boolean) Bd.returns (by simp) (hb hby at_142) hr) (by rw [eh56]; exact ⟨rfl, N56⟩) (by decide) (by decide)
    · refine own_g (mkF m 96 #[.val (.int p0), .val (.int p1), .val (.int p2), .val (.int 1), .val (.ref b33), .val (.int k), .val (.int 1), .unset, .unset, .unset] [(.int k), (.ref b33)]) (fun _ q => XS.icmpNo X45.here hx rfl (hb hby at_82) rfl (flt hc49).1 (XS.iconst X45.here hx rfl (hb hby at_85) (XS.goto X45.here hx rfl (pc0 := 86) (pc' := 90) rfl (hb hby at_86) (by decide) (by decide) (XS.istore X45.here hx rfl (hb hby at_90) rfl (l' := #[.val (.int p0), .val (.int p1), .val (.int p2), .val (.int 1), .val (.ref b33), .val (.int k), .val (.int 1), .unset, .unset, .unset]) rfl (XS.aload X45.here hx rfl (hb hby at_92) rfl rfl (XS.iload X45.here hx rfl (hb hby at_94) rfl q)))))) ?_
      have e57_t := (Et37.keep Kq45)
      have f58_t := (Vt37.keep Kq45 (ninS n_tx nin0))
      have k59_ := (k42_.trans Kq45 (allS (Or.inr sz_b33) all0))
      have o60_ := (o43_.keep Kq45 (allS g_b33 all0))
      refine own_callV X45 hx hZ (y := own_y1) (z := own_y1) hown (own_h hw 214 rfl) (own_h hw 215 rfl) (own_nf (own_h hw 217 rfl)) (own_h hw 217 rfl) (own_h hw 216 rfl) (own_h hw 218 rfl) (own_h hw 4 rfl) (by decide) Ex45 (own_cfA l Z a0 hw [] b33 k t k zCS dO dT ca cO cT cc T45.heap n0 (Nat.le_trans Z0 k59_.1) Cq o60_ Fa45 Fb45 e57_t f58_t) (by decide) (by decide) rfl (g := (mkF m 96 #[.val (.int p0), .val (.int p1), .val (.int p2), .val (.int 1), .val (.ref b33), .val (.int k), .val (.int 1), .unset, .unset, .unset] [(.int k), (.ref b33)])) rfl (by rw [hml]; rfl) (argsL := [(.int k)]) (rest := []) (lenOf own_pd__28I_29Z rfl) rfl (W := 0) (by show 2 * 0 + _ ≤ _; exact Nat.le_of_eq rfl) (hb hby at_96) rfl (by decide) (by decide) ?_
      rintro rv61 T61 L61 X61 ⟨hv61, Nq61, eh61⟩
      have N61 := Fr.app N45 Nq61
      rw [if_neg (own_irr k)] at hv61
      subst hv61
      refine own_g (mkF m 107 #[.val (.int p0), .val (.int p1), .val (.int p2), .val (.int 1), .val (.ref b33), .val (.int k), .val (.int 1), .val (.int 1), .unset, .unset] [(.int (k - (1 : Int32))), (.ref b33)]) (fun _ q => XS.istore X61.here hx rfl (hb hby at_99) rfl (l' := #[.val (.int p0), .val (.int p1), .val (.int p2), .val (.int 1), .val (.ref b33), .val (.int k), .val (.int 1), .val (.int 1), .unset, .unset]) rfl (XS.aload X61.here hx rfl (hb hby at_101) rfl rfl (XS.iload X61.here hx rfl (hb hby at_103) rfl (XS.iconst X61.here hx rfl (hb hby at_105) (XS.isub X61.here hx rfl (hb hby at_106) rfl q))))) ?_
      refine own_callV X61 hx hZ (y := own_y1) (z := own_y1) hown (own_h hw 214 rfl) (own_h hw 215 rfl) (own_nf (own_h hw 217 rfl)) (own_h hw 217 rfl) (own_h hw 216 rfl) (own_h hw 218 rfl) (own_h hw 4 rfl) (by decide) Ex45 (own_cfA l Z a0 hw [] b33 (k - (1 : Int32)) t k zCS dO dT ca cO cT cc T45.heap n0 (Nat.le_trans Z0 k59_.1) Cq o60_ Fa45 Fb45 e57_t f58_t) (by decide) (by decide) eh61 (g := (mkF m 107 #[.val (.int p0), .val (.int p1), .val (.int p2), .val (.int 1), .val (.ref b33), .val (.int k), .val (.int 1), .val (.int 1), .unset, .unset] [(.int (k - (1 : Int32))), (.ref b33)])) rfl (by rw [hml]; rfl) (argsL := [(.int (k - (1 : Int32)))]) (rest := []) (lenOf own_pd__28I_29Z rfl) rfl (W := 0) (by show 2 * 0 + _ ≤ _; exact Nat.le_of_eq rfl) (hb hby at_107) rfl (by decide) (by decide) ?_
      rintro rv62 T62 L62 X62 ⟨hv62, Nq62, eh62⟩
      have N62 := Fr.app N61 Nq62
      rw [if_pos (own_a1 hmin)] at hv62
      subst hv62
      refine own_g (mkF m 115 #[.val (.int p0), .val (.int p1), .val (.int p2), .val (.int 1), .val (.ref b33), .val (.int k), .val (.int 1), .val (.int 1), .val (.int 0), .unset] [(.int p2), (.ref b33)]) (fun _ q => XS.istore X62.here hx rfl (hb hby at_110) rfl (l' := #[.val (.int p0), .val (.int p1), .val (.int p2), .val (.int 1), .val (.ref b33), .val (.int k), .val (.int 1), .val (.int 1), .val (.int 0), .unset]) rfl (XS.aload X62.here hx rfl (hb hby at_112) rfl rfl (XS.iloadN X62.here hx rfl (hb hby at_114) rfl q))) ?_
      refine own_callV X62 hx hZ (y := own_y1) (z := own_y1) hown (own_h hw 214 rfl) (own_h hw 215 rfl) (own_nf (own_h hw 217 rfl)) (own_h hw 217 rfl) (own_h hw 216 rfl) (own_h hw 218 rfl) (own_h hw 4 rfl) (by decide) Ex45 (own_cfA l Z a0 hw [] b33 p2 t k zCS dO dT ca cO cT cc T45.heap n0 (Nat.le_trans Z0 k59_.1) Cq o60_ Fa45 Fb45 e57_t f58_t) (by decide) (by decide) eh62 (g := (mkF m 115 #[.val (.int p0), .val (.int p1), .val (.int p2), .val (.int 1), .val (.ref b33), .val (.int k), .val (.int 1), .val (.int 1), .val (.int 0), .unset] [(.int p2), (.ref b33)])) rfl (by rw [hml]; rfl) (argsL := [(.int p2)]) (rest := []) (lenOf own_pd__28I_29Z rfl) rfl (W := 0) (by show 2 * 0 + _ ≤ _; exact Nat.le_of_eq rfl) (hb hby at_115) rfl (by decide) (by decide) ?_
      rintro rv63 T63 L63 X63 ⟨hv63, Nq63, eh63⟩
      have N63 := Fr.app N62 Nq63
      rw [if_neg hc49] at hv63
      subst hv63
      refine own_g (mkF m 137 #[.val (.int p0), .val (.int p1), .val (.int p2), .val (.int 1), .val (.ref b33), .val (.int k), .val (.int 1), .val (.int 1), .val (.int 0), .val (.int 1)] []) (fun _ q => XS.istore X63.here hx rfl (hb hby at_118) rfl (l' := #[.val (.int p0), .val (.int p1), .val (.int p2), .val (.int 1), .val (.ref b33), .val (.int k), .val (.int 1), .val (.int 1), .val (.int 0), .val (.int 1)]) rfl (XS.iload X63.here hx rfl (hb hby at_120) rfl (XS.iload X63.here hx rfl (hb hby at_122) rfl (XS.icmpNo X63.here hx rfl (hb hby at_124) rfl (teq (by decide : (1 : Int32) = (1 : Int32))).2 (XS.iload X63.here hx rfl (hb hby at_127) rfl (XS.ifNo X63.here hx rfl (hb hby at_129) rfl ((if0 _ _).trans (feq (by decide : ¬ ((1 : Int32) = (0 : Int32)))).1) (XS.iload X63.here hx rfl (hb hby at_132) rfl (XS.ifNo X63.here hx rfl (hb hby at_134) rfl ((if0 _ _).trans (teq (by decide : (0 : Int32) = (0 : Int32))).2) q)))))))) ?_
      refine own_g (mkF m 142 #[.val (.int p0), .val (.int p1), .val (.int p2), .val (.int 1), .val (.ref b33), .val (.int k), .val (.int 1), .val (.int 1), .val (.int 0), .val (.int 1)] [(.int 1)]) (fun _ q => XS.iconst X63.here hx rfl (hb hby at_137) (XS.goto X63.here hx rfl (pc0 := 138) (pc' := 142) rfl (hb hby at_138) (by decide) (by decide) q)) ?_
      exact own_endW X63 hS (by rw [eh63]; exact (Nat.le_refl _)) hZ hEL (by rw [hh]; rw [eh63]; exact C47) (v := some (.int (nar .boolean (1 : Int32)))) (fun h => by rw [Bd.returns] at h; cases h) hlk (fun hr => retN X63 hx (t := .boolean) Bd.returns (by simp) (hb hby at_142) hr) (by rw [eh63]; exact ⟨rfl, N63⟩) (by decide) (by decide)
set_option maxRecDepth 65536 in
set_option maxHeartbeats 40000000 in
theorem own_comes {Post : Tables → Env → Array Value → State → Outcome → State → Prop} (hpost : ∀ tb e args s v u, (limb_1_1.after args s (.returned v) u = true ∧ limb_1_2.after args s (.returned v) u = true ∧ True) → ReturnedEndW s (.returned v) u (Jvm.fieldLocs frame_1_writes args s ++ Jvm.arrayLocs frame_1_arrays args s ++ Jvm.staticLocs frame_1_statics s) 40 5440 → Post tb e args s (.returned v) u) :
    ArmFor flags0 classFile x code maxLocals ret World_1 tables_1 room_1 Calls_1 rest_1 Pre_1 Post := by
  intro l hfl _ _ p e ha hc hk s m args below hf hA hF happ hP
  obtain ⟨hcalls, hrest, hpre⟩ := hP
  obtain ⟨-, -, -, hnamed, -, -, -, hat⟩ := (Spec.applies_iff hf).mp happ
  obtain ⟨hg, hn⟩ := and_e (Cond.before_iff.mp (show (Jvm.Cond.and given_1 narrow_1).before args s = true from hpre))
  obtain ⟨g0, g1⟩ := and_e hg
  obtain ⟨g2, g3⟩ := and_e g1
  obtain ⟨g4, g5⟩ := and_e g3
  obtain ⟨w0, w1, w2, rfl⟩ : ∃ w0 w1 w2 : Value, args = #[w0, w1, w2] := by
    have hs : args.size = 3 := by simpa [Jvm.Cond.value, given_1] using g0
    obtain ⟨L⟩ := args
    match L, hs with
    | [w0, w1, w2], _ => exact ⟨w0, w1, w2, rfl⟩
  have hw := fun d (hd : d ∈ tables_1) => atoms_spec (ws := Jvm.Cond.code x code maxLocals ret :: tables_1) hat d (List.mem_cons_of_mem _ hd)
  have hfit : Fit s := fun {y c} hc i hi => by
    obtain ⟨ha, rfl⟩ := Array.getElem?_eq_some_iff.mp hc
    have q := List.all_eq_true.mp ((Array.all_eq_true_iff_forall_mem.mp hF) _ (Array.getElem_mem ha)) i (List.mem_range.mpr hi)
    simpa [Array.getElem?_eq_getElem hi] using q
  obtain ⟨i0, ei0⟩ := is_v g2
  obtain rfl : w0 = (.int i0) := Option.some.inj ei0
  obtain ⟨i1, ei1⟩ := is_v g4
  obtain rfl : w1 = (.int i1) := Option.some.inj ei1
  obtain ⟨i2, ei2⟩ := is_v g5
  obtain rfl : w2 = (.int i2) := Option.some.inj ei2
  obtain ⟨hsets, hown0⟩ := atoms_of _ (rest_1_c_eq ▸ (show rest_1_c.before _ s = true from hrest))
  have hr0 := Cond.before_iff.mp hown0
  obtain ⟨zCS, eCS⟩ := is_v (Cond.before_iff.mp (hsets _ (List.mem_of_getElem? (i := 9) rfl)))
  have S_CS := Sta.start eCS (Or.inl (hsets _ (List.mem_of_getElem? (i := 8) rfl)))
  have hcw : Jvm.Lit.compactW.before _ s = true := (hsets _ (List.mem_of_getElem? (i := 10) rfl))
  have nCS : ¬ zCS = 0 := fun q => by subst q; have hq := not_v (Cond.before_iff.mp (hsets _ (List.mem_of_getElem? (i := 10) rfl))); simp [Jvm.Cond.value, eCS, Term.int_eval] at hq
  have CH0 : CHv s consts_1 s.vm s.heap := CHv.start (own_hEL hw) (fun p hp => hcalls.1 p hp) hcw (own_h hw 38 rfl) (own_h hw 44 rfl)
  obtain ⟨dO, cO, edO, TO⟩ := own_tabB hfit (own_h hw 38 rfl) (Cond.before_iff.mp (hsets _ (List.mem_of_getElem? (i := 20) rfl))) (Cond.before_iff.mp (hsets _ (List.mem_of_getElem? (i := 21) rfl))) (by decide)
  have S_dO := Sta.start edO (Or.inl (hsets _ (List.mem_of_getElem? (i := 19) rfl)))
  obtain ⟨dT, cT, edT, TT⟩ := own_tabB hfit (own_h hw 38 rfl) (Cond.before_iff.mp (hsets _ (List.mem_of_getElem? (i := 25) rfl))) (Cond.before_iff.mp (hsets _ (List.mem_of_getElem? (i := 26) rfl))) (by decide)
  have S_dT := Sta.start edT (Or.inl (hsets _ (List.mem_of_getElem? (i := 24) rfl)))
  have ehi := eqv_i (Term.int_eval (127 : Int32)) (Cond.before_iff.mp (hsets _ (List.mem_of_getElem? (i := 3) rfl)))
  have S_hi := Sta.start ehi (Or.inl (hsets _ (List.mem_of_getElem? (i := 1) rfl)))
  obtain ⟨ca, eca⟩ := arr_v (Cond.before_iff.mp (hsets _ (List.mem_of_getElem? (i := 4) rfl)))
  have S_ca := Sta.start eca (Or.inr ⟨(own_h hw 10 rfl), (hsets _ (List.mem_of_getElem? (i := 2) rfl))⟩)
  obtain ⟨cc, BX⟩ := own_bxs (fun _ => eca) (Cond.before_iff.mp (hsets _ (List.mem_of_getElem? (i := 4) rfl))) (Cond.before_iff.mp (hsets _ (List.mem_of_getElem? (i := 6) rfl))) (Cond.before_iff.mp (hsets _ (List.mem_of_getElem? (i := 7) rfl)))
  obtain ⟨n, o, h1, h2, h3, _, L, rfl, ⟨rfl, N⟩, -, hq⟩ := own_rm0 l s _ hw tables_1 i0 i1 i2 zCS dO dT ca cO cT cc s.heap s.heap.size (Nat.le_refl _) ⟨S_CS, nCS, S_dO, S_dT, TO, TT, S_hi, S_ca, BX⟩ (Old.start s) p e ha hc hk s m _ below hf ((Spec.applies_iff_loose hf).mp happ).1 ⟨rfl, State.Warmed39.refl s, rfl, CH0⟩ trivial
  refine ⟨n, _, h1, h2, h3, hpost _ _ _ _ _ _ ⟨Cond.after_iff.mpr rfl, Cond.after_iff.mpr (eq_i res_at (Term.int_eval (1)) rfl), trivial⟩ ⟨hq.1, hq.2.1, hq.2.2.1, (hq.2.2.2.sift fun y hy => Or.inr (N y hy)).mono (by decide) (by decide)⟩⟩
theorem main_1_1 : Claimed_1_1 := own_comes fun _ _ _ _ _ _ h hF => ⟨h.1, hF⟩
theorem main_1_2 : Claimed_1_2 := own_comes fun _ _ _ _ _ _ h hF => ⟨h.2.1, hF⟩
end Jvm.Pilot.@@N@@
namespace Jvm.Pilot.@@N@@
open Jvm Jvm.ClassFile Sem Op Lib Jvm.Free Jvm.Stand Jvm.Pilot.@@N@@.Jvm.D
/-! MADE BY PROGRAM (witnessworld.py) out of the Statement's table words and the real class files: 29 classes; the members and pool entries that the words name. The judged class is class 1, her method 1. -/
namespace start1
open Jvm.ClassFile
def u (s : String) : CpInfo := .utf8 (stringToUtf16 s)
/-- a pool by its gaps: so many unusable entries, then the entry; so many at the end -/
def gap : Nat → List CpInfo → List CpInfo
  | 0, r => r
  | n + 1, r => .unusable :: gap n r
def poolList (es : List (Nat × CpInfo)) (last : Nat) : List CpInfo := es.foldr (fun e r => gap e.1 (e.2 :: r)) (gap last [])
def pool (es : List (Nat × CpInfo)) (last : Nat) : Array CpInfo := ⟨poolList es last⟩
def fileOf (pool : Array CpInfo) (this : Nat) (attrs : Array Attribute := #[]) (ms : Array MethodInfo := #[]) (fl : Nat := 33) (sup : Nat := 0) (ifs : Array Nat := #[]) (fds : Array FieldInfo := #[]) : ClassFile where
  minorVersion := 0
  majorVersion := 65
  constantPool := pool
  accessFlags := fl
  thisClass := this
  superClass := sup
  interfaces := ifs
  fields := fds
  methods := ms
  attributes := attrs
def plain (name : String) (sup : Option ClassId) : Class where
  name := name
  kind := .ordinary
  loader := none
  accessFlags := 33
  super := sup
  interfaces := #[]
  cf := none
  fields := #[]
  methods := #[]
  instanceTypes := #[]
  staticTypes := #[]
  resolved := #[]
  callSites := []
  init := .initialized
  statics := none
  mirror := none

def pool0 : Array CpInfo := pool [(5, u "<init>"), (0, u "()V"), (1, .class_ 10), (1, u "java/lang/Object"), (7, u "()Ljava/lang/String;"), (18, u "toString"), (58, u "clone"), (0, u "()Ljava/lang/Object;")] 26

def k0c0 : Code := { maxStack := 0, maxLocals := 1, code := object_method_1_code, exceptionTable := #[], attributes := #[] }
def k0m0 : Method := { name := "<init>", desc := "()V", sig := { parameters := [], returnType := none }, accessFlags := 1, code := some k0c0 }
def k0m1 : Method := { name := "clone", desc := "()Ljava/lang/Object;", sig := { parameters := [], returnType := some (.object "java/lang/Object") }, accessFlags := 260, code := none }
def k0c2 : Code := { maxStack := 2, maxLocals := 1, code := ⟨#[0xbb, 0x00, 0x01, 0x59, 0xb7, 0x00, 0x03, 0x2a, 0xb6, 0x00, 0x07, 0xb6, 0x00, 0x0d, 0xb6, 0x00, 0x13, 0x12, 0x17, 0xb6, 0x00, 0x13, 0x2a, 0xb6, 0x00, 0x19, 0xb8, 0x00, 0x1d, 0xb6, 0x00, 0x13, 0xb6, 0x00, 0x23, 0xb0]⟩, exceptionTable := #[], attributes := #[] }
def k0m2 : Method := { name := "toString", desc := "()Ljava/lang/String;", sig := { parameters := [], returnType := some (.object "java/lang/String") }, accessFlags := 1, code := some k0c2 }
/-- java/lang/Object -/
def k0 : Class := { plain "java/lang/Object" none with
  accessFlags := 33
  interfaces := #[]
  cf := some (fileOf pool0 8 #[] #[{ accessFlags := 1, nameIndex := 5, descriptorIndex := 6, attributes := #[] }, { accessFlags := 260, nameIndex := 96, descriptorIndex := 97, attributes := #[] }, { accessFlags := 1, nameIndex := 37, descriptorIndex := 18, attributes := #[] }] 33 0 #[] #[])
  fields := #[]
  methods := #[k0m0, k0m1, k0m2]
  instanceTypes := #[]
  staticTypes := #[]
  resolved := Array.replicate 124 none
  statics := none }

def pool1 : Array CpInfo := pool [(2, .class_ 4), (1, u "java/lang/Object"), (0, u "<init>"), (0, u "()V"), (0, .integer 2147483647), (0, .integer 119999), (0, .class_ 10), (0, u "com/example/abeyance/abeyance/plan/PayDay"), (0, .methodref 12 13), (0, .class_ 14), (0, .nameAndType 15 16), (0, u "java/lang/Integer"), (0, u "valueOf"), (0, u "(I)Ljava/lang/Integer;"), (0, .methodref 9 18), (0, .nameAndType 5 19), (0, u "(Ljava/lang/Integer;Ljava/lang/Integer;)V"), (0, .integer 120000), (0, .methodref 9 22), (0, .nameAndType 23 24), (0, u "canFallBefore"), (0, u "(I)Z"), (0, .class_ 26), (0, u "com/example/abeyance/abeyance/plan/PayDayCanFallBeforePinLaw"), (2, u "law"), (0, u "(III)Z")] 3

def k1m0 : Method := { name := "<init>", desc := "()V", sig := { parameters := [], returnType := none }, accessFlags := 2, code := none }
def k1c1 : Code := { maxStack := 4, maxLocals := 10, code := code, exceptionTable := #[], attributes := #[] }
def k1m1 : Method := { name := "law", desc := "(III)Z", sig := { parameters := [.int, .int, .int], returnType := some .boolean }, accessFlags := 9, code := some k1c1 }
/-- com/example/abeyance/abeyance/plan/PayDayCanFallBeforePinLaw -/
def k1 : Class := { plain "com/example/abeyance/abeyance/plan/PayDayCanFallBeforePinLaw" (some 0) with
  accessFlags := 49
  interfaces := #[]
  cf := some (fileOf pool1 25 #[] #[{ accessFlags := 2, nameIndex := 5, descriptorIndex := 6, attributes := #[] }, { accessFlags := 9, nameIndex := 29, descriptorIndex := 30, attributes := #[] }] 49 2 #[] #[])
  fields := #[]
  methods := #[k1m0, k1m1]
  instanceTypes := #[]
  staticTypes := #[]
  resolved := Array.replicate 34 none
  statics := none }

def pool2 : Array CpInfo := pool [(1, .methodref 2 3), (0, .class_ 4), (0, .nameAndType 5 6), (0, u "java/lang/Object"), (0, u "<init>"), (0, u "()V"), (0, .class_ 8), (0, u "java/lang/Record")] 13

def k2c0 : Code := { maxStack := 1, maxLocals := 1, code := jdk_30_method_1_code, exceptionTable := #[], attributes := #[] }
def k2m0 : Method := { name := "<init>", desc := "()V", sig := { parameters := [], returnType := none }, accessFlags := 4, code := some k2c0 }
/-- java/lang/Record -/
def k2 : Class := { plain "java/lang/Record" (some 0) with
  accessFlags := 1057
  interfaces := #[]
  cf := some (fileOf pool2 7 #[] #[{ accessFlags := 4, nameIndex := 5, descriptorIndex := 6, attributes := #[] }] 1057 2 #[] #[])
  fields := #[]
  methods := #[k2m0]
  instanceTypes := #[]
  staticTypes := #[]
  resolved := Array.replicate 22 none
  statics := none }

def pool3 : Array CpInfo := pool [(1, .methodref 2 3), (0, .class_ 4), (0, .nameAndType 5 6), (0, u "java/lang/Record"), (0, u "<init>"), (0, u "()V"), (9, .class_ 17), (0, u "java/lang/StringBuilder"), (0, .methodref 16 3), (0, .string 20), (0, u "first_day_of_month_after is "), (0, .methodref 16 22), (0, .nameAndType 23 24), (0, u "append"), (0, u "(Ljava/lang/String;)Ljava/lang/StringBuilder;"), (0, .methodref 16 26), (0, .nameAndType 23 27), (0, u "(Ljava/lang/Object;)Ljava/lang/StringBuilder;"), (0, .methodref 16 29), (0, .nameAndType 30 31), (0, u "toString"), (0, u "()Ljava/lang/String;"), (0, .methodref 33 34), (0, .class_ 35), (0, .nameAndType 36 37), (0, u "java/lang/Integer"), (0, u "intValue"), (0, u "()I"), (0, .string 39), (0, u "it counts months after the event's month, from 1"), (0, .methodref 41 42), (0, .class_ 43), (0, .nameAndType 44 45), (0, u "com/example/abeyance/abeyance/plan/PlanTerms"), (0, u "months"), (0, u "(Ljava/lang/String;IILjava/lang/String;)V"), (0, .string 47), (0, u "months_after is "), (0, .string 49), (0, u "it counts months after the event, from 0"), (0, .fieldref 51 52), (0, .class_ 53), (0, .nameAndType 54 55), (0, u "com/example/abeyance/abeyance/plan/PayDay"), (0, u "firstDayOfMonthAfter"), (0, u "Ljava/lang/Integer;"), (0, .fieldref 51 57), (0, .nameAndType 58 55), (0, u "monthsAfter"), (29, u "(Ljava/lang/Integer;Ljava/lang/Integer;)V"), (6, u "canFallBefore"), (0, u "(I)Z")] 29

def k3c0 : Code := { maxStack := 4, maxLocals := 3, code := prog_56_method_1_code, exceptionTable := #[], attributes := #[] }
def k3m0 : Method := { name := "<init>", desc := "(Ljava/lang/Integer;Ljava/lang/Integer;)V", sig := { parameters := [(.object "java/lang/Integer"), (.object "java/lang/Integer")], returnType := none }, accessFlags := 1, code := some k3c0 }
def k3c1 : Code := { maxStack := 2, maxLocals := 2, code := prog_56_method_3_code, exceptionTable := #[], attributes := #[] }
def k3m1 : Method := { name := "canFallBefore", desc := "(I)Z", sig := { parameters := [.int], returnType := some .boolean }, accessFlags := 0, code := some k3c1 }
/-- com/example/abeyance/abeyance/plan/PayDay -/
def k3 : Class := { plain "com/example/abeyance/abeyance/plan/PayDay" (some 2) with
  accessFlags := 49
  interfaces := #[]
  cf := some (fileOf pool3 51 #[] #[{ accessFlags := 1, nameIndex := 5, descriptorIndex := 88, attributes := #[] }, { accessFlags := 0, nameIndex := 95, descriptorIndex := 96, attributes := #[] }] 49 2 #[] #[{ accessFlags := 18, nameIndex := 54, descriptorIndex := 55, attributes := #[] }, { accessFlags := 18, nameIndex := 58, descriptorIndex := 55, attributes := #[] }])
  fields := #[{ name := "firstDayOfMonthAfter", type := (.object "java/lang/Integer"), accessFlags := 18, slot := 0, constantValue := 0 }, { name := "monthsAfter", type := (.object "java/lang/Integer"), accessFlags := 18, slot := 1, constantValue := 0 }]
  methods := #[k3m0, k3m1]
  instanceTypes := #[(.object "java/lang/Integer"), (.object "java/lang/Integer")]
  staticTypes := #[]
  resolved := Array.replicate 126 none
  statics := none }

def pool4 : Array CpInfo := pool [(1, .class_ 2), (0, u "java/io/Serializable"), (0, .class_ 4), (0, u "java/lang/Object")] 2

/-- java/io/Serializable -/
def k4 : Class := { plain "java/io/Serializable" (some 0) with
  accessFlags := 1537
  interfaces := #[]
  cf := some (fileOf pool4 1 #[] #[] 1537 3 #[] #[])
  fields := #[]
  methods := #[]
  instanceTypes := #[]
  staticTypes := #[]
  resolved := Array.replicate 7 none
  statics := none }

def pool5 : Array CpInfo := pool [(1, .methodref 2 3), (0, .class_ 4), (0, .nameAndType 5 6), (0, u "java/lang/Object"), (0, u "<init>"), (0, u "()V"), (1, .class_ 10), (1, u "java/lang/Number"), (2, .class_ 14), (0, u "java/io/Serializable"), (0, u "serialVersionUID"), (0, u "J")] 20

def k5c0 : Code := { maxStack := 1, maxLocals := 1, code := jdk_18_method_1_code, exceptionTable := #[], attributes := #[] }
def k5m0 : Method := { name := "<init>", desc := "()V", sig := { parameters := [], returnType := none }, accessFlags := 1, code := some k5c0 }
/-- java/lang/Number -/
def k5 : Class := { plain "java/lang/Number" (some 0) with
  accessFlags := 1057
  interfaces := #[4]
  cf := some (fileOf pool5 8 #[] #[{ accessFlags := 1, nameIndex := 5, descriptorIndex := 6, attributes := #[] }] 1057 2 #[13] #[{ accessFlags := 26, nameIndex := 15, descriptorIndex := 16, attributes := #[] }])
  fields := #[{ name := "serialVersionUID", type := .long, accessFlags := 26, slot := 0, constantValue := 0 }]
  methods := #[k5m0]
  instanceTypes := #[]
  staticTypes := #[.long]
  resolved := Array.replicate 37 none
  statics := none }

def pool6 : Array CpInfo := pool [(1, .class_ 2), (0, u "java/lang/Comparable"), (0, .class_ 4), (0, u "java/lang/Object")] 7

/-- java/lang/Comparable -/
def k6 : Class := { plain "java/lang/Comparable" (some 0) with
  accessFlags := 1537
  interfaces := #[]
  cf := some (fileOf pool6 1 #[] #[] 1537 3 #[] #[])
  fields := #[]
  methods := #[]
  instanceTypes := #[]
  staticTypes := #[]
  resolved := Array.replicate 12 none
  statics := none }

def pool7 : Array CpInfo := pool [(1, .class_ 2), (0, u "java/lang/constant/Constable"), (0, .class_ 4), (0, u "java/lang/Object")] 6

/-- java/lang/constant/Constable -/
def k7 : Class := { plain "java/lang/constant/Constable" (some 0) with
  accessFlags := 1537
  interfaces := #[]
  cf := some (fileOf pool7 1 #[] #[] 1537 3 #[] #[])
  fields := #[]
  methods := #[]
  instanceTypes := #[]
  staticTypes := #[]
  resolved := Array.replicate 11 none
  statics := none }

def pool8 : Array CpInfo := pool [(1, .class_ 2), (0, u "java/lang/constant/ConstantDesc"), (0, .class_ 4), (0, u "java/lang/Object")] 32

/-- java/lang/constant/ConstantDesc -/
def k8 : Class := { plain "java/lang/constant/ConstantDesc" (some 0) with
  accessFlags := 1537
  interfaces := #[]
  cf := some (fileOf pool8 1 #[] #[] 1537 3 #[] #[])
  fields := #[]
  methods := #[]
  instanceTypes := #[]
  staticTypes := #[]
  resolved := Array.replicate 37 none
  statics := none }

def pool9 : Array CpInfo := pool [(1, .class_ 2), (0, u "java/lang/Integer"), (2, .class_ 6), (0, u "java/lang/String"), (2, .methodref 1 10), (0, .nameAndType 11 12), (0, u "toString"), (0, u "(I)Ljava/lang/String;"), (0, .fieldref 5 14), (0, .nameAndType 15 16), (0, u "COMPACT_STRINGS"), (0, u "Z"), (2, u "digits"), (0, u "[C"), (33, u "(I)I"), (10, .methodref 5 66), (0, .nameAndType 67 68), (0, u "<init>"), (0, u "([BB)V"), (3, .methodref 1 73), (0, .nameAndType 74 54), (0, u "stringSize"), (0, .methodref 1 76), (0, .nameAndType 77 78), (0, u "getChars"), (0, u "(II[B)I"), (4, .fieldref 1 84), (0, .nameAndType 85 86), (0, u "DigitOnes"), (0, u "[B"), (0, .fieldref 1 88), (0, .nameAndType 89 86), (0, u "DigitTens"), (10, .nameAndType 67 101), (0, u "()V"), (13, u "()Ljava/lang/String;"), (5, u "()I"), (65, u "valueOf"), (0, u "(I)Ljava/lang/Integer;"), (0, .class_ 190), (0, u "java/lang/Integer$IntegerCache"), (0, .fieldref 189 192), (0, .nameAndType 193 194), (0, u "high"), (0, u "I"), (0, .fieldref 189 196), (0, .nameAndType 197 198), (0, u "cache"), (0, u "[Ljava/lang/Integer;"), (0, .methodref 1 200), (0, .nameAndType 67 201), (0, u "(I)V"), (0, .methodref 203 100), (0, .class_ 204), (0, u "java/lang/Number"), (0, .fieldref 1 206), (0, .nameAndType 207 194), (0, u "value"), (5, u "intValue"), (88, u "TYPE"), (0, u "Ljava/lang/Class;"), (0, .class_ 305), (0, u "java/lang/Comparable"), (0, .class_ 307), (0, u "java/lang/constant/Constable"), (0, .class_ 309), (0, u "java/lang/constant/ConstantDesc"), (0, u "MIN_VALUE"), (1, u "MAX_VALUE"), (3, u "SIZE"), (1, u "BYTES"), (1, u "serialVersionUID"), (0, u "J")] 131

def k9c0 : Code := { maxStack := 4, maxLocals := 3, code := jdk_33_method_10_code, exceptionTable := #[], attributes := #[] }
def k9m0 : Method := { name := "toString", desc := "(I)Ljava/lang/String;", sig := { parameters := [.int], returnType := some (.object "java/lang/String") }, accessFlags := 9, code := some k9c0 }
def k9c1 : Code := { maxStack := 4, maxLocals := 7, code := jdk_33_method_12_code, exceptionTable := #[], attributes := #[] }
def k9m1 : Method := { name := "getChars", desc := "(II[B)I", sig := { parameters := [.int, .int, (.array .byte)], returnType := some .int }, accessFlags := 8, code := some k9c1 }
def k9c2 : Code := { maxStack := 2, maxLocals := 4, code := jdk_33_method_13_code, exceptionTable := #[], attributes := #[] }
def k9m2 : Method := { name := "stringSize", desc := "(I)I", sig := { parameters := [.int], returnType := some .int }, accessFlags := 8, code := some k9c2 }
def k9c3 : Code := { maxStack := 3, maxLocals := 1, code := jdk_33_method_22_code, exceptionTable := #[], attributes := #[] }
def k9m3 : Method := { name := "valueOf", desc := "(I)Ljava/lang/Integer;", sig := { parameters := [.int], returnType := some (.object "java/lang/Integer") }, accessFlags := 9, code := some k9c3 }
def k9c4 : Code := { maxStack := 2, maxLocals := 2, code := jdk_33_method_23_code, exceptionTable := #[], attributes := #[] }
def k9m4 : Method := { name := "<init>", desc := "(I)V", sig := { parameters := [.int], returnType := none }, accessFlags := 1, code := some k9c4 }
def k9c5 : Code := { maxStack := 1, maxLocals := 1, code := jdk_33_method_27_code, exceptionTable := #[], attributes := #[] }
def k9m5 : Method := { name := "intValue", desc := "()I", sig := { parameters := [], returnType := some .int }, accessFlags := 1, code := some k9c5 }
def k9c6 : Code := { maxStack := 1, maxLocals := 1, code := jdk_33_method_31_code, exceptionTable := #[], attributes := #[] }
def k9m6 : Method := { name := "toString", desc := "()Ljava/lang/String;", sig := { parameters := [], returnType := some (.object "java/lang/String") }, accessFlags := 1, code := some k9c6 }
/-- java/lang/Integer -/
def k9 : Class := { plain "java/lang/Integer" (some 5) with
  accessFlags := 49
  interfaces := #[6, 7, 8]
  cf := some (fileOf pool9 1 #[.nestMembers #[189]] #[{ accessFlags := 9, nameIndex := 11, descriptorIndex := 12, attributes := #[] }, { accessFlags := 8, nameIndex := 77, descriptorIndex := 78, attributes := #[] }, { accessFlags := 8, nameIndex := 74, descriptorIndex := 54, attributes := #[] }, { accessFlags := 9, nameIndex := 187, descriptorIndex := 188, attributes := #[] }, { accessFlags := 1, nameIndex := 67, descriptorIndex := 201, attributes := #[] }, { accessFlags := 1, nameIndex := 213, descriptorIndex := 121, attributes := #[] }, { accessFlags := 1, nameIndex := 11, descriptorIndex := 115, attributes := #[] }] 49 203 #[304, 306, 308] #[{ accessFlags := 25, nameIndex := 310, descriptorIndex := 194, attributes := #[] }, { accessFlags := 25, nameIndex := 312, descriptorIndex := 194, attributes := #[] }, { accessFlags := 25, nameIndex := 302, descriptorIndex := 303, attributes := #[] }, { accessFlags := 24, nameIndex := 19, descriptorIndex := 20, attributes := #[] }, { accessFlags := 24, nameIndex := 89, descriptorIndex := 86, attributes := #[] }, { accessFlags := 24, nameIndex := 85, descriptorIndex := 86, attributes := #[] }, { accessFlags := 18, nameIndex := 207, descriptorIndex := 194, attributes := #[] }, { accessFlags := 25, nameIndex := 316, descriptorIndex := 194, attributes := #[] }, { accessFlags := 25, nameIndex := 318, descriptorIndex := 194, attributes := #[] }, { accessFlags := 26, nameIndex := 320, descriptorIndex := 321, attributes := #[] }])
  fields := #[{ name := "MIN_VALUE", type := .int, accessFlags := 25, slot := 0, constantValue := 0 }, { name := "MAX_VALUE", type := .int, accessFlags := 25, slot := 1, constantValue := 0 }, { name := "TYPE", type := (.object "java/lang/Class"), accessFlags := 25, slot := 2, constantValue := 0 }, { name := "digits", type := (.array .char), accessFlags := 24, slot := 3, constantValue := 0 }, { name := "DigitTens", type := (.array .byte), accessFlags := 24, slot := 4, constantValue := 0 }, { name := "DigitOnes", type := (.array .byte), accessFlags := 24, slot := 5, constantValue := 0 }, { name := "value", type := .int, accessFlags := 18, slot := 0, constantValue := 0 }, { name := "SIZE", type := .int, accessFlags := 25, slot := 6, constantValue := 0 }, { name := "BYTES", type := .int, accessFlags := 25, slot := 7, constantValue := 0 }, { name := "serialVersionUID", type := .long, accessFlags := 26, slot := 8, constantValue := 0 }]
  methods := #[k9m0, k9m1, k9m2, k9m3, k9m4, k9m5, k9m6]
  instanceTypes := #[.int]
  staticTypes := #[.int, .int, (.object "java/lang/Class"), (.array .char), (.array .byte), (.array .byte), .int, .int, .long]
  resolved := Array.replicate 453 none
  statics := some 0 }

def pool10 : Array CpInfo := pool [(2, .class_ 4), (1, u "java/lang/Object"), (0, u "<init>"), (0, u "()V"), (0, .class_ 8), (0, u "java/lang/Integer"), (7, .class_ 18), (1, u "java/lang/Integer$IntegerCache"), (0, u "$assertionsDisabled"), (0, u "Z"), (26, u "high"), (0, u "I"), (8, u "archivedCache"), (0, u "[Ljava/lang/Integer;"), (12, u "cache"), (0, u "low")] 27

def k10m0 : Method := { name := "<init>", desc := "()V", sig := { parameters := [], returnType := none }, accessFlags := 2, code := none }
/-- java/lang/Integer$IntegerCache -/
def k10 : Class := { plain "java/lang/Integer$IntegerCache" (some 0) with
  accessFlags := 48
  interfaces := #[]
  cf := some (fileOf pool10 16 #[.nestHost 7] #[{ accessFlags := 2, nameIndex := 5, descriptorIndex := 6, attributes := #[] }] 48 2 #[] #[{ accessFlags := 24, nameIndex := 72, descriptorIndex := 48, attributes := #[] }, { accessFlags := 24, nameIndex := 47, descriptorIndex := 48, attributes := #[] }, { accessFlags := 24, nameIndex := 71, descriptorIndex := 58, attributes := #[] }, { accessFlags := 8, nameIndex := 57, descriptorIndex := 58, attributes := #[] }, { accessFlags := 4120, nameIndex := 19, descriptorIndex := 20, attributes := #[] }])
  fields := #[{ name := "low", type := .int, accessFlags := 24, slot := 0, constantValue := 0 }, { name := "high", type := .int, accessFlags := 24, slot := 1, constantValue := 0 }, { name := "cache", type := (.array (.object "java/lang/Integer")), accessFlags := 24, slot := 2, constantValue := 0 }, { name := "archivedCache", type := (.array (.object "java/lang/Integer")), accessFlags := 8, slot := 3, constantValue := 0 }, { name := "$assertionsDisabled", type := .boolean, accessFlags := 4120, slot := 4, constantValue := 0 }]
  methods := #[k10m0]
  instanceTypes := #[]
  staticTypes := #[.int, .int, (.array (.object "java/lang/Integer")), (.array (.object "java/lang/Integer")), .boolean]
  resolved := Array.replicate 100 none
  statics := some 1 }

def pool11 : Array CpInfo := pool [(1, .class_ 2), (0, u "java/lang/Appendable"), (0, .class_ 4), (0, u "java/lang/Object")] 9

/-- java/lang/Appendable -/
def k11 : Class := { plain "java/lang/Appendable" (some 0) with
  accessFlags := 1537
  interfaces := #[]
  cf := some (fileOf pool11 1 #[] #[] 1537 3 #[] #[])
  fields := #[]
  methods := #[]
  instanceTypes := #[]
  staticTypes := #[]
  resolved := Array.replicate 14 none
  statics := none }

def pool12 : Array CpInfo := pool [(2, .class_ 4), (1, u "java/lang/CharSequence"), (42, .class_ 48), (0, u "java/lang/CharSequence$1CodePointIterator"), (10, .class_ 60), (0, u "java/lang/CharSequence$1CharIterator"), (5, .class_ 67), (0, u "java/lang/Object")] 63

/-- java/lang/CharSequence -/
def k12 : Class := { plain "java/lang/CharSequence" (some 0) with
  accessFlags := 1537
  interfaces := #[]
  cf := some (fileOf pool12 2 #[.nestMembers #[47, 59]] #[] 1537 66 #[] #[])
  fields := #[]
  methods := #[]
  instanceTypes := #[]
  staticTypes := #[]
  resolved := Array.replicate 131 none
  statics := none }

def pool13 : Array CpInfo := pool [(1, .class_ 2), (0, u "java/lang/String"), (0, .methodref 4 5), (0, .class_ 6), (0, .nameAndType 7 8), (0, u "java/lang/Object"), (0, u "<init>"), (0, u "()V"), (1, .class_ 12), (1, u "java/lang/AbstractStringBuilder"), (0, u "EMPTYVALUE"), (0, u "[B"), (0, .fieldref 10 16), (0, .nameAndType 17 14), (0, u "value"), (0, .fieldref 1 19), (0, .nameAndType 20 21), (0, u "COMPACT_STRINGS"), (0, u "Z"), (0, .fieldref 10 23), (0, .nameAndType 24 25), (0, u "coder"), (0, u "B"), (6, .methodref 1 33), (0, .nameAndType 34 35), (0, u "length"), (0, u "()I"), (3, .integer 2147483647), (0, .methodref 1 41), (0, .nameAndType 24 42), (0, u "()B"), (2, u "append"), (0, u "(Ljava/lang/String;)Ljava/lang/AbstractStringBuilder;"), (1, .class_ 49), (0, u "java/lang/CharSequence"), (19, u "(Ljava/lang/String;)V"), (5, u "maybeLatin1"), (3, .fieldref 10 80), (0, .nameAndType 81 82), (0, u "count"), (0, u "I"), (2, u "isLatin1"), (0, u "()Z"), (13, .methodref 10 101), (0, .nameAndType 102 103), (0, u "ensureCapacityInternal"), (0, u "(I)V"), (0, .methodref 10 105), (0, .nameAndType 106 107), (0, u "newCapacity"), (0, u "(I)I"), (0, .methodref 109 110), (0, .class_ 111), (0, .nameAndType 112 113), (0, u "java/util/Arrays"), (0, u "copyOf"), (0, u "([BI)[B"), (0, .methodref 115 116), (0, .class_ 117), (0, .nameAndType 118 119), (0, u "jdk/internal/util/ArraysSupport"), (0, u "newLength"), (0, u "(III)I"), (88, .methodref 10 209), (0, .nameAndType 210 211), (0, u "putStringAt"), (0, u "(ILjava/lang/String;)V"), (5, u "inflateIfNeededFor"), (2, .nameAndType 221 222), (0, u "getBytes"), (0, u "([BIB)V"), (174, .methodref 10 398), (0, .nameAndType 217 69), (0, .methodref 1 220), (3, u "()[B"), (40, .class_ 445), (0, u "java/lang/Appendable"), (106, u "getValue")] 56

def k13m0 : Method := { name := "<init>", desc := "()V", sig := { parameters := [], returnType := none }, accessFlags := 0, code := none }
def k13c1 : Code := { maxStack := 2, maxLocals := 2, code := jdk_68_method_2_code, exceptionTable := #[], attributes := #[] }
def k13m1 : Method := { name := "<init>", desc := "(I)V", sig := { parameters := [.int], returnType := none }, accessFlags := 0, code := some k13c1 }
def k13c2 : Code := { maxStack := 1, maxLocals := 1, code := jdk_68_method_6_code, exceptionTable := #[], attributes := #[] }
def k13m2 : Method := { name := "length", desc := "()I", sig := { parameters := [], returnType := some .int }, accessFlags := 1, code := some k13c2 }
def k13c3 : Code := { maxStack := 4, maxLocals := 3, code := jdk_68_method_9_code, exceptionTable := #[], attributes := #[] }
def k13m3 : Method := { name := "ensureCapacityInternal", desc := "(I)V", sig := { parameters := [.int], returnType := none }, accessFlags := 2, code := some k13c3 }
def k13c4 : Code := { maxStack := 5, maxLocals := 6, code := jdk_68_method_10_code, exceptionTable := #[], attributes := #[] }
def k13m4 : Method := { name := "newCapacity", desc := "(I)I", sig := { parameters := [.int], returnType := some .int }, accessFlags := 2, code := some k13c4 }
def k13c5 : Code := { maxStack := 3, maxLocals := 3, code := jdk_68_method_22_code, exceptionTable := #[], attributes := #[] }
def k13m5 : Method := { name := "append", desc := "(Ljava/lang/String;)Ljava/lang/AbstractStringBuilder;", sig := { parameters := [(.object "java/lang/String")], returnType := some (.object "java/lang/AbstractStringBuilder") }, accessFlags := 1, code := some k13c5 }
def k13c6 : Code := { maxStack := 1, maxLocals := 1, code := jdk_68_method_64_code, exceptionTable := #[], attributes := #[] }
def k13m6 : Method := { name := "getValue", desc := "()[B", sig := { parameters := [], returnType := some (.array .byte) }, accessFlags := 16, code := some k13c6 }
def k13c7 : Code := { maxStack := 1, maxLocals := 1, code := jdk_68_method_68_code, exceptionTable := #[], attributes := #[] }
def k13m7 : Method := { name := "isLatin1", desc := "()Z", sig := { parameters := [], returnType := some .boolean }, accessFlags := 16, code := some k13c7 }
def k13c8 : Code := { maxStack := 2, maxLocals := 2, code := jdk_68_method_71_code, exceptionTable := #[], attributes := #[] }
def k13m8 : Method := { name := "inflateIfNeededFor", desc := "(Ljava/lang/String;)V", sig := { parameters := [(.object "java/lang/String")], returnType := none }, accessFlags := 2, code := some k13c8 }
def k13c9 : Code := { maxStack := 4, maxLocals := 3, code := jdk_68_method_73_code, exceptionTable := #[], attributes := #[] }
def k13m9 : Method := { name := "putStringAt", desc := "(ILjava/lang/String;)V", sig := { parameters := [.int, (.object "java/lang/String")], returnType := none }, accessFlags := 2, code := some k13c9 }
/-- java/lang/AbstractStringBuilder -/
def k13 : Class := { plain "java/lang/AbstractStringBuilder" (some 0) with
  accessFlags := 1056
  interfaces := #[11, 12]
  cf := some (fileOf pool13 10 #[] #[{ accessFlags := 0, nameIndex := 7, descriptorIndex := 8, attributes := #[] }, { accessFlags := 0, nameIndex := 7, descriptorIndex := 103, attributes := #[] }, { accessFlags := 1, nameIndex := 34, descriptorIndex := 35, attributes := #[] }, { accessFlags := 2, nameIndex := 102, descriptorIndex := 103, attributes := #[] }, { accessFlags := 2, nameIndex := 106, descriptorIndex := 107, attributes := #[] }, { accessFlags := 1, nameIndex := 45, descriptorIndex := 46, attributes := #[] }, { accessFlags := 16, nameIndex := 552, descriptorIndex := 403, attributes := #[] }, { accessFlags := 16, nameIndex := 85, descriptorIndex := 86, attributes := #[] }, { accessFlags := 2, nameIndex := 217, descriptorIndex := 69, attributes := #[] }, { accessFlags := 2, nameIndex := 210, descriptorIndex := 211, attributes := #[] }] 1056 4 #[444, 48] #[{ accessFlags := 0, nameIndex := 17, descriptorIndex := 14, attributes := #[] }, { accessFlags := 0, nameIndex := 24, descriptorIndex := 25, attributes := #[] }, { accessFlags := 0, nameIndex := 75, descriptorIndex := 21, attributes := #[] }, { accessFlags := 0, nameIndex := 81, descriptorIndex := 82, attributes := #[] }, { accessFlags := 26, nameIndex := 13, descriptorIndex := 14, attributes := #[] }])
  fields := #[{ name := "value", type := (.array .byte), accessFlags := 0, slot := 0, constantValue := 0 }, { name := "coder", type := .byte, accessFlags := 0, slot := 1, constantValue := 0 }, { name := "maybeLatin1", type := .boolean, accessFlags := 0, slot := 2, constantValue := 0 }, { name := "count", type := .int, accessFlags := 0, slot := 3, constantValue := 0 }, { name := "EMPTYVALUE", type := (.array .byte), accessFlags := 26, slot := 0, constantValue := 0 }]
  methods := #[k13m0, k13m1, k13m2, k13m3, k13m4, k13m5, k13m6, k13m7, k13m8, k13m9]
  instanceTypes := #[(.array .byte), .byte, .boolean, .int]
  staticTypes := #[(.array .byte)]
  resolved := Array.replicate 609 none
  statics := none }

def pool14 : Array CpInfo := pool [(1, .methodref 2 3), (0, .class_ 4), (0, .nameAndType 5 6), (0, u "java/lang/AbstractStringBuilder"), (0, u "<init>"), (0, u "(I)V"), (10, .methodref 18 19), (0, .class_ 20), (0, .nameAndType 21 22), (0, u "java/lang/String"), (0, u "valueOf"), (0, u "(Ljava/lang/Object;)Ljava/lang/String;"), (0, .methodref 24 25), (0, .class_ 26), (0, .nameAndType 27 28), (0, u "java/lang/StringBuilder"), (0, u "append"), (0, u "(Ljava/lang/String;)Ljava/lang/StringBuilder;"), (0, .methodref 2 30), (0, .nameAndType 27 31), (0, u "(Ljava/lang/String;)Ljava/lang/AbstractStringBuilder;"), (105, .methodref 18 138), (0, .nameAndType 5 139), (0, u "(Ljava/lang/StringBuilder;)V"), (5, u "()V"), (10, u "()I"), (150, u "(Ljava/lang/Object;)Ljava/lang/StringBuilder;"), (35, .methodref 2 344), (0, .nameAndType 345 156), (0, u "length"), (3, .class_ 350), (0, u "java/lang/Appendable"), (0, .class_ 352), (0, u "java/io/Serializable"), (0, .class_ 354), (0, u "java/lang/Comparable"), (0, .class_ 356), (0, u "java/lang/CharSequence"), (0, u "serialVersionUID"), (0, u "J"), (40, u "toString"), (0, u "()Ljava/lang/String;")] 21

def k14c0 : Code := { maxStack := 2, maxLocals := 1, code := jdk_67_method_1_code, exceptionTable := #[], attributes := #[] }
def k14m0 : Method := { name := "<init>", desc := "()V", sig := { parameters := [], returnType := none }, accessFlags := 1, code := some k14c0 }
def k14c1 : Code := { maxStack := 2, maxLocals := 2, code := jdk_67_method_6_code, exceptionTable := #[], attributes := #[] }
def k14m1 : Method := { name := "append", desc := "(Ljava/lang/Object;)Ljava/lang/StringBuilder;", sig := { parameters := [(.object "java/lang/Object")], returnType := some (.object "java/lang/StringBuilder") }, accessFlags := 1, code := some k14c1 }
def k14c2 : Code := { maxStack := 2, maxLocals := 2, code := jdk_67_method_7_code, exceptionTable := #[], attributes := #[] }
def k14m2 : Method := { name := "append", desc := "(Ljava/lang/String;)Ljava/lang/StringBuilder;", sig := { parameters := [(.object "java/lang/String")], returnType := some (.object "java/lang/StringBuilder") }, accessFlags := 1, code := some k14c2 }
def k14c3 : Code := { maxStack := 3, maxLocals := 1, code := jdk_67_method_42_code, exceptionTable := #[], attributes := #[] }
def k14m3 : Method := { name := "toString", desc := "()Ljava/lang/String;", sig := { parameters := [], returnType := some (.object "java/lang/String") }, accessFlags := 1, code := some k14c3 }
def k14c4 : Code := { maxStack := 1, maxLocals := 1, code := jdk_67_method_93_code, exceptionTable := #[], attributes := #[] }
def k14m4 : Method := { name := "length", desc := "()I", sig := { parameters := [], returnType := some .int }, accessFlags := 4161, code := some k14c4 }
/-- java/lang/StringBuilder -/
def k14 : Class := { plain "java/lang/StringBuilder" (some 13) with
  accessFlags := 49
  interfaces := #[11, 4, 6, 12]
  cf := some (fileOf pool14 24 #[] #[{ accessFlags := 1, nameIndex := 5, descriptorIndex := 145, attributes := #[] }, { accessFlags := 1, nameIndex := 27, descriptorIndex := 307, attributes := #[] }, { accessFlags := 1, nameIndex := 27, descriptorIndex := 28, attributes := #[] }, { accessFlags := 1, nameIndex := 399, descriptorIndex := 400, attributes := #[] }, { accessFlags := 4161, nameIndex := 345, descriptorIndex := 156, attributes := #[] }] 49 2 #[349, 351, 353, 355] #[{ accessFlags := 24, nameIndex := 357, descriptorIndex := 358, attributes := #[] }])
  fields := #[{ name := "serialVersionUID", type := .long, accessFlags := 24, slot := 0, constantValue := 0 }]
  methods := #[k14m0, k14m1, k14m2, k14m3, k14m4]
  instanceTypes := #[(.array .byte), .byte, .boolean, .int]
  staticTypes := #[.long]
  resolved := Array.replicate 422 none
  statics := none }

def pool15 : Array CpInfo := pool [(1, .methodref 2 3), (0, .class_ 4), (0, .nameAndType 5 6), (0, u "java/lang/Object"), (0, u "<init>"), (0, u "()V"), (2, .fieldref 10 11), (0, .class_ 12), (0, .nameAndType 13 14), (0, u "java/lang/String"), (0, u "value"), (0, u "[B"), (0, .fieldref 10 16), (0, .nameAndType 17 18), (0, u "coder"), (0, u "B"), (2, u "hash"), (0, u "I"), (2, u "hashIsZero"), (0, u "Z"), (11, .fieldref 10 39), (0, .nameAndType 40 26), (0, u "COMPACT_STRINGS"), (13, .methodref 55 56), (0, .class_ 57), (0, .nameAndType 58 59), (0, u "java/util/Arrays"), (0, u "copyOfRange"), (0, u "([BII)[B"), (82, u "()Z"), (50, .class_ 195), (1, u "java/lang/System"), (15, u "([BB)V"), (0, .methodref 193 213), (0, .nameAndType 214 215), (0, u "arraycopy"), (0, u "(Ljava/lang/Object;ILjava/lang/Object;II)V"), (118, u "()I"), (0, .methodref 10 336), (0, .nameAndType 17 337), (0, u "()B"), (2, u "()[B"), (121, .nameAndType 463 464), (0, u "toString"), (0, u "()Ljava/lang/String;"), (24, .methodref 10 490), (0, .nameAndType 5 491), (0, u "(Ljava/lang/AbstractStringBuilder;Ljava/lang/Void;)V"), (1, .nameAndType 494 142), (0, u "isLatin1"), (11, .nameAndType 507 334), (0, u "length"), (24, u "getBytes"), (16, .methodref 550 506), (0, .class_ 551), (0, u "java/lang/AbstractStringBuilder"), (0, .methodref 550 553), (0, .nameAndType 554 340), (0, u "getValue"), (20, .class_ 576), (0, u "java/lang/CharSequence"), (22, u "CASE_INSENSITIVE_ORDER"), (0, u "Ljava/util/Comparator;"), (181, u "valueOf"), (25, u "(Ljava/lang/Object;)Ljava/lang/String;"), (12, u "([BIB)V"), (185, .methodref 2 462), (39, .methodref 550 493), (53, u "serialPersistentFields"), (0, u "[Ljava/io/ObjectStreamField;"), (0, .class_ 1104), (0, u "java/lang/String$CaseInsensitiveComparator"), (1, .class_ 1107), (0, u "java/io/Serializable"), (0, .class_ 1109), (0, u "java/lang/Comparable"), (0, .class_ 1111), (0, u "java/lang/constant/Constable"), (0, .class_ 1113), (0, u "java/lang/constant/ConstantDesc"), (2, u "serialVersionUID"), (0, u "J"), (3, u "REPL"), (0, u "C"), (2, u "LATIN1"), (1, u "UTF16"), (105, u "(Ljava/lang/StringBuilder;)V")] 217

def k15m0 : Method := { name := "<init>", desc := "()V", sig := { parameters := [], returnType := none }, accessFlags := 1, code := none }
def k15c1 : Code := { maxStack := 3, maxLocals := 2, code := jdk_42_method_53_code, exceptionTable := #[], attributes := #[] }
def k15m1 : Method := { name := "<init>", desc := "(Ljava/lang/StringBuilder;)V", sig := { parameters := [(.object "java/lang/StringBuilder")], returnType := none }, accessFlags := 1, code := some k15c1 }
def k15c2 : Code := { maxStack := 2, maxLocals := 1, code := jdk_42_method_54_code, exceptionTable := #[], attributes := #[] }
def k15m2 : Method := { name := "length", desc := "()I", sig := { parameters := [], returnType := some .int }, accessFlags := 1, code := some k15c2 }
def k15c3 : Code := { maxStack := 1, maxLocals := 1, code := jdk_42_method_133_code, exceptionTable := #[], attributes := #[] }
def k15m3 : Method := { name := "valueOf", desc := "(Ljava/lang/Object;)Ljava/lang/String;", sig := { parameters := [(.object "java/lang/Object")], returnType := some (.object "java/lang/String") }, accessFlags := 9, code := some k15c3 }
def k15c4 : Code := { maxStack := 5, maxLocals := 4, code := jdk_42_method_147_code, exceptionTable := #[], attributes := #[] }
def k15m4 : Method := { name := "getBytes", desc := "([BIB)V", sig := { parameters := [(.array .byte), .int, .byte], returnType := none }, accessFlags := 0, code := some k15c4 }
def k15c5 : Code := { maxStack := 5, maxLocals := 5, code := jdk_42_method_150_code, exceptionTable := #[], attributes := #[] }
def k15m5 : Method := { name := "<init>", desc := "(Ljava/lang/AbstractStringBuilder;Ljava/lang/Void;)V", sig := { parameters := [(.object "java/lang/AbstractStringBuilder"), (.object "java/lang/Void")], returnType := none }, accessFlags := 0, code := some k15c5 }
def k15c6 : Code := { maxStack := 2, maxLocals := 3, code := jdk_42_method_151_code, exceptionTable := #[], attributes := #[] }
def k15m6 : Method := { name := "<init>", desc := "([BB)V", sig := { parameters := [(.array .byte), .byte], returnType := none }, accessFlags := 0, code := some k15c6 }
def k15c7 : Code := { maxStack := 1, maxLocals := 1, code := jdk_42_method_152_code, exceptionTable := #[], attributes := #[] }
def k15m7 : Method := { name := "coder", desc := "()B", sig := { parameters := [], returnType := some .byte }, accessFlags := 0, code := some k15c7 }
/-- java/lang/String -/
def k15 : Class := { plain "java/lang/String" (some 0) with
  accessFlags := 49
  interfaces := #[4, 6, 12, 7, 8]
  cf := some (fileOf pool15 10 #[.nestMembers #[1103]] #[{ accessFlags := 1, nameIndex := 5, descriptorIndex := 6, attributes := #[] }, { accessFlags := 1, nameIndex := 5, descriptorIndex := 1233, attributes := #[] }, { accessFlags := 1, nameIndex := 507, descriptorIndex := 334, attributes := #[] }, { accessFlags := 9, nameIndex := 782, descriptorIndex := 808, attributes := #[] }, { accessFlags := 0, nameIndex := 532, descriptorIndex := 821, attributes := #[] }, { accessFlags := 0, nameIndex := 5, descriptorIndex := 491, attributes := #[] }, { accessFlags := 0, nameIndex := 5, descriptorIndex := 211, attributes := #[] }, { accessFlags := 0, nameIndex := 17, descriptorIndex := 337, attributes := #[] }] 49 2 #[1106, 1108, 575, 1110, 1112] #[{ accessFlags := 18, nameIndex := 13, descriptorIndex := 14, attributes := #[] }, { accessFlags := 18, nameIndex := 17, descriptorIndex := 18, attributes := #[] }, { accessFlags := 2, nameIndex := 21, descriptorIndex := 22, attributes := #[] }, { accessFlags := 2, nameIndex := 25, descriptorIndex := 26, attributes := #[] }, { accessFlags := 26, nameIndex := 1116, descriptorIndex := 1117, attributes := #[] }, { accessFlags := 24, nameIndex := 40, descriptorIndex := 26, attributes := #[] }, { accessFlags := 26, nameIndex := 1101, descriptorIndex := 1102, attributes := #[] }, { accessFlags := 26, nameIndex := 1121, descriptorIndex := 1122, attributes := #[] }, { accessFlags := 25, nameIndex := 599, descriptorIndex := 600, attributes := #[] }, { accessFlags := 24, nameIndex := 1125, descriptorIndex := 18, attributes := #[] }, { accessFlags := 24, nameIndex := 1127, descriptorIndex := 18, attributes := #[] }])
  fields := #[{ name := "value", type := (.array .byte), accessFlags := 18, slot := 0, constantValue := 0 }, { name := "coder", type := .byte, accessFlags := 18, slot := 1, constantValue := 0 }, { name := "hash", type := .int, accessFlags := 2, slot := 2, constantValue := 0 }, { name := "hashIsZero", type := .boolean, accessFlags := 2, slot := 3, constantValue := 0 }, { name := "serialVersionUID", type := .long, accessFlags := 26, slot := 0, constantValue := 0 }, { name := "COMPACT_STRINGS", type := .boolean, accessFlags := 24, slot := 1, constantValue := 0 }, { name := "serialPersistentFields", type := (.array (.object "java/io/ObjectStreamField")), accessFlags := 26, slot := 2, constantValue := 0 }, { name := "REPL", type := .char, accessFlags := 26, slot := 3, constantValue := 0 }, { name := "CASE_INSENSITIVE_ORDER", type := (.object "java/util/Comparator"), accessFlags := 25, slot := 4, constantValue := 0 }, { name := "LATIN1", type := .byte, accessFlags := 24, slot := 5, constantValue := 0 }, { name := "UTF16", type := .byte, accessFlags := 24, slot := 6, constantValue := 0 }]
  methods := #[k15m0, k15m1, k15m2, k15m3, k15m4, k15m5, k15m6, k15m7]
  instanceTypes := #[(.array .byte), .byte, .int, .boolean]
  staticTypes := #[.long, .boolean, (.array (.object "java/io/ObjectStreamField")), .char, (.object "java/util/Comparator"), .byte, .byte]
  resolved := Array.replicate 1451 none
  statics := some 2 }

def pool16 : Array CpInfo := pool [(2, .class_ 4), (1, u "java/lang/Object"), (0, u "<init>"), (0, u "()V"), (1, .class_ 10), (1, u "java/lang/System"), (0, u "allowSecurityManager"), (0, u "I"), (16, u "cons"), (0, u "Ljava/io/Console;"), (77, .class_ 110), (1, u "java/lang/System$CallersHolder"), (43, u "initialErrStream"), (0, u "Ljava/io/PrintStream;"), (19, u "security"), (0, u "Ljava/lang/SecurityManager;"), (31, .class_ 209), (0, u "java/lang/System$1"), (7, u "props"), (0, u "Ljava/util/Properties;"), (2, u "lineSeparator"), (0, u "Ljava/lang/String;"), (96, .class_ 321), (1, u "java/lang/System$LoggerFinder"), (5, .class_ 328), (0, u "java/lang/System$Logger"), (67, u "err"), (2, u "out"), (91, u "notSupportedJnuEncoding"), (15, u "in"), (17, u "initialIn"), (0, u "Ljava/io/InputStream;"), (35, u "bootLayer"), (0, u "Ljava/lang/ModuleLayer;"), (99, .class_ 664), (0, u "java/lang/System$2"), (9, u "NEVER"), (2, u "MAYBE"), (49, u "arraycopy"), (0, u "(Ljava/lang/Object;ILjava/lang/Object;II)V"), (72, .class_ 802), (0, u "java/lang/System$Logger$Level")] 31

def k16m0 : Method := { name := "<init>", desc := "()V", sig := { parameters := [], returnType := none }, accessFlags := 2, code := none }
def k16m1 : Method := { name := "arraycopy", desc := "(Ljava/lang/Object;ILjava/lang/Object;II)V", sig := { parameters := [(.object "java/lang/Object"), .int, (.object "java/lang/Object"), .int, .int], returnType := none }, accessFlags := 265, code := none }
/-- java/lang/System -/
def k16 : Class := { plain "java/lang/System" (some 0) with
  accessFlags := 49
  interfaces := #[]
  cf := some (fileOf pool16 8 #[.nestMembers #[319, 327, 801, 108, 663, 208]] #[{ accessFlags := 2, nameIndex := 5, descriptorIndex := 6, attributes := #[] }, { accessFlags := 265, nameIndex := 727, descriptorIndex := 728, attributes := #[] }] 49 2 #[] #[{ accessFlags := 25, nameIndex := 507, descriptorIndex := 526, attributes := #[] }, { accessFlags := 25, nameIndex := 399, descriptorIndex := 155, attributes := #[] }, { accessFlags := 25, nameIndex := 396, descriptorIndex := 155, attributes := #[] }, { accessFlags := 10, nameIndex := 525, descriptorIndex := 526, attributes := #[] }, { accessFlags := 26, nameIndex := 674, descriptorIndex := 12, attributes := #[] }, { accessFlags := 26, nameIndex := 677, descriptorIndex := 12, attributes := #[] }, { accessFlags := 10, nameIndex := 11, descriptorIndex := 12, attributes := #[] }, { accessFlags := 74, nameIndex := 175, descriptorIndex := 176, attributes := #[] }, { accessFlags := 10, nameIndex := 491, descriptorIndex := 222, attributes := #[] }, { accessFlags := 74, nameIndex := 29, descriptorIndex := 30, attributes := #[] }, { accessFlags := 74, nameIndex := 154, descriptorIndex := 155, attributes := #[] }, { accessFlags := 10, nameIndex := 217, descriptorIndex := 218, attributes := #[] }, { accessFlags := 10, nameIndex := 221, descriptorIndex := 222, attributes := #[] }, { accessFlags := 8, nameIndex := 562, descriptorIndex := 563, attributes := #[] }])
  fields := #[{ name := "in", type := (.object "java/io/InputStream"), accessFlags := 25, slot := 0, constantValue := 0 }, { name := "out", type := (.object "java/io/PrintStream"), accessFlags := 25, slot := 1, constantValue := 0 }, { name := "err", type := (.object "java/io/PrintStream"), accessFlags := 25, slot := 2, constantValue := 0 }, { name := "initialIn", type := (.object "java/io/InputStream"), accessFlags := 10, slot := 3, constantValue := 0 }, { name := "NEVER", type := .int, accessFlags := 26, slot := 4, constantValue := 0 }, { name := "MAYBE", type := .int, accessFlags := 26, slot := 5, constantValue := 0 }, { name := "allowSecurityManager", type := .int, accessFlags := 10, slot := 6, constantValue := 0 }, { name := "security", type := (.object "java/lang/SecurityManager"), accessFlags := 74, slot := 7, constantValue := 0 }, { name := "notSupportedJnuEncoding", type := (.object "java/lang/String"), accessFlags := 10, slot := 8, constantValue := 0 }, { name := "cons", type := (.object "java/io/Console"), accessFlags := 74, slot := 9, constantValue := 0 }, { name := "initialErrStream", type := (.object "java/io/PrintStream"), accessFlags := 74, slot := 10, constantValue := 0 }, { name := "props", type := (.object "java/util/Properties"), accessFlags := 10, slot := 11, constantValue := 0 }, { name := "lineSeparator", type := (.object "java/lang/String"), accessFlags := 10, slot := 12, constantValue := 0 }, { name := "bootLayer", type := (.object "java/lang/ModuleLayer"), accessFlags := 8, slot := 13, constantValue := 0 }]
  methods := #[k16m0, k16m1]
  instanceTypes := #[]
  staticTypes := #[(.object "java/io/InputStream"), (.object "java/io/PrintStream"), (.object "java/io/PrintStream"), (.object "java/io/InputStream"), .int, .int, .int, (.object "java/lang/SecurityManager"), (.object "java/lang/String"), (.object "java/io/Console"), (.object "java/io/PrintStream"), (.object "java/util/Properties"), (.object "java/lang/String"), (.object "java/lang/ModuleLayer")]
  resolved := Array.replicate 834 none
  statics := none }

def pool17 : Array CpInfo := pool [(9, u "<init>"), (6, .class_ 18), (1, u "java/lang/Object"), (0, u "()V"), (1, .class_ 23), (1, u "jdk/internal/util/ArraysSupport"), (0, u "LOG2_ARRAY_LONG_INDEX_SCALE"), (0, u "I"), (2, u "U"), (0, u "Ljdk/internal/misc/Unsafe;"), (8, u "BIG_ENDIAN"), (0, u "Z"), (8, u "LOG2_BYTE_BIT_SIZE"), (4, u "LOG2_ARRAY_INT_INDEX_SCALE"), (54, u "JLA"), (0, u "Ljdk/internal/access/JavaLangAccess;"), (11, u "LOG2_ARRAY_BOOLEAN_INDEX_SCALE"), (9, u "LOG2_ARRAY_BYTE_INDEX_SCALE"), (5, u "LOG2_ARRAY_CHAR_INDEX_SCALE"), (5, u "LOG2_ARRAY_SHORT_INDEX_SCALE"), (18, u "LOG2_ARRAY_FLOAT_INDEX_SCALE"), (24, u "LOG2_ARRAY_DOUBLE_INDEX_SCALE"), (6, .methodref 195 196), (0, .class_ 197), (0, .nameAndType 198 199), (0, u "java/lang/Math"), (0, u "max"), (0, u "(II)I"), (0, .integer 2147483639), (76, u "T_BOOLEAN"), (2, u "T_CHAR"), (1, u "T_FLOAT"), (1, u "T_DOUBLE"), (1, u "T_BYTE"), (1, u "T_SHORT"), (1, u "T_INT"), (1, u "T_LONG"), (1, u "SOFT_MAX_ARRAY_LENGTH"), (56, u "newLength"), (0, u "(III)I")] 25

def k17m0 : Method := { name := "<init>", desc := "()V", sig := { parameters := [], returnType := none }, accessFlags := 2, code := none }
def k17c1 : Code := { maxStack := 3, maxLocals := 4, code := jdk_48_method_27_code, exceptionTable := #[], attributes := #[] }
def k17m1 : Method := { name := "newLength", desc := "(III)I", sig := { parameters := [.int, .int, .int], returnType := some .int }, accessFlags := 9, code := some k17c1 }
/-- jdk/internal/util/ArraysSupport -/
def k17 : Class := { plain "jdk/internal/util/ArraysSupport" (some 0) with
  accessFlags := 33
  interfaces := #[]
  cf := some (fileOf pool17 21 #[] #[{ accessFlags := 2, nameIndex := 9, descriptorIndex := 19, attributes := #[] }, { accessFlags := 9, nameIndex := 351, descriptorIndex := 352, attributes := #[] }] 33 16 #[] #[{ accessFlags := 24, nameIndex := 28, descriptorIndex := 29, attributes := #[] }, { accessFlags := 26, nameIndex := 38, descriptorIndex := 39, attributes := #[] }, { accessFlags := 25, nameIndex := 121, descriptorIndex := 25, attributes := #[] }, { accessFlags := 25, nameIndex := 131, descriptorIndex := 25, attributes := #[] }, { accessFlags := 25, nameIndex := 137, descriptorIndex := 25, attributes := #[] }, { accessFlags := 25, nameIndex := 143, descriptorIndex := 25, attributes := #[] }, { accessFlags := 25, nameIndex := 53, descriptorIndex := 25, attributes := #[] }, { accessFlags := 25, nameIndex := 24, descriptorIndex := 25, attributes := #[] }, { accessFlags := 25, nameIndex := 162, descriptorIndex := 25, attributes := #[] }, { accessFlags := 25, nameIndex := 187, descriptorIndex := 25, attributes := #[] }, { accessFlags := 26, nameIndex := 48, descriptorIndex := 25, attributes := #[] }, { accessFlags := 25, nameIndex := 277, descriptorIndex := 25, attributes := #[] }, { accessFlags := 25, nameIndex := 280, descriptorIndex := 25, attributes := #[] }, { accessFlags := 25, nameIndex := 282, descriptorIndex := 25, attributes := #[] }, { accessFlags := 25, nameIndex := 284, descriptorIndex := 25, attributes := #[] }, { accessFlags := 25, nameIndex := 286, descriptorIndex := 25, attributes := #[] }, { accessFlags := 25, nameIndex := 288, descriptorIndex := 25, attributes := #[] }, { accessFlags := 25, nameIndex := 290, descriptorIndex := 25, attributes := #[] }, { accessFlags := 25, nameIndex := 292, descriptorIndex := 25, attributes := #[] }, { accessFlags := 26, nameIndex := 108, descriptorIndex := 109, attributes := #[] }, { accessFlags := 25, nameIndex := 294, descriptorIndex := 25, attributes := #[] }])
  fields := #[{ name := "U", type := (.object "jdk/internal/misc/Unsafe"), accessFlags := 24, slot := 0, constantValue := 0 }, { name := "BIG_ENDIAN", type := .boolean, accessFlags := 26, slot := 1, constantValue := 0 }, { name := "LOG2_ARRAY_BOOLEAN_INDEX_SCALE", type := .int, accessFlags := 25, slot := 2, constantValue := 0 }, { name := "LOG2_ARRAY_BYTE_INDEX_SCALE", type := .int, accessFlags := 25, slot := 3, constantValue := 0 }, { name := "LOG2_ARRAY_CHAR_INDEX_SCALE", type := .int, accessFlags := 25, slot := 4, constantValue := 0 }, { name := "LOG2_ARRAY_SHORT_INDEX_SCALE", type := .int, accessFlags := 25, slot := 5, constantValue := 0 }, { name := "LOG2_ARRAY_INT_INDEX_SCALE", type := .int, accessFlags := 25, slot := 6, constantValue := 0 }, { name := "LOG2_ARRAY_LONG_INDEX_SCALE", type := .int, accessFlags := 25, slot := 7, constantValue := 0 }, { name := "LOG2_ARRAY_FLOAT_INDEX_SCALE", type := .int, accessFlags := 25, slot := 8, constantValue := 0 }, { name := "LOG2_ARRAY_DOUBLE_INDEX_SCALE", type := .int, accessFlags := 25, slot := 9, constantValue := 0 }, { name := "LOG2_BYTE_BIT_SIZE", type := .int, accessFlags := 26, slot := 10, constantValue := 0 }, { name := "T_BOOLEAN", type := .int, accessFlags := 25, slot := 11, constantValue := 0 }, { name := "T_CHAR", type := .int, accessFlags := 25, slot := 12, constantValue := 0 }, { name := "T_FLOAT", type := .int, accessFlags := 25, slot := 13, constantValue := 0 }, { name := "T_DOUBLE", type := .int, accessFlags := 25, slot := 14, constantValue := 0 }, { name := "T_BYTE", type := .int, accessFlags := 25, slot := 15, constantValue := 0 }, { name := "T_SHORT", type := .int, accessFlags := 25, slot := 16, constantValue := 0 }, { name := "T_INT", type := .int, accessFlags := 25, slot := 17, constantValue := 0 }, { name := "T_LONG", type := .int, accessFlags := 25, slot := 18, constantValue := 0 }, { name := "JLA", type := (.object "jdk/internal/access/JavaLangAccess"), accessFlags := 26, slot := 19, constantValue := 0 }, { name := "SOFT_MAX_ARRAY_LENGTH", type := .int, accessFlags := 25, slot := 20, constantValue := 0 }]
  methods := #[k17m0, k17m1]
  instanceTypes := #[]
  staticTypes := #[(.object "jdk/internal/misc/Unsafe"), .boolean, .int, .int, .int, .int, .int, .int, .int, .int, .int, .int, .int, .int, .int, .int, .int, .int, .int, (.object "jdk/internal/access/JavaLangAccess"), .int]
  resolved := Array.replicate 378 none
  statics := none }

def pool18 : Array CpInfo := pool [(1, .class_ 2), (0, u "java/lang/Math"), (1, .class_ 6), (1, u "java/lang/Object"), (0, u "<init>"), (0, u "()V"), (89, .class_ 100), (1, u "java/lang/Math$RandomNumberGeneratorHolder"), (71, u "negativeZeroFloatBits"), (0, u "J"), (2, u "negativeZeroDoubleBits"), (21, u "max"), (2, u "min"), (43, u "$assertionsDisabled"), (0, u "Z"), (88, u "(II)I"), (2, u "twoToTheDoubleScaleDown"), (0, u "D"), (4, u "twoToTheDoubleScaleUp"), (9, u "E"), (3, u "PI"), (2, u "TAU"), (2, u "DEGREES_TO_RADIANS"), (0, u "RADIANS_TO_DEGREES")] 94

def k18m0 : Method := { name := "<init>", desc := "()V", sig := { parameters := [], returnType := none }, accessFlags := 2, code := none }
def k18c1 : Code := { maxStack := 2, maxLocals := 2, code := jdk_29_method_65_code, exceptionTable := #[], attributes := #[] }
def k18m1 : Method := { name := "max", desc := "(II)I", sig := { parameters := [.int, .int], returnType := some .int }, accessFlags := 9, code := some k18c1 }
def k18c2 : Code := { maxStack := 2, maxLocals := 2, code := jdk_29_method_69_code, exceptionTable := #[], attributes := #[] }
def k18m2 : Method := { name := "min", desc := "(II)I", sig := { parameters := [.int, .int], returnType := some .int }, accessFlags := 9, code := some k18c2 }
/-- java/lang/Math -/
def k18 : Class := { plain "java/lang/Math" (some 0) with
  accessFlags := 49
  interfaces := #[]
  cf := some (fileOf pool18 1 #[.nestMembers #[98]] #[{ accessFlags := 2, nameIndex := 7, descriptorIndex := 8, attributes := #[] }, { accessFlags := 9, nameIndex := 198, descriptorIndex := 335, attributes := #[] }, { accessFlags := 9, nameIndex := 201, descriptorIndex := 335, attributes := #[] }] 49 4 #[] #[{ accessFlags := 25, nameIndex := 354, descriptorIndex := 339, attributes := #[] }, { accessFlags := 25, nameIndex := 358, descriptorIndex := 339, attributes := #[] }, { accessFlags := 25, nameIndex := 361, descriptorIndex := 339, attributes := #[] }, { accessFlags := 26, nameIndex := 364, descriptorIndex := 339, attributes := #[] }, { accessFlags := 26, nameIndex := 365, descriptorIndex := 339, attributes := #[] }, { accessFlags := 26, nameIndex := 172, descriptorIndex := 173, attributes := #[] }, { accessFlags := 26, nameIndex := 176, descriptorIndex := 173, attributes := #[] }, { accessFlags := 8, nameIndex := 344, descriptorIndex := 339, attributes := #[] }, { accessFlags := 8, nameIndex := 338, descriptorIndex := 339, attributes := #[] }, { accessFlags := 4120, nameIndex := 245, descriptorIndex := 246, attributes := #[] }])
  fields := #[{ name := "E", type := .double, accessFlags := 25, slot := 0, constantValue := 0 }, { name := "PI", type := .double, accessFlags := 25, slot := 1, constantValue := 0 }, { name := "TAU", type := .double, accessFlags := 25, slot := 2, constantValue := 0 }, { name := "DEGREES_TO_RADIANS", type := .double, accessFlags := 26, slot := 3, constantValue := 0 }, { name := "RADIANS_TO_DEGREES", type := .double, accessFlags := 26, slot := 4, constantValue := 0 }, { name := "negativeZeroFloatBits", type := .long, accessFlags := 26, slot := 5, constantValue := 0 }, { name := "negativeZeroDoubleBits", type := .long, accessFlags := 26, slot := 6, constantValue := 0 }, { name := "twoToTheDoubleScaleUp", type := .double, accessFlags := 8, slot := 7, constantValue := 0 }, { name := "twoToTheDoubleScaleDown", type := .double, accessFlags := 8, slot := 8, constantValue := 0 }, { name := "$assertionsDisabled", type := .boolean, accessFlags := 4120, slot := 9, constantValue := 0 }]
  methods := #[k18m0, k18m1, k18m2]
  instanceTypes := #[]
  staticTypes := #[.double, .double, .double, .double, .double, .long, .long, .double, .double, .boolean]
  resolved := Array.replicate 460 none
  statics := none }

def pool19 : Array CpInfo := pool [(2, .class_ 4), (1, u "java/lang/Object"), (0, u "<init>"), (0, u "()V"), (7, .class_ 16), (1, u "java/util/Arrays"), (57, .class_ 76), (1, u "java/util/Arrays$NaturalOrder"), (32, u "()Ljava/lang/Object;"), (3, .class_ 115), (1, u "java/util/Arrays$LegacyMergeSort"), (1, u "Z"), (10, .nameAndType 129 109), (0, u "clone"), (9, u "copyOfRange"), (10, .methodref 151 152), (0, .class_ 153), (0, .nameAndType 154 155), (0, u "java/lang/System"), (0, u "arraycopy"), (0, u "(Ljava/lang/Object;ILjava/lang/Object;II)V"), (146, u "copyOf"), (1, .methodref 305 306), (0, .class_ 307), (0, .nameAndType 308 309), (0, u "java/lang/Math"), (0, u "min"), (0, u "(II)I"), (0, .methodref 311 128), (0, .class_ 312), (0, u "[B"), (26, .methodref 14 340), (0, .nameAndType 341 342), (0, u "copyOfRangeByte"), (0, u "([BII)[B"), (0, .methodref 14 344), (0, .nameAndType 345 346), (0, u "checkLength"), (0, u "(II)V"), (28, .class_ 376), (0, u "java/util/Arrays$ArrayList"), (68, u "$assertionsDisabled"), (269, u "MIN_ARRAY_SORT_GRAN"), (0, u "I"), (2, u "INSERTIONSORT_THRESHOLD"), (149, u "([BI)[B"), (105, .class_ 976), (0, u "java/util/Arrays$ArrayItr")] 52

def k19m0 : Method := { name := "<init>", desc := "()V", sig := { parameters := [], returnType := none }, accessFlags := 2, code := none }
def k19c1 : Code := { maxStack := 6, maxLocals := 3, code := jdk_65_method_121_code, exceptionTable := #[], attributes := #[] }
def k19m1 : Method := { name := "copyOf", desc := "([BI)[B", sig := { parameters := [(.array .byte), .int], returnType := some (.array .byte) }, accessFlags := 9, code := some k19c1 }
def k19c2 : Code := { maxStack := 4, maxLocals := 2, code := jdk_65_method_131_code, exceptionTable := #[], attributes := #[] }
def k19m2 : Method := { name := "checkLength", desc := "(II)V", sig := { parameters := [.int, .int], returnType := none }, accessFlags := 10, code := some k19c2 }
def k19c3 : Code := { maxStack := 3, maxLocals := 3, code := jdk_65_method_132_code, exceptionTable := #[], attributes := #[] }
def k19m3 : Method := { name := "copyOfRange", desc := "([BII)[B", sig := { parameters := [(.array .byte), .int, .int], returnType := some (.array .byte) }, accessFlags := 9, code := some k19c3 }
def k19c4 : Code := { maxStack := 6, maxLocals := 5, code := jdk_65_method_133_code, exceptionTable := #[], attributes := #[] }
def k19m4 : Method := { name := "copyOfRangeByte", desc := "([BII)[B", sig := { parameters := [(.array .byte), .int, .int], returnType := some (.array .byte) }, accessFlags := 10, code := some k19c4 }
/-- java/util/Arrays -/
def k19 : Class := { plain "java/util/Arrays" (some 0) with
  accessFlags := 49
  interfaces := #[]
  cf := some (fileOf pool19 14 #[.nestMembers #[975, 375, 113, 74]] #[{ accessFlags := 2, nameIndex := 5, descriptorIndex := 6, attributes := #[] }, { accessFlags := 9, nameIndex := 302, descriptorIndex := 869, attributes := #[] }, { accessFlags := 10, nameIndex := 345, descriptorIndex := 346, attributes := #[] }, { accessFlags := 9, nameIndex := 139, descriptorIndex := 342, attributes := #[] }, { accessFlags := 10, nameIndex := 341, descriptorIndex := 342, attributes := #[] }] 49 2 #[] #[{ accessFlags := 26, nameIndex := 715, descriptorIndex := 716, attributes := #[] }, { accessFlags := 26, nameIndex := 719, descriptorIndex := 716, attributes := #[] }, { accessFlags := 4120, nameIndex := 445, descriptorIndex := 117, attributes := #[] }])
  fields := #[{ name := "MIN_ARRAY_SORT_GRAN", type := .int, accessFlags := 26, slot := 0, constantValue := 0 }, { name := "INSERTIONSORT_THRESHOLD", type := .int, accessFlags := 26, slot := 1, constantValue := 0 }, { name := "$assertionsDisabled", type := .boolean, accessFlags := 4120, slot := 2, constantValue := 0 }]
  methods := #[k19m0, k19m1, k19m2, k19m3, k19m4]
  instanceTypes := #[]
  staticTypes := #[.int, .int, .boolean]
  resolved := Array.replicate 1029 none
  statics := none }

def pool20 : Array CpInfo := pool [(3, .class_ 4), (0, u "com/example/abeyance/abeyance/plan/PlanTerms"), (1, .class_ 8), (1, u "java/lang/Object"), (0, u "<init>"), (0, u "()V"), (70, .methodref 3 82), (0, .nameAndType 83 84), (0, u "within"), (0, u "(Ljava/lang/String;IILjava/lang/String;ILjava/lang/String;)V"), (0, .integer 119999), (0, .string 87), (0, u "months"), (41, u "YEARS_APART"), (0, u "I"), (2, u "MONTHS_APART"), (0, u "INSTALLMENTS_AT_MOST"), (8, u "(Ljava/lang/String;IILjava/lang/String;)V")] 8

def k20m0 : Method := { name := "<init>", desc := "()V", sig := { parameters := [], returnType := none }, accessFlags := 2, code := none }
def k20c1 : Code := { maxStack := 6, maxLocals := 4, code := prog_60_method_4_code, exceptionTable := #[], attributes := #[] }
def k20m1 : Method := { name := "months", desc := "(Ljava/lang/String;IILjava/lang/String;)V", sig := { parameters := [(.object "java/lang/String"), .int, .int, (.object "java/lang/String")], returnType := none }, accessFlags := 8, code := some k20c1 }
def k20c2 : Code := { maxStack := 4, maxLocals := 6, code := prog_60_method_7_code, exceptionTable := #[], attributes := #[] }
def k20m2 : Method := { name := "within", desc := "(Ljava/lang/String;IILjava/lang/String;ILjava/lang/String;)V", sig := { parameters := [(.object "java/lang/String"), .int, .int, (.object "java/lang/String"), .int, (.object "java/lang/String")], returnType := none }, accessFlags := 10, code := some k20c2 }
/-- com/example/abeyance/abeyance/plan/PlanTerms -/
def k20 : Class := { plain "com/example/abeyance/abeyance/plan/PlanTerms" (some 0) with
  accessFlags := 32
  interfaces := #[]
  cf := some (fileOf pool20 3 #[] #[{ accessFlags := 2, nameIndex := 9, descriptorIndex := 10, attributes := #[] }, { accessFlags := 8, nameIndex := 87, descriptorIndex := 143, attributes := #[] }, { accessFlags := 10, nameIndex := 83, descriptorIndex := 84, attributes := #[] }] 32 6 #[] #[{ accessFlags := 26, nameIndex := 129, descriptorIndex := 130, attributes := #[] }, { accessFlags := 26, nameIndex := 133, descriptorIndex := 130, attributes := #[] }, { accessFlags := 26, nameIndex := 134, descriptorIndex := 130, attributes := #[] }])
  fields := #[{ name := "YEARS_APART", type := .int, accessFlags := 26, slot := 0, constantValue := 0 }, { name := "MONTHS_APART", type := .int, accessFlags := 26, slot := 1, constantValue := 0 }, { name := "INSTALLMENTS_AT_MOST", type := .int, accessFlags := 26, slot := 2, constantValue := 0 }]
  methods := #[k20m0, k20m1, k20m2]
  instanceTypes := #[]
  staticTypes := #[.int, .int, .int]
  resolved := Array.replicate 152 none
  statics := none }

def pool21 : Array CpInfo := pool [(1, .class_ 2), (0, u "java/lang/Cloneable"), (0, .class_ 4), (0, u "java/lang/Object")] 2

/-- java/lang/Cloneable -/
def k21 : Class := { plain "java/lang/Cloneable" (some 0) with
  accessFlags := 1537
  interfaces := #[]
  cf := some (fileOf pool21 1 #[] #[] 1537 3 #[] #[])
  fields := #[]
  methods := #[]
  instanceTypes := #[]
  staticTypes := #[]
  resolved := Array.replicate 7 none
  statics := none }

def pool22 : Array CpInfo := pool [(4, .class_ 6), (1, u "java/lang/Object"), (0, u "<init>"), (0, u "()V"), (5, .class_ 16), (1, u "java/lang/StringLatin1"), (104, u "$assertionsDisabled"), (0, u "Z"), (98, .class_ 223), (1, u "java/lang/StringLatin1$LinesSpliterator"), (166, .class_ 391), (0, u "java/lang/StringLatin1$CharsSpliterator")] 3

def k22m0 : Method := { name := "<init>", desc := "()V", sig := { parameters := [], returnType := none }, accessFlags := 0, code := none }
/-- java/lang/StringLatin1 -/
def k22 : Class := { plain "java/lang/StringLatin1" (some 0) with
  accessFlags := 48
  interfaces := #[]
  cf := some (fileOf pool22 14 #[.nestMembers #[390, 221]] #[{ accessFlags := 0, nameIndex := 7, descriptorIndex := 8, attributes := #[] }] 48 4 #[] #[{ accessFlags := 4120, nameIndex := 121, descriptorIndex := 122, attributes := #[] }])
  fields := #[{ name := "$assertionsDisabled", type := .boolean, accessFlags := 4120, slot := 0, constantValue := 0 }]
  methods := #[k22m0]
  instanceTypes := #[]
  staticTypes := #[.boolean]
  resolved := Array.replicate 395 none
  statics := none }

def pool23 : Array CpInfo := pool [(2, .class_ 4), (1, u "java/lang/Object"), (0, u "<init>"), (0, u "()V"), (17, .class_ 26), (1, u "jdk/internal/util/Preconditions"), (28, .class_ 56), (0, u "jdk/internal/util/Preconditions$4"), (57, .class_ 115), (0, u "jdk/internal/util/Preconditions$1"), (7, u "SIOOBE_FORMATTER"), (0, u "Ljava/util/function/BiFunction;"), (0, .class_ 126), (0, u "jdk/internal/util/Preconditions$2"), (3, u "AIOOBE_FORMATTER"), (0, .class_ 132), (0, u "jdk/internal/util/Preconditions$3"), (3, u "IOOBE_FORMATTER")] 57

def k23m0 : Method := { name := "<init>", desc := "()V", sig := { parameters := [], returnType := none }, accessFlags := 1, code := none }
/-- jdk/internal/util/Preconditions -/
def k23 : Class := { plain "jdk/internal/util/Preconditions" (some 0) with
  accessFlags := 33
  interfaces := #[]
  cf := some (fileOf pool23 24 #[.nestMembers #[55, 131, 125, 114]] #[{ accessFlags := 1, nameIndex := 5, descriptorIndex := 6, attributes := #[] }] 33 2 #[] #[{ accessFlags := 25, nameIndex := 123, descriptorIndex := 124, attributes := #[] }, { accessFlags := 25, nameIndex := 130, descriptorIndex := 124, attributes := #[] }, { accessFlags := 25, nameIndex := 136, descriptorIndex := 124, attributes := #[] }])
  fields := #[{ name := "SIOOBE_FORMATTER", type := (.object "java/util/function/BiFunction"), accessFlags := 25, slot := 0, constantValue := 0 }, { name := "AIOOBE_FORMATTER", type := (.object "java/util/function/BiFunction"), accessFlags := 25, slot := 1, constantValue := 0 }, { name := "IOOBE_FORMATTER", type := (.object "java/util/function/BiFunction"), accessFlags := 25, slot := 2, constantValue := 0 }]
  methods := #[k23m0]
  instanceTypes := #[]
  staticTypes := #[(.object "java/util/function/BiFunction"), (.object "java/util/function/BiFunction"), (.object "java/util/function/BiFunction")]
  resolved := Array.replicate 194 none
  statics := some 3 }

/-- the primitive byte -/
def k24 : Class := { plain "byte" none with kind := .primitive 'B', accessFlags := 0x411 }
/-- [B -/
def k25 : Class := { plain "[B" (some 0) with kind := .array 24 .byte, interfaces := #[21, 4], accessFlags := 1041 }

/-- the primitive int -/
def k26 : Class := { plain "int" none with kind := .primitive 'I', accessFlags := 0x411 }
/-- [I -/
def k27 : Class := { plain "[I" (some 0) with kind := .array 26 .int, interfaces := #[21, 4], accessFlags := 1041 }

/-- [Ljava/lang/Integer; -/
def k28 : Class := { plain "[Ljava/lang/Integer;" (some 0) with kind := .array 9 (.object "java/lang/Integer"), interfaces := #[21, 4], accessFlags := 1041 }

def heap : Heap := #[{ cls := 9, slots := #[.int 0, .int 0, .null, .null, .ref 262, .ref 261, .int 0, .int 0, .long 0], vm := .statics 9 },
  { cls := 10, slots := #[.int 0, .int 127, .ref 4, .null, .int 0], vm := .statics 10 },
  { cls := 15, slots := #[.long 0, .int 1, .null, .int 0, .null, .int 0, .int 0], vm := .statics 15 },
  { cls := 23, slots := #[.null, .null, .null], vm := .statics 23 },
  { cls := 28, slots := #[.ref 5, .ref 6, .ref 7, .ref 8, .ref 9, .ref 10, .ref 11, .ref 12, .ref 13, .ref 14, .ref 15, .ref 16, .ref 17, .ref 18, .ref 19, .ref 20, .ref 21, .ref 22, .ref 23, .ref 24, .ref 25, .ref 26, .ref 27, .ref 28, .ref 29, .ref 30, .ref 31, .ref 32, .ref 33, .ref 34, .ref 35, .ref 36, .ref 37, .ref 38, .ref 39, .ref 40, .ref 41, .ref 42, .ref 43, .ref 44, .ref 45, .ref 46, .ref 47, .ref 48, .ref 49, .ref 50, .ref 51, .ref 52, .ref 53, .ref 54, .ref 55, .ref 56, .ref 57, .ref 58, .ref 59, .ref 60, .ref 61, .ref 62, .ref 63, .ref 64, .ref 65, .ref 66, .ref 67, .ref 68, .ref 69, .ref 70, .ref 71, .ref 72, .ref 73, .ref 74, .ref 75, .ref 76, .ref 77, .ref 78, .ref 79, .ref 80, .ref 81, .ref 82, .ref 83, .ref 84, .ref 85, .ref 86, .ref 87, .ref 88, .ref 89, .ref 90, .ref 91, .ref 92, .ref 93, .ref 94, .ref 95, .ref 96, .ref 97, .ref 98, .ref 99, .ref 100, .ref 101, .ref 102, .ref 103, .ref 104, .ref 105, .ref 106, .ref 107, .ref 108, .ref 109, .ref 110, .ref 111, .ref 112, .ref 113, .ref 114, .ref 115, .ref 116, .ref 117, .ref 118, .ref 119, .ref 120, .ref 121, .ref 122, .ref 123, .ref 124, .ref 125, .ref 126, .ref 127, .ref 128, .ref 129, .ref 130, .ref 131, .ref 132, .ref 133, .ref 134, .ref 135, .ref 136, .ref 137, .ref 138, .ref 139, .ref 140, .ref 141, .ref 142, .ref 143, .ref 144, .ref 145, .ref 146, .ref 147, .ref 148, .ref 149, .ref 150, .ref 151, .ref 152, .ref 153, .ref 154, .ref 155, .ref 156, .ref 157, .ref 158, .ref 159, .ref 160, .ref 161, .ref 162, .ref 163, .ref 164, .ref 165, .ref 166, .ref 167, .ref 168, .ref 169, .ref 170, .ref 171, .ref 172, .ref 173, .ref 174, .ref 175, .ref 176, .ref 177, .ref 178, .ref 179, .ref 180, .ref 181, .ref 182, .ref 183, .ref 184, .ref 185, .ref 186, .ref 187, .ref 188, .ref 189, .ref 190, .ref 191, .ref 192, .ref 193, .ref 194, .ref 195, .ref 196, .ref 197, .ref 198, .ref 199, .ref 200, .ref 201, .ref 202, .ref 203, .ref 204, .ref 205, .ref 206, .ref 207, .ref 208, .ref 209, .ref 210, .ref 211, .ref 212, .ref 213, .ref 214, .ref 215, .ref 216, .ref 217, .ref 218, .ref 219, .ref 220, .ref 221, .ref 222, .ref 223, .ref 224, .ref 225, .ref 226, .ref 227, .ref 228, .ref 229, .ref 230, .ref 231, .ref 232, .ref 233, .ref 234, .ref 235, .ref 236, .ref 237, .ref 238, .ref 239, .ref 240, .ref 241, .ref 242, .ref 243, .ref 244, .ref 245, .ref 246, .ref 247, .ref 248, .ref 249, .ref 250, .ref 251, .ref 252, .ref 253, .ref 254, .ref 255, .ref 256, .ref 257, .ref 258, .ref 259, .ref 260], vm := .none },
  { cls := 9, slots := #[.int (-128)], vm := .none },
  { cls := 9, slots := #[.int (-127)], vm := .none },
  { cls := 9, slots := #[.int (-126)], vm := .none },
  { cls := 9, slots := #[.int (-125)], vm := .none },
  { cls := 9, slots := #[.int (-124)], vm := .none },
  { cls := 9, slots := #[.int (-123)], vm := .none },
  { cls := 9, slots := #[.int (-122)], vm := .none },
  { cls := 9, slots := #[.int (-121)], vm := .none },
  { cls := 9, slots := #[.int (-120)], vm := .none },
  { cls := 9, slots := #[.int (-119)], vm := .none },
  { cls := 9, slots := #[.int (-118)], vm := .none },
  { cls := 9, slots := #[.int (-117)], vm := .none },
  { cls := 9, slots := #[.int (-116)], vm := .none },
  { cls := 9, slots := #[.int (-115)], vm := .none },
  { cls := 9, slots := #[.int (-114)], vm := .none },
  { cls := 9, slots := #[.int (-113)], vm := .none },
  { cls := 9, slots := #[.int (-112)], vm := .none },
  { cls := 9, slots := #[.int (-111)], vm := .none },
  { cls := 9, slots := #[.int (-110)], vm := .none },
  { cls := 9, slots := #[.int (-109)], vm := .none },
  { cls := 9, slots := #[.int (-108)], vm := .none },
  { cls := 9, slots := #[.int (-107)], vm := .none },
  { cls := 9, slots := #[.int (-106)], vm := .none },
  { cls := 9, slots := #[.int (-105)], vm := .none },
  { cls := 9, slots := #[.int (-104)], vm := .none },
  { cls := 9, slots := #[.int (-103)], vm := .none },
  { cls := 9, slots := #[.int (-102)], vm := .none },
  { cls := 9, slots := #[.int (-101)], vm := .none },
  { cls := 9, slots := #[.int (-100)], vm := .none },
  { cls := 9, slots := #[.int (-99)], vm := .none },
  { cls := 9, slots := #[.int (-98)], vm := .none },
  { cls := 9, slots := #[.int (-97)], vm := .none },
  { cls := 9, slots := #[.int (-96)], vm := .none },
  { cls := 9, slots := #[.int (-95)], vm := .none },
  { cls := 9, slots := #[.int (-94)], vm := .none },
  { cls := 9, slots := #[.int (-93)], vm := .none },
  { cls := 9, slots := #[.int (-92)], vm := .none },
  { cls := 9, slots := #[.int (-91)], vm := .none },
  { cls := 9, slots := #[.int (-90)], vm := .none },
  { cls := 9, slots := #[.int (-89)], vm := .none },
  { cls := 9, slots := #[.int (-88)], vm := .none },
  { cls := 9, slots := #[.int (-87)], vm := .none },
  { cls := 9, slots := #[.int (-86)], vm := .none },
  { cls := 9, slots := #[.int (-85)], vm := .none },
  { cls := 9, slots := #[.int (-84)], vm := .none },
  { cls := 9, slots := #[.int (-83)], vm := .none },
  { cls := 9, slots := #[.int (-82)], vm := .none },
  { cls := 9, slots := #[.int (-81)], vm := .none },
  { cls := 9, slots := #[.int (-80)], vm := .none },
  { cls := 9, slots := #[.int (-79)], vm := .none },
  { cls := 9, slots := #[.int (-78)], vm := .none },
  { cls := 9, slots := #[.int (-77)], vm := .none },
  { cls := 9, slots := #[.int (-76)], vm := .none },
  { cls := 9, slots := #[.int (-75)], vm := .none },
  { cls := 9, slots := #[.int (-74)], vm := .none },
  { cls := 9, slots := #[.int (-73)], vm := .none },
  { cls := 9, slots := #[.int (-72)], vm := .none },
  { cls := 9, slots := #[.int (-71)], vm := .none },
  { cls := 9, slots := #[.int (-70)], vm := .none },
  { cls := 9, slots := #[.int (-69)], vm := .none },
  { cls := 9, slots := #[.int (-68)], vm := .none },
  { cls := 9, slots := #[.int (-67)], vm := .none },
  { cls := 9, slots := #[.int (-66)], vm := .none },
  { cls := 9, slots := #[.int (-65)], vm := .none },
  { cls := 9, slots := #[.int (-64)], vm := .none },
  { cls := 9, slots := #[.int (-63)], vm := .none },
  { cls := 9, slots := #[.int (-62)], vm := .none },
  { cls := 9, slots := #[.int (-61)], vm := .none },
  { cls := 9, slots := #[.int (-60)], vm := .none },
  { cls := 9, slots := #[.int (-59)], vm := .none },
  { cls := 9, slots := #[.int (-58)], vm := .none },
  { cls := 9, slots := #[.int (-57)], vm := .none },
  { cls := 9, slots := #[.int (-56)], vm := .none },
  { cls := 9, slots := #[.int (-55)], vm := .none },
  { cls := 9, slots := #[.int (-54)], vm := .none },
  { cls := 9, slots := #[.int (-53)], vm := .none },
  { cls := 9, slots := #[.int (-52)], vm := .none },
  { cls := 9, slots := #[.int (-51)], vm := .none },
  { cls := 9, slots := #[.int (-50)], vm := .none },
  { cls := 9, slots := #[.int (-49)], vm := .none },
  { cls := 9, slots := #[.int (-48)], vm := .none },
  { cls := 9, slots := #[.int (-47)], vm := .none },
  { cls := 9, slots := #[.int (-46)], vm := .none },
  { cls := 9, slots := #[.int (-45)], vm := .none },
  { cls := 9, slots := #[.int (-44)], vm := .none },
  { cls := 9, slots := #[.int (-43)], vm := .none },
  { cls := 9, slots := #[.int (-42)], vm := .none },
  { cls := 9, slots := #[.int (-41)], vm := .none },
  { cls := 9, slots := #[.int (-40)], vm := .none },
  { cls := 9, slots := #[.int (-39)], vm := .none },
  { cls := 9, slots := #[.int (-38)], vm := .none },
  { cls := 9, slots := #[.int (-37)], vm := .none },
  { cls := 9, slots := #[.int (-36)], vm := .none },
  { cls := 9, slots := #[.int (-35)], vm := .none },
  { cls := 9, slots := #[.int (-34)], vm := .none },
  { cls := 9, slots := #[.int (-33)], vm := .none },
  { cls := 9, slots := #[.int (-32)], vm := .none },
  { cls := 9, slots := #[.int (-31)], vm := .none },
  { cls := 9, slots := #[.int (-30)], vm := .none },
  { cls := 9, slots := #[.int (-29)], vm := .none },
  { cls := 9, slots := #[.int (-28)], vm := .none },
  { cls := 9, slots := #[.int (-27)], vm := .none },
  { cls := 9, slots := #[.int (-26)], vm := .none },
  { cls := 9, slots := #[.int (-25)], vm := .none },
  { cls := 9, slots := #[.int (-24)], vm := .none },
  { cls := 9, slots := #[.int (-23)], vm := .none },
  { cls := 9, slots := #[.int (-22)], vm := .none },
  { cls := 9, slots := #[.int (-21)], vm := .none },
  { cls := 9, slots := #[.int (-20)], vm := .none },
  { cls := 9, slots := #[.int (-19)], vm := .none },
  { cls := 9, slots := #[.int (-18)], vm := .none },
  { cls := 9, slots := #[.int (-17)], vm := .none },
  { cls := 9, slots := #[.int (-16)], vm := .none },
  { cls := 9, slots := #[.int (-15)], vm := .none },
  { cls := 9, slots := #[.int (-14)], vm := .none },
  { cls := 9, slots := #[.int (-13)], vm := .none },
  { cls := 9, slots := #[.int (-12)], vm := .none },
  { cls := 9, slots := #[.int (-11)], vm := .none },
  { cls := 9, slots := #[.int (-10)], vm := .none },
  { cls := 9, slots := #[.int (-9)], vm := .none },
  { cls := 9, slots := #[.int (-8)], vm := .none },
  { cls := 9, slots := #[.int (-7)], vm := .none },
  { cls := 9, slots := #[.int (-6)], vm := .none },
  { cls := 9, slots := #[.int (-5)], vm := .none },
  { cls := 9, slots := #[.int (-4)], vm := .none },
  { cls := 9, slots := #[.int (-3)], vm := .none },
  { cls := 9, slots := #[.int (-2)], vm := .none },
  { cls := 9, slots := #[.int (-1)], vm := .none },
  { cls := 9, slots := #[.int (0)], vm := .none },
  { cls := 9, slots := #[.int (1)], vm := .none },
  { cls := 9, slots := #[.int (2)], vm := .none },
  { cls := 9, slots := #[.int (3)], vm := .none },
  { cls := 9, slots := #[.int (4)], vm := .none },
  { cls := 9, slots := #[.int (5)], vm := .none },
  { cls := 9, slots := #[.int (6)], vm := .none },
  { cls := 9, slots := #[.int (7)], vm := .none },
  { cls := 9, slots := #[.int (8)], vm := .none },
  { cls := 9, slots := #[.int (9)], vm := .none },
  { cls := 9, slots := #[.int (10)], vm := .none },
  { cls := 9, slots := #[.int (11)], vm := .none },
  { cls := 9, slots := #[.int (12)], vm := .none },
  { cls := 9, slots := #[.int (13)], vm := .none },
  { cls := 9, slots := #[.int (14)], vm := .none },
  { cls := 9, slots := #[.int (15)], vm := .none },
  { cls := 9, slots := #[.int (16)], vm := .none },
  { cls := 9, slots := #[.int (17)], vm := .none },
  { cls := 9, slots := #[.int (18)], vm := .none },
  { cls := 9, slots := #[.int (19)], vm := .none },
  { cls := 9, slots := #[.int (20)], vm := .none },
  { cls := 9, slots := #[.int (21)], vm := .none },
  { cls := 9, slots := #[.int (22)], vm := .none },
  { cls := 9, slots := #[.int (23)], vm := .none },
  { cls := 9, slots := #[.int (24)], vm := .none },
  { cls := 9, slots := #[.int (25)], vm := .none },
  { cls := 9, slots := #[.int (26)], vm := .none },
  { cls := 9, slots := #[.int (27)], vm := .none },
  { cls := 9, slots := #[.int (28)], vm := .none },
  { cls := 9, slots := #[.int (29)], vm := .none },
  { cls := 9, slots := #[.int (30)], vm := .none },
  { cls := 9, slots := #[.int (31)], vm := .none },
  { cls := 9, slots := #[.int (32)], vm := .none },
  { cls := 9, slots := #[.int (33)], vm := .none },
  { cls := 9, slots := #[.int (34)], vm := .none },
  { cls := 9, slots := #[.int (35)], vm := .none },
  { cls := 9, slots := #[.int (36)], vm := .none },
  { cls := 9, slots := #[.int (37)], vm := .none },
  { cls := 9, slots := #[.int (38)], vm := .none },
  { cls := 9, slots := #[.int (39)], vm := .none },
  { cls := 9, slots := #[.int (40)], vm := .none },
  { cls := 9, slots := #[.int (41)], vm := .none },
  { cls := 9, slots := #[.int (42)], vm := .none },
  { cls := 9, slots := #[.int (43)], vm := .none },
  { cls := 9, slots := #[.int (44)], vm := .none },
  { cls := 9, slots := #[.int (45)], vm := .none },
  { cls := 9, slots := #[.int (46)], vm := .none },
  { cls := 9, slots := #[.int (47)], vm := .none },
  { cls := 9, slots := #[.int (48)], vm := .none },
  { cls := 9, slots := #[.int (49)], vm := .none },
  { cls := 9, slots := #[.int (50)], vm := .none },
  { cls := 9, slots := #[.int (51)], vm := .none },
  { cls := 9, slots := #[.int (52)], vm := .none },
  { cls := 9, slots := #[.int (53)], vm := .none },
  { cls := 9, slots := #[.int (54)], vm := .none },
  { cls := 9, slots := #[.int (55)], vm := .none },
  { cls := 9, slots := #[.int (56)], vm := .none },
  { cls := 9, slots := #[.int (57)], vm := .none },
  { cls := 9, slots := #[.int (58)], vm := .none },
  { cls := 9, slots := #[.int (59)], vm := .none },
  { cls := 9, slots := #[.int (60)], vm := .none },
  { cls := 9, slots := #[.int (61)], vm := .none },
  { cls := 9, slots := #[.int (62)], vm := .none },
  { cls := 9, slots := #[.int (63)], vm := .none },
  { cls := 9, slots := #[.int (64)], vm := .none },
  { cls := 9, slots := #[.int (65)], vm := .none },
  { cls := 9, slots := #[.int (66)], vm := .none },
  { cls := 9, slots := #[.int (67)], vm := .none },
  { cls := 9, slots := #[.int (68)], vm := .none },
  { cls := 9, slots := #[.int (69)], vm := .none },
  { cls := 9, slots := #[.int (70)], vm := .none },
  { cls := 9, slots := #[.int (71)], vm := .none },
  { cls := 9, slots := #[.int (72)], vm := .none },
  { cls := 9, slots := #[.int (73)], vm := .none },
  { cls := 9, slots := #[.int (74)], vm := .none },
  { cls := 9, slots := #[.int (75)], vm := .none },
  { cls := 9, slots := #[.int (76)], vm := .none },
  { cls := 9, slots := #[.int (77)], vm := .none },
  { cls := 9, slots := #[.int (78)], vm := .none },
  { cls := 9, slots := #[.int (79)], vm := .none },
  { cls := 9, slots := #[.int (80)], vm := .none },
  { cls := 9, slots := #[.int (81)], vm := .none },
  { cls := 9, slots := #[.int (82)], vm := .none },
  { cls := 9, slots := #[.int (83)], vm := .none },
  { cls := 9, slots := #[.int (84)], vm := .none },
  { cls := 9, slots := #[.int (85)], vm := .none },
  { cls := 9, slots := #[.int (86)], vm := .none },
  { cls := 9, slots := #[.int (87)], vm := .none },
  { cls := 9, slots := #[.int (88)], vm := .none },
  { cls := 9, slots := #[.int (89)], vm := .none },
  { cls := 9, slots := #[.int (90)], vm := .none },
  { cls := 9, slots := #[.int (91)], vm := .none },
  { cls := 9, slots := #[.int (92)], vm := .none },
  { cls := 9, slots := #[.int (93)], vm := .none },
  { cls := 9, slots := #[.int (94)], vm := .none },
  { cls := 9, slots := #[.int (95)], vm := .none },
  { cls := 9, slots := #[.int (96)], vm := .none },
  { cls := 9, slots := #[.int (97)], vm := .none },
  { cls := 9, slots := #[.int (98)], vm := .none },
  { cls := 9, slots := #[.int (99)], vm := .none },
  { cls := 9, slots := #[.int (100)], vm := .none },
  { cls := 9, slots := #[.int (101)], vm := .none },
  { cls := 9, slots := #[.int (102)], vm := .none },
  { cls := 9, slots := #[.int (103)], vm := .none },
  { cls := 9, slots := #[.int (104)], vm := .none },
  { cls := 9, slots := #[.int (105)], vm := .none },
  { cls := 9, slots := #[.int (106)], vm := .none },
  { cls := 9, slots := #[.int (107)], vm := .none },
  { cls := 9, slots := #[.int (108)], vm := .none },
  { cls := 9, slots := #[.int (109)], vm := .none },
  { cls := 9, slots := #[.int (110)], vm := .none },
  { cls := 9, slots := #[.int (111)], vm := .none },
  { cls := 9, slots := #[.int (112)], vm := .none },
  { cls := 9, slots := #[.int (113)], vm := .none },
  { cls := 9, slots := #[.int (114)], vm := .none },
  { cls := 9, slots := #[.int (115)], vm := .none },
  { cls := 9, slots := #[.int (116)], vm := .none },
  { cls := 9, slots := #[.int (117)], vm := .none },
  { cls := 9, slots := #[.int (118)], vm := .none },
  { cls := 9, slots := #[.int (119)], vm := .none },
  { cls := 9, slots := #[.int (120)], vm := .none },
  { cls := 9, slots := #[.int (121)], vm := .none },
  { cls := 9, slots := #[.int (122)], vm := .none },
  { cls := 9, slots := #[.int (123)], vm := .none },
  { cls := 9, slots := #[.int (124)], vm := .none },
  { cls := 9, slots := #[.int (125)], vm := .none },
  { cls := 9, slots := #[.int (126)], vm := .none },
  { cls := 9, slots := #[.int (127)], vm := .none },
  { cls := 25, slots := #[.int 48, .int 49, .int 50, .int 51, .int 52, .int 53, .int 54, .int 55, .int 56, .int 57, .int 48, .int 49, .int 50, .int 51, .int 52, .int 53, .int 54, .int 55, .int 56, .int 57, .int 48, .int 49, .int 50, .int 51, .int 52, .int 53, .int 54, .int 55, .int 56, .int 57, .int 48, .int 49, .int 50, .int 51, .int 52, .int 53, .int 54, .int 55, .int 56, .int 57, .int 48, .int 49, .int 50, .int 51, .int 52, .int 53, .int 54, .int 55, .int 56, .int 57, .int 48, .int 49, .int 50, .int 51, .int 52, .int 53, .int 54, .int 55, .int 56, .int 57, .int 48, .int 49, .int 50, .int 51, .int 52, .int 53, .int 54, .int 55, .int 56, .int 57, .int 48, .int 49, .int 50, .int 51, .int 52, .int 53, .int 54, .int 55, .int 56, .int 57, .int 48, .int 49, .int 50, .int 51, .int 52, .int 53, .int 54, .int 55, .int 56, .int 57, .int 48, .int 49, .int 50, .int 51, .int 52, .int 53, .int 54, .int 55, .int 56, .int 57], vm := .none },
  { cls := 25, slots := #[.int 48, .int 48, .int 48, .int 48, .int 48, .int 48, .int 48, .int 48, .int 48, .int 48, .int 49, .int 49, .int 49, .int 49, .int 49, .int 49, .int 49, .int 49, .int 49, .int 49, .int 50, .int 50, .int 50, .int 50, .int 50, .int 50, .int 50, .int 50, .int 50, .int 50, .int 51, .int 51, .int 51, .int 51, .int 51, .int 51, .int 51, .int 51, .int 51, .int 51, .int 52, .int 52, .int 52, .int 52, .int 52, .int 52, .int 52, .int 52, .int 52, .int 52, .int 53, .int 53, .int 53, .int 53, .int 53, .int 53, .int 53, .int 53, .int 53, .int 53, .int 54, .int 54, .int 54, .int 54, .int 54, .int 54, .int 54, .int 54, .int 54, .int 54, .int 55, .int 55, .int 55, .int 55, .int 55, .int 55, .int 55, .int 55, .int 55, .int 55, .int 56, .int 56, .int 56, .int 56, .int 56, .int 56, .int 56, .int 56, .int 56, .int 56, .int 57, .int 57, .int 57, .int 57, .int 57, .int 57, .int 57, .int 57, .int 57, .int 57], vm := .none }]
def classes : Array Class := #[k0, k1, k2, k3, k4, k5, k6, k7, k8, k9, k10, k11, k12, k13, k14, k15, k16, k17, k18, k19, k20, k21, k22, k23, k24, k25, k26, k27, k28]
def interned : List (Array UInt16 × Addr) := []
def slotsUsed : Nat := 736
def theMethod : MethodId := ⟨1, 1⟩
def args0 : Array Value := #[.int 5, .int 5, .int 5]
def aboutOver (below : List Frame) : State where
  vm := { classes := classes, interned := interned.toArray }
  heap := heap
  slotsUsed := slotsUsed
  threads := #[{ frames := .invoking theMethod args0 :: below }]
def below0 : List Frame := [.native { method := ⟨0, 0⟩, args := #[] }]
def about1 : State := aboutOver below0
def p0 : Program := .bare "" "" ""
def e0 : Env := launch0.env 0 0 0
theorem w_frames : about1.frames = Frame.invoking theMethod args0 :: below0 := rfl
set_option maxRecDepth 65536 in
theorem w_args : argsFit about1.vm theMethod args0 = true := by decide +kernel
set_option maxRecDepth 65536 in
theorem w_heap : heapFits about1 = true := by decide +kernel
set_option maxRecDepth 65536 in
theorem w_runnable : about1.curStatus? = some .runnable := by decide +kernel
set_option maxRecDepth 65536 in
theorem w_alone : about1.alone = true := by decide +kernel
set_option maxRecDepth 65536 in
theorem w_named : about1.methodNamed? x = some theMethod := by decide +kernel
set_option maxRecDepth 65536 in
theorem w_hears : about1.hears theMethod below0 = true := by decide +kernel
set_option maxRecDepth 65536 in
theorem w_ripe : about1.ripe theMethod args0 below0 = true := by decide +kernel
theorem w_running : about1.status = .running := rfl
set_option maxRecDepth 65536 in
theorem w_room : about1.hasRoom e0.platform room_1 = true :=
  launch0.hasRoom_least _ room_1 (by decide +kernel) (by decide +kernel) (by decide +kernel) (by decide +kernel) (by decide +kernel) (by decide +kernel)
theorem allAtoms_all (ts : List Jvm.Cond) (a : Array Jvm.Value) (st : Jvm.State) : (allAtoms ts).before a st = ts.all (fun c => c.before a st) := by
  induction ts with
  | nil => rfl
  | cons c t ih =>
    show (Jvm.Cond.and c (allAtoms t)).before a st = _
    rw [Jvm.Cond.before_and, ih, List.all_cons]
def words1 : List Jvm.Cond := Jvm.Cond.code x code maxLocals ret :: tables_1
/-- a 'code' word, met by the world's own term for the bytes: nothing is compared byte by byte -/
theorem code_word {y : MethodName} {bytes : ByteArray} {mx : Nat} {rt : Option FieldType} {a : Array Value} {s : State} {m : MethodId} {meth : Method} {c : Code} (h1 : s.methodNamed? y = some m) (h2 : s.vm.method? m = some meth) (h3 : meth.code = some c) (h4 : c.code = bytes)
    (h5 : (c.maxLocals == mx && c.exceptionTable.isEmpty && decide (c.maxStack ≤ mostOperands) && decide (meth.sig.returnType = rt) && !meth.locks && decide (parseMethodDescriptor y.desc = some meth.sig)) = true) : (Jvm.Cond.code y bytes mx rt).before a s = true := by
  simp only [Bool.and_eq_true, beq_iff_eq, Bool.not_eq_true', decide_eq_true_eq] at h5
  obtain ⟨⟨⟨⟨⟨g1, g2⟩, g3⟩, g4⟩, g5⟩, g6⟩ := h5
  simp [Cond.before, Cond.holds, Cond.value, h1, h2, h3, h4, g1, g2, g3, g4, g5, g6]
def isCode : Jvm.Cond → Bool
  | .code _ _ _ _ => true
  | _ => false
theorem all_split {L : List Jvm.Cond} {P : Jvm.Cond → Bool} (h1 : L.all (fun c => isCode c || P c) = true) (h2 : ∀ c ∈ L.filter isCode, P c = true) : L.all P = true := by
  refine List.all_eq_true.mpr fun c hc => ?_
  have h := List.all_eq_true.mp h1 c hc
  rcases Bool.eq_false_or_eq_true (isCode c) with hi | hi
  · exact h2 c (List.mem_filter.mpr ⟨hc, hi⟩)
  · simpa [hi] using h
set_option maxRecDepth 65536 in
theorem w_c0 : (Jvm.Cond.code x code maxLocals ret).before args0 about1 = true := code_word (m := ⟨1, 1⟩) (meth := k1m1) (c := k1c1) (by decide +kernel) rfl rfl rfl (by decide +kernel)
set_option maxRecDepth 65536 in
theorem w_c1 : (Jvm.Cond.code ({ cls := "java/lang/Integer", name := "valueOf", desc := "(I)Ljava/lang/Integer;" } : Jvm.MethodName) jdk_33_method_22_code (1 : Nat) (Option.some (Jvm.ClassFile.FieldType.object "java/lang/Integer"))).before args0 about1 = true := code_word (m := ⟨9, 3⟩) (meth := k9m3) (c := k9c3) (by decide +kernel) rfl rfl rfl (by decide +kernel)
set_option maxRecDepth 65536 in
theorem w_c2 : (Jvm.Cond.code ({ cls := "com/example/abeyance/abeyance/plan/PayDay", name := "<init>", desc := "(Ljava/lang/Integer;Ljava/lang/Integer;)V" } : Jvm.MethodName) prog_56_method_1_code (3 : Nat) (Option.none : Option Jvm.ClassFile.FieldType)).before args0 about1 = true := code_word (m := ⟨3, 0⟩) (meth := k3m0) (c := k3c0) (by decide +kernel) rfl rfl rfl (by decide +kernel)
set_option maxRecDepth 65536 in
theorem w_c3 : (Jvm.Cond.code ({ cls := "java/lang/Record", name := "<init>", desc := "()V" } : Jvm.MethodName) jdk_30_method_1_code (1 : Nat) (Option.none : Option Jvm.ClassFile.FieldType)).before args0 about1 = true := code_word (m := ⟨2, 0⟩) (meth := k2m0) (c := k2c0) (by decide +kernel) rfl rfl rfl (by decide +kernel)
set_option maxRecDepth 65536 in
theorem w_c4 : (Jvm.Cond.code ({ cls := "java/lang/Object", name := "<init>", desc := "()V" } : Jvm.MethodName) object_method_1_code (1 : Nat) (Option.none : Option Jvm.ClassFile.FieldType)).before args0 about1 = true := code_word (m := ⟨0, 0⟩) (meth := k0m0) (c := k0c0) (by decide +kernel) rfl rfl rfl (by decide +kernel)
set_option maxRecDepth 65536 in
theorem w_c5 : (Jvm.Cond.code ({ cls := "java/lang/StringBuilder", name := "<init>", desc := "()V" } : Jvm.MethodName) jdk_67_method_1_code (1 : Nat) (Option.none : Option Jvm.ClassFile.FieldType)).before args0 about1 = true := code_word (m := ⟨14, 0⟩) (meth := k14m0) (c := k14c0) (by decide +kernel) rfl rfl rfl (by decide +kernel)
set_option maxRecDepth 65536 in
theorem w_c6 : (Jvm.Cond.code ({ cls := "java/lang/AbstractStringBuilder", name := "<init>", desc := "(I)V" } : Jvm.MethodName) jdk_68_method_2_code (2 : Nat) (Option.none : Option Jvm.ClassFile.FieldType)).before args0 about1 = true := code_word (m := ⟨13, 1⟩) (meth := k13m1) (c := k13c1) (by decide +kernel) rfl rfl rfl (by decide +kernel)
set_option maxRecDepth 65536 in
theorem w_c7 : (Jvm.Cond.code ({ cls := "java/lang/StringBuilder", name := "append", desc := "(Ljava/lang/String;)Ljava/lang/StringBuilder;" } : Jvm.MethodName) jdk_67_method_7_code (2 : Nat) (Option.some (Jvm.ClassFile.FieldType.object "java/lang/StringBuilder"))).before args0 about1 = true := code_word (m := ⟨14, 2⟩) (meth := k14m2) (c := k14c2) (by decide +kernel) rfl rfl rfl (by decide +kernel)
set_option maxRecDepth 65536 in
theorem w_c8 : (Jvm.Cond.code ({ cls := "java/lang/AbstractStringBuilder", name := "append", desc := "(Ljava/lang/String;)Ljava/lang/AbstractStringBuilder;" } : Jvm.MethodName) jdk_68_method_22_code (3 : Nat) (Option.some (Jvm.ClassFile.FieldType.object "java/lang/AbstractStringBuilder"))).before args0 about1 = true := code_word (m := ⟨13, 5⟩) (meth := k13m5) (c := k13c5) (by decide +kernel) rfl rfl rfl (by decide +kernel)
set_option maxRecDepth 65536 in
theorem w_c9 : (Jvm.Cond.code ({ cls := "java/lang/String", name := "length", desc := "()I" } : Jvm.MethodName) jdk_42_method_54_code (1 : Nat) (Option.some Jvm.ClassFile.FieldType.int)).before args0 about1 = true := code_word (m := ⟨15, 2⟩) (meth := k15m2) (c := k15c2) (by decide +kernel) rfl rfl rfl (by decide +kernel)
set_option maxRecDepth 65536 in
theorem w_c10 : (Jvm.Cond.code ({ cls := "java/lang/String", name := "coder", desc := "()B" } : Jvm.MethodName) jdk_42_method_152_code (1 : Nat) (Option.some Jvm.ClassFile.FieldType.byte)).before args0 about1 = true := code_word (m := ⟨15, 7⟩) (meth := k15m7) (c := k15c7) (by decide +kernel) rfl rfl rfl (by decide +kernel)
set_option maxRecDepth 65536 in
theorem w_c11 : (Jvm.Cond.code ({ cls := "java/lang/AbstractStringBuilder", name := "ensureCapacityInternal", desc := "(I)V" } : Jvm.MethodName) jdk_68_method_9_code (3 : Nat) (Option.none : Option Jvm.ClassFile.FieldType)).before args0 about1 = true := code_word (m := ⟨13, 3⟩) (meth := k13m3) (c := k13c3) (by decide +kernel) rfl rfl rfl (by decide +kernel)
set_option maxRecDepth 65536 in
theorem w_c12 : (Jvm.Cond.code ({ cls := "java/lang/AbstractStringBuilder", name := "putStringAt", desc := "(ILjava/lang/String;)V" } : Jvm.MethodName) jdk_68_method_73_code (3 : Nat) (Option.none : Option Jvm.ClassFile.FieldType)).before args0 about1 = true := code_word (m := ⟨13, 9⟩) (meth := k13m9) (c := k13c9) (by decide +kernel) rfl rfl rfl (by decide +kernel)
set_option maxRecDepth 65536 in
theorem w_c13 : (Jvm.Cond.code ({ cls := "java/lang/AbstractStringBuilder", name := "inflateIfNeededFor", desc := "(Ljava/lang/String;)V" } : Jvm.MethodName) jdk_68_method_71_code (2 : Nat) (Option.none : Option Jvm.ClassFile.FieldType)).before args0 about1 = true := code_word (m := ⟨13, 8⟩) (meth := k13m8) (c := k13c8) (by decide +kernel) rfl rfl rfl (by decide +kernel)
set_option maxRecDepth 65536 in
theorem w_c14 : (Jvm.Cond.code ({ cls := "java/lang/String", name := "getBytes", desc := "([BIB)V" } : Jvm.MethodName) jdk_42_method_147_code (4 : Nat) (Option.none : Option Jvm.ClassFile.FieldType)).before args0 about1 = true := code_word (m := ⟨15, 4⟩) (meth := k15m4) (c := k15c4) (by decide +kernel) rfl rfl rfl (by decide +kernel)
set_option maxRecDepth 65536 in
theorem w_c15 : (Jvm.Cond.code ({ cls := "java/lang/StringBuilder", name := "append", desc := "(Ljava/lang/Object;)Ljava/lang/StringBuilder;" } : Jvm.MethodName) jdk_67_method_6_code (2 : Nat) (Option.some (Jvm.ClassFile.FieldType.object "java/lang/StringBuilder"))).before args0 about1 = true := code_word (m := ⟨14, 1⟩) (meth := k14m1) (c := k14c1) (by decide +kernel) rfl rfl rfl (by decide +kernel)
set_option maxRecDepth 65536 in
theorem w_c16 : (Jvm.Cond.code ({ cls := "java/lang/String", name := "valueOf", desc := "(Ljava/lang/Object;)Ljava/lang/String;" } : Jvm.MethodName) jdk_42_method_133_code (1 : Nat) (Option.some (Jvm.ClassFile.FieldType.object "java/lang/String"))).before args0 about1 = true := code_word (m := ⟨15, 3⟩) (meth := k15m3) (c := k15c3) (by decide +kernel) rfl rfl rfl (by decide +kernel)
set_option maxRecDepth 65536 in
theorem w_c17 : (Jvm.Cond.code ({ cls := "java/lang/Integer", name := "toString", desc := "()Ljava/lang/String;" } : Jvm.MethodName) jdk_33_method_31_code (1 : Nat) (Option.some (Jvm.ClassFile.FieldType.object "java/lang/String"))).before args0 about1 = true := code_word (m := ⟨9, 6⟩) (meth := k9m6) (c := k9c6) (by decide +kernel) rfl rfl rfl (by decide +kernel)
set_option maxRecDepth 65536 in
theorem w_c18 : (Jvm.Cond.code ({ cls := "java/lang/Integer", name := "toString", desc := "(I)Ljava/lang/String;" } : Jvm.MethodName) jdk_33_method_10_code (3 : Nat) (Option.some (Jvm.ClassFile.FieldType.object "java/lang/String"))).before args0 about1 = true := code_word (m := ⟨9, 0⟩) (meth := k9m0) (c := k9c0) (by decide +kernel) rfl rfl rfl (by decide +kernel)
set_option maxRecDepth 65536 in
theorem w_c19 : (Jvm.Cond.code ({ cls := "java/lang/Integer", name := "stringSize", desc := "(I)I" } : Jvm.MethodName) jdk_33_method_13_code (4 : Nat) (Option.some Jvm.ClassFile.FieldType.int)).before args0 about1 = true := code_word (m := ⟨9, 2⟩) (meth := k9m2) (c := k9c2) (by decide +kernel) rfl rfl rfl (by decide +kernel)
set_option maxRecDepth 65536 in
theorem w_c20 : (Jvm.Cond.code ({ cls := "java/lang/Integer", name := "getChars", desc := "(II[B)I" } : Jvm.MethodName) jdk_33_method_12_code (7 : Nat) (Option.some Jvm.ClassFile.FieldType.int)).before args0 about1 = true := code_word (m := ⟨9, 1⟩) (meth := k9m1) (c := k9c1) (by decide +kernel) rfl rfl rfl (by decide +kernel)
set_option maxRecDepth 65536 in
theorem w_c21 : (Jvm.Cond.code ({ cls := "java/lang/String", name := "<init>", desc := "([BB)V" } : Jvm.MethodName) jdk_42_method_151_code (3 : Nat) (Option.none : Option Jvm.ClassFile.FieldType)).before args0 about1 = true := code_word (m := ⟨15, 6⟩) (meth := k15m6) (c := k15c6) (by decide +kernel) rfl rfl rfl (by decide +kernel)
set_option maxRecDepth 65536 in
theorem w_c22 : (Jvm.Cond.code ({ cls := "java/lang/AbstractStringBuilder", name := "newCapacity", desc := "(I)I" } : Jvm.MethodName) jdk_68_method_10_code (6 : Nat) (Option.some Jvm.ClassFile.FieldType.int)).before args0 about1 = true := code_word (m := ⟨13, 4⟩) (meth := k13m4) (c := k13c4) (by decide +kernel) rfl rfl rfl (by decide +kernel)
set_option maxRecDepth 65536 in
theorem w_c23 : (Jvm.Cond.code ({ cls := "jdk/internal/util/ArraysSupport", name := "newLength", desc := "(III)I" } : Jvm.MethodName) jdk_48_method_27_code (4 : Nat) (Option.some Jvm.ClassFile.FieldType.int)).before args0 about1 = true := code_word (m := ⟨17, 1⟩) (meth := k17m1) (c := k17c1) (by decide +kernel) rfl rfl rfl (by decide +kernel)
set_option maxRecDepth 65536 in
theorem w_c24 : (Jvm.Cond.code ({ cls := "java/lang/Math", name := "max", desc := "(II)I" } : Jvm.MethodName) jdk_29_method_65_code (2 : Nat) (Option.some Jvm.ClassFile.FieldType.int)).before args0 about1 = true := code_word (m := ⟨18, 1⟩) (meth := k18m1) (c := k18c1) (by decide +kernel) rfl rfl rfl (by decide +kernel)
set_option maxRecDepth 65536 in
theorem w_c25 : (Jvm.Cond.code ({ cls := "java/util/Arrays", name := "copyOf", desc := "([BI)[B" } : Jvm.MethodName) jdk_65_method_121_code (3 : Nat) (Option.some (Jvm.ClassFile.FieldType.array Jvm.ClassFile.FieldType.byte))).before args0 about1 = true := code_word (m := ⟨19, 1⟩) (meth := k19m1) (c := k19c1) (by decide +kernel) rfl rfl rfl (by decide +kernel)
set_option maxRecDepth 65536 in
theorem w_c26 : (Jvm.Cond.code ({ cls := "java/lang/Math", name := "min", desc := "(II)I" } : Jvm.MethodName) jdk_29_method_69_code (2 : Nat) (Option.some Jvm.ClassFile.FieldType.int)).before args0 about1 = true := code_word (m := ⟨18, 2⟩) (meth := k18m2) (c := k18c2) (by decide +kernel) rfl rfl rfl (by decide +kernel)
set_option maxRecDepth 65536 in
theorem w_c27 : (Jvm.Cond.code ({ cls := "java/lang/StringBuilder", name := "toString", desc := "()Ljava/lang/String;" } : Jvm.MethodName) jdk_67_method_42_code (1 : Nat) (Option.some (Jvm.ClassFile.FieldType.object "java/lang/String"))).before args0 about1 = true := code_word (m := ⟨14, 3⟩) (meth := k14m3) (c := k14c3) (by decide +kernel) rfl rfl rfl (by decide +kernel)
set_option maxRecDepth 65536 in
theorem w_c28 : (Jvm.Cond.code ({ cls := "java/lang/String", name := "<init>", desc := "(Ljava/lang/StringBuilder;)V" } : Jvm.MethodName) jdk_42_method_53_code (2 : Nat) (Option.none : Option Jvm.ClassFile.FieldType)).before args0 about1 = true := code_word (m := ⟨15, 1⟩) (meth := k15m1) (c := k15c1) (by decide +kernel) rfl rfl rfl (by decide +kernel)
set_option maxRecDepth 65536 in
theorem w_c29 : (Jvm.Cond.code ({ cls := "java/lang/String", name := "<init>", desc := "(Ljava/lang/AbstractStringBuilder;Ljava/lang/Void;)V" } : Jvm.MethodName) jdk_42_method_150_code (5 : Nat) (Option.none : Option Jvm.ClassFile.FieldType)).before args0 about1 = true := code_word (m := ⟨15, 5⟩) (meth := k15m5) (c := k15c5) (by decide +kernel) rfl rfl rfl (by decide +kernel)
set_option maxRecDepth 65536 in
theorem w_c30 : (Jvm.Cond.code ({ cls := "java/lang/AbstractStringBuilder", name := "getValue", desc := "()[B" } : Jvm.MethodName) jdk_68_method_64_code (1 : Nat) (Option.some (Jvm.ClassFile.FieldType.array Jvm.ClassFile.FieldType.byte))).before args0 about1 = true := code_word (m := ⟨13, 6⟩) (meth := k13m6) (c := k13c6) (by decide +kernel) rfl rfl rfl (by decide +kernel)
set_option maxRecDepth 65536 in
theorem w_c31 : (Jvm.Cond.code ({ cls := "java/lang/StringBuilder", name := "length", desc := "()I" } : Jvm.MethodName) jdk_67_method_93_code (1 : Nat) (Option.some Jvm.ClassFile.FieldType.int)).before args0 about1 = true := code_word (m := ⟨14, 4⟩) (meth := k14m4) (c := k14c4) (by decide +kernel) rfl rfl rfl (by decide +kernel)
set_option maxRecDepth 65536 in
theorem w_c32 : (Jvm.Cond.code ({ cls := "java/lang/AbstractStringBuilder", name := "length", desc := "()I" } : Jvm.MethodName) jdk_68_method_6_code (1 : Nat) (Option.some Jvm.ClassFile.FieldType.int)).before args0 about1 = true := code_word (m := ⟨13, 2⟩) (meth := k13m2) (c := k13c2) (by decide +kernel) rfl rfl rfl (by decide +kernel)
set_option maxRecDepth 65536 in
theorem w_c33 : (Jvm.Cond.code ({ cls := "java/lang/AbstractStringBuilder", name := "isLatin1", desc := "()Z" } : Jvm.MethodName) jdk_68_method_68_code (1 : Nat) (Option.some Jvm.ClassFile.FieldType.boolean)).before args0 about1 = true := code_word (m := ⟨13, 7⟩) (meth := k13m7) (c := k13c7) (by decide +kernel) rfl rfl rfl (by decide +kernel)
set_option maxRecDepth 65536 in
theorem w_c34 : (Jvm.Cond.code ({ cls := "java/util/Arrays", name := "copyOfRange", desc := "([BII)[B" } : Jvm.MethodName) jdk_65_method_132_code (3 : Nat) (Option.some (Jvm.ClassFile.FieldType.array Jvm.ClassFile.FieldType.byte))).before args0 about1 = true := code_word (m := ⟨19, 3⟩) (meth := k19m3) (c := k19c3) (by decide +kernel) rfl rfl rfl (by decide +kernel)
set_option maxRecDepth 65536 in
theorem w_c35 : (Jvm.Cond.code ({ cls := "java/util/Arrays", name := "copyOfRangeByte", desc := "([BII)[B" } : Jvm.MethodName) jdk_65_method_133_code (5 : Nat) (Option.some (Jvm.ClassFile.FieldType.array Jvm.ClassFile.FieldType.byte))).before args0 about1 = true := code_word (m := ⟨19, 4⟩) (meth := k19m4) (c := k19c4) (by decide +kernel) rfl rfl rfl (by decide +kernel)
set_option maxRecDepth 65536 in
theorem w_c36 : (Jvm.Cond.code ({ cls := "java/util/Arrays", name := "checkLength", desc := "(II)V" } : Jvm.MethodName) jdk_65_method_131_code (2 : Nat) (Option.none : Option Jvm.ClassFile.FieldType)).before args0 about1 = true := code_word (m := ⟨19, 2⟩) (meth := k19m2) (c := k19c2) (by decide +kernel) rfl rfl rfl (by decide +kernel)
set_option maxRecDepth 65536 in
theorem w_c37 : (Jvm.Cond.code ({ cls := "java/lang/Integer", name := "intValue", desc := "()I" } : Jvm.MethodName) jdk_33_method_27_code (1 : Nat) (Option.some Jvm.ClassFile.FieldType.int)).before args0 about1 = true := code_word (m := ⟨9, 5⟩) (meth := k9m5) (c := k9c5) (by decide +kernel) rfl rfl rfl (by decide +kernel)
set_option maxRecDepth 65536 in
theorem w_c38 : (Jvm.Cond.code ({ cls := "com/example/abeyance/abeyance/plan/PlanTerms", name := "months", desc := "(Ljava/lang/String;IILjava/lang/String;)V" } : Jvm.MethodName) prog_60_method_4_code (4 : Nat) (Option.none : Option Jvm.ClassFile.FieldType)).before args0 about1 = true := code_word (m := ⟨20, 1⟩) (meth := k20m1) (c := k20c1) (by decide +kernel) rfl rfl rfl (by decide +kernel)
set_option maxRecDepth 65536 in
theorem w_c39 : (Jvm.Cond.code ({ cls := "com/example/abeyance/abeyance/plan/PlanTerms", name := "within", desc := "(Ljava/lang/String;IILjava/lang/String;ILjava/lang/String;)V" } : Jvm.MethodName) prog_60_method_7_code (6 : Nat) (Option.none : Option Jvm.ClassFile.FieldType)).before args0 about1 = true := code_word (m := ⟨20, 2⟩) (meth := k20m2) (c := k20c2) (by decide +kernel) rfl rfl rfl (by decide +kernel)
set_option maxRecDepth 65536 in
theorem w_c40 : (Jvm.Cond.code ({ cls := "com/example/abeyance/abeyance/plan/PayDay", name := "canFallBefore", desc := "(I)Z" } : Jvm.MethodName) prog_56_method_3_code (2 : Nat) (Option.some Jvm.ClassFile.FieldType.boolean)).before args0 about1 = true := code_word (m := ⟨3, 1⟩) (meth := k3m1) (c := k3c1) (by decide +kernel) rfl rfl rfl (by decide +kernel)
set_option maxRecDepth 65536 in
theorem w_c41 : (Jvm.Cond.code ({ cls := "java/lang/Integer", name := "<init>", desc := "(I)V" } : Jvm.MethodName) jdk_33_method_23_code (2 : Nat) (Option.none : Option Jvm.ClassFile.FieldType)).before args0 about1 = true := code_word (m := ⟨9, 4⟩) (meth := k9m4) (c := k9c4) (by decide +kernel) rfl rfl rfl (by decide +kernel)
set_option maxRecDepth 65536 in
theorem w_c42 : (Jvm.Cond.code ({ cls := "java/lang/Number", name := "<init>", desc := "()V" } : Jvm.MethodName) jdk_18_method_1_code (1 : Nat) (Option.none : Option Jvm.ClassFile.FieldType)).before args0 about1 = true := code_word (m := ⟨5, 0⟩) (meth := k5m0) (c := k5c0) (by decide +kernel) rfl rfl rfl (by decide +kernel)
def codes1 : List Jvm.Cond := [Jvm.Cond.code x code maxLocals ret, Jvm.Cond.code ({ cls := "java/lang/Integer", name := "valueOf", desc := "(I)Ljava/lang/Integer;" } : Jvm.MethodName) jdk_33_method_22_code (1 : Nat) (Option.some (Jvm.ClassFile.FieldType.object "java/lang/Integer")), Jvm.Cond.code ({ cls := "com/example/abeyance/abeyance/plan/PayDay", name := "<init>", desc := "(Ljava/lang/Integer;Ljava/lang/Integer;)V" } : Jvm.MethodName) prog_56_method_1_code (3 : Nat) (Option.none : Option Jvm.ClassFile.FieldType), Jvm.Cond.code ({ cls := "java/lang/Record", name := "<init>", desc := "()V" } : Jvm.MethodName) jdk_30_method_1_code (1 : Nat) (Option.none : Option Jvm.ClassFile.FieldType), Jvm.Cond.code ({ cls := "java/lang/Object", name := "<init>", desc := "()V" } : Jvm.MethodName) object_method_1_code (1 : Nat) (Option.none : Option Jvm.ClassFile.FieldType), Jvm.Cond.code ({ cls := "java/lang/StringBuilder", name := "<init>", desc := "()V" } : Jvm.MethodName) jdk_67_method_1_code (1 : Nat) (Option.none : Option Jvm.ClassFile.FieldType), Jvm.Cond.code ({ cls := "java/lang/AbstractStringBuilder", name := "<init>", desc := "(I)V" } : Jvm.MethodName) jdk_68_method_2_code (2 : Nat) (Option.none : Option Jvm.ClassFile.FieldType), Jvm.Cond.code ({ cls := "java/lang/StringBuilder", name := "append", desc := "(Ljava/lang/String;)Ljava/lang/StringBuilder;" } : Jvm.MethodName) jdk_67_method_7_code (2 : Nat) (Option.some (Jvm.ClassFile.FieldType.object "java/lang/StringBuilder")), Jvm.Cond.code ({ cls := "java/lang/AbstractStringBuilder", name := "append", desc := "(Ljava/lang/String;)Ljava/lang/AbstractStringBuilder;" } : Jvm.MethodName) jdk_68_method_22_code (3 : Nat) (Option.some (Jvm.ClassFile.FieldType.object "java/lang/AbstractStringBuilder")), Jvm.Cond.code ({ cls := "java/lang/String", name := "length", desc := "()I" } : Jvm.MethodName) jdk_42_method_54_code (1 : Nat) (Option.some Jvm.ClassFile.FieldType.int), Jvm.Cond.code ({ cls := "java/lang/String", name := "coder", desc := "()B" } : Jvm.MethodName) jdk_42_method_152_code (1 : Nat) (Option.some Jvm.ClassFile.FieldType.byte), Jvm.Cond.code ({ cls := "java/lang/AbstractStringBuilder", name := "ensureCapacityInternal", desc := "(I)V" } : Jvm.MethodName) jdk_68_method_9_code (3 : Nat) (Option.none : Option Jvm.ClassFile.FieldType), Jvm.Cond.code ({ cls := "java/lang/AbstractStringBuilder", name := "putStringAt", desc := "(ILjava/lang/String;)V" } : Jvm.MethodName) jdk_68_method_73_code (3 : Nat) (Option.none : Option Jvm.ClassFile.FieldType), Jvm.Cond.code ({ cls := "java/lang/AbstractStringBuilder", name := "inflateIfNeededFor", desc := "(Ljava/lang/String;)V" } : Jvm.MethodName) jdk_68_method_71_code (2 : Nat) (Option.none : Option Jvm.ClassFile.FieldType), Jvm.Cond.code ({ cls := "java/lang/String", name := "getBytes", desc := "([BIB)V" } : Jvm.MethodName) jdk_42_method_147_code (4 : Nat) (Option.none : Option Jvm.ClassFile.FieldType), Jvm.Cond.code ({ cls := "java/lang/StringBuilder", name := "append", desc := "(Ljava/lang/Object;)Ljava/lang/StringBuilder;" } : Jvm.MethodName) jdk_67_method_6_code (2 : Nat) (Option.some (Jvm.ClassFile.FieldType.object "java/lang/StringBuilder")), Jvm.Cond.code ({ cls := "java/lang/String", name := "valueOf", desc := "(Ljava/lang/Object;)Ljava/lang/String;" } : Jvm.MethodName) jdk_42_method_133_code (1 : Nat) (Option.some (Jvm.ClassFile.FieldType.object "java/lang/String")), Jvm.Cond.code ({ cls := "java/lang/Integer", name := "toString", desc := "()Ljava/lang/String;" } : Jvm.MethodName) jdk_33_method_31_code (1 : Nat) (Option.some (Jvm.ClassFile.FieldType.object "java/lang/String")), Jvm.Cond.code ({ cls := "java/lang/Integer", name := "toString", desc := "(I)Ljava/lang/String;" } : Jvm.MethodName) jdk_33_method_10_code (3 : Nat) (Option.some (Jvm.ClassFile.FieldType.object "java/lang/String")), Jvm.Cond.code ({ cls := "java/lang/Integer", name := "stringSize", desc := "(I)I" } : Jvm.MethodName) jdk_33_method_13_code (4 : Nat) (Option.some Jvm.ClassFile.FieldType.int), Jvm.Cond.code ({ cls := "java/lang/Integer", name := "getChars", desc := "(II[B)I" } : Jvm.MethodName) jdk_33_method_12_code (7 : Nat) (Option.some Jvm.ClassFile.FieldType.int), Jvm.Cond.code ({ cls := "java/lang/String", name := "<init>", desc := "([BB)V" } : Jvm.MethodName) jdk_42_method_151_code (3 : Nat) (Option.none : Option Jvm.ClassFile.FieldType), Jvm.Cond.code ({ cls := "java/lang/AbstractStringBuilder", name := "newCapacity", desc := "(I)I" } : Jvm.MethodName) jdk_68_method_10_code (6 : Nat) (Option.some Jvm.ClassFile.FieldType.int), Jvm.Cond.code ({ cls := "jdk/internal/util/ArraysSupport", name := "newLength", desc := "(III)I" } : Jvm.MethodName) jdk_48_method_27_code (4 : Nat) (Option.some Jvm.ClassFile.FieldType.int), Jvm.Cond.code ({ cls := "java/lang/Math", name := "max", desc := "(II)I" } : Jvm.MethodName) jdk_29_method_65_code (2 : Nat) (Option.some Jvm.ClassFile.FieldType.int), Jvm.Cond.code ({ cls := "java/util/Arrays", name := "copyOf", desc := "([BI)[B" } : Jvm.MethodName) jdk_65_method_121_code (3 : Nat) (Option.some (Jvm.ClassFile.FieldType.array Jvm.ClassFile.FieldType.byte)), Jvm.Cond.code ({ cls := "java/lang/Math", name := "min", desc := "(II)I" } : Jvm.MethodName) jdk_29_method_69_code (2 : Nat) (Option.some Jvm.ClassFile.FieldType.int), Jvm.Cond.code ({ cls := "java/lang/StringBuilder", name := "toString", desc := "()Ljava/lang/String;" } : Jvm.MethodName) jdk_67_method_42_code (1 : Nat) (Option.some (Jvm.ClassFile.FieldType.object "java/lang/String")), Jvm.Cond.code ({ cls := "java/lang/String", name := "<init>", desc := "(Ljava/lang/StringBuilder;)V" } : Jvm.MethodName) jdk_42_method_53_code (2 : Nat) (Option.none : Option Jvm.ClassFile.FieldType), Jvm.Cond.code ({ cls := "java/lang/String", name := "<init>", desc := "(Ljava/lang/AbstractStringBuilder;Ljava/lang/Void;)V" } : Jvm.MethodName) jdk_42_method_150_code (5 : Nat) (Option.none : Option Jvm.ClassFile.FieldType), Jvm.Cond.code ({ cls := "java/lang/AbstractStringBuilder", name := "getValue", desc := "()[B" } : Jvm.MethodName) jdk_68_method_64_code (1 : Nat) (Option.some (Jvm.ClassFile.FieldType.array Jvm.ClassFile.FieldType.byte)), Jvm.Cond.code ({ cls := "java/lang/StringBuilder", name := "length", desc := "()I" } : Jvm.MethodName) jdk_67_method_93_code (1 : Nat) (Option.some Jvm.ClassFile.FieldType.int), Jvm.Cond.code ({ cls := "java/lang/AbstractStringBuilder", name := "length", desc := "()I" } : Jvm.MethodName) jdk_68_method_6_code (1 : Nat) (Option.some Jvm.ClassFile.FieldType.int), Jvm.Cond.code ({ cls := "java/lang/AbstractStringBuilder", name := "isLatin1", desc := "()Z" } : Jvm.MethodName) jdk_68_method_68_code (1 : Nat) (Option.some Jvm.ClassFile.FieldType.boolean), Jvm.Cond.code ({ cls := "java/util/Arrays", name := "copyOfRange", desc := "([BII)[B" } : Jvm.MethodName) jdk_65_method_132_code (3 : Nat) (Option.some (Jvm.ClassFile.FieldType.array Jvm.ClassFile.FieldType.byte)), Jvm.Cond.code ({ cls := "java/util/Arrays", name := "copyOfRangeByte", desc := "([BII)[B" } : Jvm.MethodName) jdk_65_method_133_code (5 : Nat) (Option.some (Jvm.ClassFile.FieldType.array Jvm.ClassFile.FieldType.byte)), Jvm.Cond.code ({ cls := "java/util/Arrays", name := "checkLength", desc := "(II)V" } : Jvm.MethodName) jdk_65_method_131_code (2 : Nat) (Option.none : Option Jvm.ClassFile.FieldType), Jvm.Cond.code ({ cls := "java/lang/Integer", name := "intValue", desc := "()I" } : Jvm.MethodName) jdk_33_method_27_code (1 : Nat) (Option.some Jvm.ClassFile.FieldType.int), Jvm.Cond.code ({ cls := "com/example/abeyance/abeyance/plan/PlanTerms", name := "months", desc := "(Ljava/lang/String;IILjava/lang/String;)V" } : Jvm.MethodName) prog_60_method_4_code (4 : Nat) (Option.none : Option Jvm.ClassFile.FieldType), Jvm.Cond.code ({ cls := "com/example/abeyance/abeyance/plan/PlanTerms", name := "within", desc := "(Ljava/lang/String;IILjava/lang/String;ILjava/lang/String;)V" } : Jvm.MethodName) prog_60_method_7_code (6 : Nat) (Option.none : Option Jvm.ClassFile.FieldType), Jvm.Cond.code ({ cls := "com/example/abeyance/abeyance/plan/PayDay", name := "canFallBefore", desc := "(I)Z" } : Jvm.MethodName) prog_56_method_3_code (2 : Nat) (Option.some Jvm.ClassFile.FieldType.boolean), Jvm.Cond.code ({ cls := "java/lang/Integer", name := "<init>", desc := "(I)V" } : Jvm.MethodName) jdk_33_method_23_code (2 : Nat) (Option.none : Option Jvm.ClassFile.FieldType), Jvm.Cond.code ({ cls := "java/lang/Number", name := "<init>", desc := "()V" } : Jvm.MethodName) jdk_18_method_1_code (1 : Nat) (Option.none : Option Jvm.ClassFile.FieldType)]
set_option maxRecDepth 65536 in
theorem codes_eq : words1.filter isCode = codes1 := rfl
theorem w_codes : ∀ c ∈ words1.filter isCode, c.before args0 about1 = true := by
  rw [codes_eq]
  intro c hc
  simp only [codes1, List.mem_cons, List.not_mem_nil, or_false] at hc
  rcases hc with rfl | rfl | rfl | rfl | rfl | rfl | rfl | rfl | rfl | rfl | rfl | rfl | rfl | rfl | rfl | rfl | rfl | rfl | rfl | rfl | rfl | rfl | rfl | rfl | rfl | rfl | rfl | rfl | rfl | rfl | rfl | rfl | rfl | rfl | rfl | rfl | rfl | rfl | rfl | rfl | rfl | rfl | rfl
  · exact w_c0
  · exact w_c1
  · exact w_c2
  · exact w_c3
  · exact w_c4
  · exact w_c5
  · exact w_c6
  · exact w_c7
  · exact w_c8
  · exact w_c9
  · exact w_c10
  · exact w_c11
  · exact w_c12
  · exact w_c13
  · exact w_c14
  · exact w_c15
  · exact w_c16
  · exact w_c17
  · exact w_c18
  · exact w_c19
  · exact w_c20
  · exact w_c21
  · exact w_c22
  · exact w_c23
  · exact w_c24
  · exact w_c25
  · exact w_c26
  · exact w_c27
  · exact w_c28
  · exact w_c29
  · exact w_c30
  · exact w_c31
  · exact w_c32
  · exact w_c33
  · exact w_c34
  · exact w_c35
  · exact w_c36
  · exact w_c37
  · exact w_c38
  · exact w_c39
  · exact w_c40
  · exact w_c41
  · exact w_c42
set_option maxRecDepth 65536 in
theorem w_t1 : (words1.take 24).all (fun c => isCode c || c.before args0 about1) = true := by decide +kernel
set_option maxRecDepth 65536 in
theorem w_t2 : ((words1.drop 24).take 24).all (fun c => isCode c || c.before args0 about1) = true := by decide +kernel
set_option maxRecDepth 65536 in
theorem w_t3 : (((words1.drop 24).drop 24).take 24).all (fun c => isCode c || c.before args0 about1) = true := by decide +kernel
set_option maxRecDepth 65536 in
theorem w_t4 : ((((words1.drop 24).drop 24).drop 24).take 24).all (fun c => isCode c || c.before args0 about1) = true := by decide +kernel
set_option maxRecDepth 65536 in
theorem w_t5 : (((((words1.drop 24).drop 24).drop 24).drop 24).take 24).all (fun c => isCode c || c.before args0 about1) = true := by decide +kernel
set_option maxRecDepth 65536 in
theorem w_t6 : ((((((words1.drop 24).drop 24).drop 24).drop 24).drop 24).take 24).all (fun c => isCode c || c.before args0 about1) = true := by decide +kernel
set_option maxRecDepth 65536 in
theorem w_t7 : (((((((words1.drop 24).drop 24).drop 24).drop 24).drop 24).drop 24).take 24).all (fun c => isCode c || c.before args0 about1) = true := by decide +kernel
set_option maxRecDepth 65536 in
theorem w_t8 : ((((((((words1.drop 24).drop 24).drop 24).drop 24).drop 24).drop 24).drop 24).take 24).all (fun c => isCode c || c.before args0 about1) = true := by decide +kernel
set_option maxRecDepth 65536 in
theorem w_t9 : (((((((((words1.drop 24).drop 24).drop 24).drop 24).drop 24).drop 24).drop 24).drop 24).take 24).all (fun c => isCode c || c.before args0 about1) = true := by decide +kernel
set_option maxRecDepth 65536 in
theorem w_t10 : ((((((((((words1.drop 24).drop 24).drop 24).drop 24).drop 24).drop 24).drop 24).drop 24).drop 24).take 24).all (fun c => isCode c || c.before args0 about1) = true := by decide +kernel
set_option maxRecDepth 65536 in
theorem w_t11 : ((((((((((words1.drop 24).drop 24).drop 24).drop 24).drop 24).drop 24).drop 24).drop 24).drop 24).drop 24).all (fun c => isCode c || c.before args0 about1) = true := by decide +kernel
theorem w_tables : (allAtoms (Jvm.Cond.code x code maxLocals ret :: tables_1)).before args0 about1 = true := by
  rw [allAtoms_all]
  show words1.all (fun c => c.before args0 about1) = true
  refine all_split ?_ w_codes
  rw [← List.take_append_drop 24 words1, List.all_append, w_t1, ← List.take_append_drop 24 (words1.drop 24), List.all_append, w_t2, ← List.take_append_drop 24 ((words1.drop 24).drop 24), List.all_append, w_t3, ← List.take_append_drop 24 (((words1.drop 24).drop 24).drop 24), List.all_append, w_t4, ← List.take_append_drop 24 ((((words1.drop 24).drop 24).drop 24).drop 24), List.all_append, w_t5, ← List.take_append_drop 24 (((((words1.drop 24).drop 24).drop 24).drop 24).drop 24), List.all_append, w_t6, ← List.take_append_drop 24 ((((((words1.drop 24).drop 24).drop 24).drop 24).drop 24).drop 24), List.all_append, w_t7, ← List.take_append_drop 24 (((((((words1.drop 24).drop 24).drop 24).drop 24).drop 24).drop 24).drop 24), List.all_append, w_t8, ← List.take_append_drop 24 ((((((((words1.drop 24).drop 24).drop 24).drop 24).drop 24).drop 24).drop 24).drop 24), List.all_append, w_t9, ← List.take_append_drop 24 (((((((((words1.drop 24).drop 24).drop 24).drop 24).drop 24).drop 24).drop 24).drop 24).drop 24), List.all_append, w_t10, w_t11]
  rfl
set_option maxRecDepth 65536 in
theorem w_rest : rest_1_c.before args0 about1 = true := by decide +kernel
set_option maxRecDepth 65536 in
theorem w_case : (Jvm.Cond.and given_1 narrow_1).before args0 about1 = true := by decide +kernel
set_option maxRecDepth 65536 in
theorem w_consts : constsHeld consts_1 about1 := Jvm.Lit.constsHeldB_iff.mp (by decide +kernel)
theorem w_applies : (headSpec (Jvm.Cond.code x code maxLocals ret :: tables_1) room_1).applies x e0.platform about1 = true :=
  (Spec.applies_iff w_frames).mpr ⟨w_running, w_runnable, w_alone, w_named, w_hears, w_ripe, w_room, w_tables⟩
theorem atStart : AtStart classFile x code maxLocals ret World_1 tables_1 room_1 Calls_1 rest_1 Pre_1 launch0 p0 e0 about1 theMethod args0 below0 :=
  ⟨lists_1, trivial, launch0.admits_env _ _ _, launch0.least_env, fairChoices_fair.cas, fairChoices_fair.clock, w_frames, w_args, w_heap, w_applies, ⟨w_consts, trivial⟩, w_rest, w_case⟩
end start1
theorem witness_1 : WitnessClaimed_1 := ⟨start1.p0, start1.e0, start1.about1, start1.theMethod, start1.args0, start1.below0, start1.atStart⟩
end Jvm.Pilot.@@N@@
