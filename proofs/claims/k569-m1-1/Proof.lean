import JvmDerived
import JvmDerived.Pilot.@@N@@Statement
import JvmDerived.Pilot.@@N@@Code
set_option linter.unusedVariables false
set_option linter.unusedSimpArgs false
namespace Jvm.Pilot.@@N@@
open Jvm Jvm.ClassFile Sem Op Lib Jvm.Free Jvm.Stand Jvm.LawKit Jvm.RoadKit Bundle Jvm.Pilot.@@N@@.Jvm.D
section OwnKit
variable {p : Program} {l : Launch} {e : Env} {R : Room} {s : State} {m : MethodId} {args : Array Value} {below : List Frame} {meth : Method} {c : Code} {T T' : State} {locs : List Loc} {cells slots : Nat} {Z : State} {a0 : Array Value} {h : Heap}
def own_Fin (p : Program) (e : Env) (below : List Frame) (P : Outcome → State → Prop) (T : State) (g : JFrame) : Prop :=
  ∃ s₂ o, Steps p.tables e below (T.setTop g) s₂ ∧ s₂.status = .running ∧ Ended s₂ below o ∧ P o s₂
def own_P (s : State) (Q : Option Value → Heap → List Loc → Prop) (k n : Nat) (o : Outcome) (t : State) : Prop := ∃ v L, o = .returned v ∧ Q v t.heap L ∧ FrameEnd s o t L k n
theorem own_by {P : Outcome → State → Prop} {g g' : JFrame} (st : ∀ t, Steps p.tables e below (T'.setTop g') t → Steps p.tables e below (T.setTop g) t) (k : own_Fin p e below P T' g') : own_Fin p e below P T g := by
  obtain ⟨s₂, o, h1, h2⟩ := k
  exact ⟨s₂, o, st _ h1, h2⟩
theorem own_start {s₁ : State} {Q : Option Value → Heap → List Loc → Prop} {k n : Nat} {ml : Nat} {g : JFrame} (hef : entryFrame m args ml = g) (hk : own_Fin p e below (own_P s Q k n) s₁ g) :
    ∃ s₂ o, Steps p.tables e below (s₁.setTop (entryFrame m args ml)) s₂ ∧ s₂.status = .running ∧ Ended s₂ below o ∧ ∃ v L, o = .returned v ∧ Q v s₂.heap L ∧ FrameEnd s o s₂ L k n := by
  rw [hef]; exact hk
theorem own_end (X : Stand p l e R s m args below meth c T locs cells slots) {v : Option Value} (hv : meth.sig.returnType = none → v = none) (hlocks : meth.locks = false) {g : JFrame}
    (hret : ∀ {fs : List Frame}, (∀ (f : JFrame) (acts : List Action), f.method = m → f.locked = none → f.entered = [] → (doReturn e (T.setTop f) acts v).1 = T.setFrames fs) → Steps p.tables e below (T.setTop g) (T.setFrames fs))
    {Q : Option Value → Heap → List Loc → Prop} {k n : Nat} (hQ : Q v T.heap locs) (hk : cells ≤ k) (hn : slots ≤ n) : own_Fin p e below (own_P s Q k n) T g := by
  obtain ⟨fs, hr, hrun, hended, hW, hsame⟩ := X.leave hv hlocks
  exact ⟨_, _, hret hr, hrun, hended, _, _, rfl, hQ, ⟨_, rfl⟩, hW, hsame.mono hk hn⟩
theorem own_nf {C : String} {y : MethodName} (w : (Jvm.Cond.selects C y y).before a0 Z = true) : ∀ {s : State}, Z.Warmed39 s.vm → NotFace s y := fun hZ => notFace_of_selects (args := #[]) (mvT hZ w)
theorem own_callSB (X : Stand p l e R s m args below meth c T locs cells slots) (hx : p.tables.exec = Jvm.exec) (hZ : Z.Warmed39 s.vm) {own : String} {index : Nat} {y : MethodName} {bytes : ByteArray} {maxL W : Nat} {ret : Option FieldType} {kc ks : Nat} {as' : Array Value} {Q : Option Value → Heap → List Loc → Prop}
    (hown : s.vm.findClass own = some m.cls) (w1 : (Jvm.Cond.methodLink own index y).before a0 Z = true) (w2 : (Jvm.Cond.static y).before a0 Z = true) (w3 : (Jvm.Cond.initialized y.cls).before a0 Z = true) (w4 : (Jvm.Cond.code y bytes maxL ret).before a0 Z = true) (hy : y.cls ≠ "java/lang/invoke/MethodHandle" ∧ y.cls ≠ "java/lang/invoke/VarHandle")
    (hK : Back l R p e below s args y 3 W (fun A a => a = as' ∧ A.U.heap = h ∧ A.cells + kc ≤ R.cells ∧ A.slots + ks ≤ R.slots) (fun A _ v B => ∃ L, Q v B.U.heap L ∧ B.locs = A.locs ++ L ∧ B.cells = A.cells + kc ∧ B.slots = A.slots + ks))
    (eT : T.heap = h) {g : JFrame} (hg : g.method = m) (hsize : g.locals.size = c.maxLocals) {argsL rest : List Value} (hlen : ∀ sig, parseMethodDescriptor y.desc = some sig → argsL.length = sig.parameters.length)
    (hstack : g.stack = argsL.reverse ++ rest) (hW : 2 * g.monitorRoom + (rest.map fun v => v.category).sum ≤ W) (hdg : decode c.code g.pc = .ok (.invokestatic index, 3)) (has : argsL.toArray = as') (hc : cells + kc ≤ R.cells) (hs : slots + ks ≤ R.slots) {P : Outcome → State → Prop}
    (k : ∀ (v : Option Value) (T' : State) (L : List Loc), Stand p l e R s m args below meth c T' (locs ++ L) (cells + kc) (slots + ks) → Q v T'.heap L → own_Fin p e below P T' { g with pc := g.pc + 3, stack := v.toList ++ rest }) : own_Fin p e below P T g := by
  obtain ⟨v, _, ⟨U', L', k', n'⟩, -, X', ⟨Lc, hQ, l1, l2, l3⟩, st⟩ := Jvm.LawKit.callS X hx (y := y) hown (mvT hZ w1) (mvT hZ w2) (mvT hZ w3) (mvT hZ w4) hy hK hg hsize hlen hstack hW hdg (fun _ _ => ⟨has, eT, hc, hs⟩)
  dsimp only [Pt.U, Pt.locs, Pt.cells, Pt.slots] at X' l1 l2 l3 st hQ
  subst l1 l2 l3
  exact own_by st (k v U' Lc X' hQ)
theorem own_callS (X : Stand p l e R s m args below meth c T locs cells slots) (hx : p.tables.exec = Jvm.exec) (hZ : Z.Warmed39 s.vm) {own : String} {index : Nat} {y : MethodName} {bytes : ByteArray} {maxL W : Nat} {ret : Option FieldType} {rm : Room} {as' : Array Value} {Q : Option Value → Heap → List Loc → Prop}
    (hown : s.vm.findClass own = some m.cls) (w1 : (Jvm.Cond.methodLink own index y).before a0 Z = true) (w2 : (Jvm.Cond.static y).before a0 Z = true) (w3 : (Jvm.Cond.initialized y.cls).before a0 Z = true) (w4 : (Jvm.Cond.code y bytes maxL ret).before a0 Z = true) (hy : y.cls ≠ "java/lang/invoke/MethodHandle" ∧ y.cls ≠ "java/lang/invoke/VarHandle")
    (hM : MetFree l y (head1 [Jvm.Cond.code y bytes maxL ret] rm) (fun a U => a = as' ∧ Z.Warmed39 U.vm ∧ U.heap = h) (fun _ _ _ _ _ => True) (fun _ U o U' => ∃ v L, o = .returned v ∧ Q v U'.heap L ∧ FrameEnd U o U' L rm.cells rm.slots))
    (hf : rm.frames + 1 ≤ R.frames) (hl : W + (maxL + 11) + rm.locals ≤ R.locals) (eT : T.heap = h) {g : JFrame} (hg : g.method = m) (hsize : g.locals.size = c.maxLocals) {argsL rest : List Value} (hlen : ∀ sig, parseMethodDescriptor y.desc = some sig → argsL.length = sig.parameters.length)
    (hstack : g.stack = argsL.reverse ++ rest) (hW : 2 * g.monitorRoom + (rest.map fun v => v.category).sum ≤ W) (hdg : decode c.code g.pc = .ok (.invokestatic index, 3)) (has : argsL.toArray = as') (hc : cells + rm.cells ≤ R.cells) (hs : slots + rm.slots ≤ R.slots) {P : Outcome → State → Prop}
    (k : ∀ (v : Option Value) (T' : State) (L : List Loc), Stand p l e R s m args below meth c T' (locs ++ L) (cells + rm.cells) (slots + rm.slots) → Q v T'.heap L → own_Fin p e below P T' { g with pc := g.pc + 3, stack := v.toList ++ rest }) : own_Fin p e below P T g :=
  own_callSB X hx hZ hown w1 w2 w3 w4 hy (backOf (W := W) hM hZ w4 w3 hf hl) eT hg hsize hlen hstack hW hdg has hc hs k
theorem own_callIB (X : Stand p l e R s m args below meth c T locs cells slots) (hx : p.tables.exec = Jvm.exec) (hZ : Z.Warmed39 s.vm) {own : String} {index : Nat} {y : MethodName} {bytes : ByteArray} {maxL W : Nat} {kc ks : Nat} {as' : Array Value} {Q : Option Value → Heap → List Loc → Prop} (hin : y.name = "<init>")
    (hown : s.vm.findClass own = some m.cls) (w1 : (Jvm.Cond.methodLink own index y).before a0 Z = true) (w2 : (Jvm.Cond.instanceMethod y).before a0 Z = true) (w4 : (Jvm.Cond.code y bytes maxL none).before a0 Z = true) (hy : y.cls ≠ "java/lang/invoke/MethodHandle" ∧ y.cls ≠ "java/lang/invoke/VarHandle")
    (hK : Back l R p e below s args y 3 W (fun A a => a = as' ∧ A.U.heap = h ∧ A.cells + kc ≤ R.cells ∧ A.slots + ks ≤ R.slots) (fun A _ v B => ∃ L, Q v B.U.heap L ∧ B.locs = A.locs ++ L ∧ B.cells = A.cells + kc ∧ B.slots = A.slots + ks))
    (eT : T.heap = h) {g : JFrame} (hg : g.method = m) (hsize : g.locals.size = c.maxLocals) {a : Addr} {argsL rest : List Value} (hlen : ∀ sig, parseMethodDescriptor y.desc = some sig → argsL.length = sig.parameters.length)
    (hstack : g.stack = argsL.reverse ++ .ref a :: rest) (hW : 2 * g.monitorRoom + (rest.map fun v => v.category).sum ≤ W) (hdg : decode c.code g.pc = .ok (.invokespecial index, 3)) (has : (.ref a :: argsL).toArray = as') (hc : cells + kc ≤ R.cells) (hs : slots + ks ≤ R.slots) {P : Outcome → State → Prop}
    (k : ∀ (v : Option Value) (T' : State) (L : List Loc), Stand p l e R s m args below meth c T' (locs ++ L) (cells + kc) (slots + ks) → Q v T'.heap L → own_Fin p e below P T' { g with pc := g.pc + 3, stack := v.toList ++ rest }) : own_Fin p e below P T g := by
  obtain ⟨v, _, ⟨U', L', k', n'⟩, -, X', ⟨Lc, hQ, l1, l2, l3⟩, st⟩ := X.specialBack hx (y := y) hin hown (mvT hZ w1) (mvT hZ w2) (mvT hZ w4) hy hK hg hsize (Steps.refl _) (a := a) hlen hstack hW hdg (fun _ _ => ⟨has, eT, hc, hs⟩)
  dsimp only [Pt.U, Pt.locs, Pt.cells, Pt.slots] at X' l1 l2 l3 st hQ
  subst l1 l2 l3
  exact own_by (fun _ q => st.trans q) (k v U' Lc X' hQ)
theorem own_callI (X : Stand p l e R s m args below meth c T locs cells slots) (hx : p.tables.exec = Jvm.exec) (hZ : Z.Warmed39 s.vm) {own : String} {index : Nat} {y : MethodName} {bytes : ByteArray} {maxL W : Nat} {rm : Room} {as' : Array Value} {Q : Option Value → Heap → List Loc → Prop} (hin : y.name = "<init>")
    (hown : s.vm.findClass own = some m.cls) (w1 : (Jvm.Cond.methodLink own index y).before a0 Z = true) (w2 : (Jvm.Cond.instanceMethod y).before a0 Z = true) (w4 : (Jvm.Cond.code y bytes maxL none).before a0 Z = true) (w3 : (Jvm.Cond.initialized y.cls).before a0 Z = true) (hy : y.cls ≠ "java/lang/invoke/MethodHandle" ∧ y.cls ≠ "java/lang/invoke/VarHandle")
    (hM : MetFree l y (head1 [Jvm.Cond.code y bytes maxL none] rm) (fun a U => a = as' ∧ Z.Warmed39 U.vm ∧ U.heap = h) (fun _ _ _ _ _ => True) (fun _ U o U' => ∃ v L, o = .returned v ∧ Q v U'.heap L ∧ FrameEnd U o U' L rm.cells rm.slots))
    (hf : rm.frames + 1 ≤ R.frames) (hl : W + (maxL + 11) + rm.locals ≤ R.locals) (eT : T.heap = h) {g : JFrame} (hg : g.method = m) (hsize : g.locals.size = c.maxLocals) {a : Addr} {argsL rest : List Value} (hlen : ∀ sig, parseMethodDescriptor y.desc = some sig → argsL.length = sig.parameters.length)
    (hstack : g.stack = argsL.reverse ++ .ref a :: rest) (hW : 2 * g.monitorRoom + (rest.map fun v => v.category).sum ≤ W) (hdg : decode c.code g.pc = .ok (.invokespecial index, 3)) (has : (.ref a :: argsL).toArray = as') (hc : cells + rm.cells ≤ R.cells) (hs : slots + rm.slots ≤ R.slots) {P : Outcome → State → Prop}
    (k : ∀ (v : Option Value) (T' : State) (L : List Loc), Stand p l e R s m args below meth c T' (locs ++ L) (cells + rm.cells) (slots + rm.slots) → Q v T'.heap L → own_Fin p e below P T' { g with pc := g.pc + 3, stack := v.toList ++ rest }) : own_Fin p e below P T g :=
  own_callIB X hx hZ hin hown w1 w2 w4 hy (backOf (W := W) hM hZ w4 w3 hf hl) eT hg hsize hlen hstack hW hdg has hc hs k
theorem own_callVB (X : Stand p l e R s m args below meth c T locs cells slots) (hx : p.tables.exec = Jvm.exec) (hZ : Z.Warmed39 s.vm) {own C : String} {index : Nat} {y z : MethodName} {W : Nat} {kc ks : Nat} {as' : Array Value} {Q : Option Value → Heap → List Loc → Prop}
    (hown : s.vm.findClass own = some m.cls) (w1 : (Jvm.Cond.methodLink own index y).before a0 Z = true) (w2 : (Jvm.Cond.declares y).before a0 Z = true) (nf : ∀ {s : State}, Z.Warmed39 s.vm → NotFace s y) (w5 : (Jvm.Cond.selects C y z).before a0 Z = true) (w6 : (Jvm.Cond.instanceMethod z).before a0 Z = true) (hy : y.cls ≠ "java/lang/invoke/MethodHandle" ∧ y.cls ≠ "java/lang/invoke/VarHandle")
    {b : Addr} (E : Exa Z h b C)
    (hK : Back l R p e below s args z 3 W (fun A a => a = as' ∧ A.U.heap = h ∧ A.cells + kc ≤ R.cells ∧ A.slots + ks ≤ R.slots) (fun A _ v B => ∃ L, Q v B.U.heap L ∧ B.locs = A.locs ++ L ∧ B.cells = A.cells + kc ∧ B.slots = A.slots + ks))
    (eT : T.heap = h) {g : JFrame} (hg : g.method = m) (hsize : g.locals.size = c.maxLocals) {argsL rest : List Value} (hlen : ∀ sig, parseMethodDescriptor y.desc = some sig → argsL.length = sig.parameters.length)
    (hstack : g.stack = argsL.reverse ++ .ref b :: rest) (hW : 2 * g.monitorRoom + (rest.map fun v => v.category).sum ≤ W) (hdg : decode c.code g.pc = .ok (.invokevirtual index, 3)) (has : (.ref b :: argsL).toArray = as') (hc : cells + kc ≤ R.cells) (hs : slots + ks ≤ R.slots) {P : Outcome → State → Prop}
    (k : ∀ (v : Option Value) (T' : State) (L : List Loc), Stand p l e R s m args below meth c T' (locs ++ L) (cells + kc) (slots + ks) → Q v T'.heap L → own_Fin p e below P T' { g with pc := g.pc + 3, stack := v.toList ++ rest }) : own_Fin p e below P T g := by
  obtain ⟨cq, kq, qa, qb, qc⟩ := isOf hZ eT E
  obtain ⟨v, _, ⟨U', L', k', n'⟩, -, X', ⟨Lc, hQ, l1, l2, l3⟩, st⟩ := X.virtualBack hx (y := y) (z := z) hown (mvT hZ w1) (mvT hZ w2) (nf hZ) (mvT hZ w5) (mvT hZ w6) hy hK qa qc hg hsize (Steps.refl _) hlen hstack hW hdg (fun _ _ => ⟨has, eT, hc, hs⟩)
  dsimp only [Pt.U, Pt.locs, Pt.cells, Pt.slots] at X' l1 l2 l3 st hQ
  subst l1 l2 l3
  exact own_by (fun _ q => st.trans q) (k v U' Lc X' hQ)
theorem own_callV (X : Stand p l e R s m args below meth c T locs cells slots) (hx : p.tables.exec = Jvm.exec) (hZ : Z.Warmed39 s.vm) {own C : String} {index : Nat} {y z : MethodName} {bytes : ByteArray} {maxL W : Nat} {ret : Option FieldType} {rm : Room} {as' : Array Value} {Q : Option Value → Heap → List Loc → Prop}
    (hown : s.vm.findClass own = some m.cls) (w1 : (Jvm.Cond.methodLink own index y).before a0 Z = true) (w2 : (Jvm.Cond.declares y).before a0 Z = true) (nf : ∀ {s : State}, Z.Warmed39 s.vm → NotFace s y) (w5 : (Jvm.Cond.selects C y z).before a0 Z = true) (w6 : (Jvm.Cond.instanceMethod z).before a0 Z = true) (w4 : (Jvm.Cond.code z bytes maxL ret).before a0 Z = true) (w3 : (Jvm.Cond.initialized z.cls).before a0 Z = true) (hy : y.cls ≠ "java/lang/invoke/MethodHandle" ∧ y.cls ≠ "java/lang/invoke/VarHandle")
    {b : Addr} (E : Exa Z h b C)
    (hM : MetFree l z (head1 [Jvm.Cond.code z bytes maxL ret] rm) (fun a U => a = as' ∧ Z.Warmed39 U.vm ∧ U.heap = h) (fun _ _ _ _ _ => True) (fun _ U o U' => ∃ v L, o = .returned v ∧ Q v U'.heap L ∧ FrameEnd U o U' L rm.cells rm.slots))
    (hf : rm.frames + 1 ≤ R.frames) (hl : W + (maxL + 11) + rm.locals ≤ R.locals) (eT : T.heap = h) {g : JFrame} (hg : g.method = m) (hsize : g.locals.size = c.maxLocals) {argsL rest : List Value} (hlen : ∀ sig, parseMethodDescriptor y.desc = some sig → argsL.length = sig.parameters.length)
    (hstack : g.stack = argsL.reverse ++ .ref b :: rest) (hW : 2 * g.monitorRoom + (rest.map fun v => v.category).sum ≤ W) (hdg : decode c.code g.pc = .ok (.invokevirtual index, 3)) (has : (.ref b :: argsL).toArray = as') (hc : cells + rm.cells ≤ R.cells) (hs : slots + rm.slots ≤ R.slots) {P : Outcome → State → Prop}
    (k : ∀ (v : Option Value) (T' : State) (L : List Loc), Stand p l e R s m args below meth c T' (locs ++ L) (cells + rm.cells) (slots + rm.slots) → Q v T'.heap L → own_Fin p e below P T' { g with pc := g.pc + 3, stack := v.toList ++ rest }) : own_Fin p e below P T g :=
  own_callVB X hx hZ hown w1 w2 nf w5 w6 hy E (backOf (W := W) hM hZ w4 w3 hf hl) eT hg hsize hlen hstack hW hdg has hc hs k
theorem own_narR {t : FieldType} {w : Value} (ht : t.isReference = true) : narrow t w = w := by cases t <;> first | rfl | (cases ht)
theorem own_fldI {t : Term} {C n d : String} {k : Int32} {a : Addr} (hv : (Jvm.Cond.eq (.field t C n d) (.int k)).value args s none s [] = some true) (ht : t.eval args s none [] s = some (.ref a)) : Fld s s.heap a C n d (.int k) := by
  obtain ⟨x, y, e1, e2, k1, k2⟩ := cmp_v (Or.inl hv)
  rw [Term.int_eval] at e2
  cases e2
  obtain ⟨z, rfl⟩ := k2
  have q : z = k := by simpa [Jvm.Cond.value, e1, Term.int_eval] using hv
  rw [fld_at ht] at e1
  exact Fld.start (q ▸ e1)
theorem own_clash {x y z : Int32} (h : x = y) (n : ¬ y = z) : ¬ x = z := fun q => n (h.symm.trans q)
theorem own_rem (x y : Int32) (n : Int) (hy : y.toInt = n) (hn : 0 < n) : 0 ≤ ((x &&& (2147483647 : Int32)) % y).toInt ∧ ((x &&& (2147483647 : Int32)) % y).toInt < n := by
  have h0 := c_and x 2147483647 (by decide)
  have h1 := (c_irem (x &&& 2147483647) y n hy).1 h0.1
  rw [h1]
  exact ⟨Int.emod_nonneg _ (by omega), Int.emod_lt_of_pos _ hn⟩
theorem own_eqI {x y : Int32} (h : x.toInt = y.toInt) : x = y := Int32.toInt_inj.mp h
theorem own_neI {x y : Int32} (h : ¬ x = y) : x.toInt ≠ y.toInt := fun q => h (Int32.toInt_inj.mp q)
theorem own_fitsR {t : FieldType} {v : Value} (ht : t.isReference = true) (hv : v.isRef = true) : fits t v = true := by
  rcases ref_cases hv with rfl | ⟨a, rfl⟩ <;> cases t <;> first | rfl | (cases ht)
theorem own_cat {v : Value} (hv : v.isRef = true) : v.category = 1 := by
  rcases ref_cases hv with rfl | ⟨a, rfl⟩ <;> rfl
theorem own_store1 {L : Array Slot} {i : Nat} {v : Value} {o : Slot} {L' : Array Slot} (hold : L[i]? = some o) (ho : One o) (hv : v.category = 1) (e : L.setIfInBounds i (.val v) = L') : storeLocals L i v = some L' := by
  rw [← e]; exact XS.store1 hold ho hv
theorem own_h {Z : State} {a0 : Array Value} (hw : ∀ d ∈ tables_1, d.before a0 Z = true) (i : Nat) {d : Jvm.Cond} (h : tables_1[i]? = some d) : d.before a0 Z = true := hw d (List.mem_of_getElem? h)
end OwnKit
abbrev own_y0 : MethodName := ⟨"com/example/bahikhata/bahikhata/io/BookIndex", "<init>", "(Ljava/lang/String;)V"⟩
abbrev own_y1 : MethodName := ⟨"com/example/bahikhata/bahikhata/io/BookIndex", "givesOverdueSince", "(I)Z"⟩
abbrev own_y2 : MethodName := ⟨"com/example/bahikhata/bahikhata/io/BookIndex", "note", "(Lcom/example/bahikhata/bahikhata/model/Loan;)V"⟩
abbrev own_y3 : MethodName := ⟨"com/example/bahikhata/bahikhata/io/BookIndexGivesOverdueSincePinLaw", "facility", "(I)Lcom/example/bahikhata/bahikhata/model/Facility;"⟩
abbrev own_y4 : MethodName := ⟨"com/example/bahikhata/bahikhata/io/BookIndexGivesOverdueSincePinLaw", "loan", "(I)Lcom/example/bahikhata/bahikhata/model/Loan;"⟩
abbrev own_y5 : MethodName := ⟨"com/example/bahikhata/bahikhata/io/BookIndexGivesOverdueSincePinLaw", "overdue", "(I)Z"⟩
abbrev own_y6 : MethodName := ⟨"com/example/bahikhata/bahikhata/model/Facility", "isRunningAccount", "()Z"⟩
abbrev own_y7 : MethodName := ⟨"com/example/bahikhata/bahikhata/model/Facility", "ordinal", "()I"⟩
abbrev own_y8 : MethodName := ⟨"com/example/bahikhata/bahikhata/model/Loan", "<init>", "(Ljava/lang/String;Ljava/lang/String;Lcom/example/bahikhata/bahikhata/model/Facility;Ljava/math/BigDecimal;Ljava/time/LocalDate;Ljava/lang/String;Ljava/time/LocalDate;Ljava/math/BigDecimal;Ljava/math/BigDecimal;ZZZLjava/math/BigDecimal;Ljava/math/BigDecimal;Ljava/math/BigDecimal;Ljava/math/BigDecimal;Ljava/time/LocalDate;Ljava/time/LocalDate;Ljava/math/BigDecimal;Ljava/math/BigDecimal;Ljava/time/LocalDate;)V"⟩
abbrev own_y9 : MethodName := ⟨"com/example/bahikhata/bahikhata/model/Loan", "facility", "()Lcom/example/bahikhata/bahikhata/model/Facility;"⟩
abbrev own_y10 : MethodName := ⟨"com/example/bahikhata/bahikhata/model/Loan", "overdueSince", "()Ljava/time/LocalDate;"⟩
abbrev own_y14 : MethodName := ⟨"java/lang/Enum", "ordinal", "()I"⟩
abbrev own_y15 : MethodName := ⟨"java/lang/Record", "<init>", "()V"⟩
abbrev own_y17 : MethodName := ⟨"java/util/Objects", "requireNonNull", "(Ljava/lang/Object;Ljava/lang/String;)Ljava/lang/Object;"⟩
theorem own_g {p : Program} {e : Env} {below : List Frame} {T : State} {P : Outcome → State → Prop} {g : JFrame} (g' : JFrame) (st : ∀ t, Steps p.tables e below (T.setTop g') t → Steps p.tables e below (T.setTop g) t) (k : own_Fin p e below P T g') : own_Fin p e below P T g := own_by st k
abbrev own_A0 (Z : State) (f3 : Addr) : Prop := Sta Z Z.heap "com/example/bahikhata/bahikhata/model/Facility" "BILL" "Lcom/example/bahikhata/bahikhata/model/Facility;" (.ref f3)
abbrev own_A1 (Z : State) (f1 : Addr) : Prop := Sta Z Z.heap "com/example/bahikhata/bahikhata/model/Facility" "CASH_CREDIT" "Lcom/example/bahikhata/bahikhata/model/Facility;" (.ref f1)
abbrev own_A2 (Z : State) (f2 : Addr) : Prop := Sta Z Z.heap "com/example/bahikhata/bahikhata/model/Facility" "OVERDRAFT" "Lcom/example/bahikhata/bahikhata/model/Facility;" (.ref f2)
abbrev own_A3 (Z : State) (f0 : Addr) : Prop := Sta Z Z.heap "com/example/bahikhata/bahikhata/model/Facility" "TERM_LOAN" "Lcom/example/bahikhata/bahikhata/model/Facility;" (.ref f0)
abbrev own_A4 (Z : State) (zr : Addr) : Prop := Sta Z Z.heap "java/math/BigDecimal" "ZERO" "Ljava/math/BigDecimal;" (.ref zr)
abbrev own_A5 (Z : State) (ep : Addr) : Prop := Sta Z Z.heap "java/time/LocalDate" "EPOCH" "Ljava/time/LocalDate;" (.ref ep)
section OwnKitJ
variable {p : Program} {l : Launch} {e : Env} {R : Room} {s : State} {m : MethodId} {args : Array Value} {below : List Frame} {meth : Method} {c : Code} {T T' : State} {locs : List Loc} {cells slots : Nat} {Z : State} {a0 : Array Value} {h : Heap} {vm0 : Vm} {K K' : List (String × Nat)}
/-- the String constants of K are resolved at vm -/
def own_Rs (Z : State) (vm : Vm) (K : List (String × Nat)) : Prop := ∀ q ∈ K, ∃ a, Lit (Z.setVm vm) q.1 q.2 a
theorem own_Rs.stays {vm vm' : Vm} (H : own_Rs Z vm K) (hW : (s.setVm vm).Warmed39 vm') : own_Rs Z vm' K := fun q hq => by
  obtain ⟨a, L⟩ := H q hq
  exact ⟨a, Lit.stays (s := s) (show Lit (s.setVm vm) q.1 q.2 a from L) hW⟩
theorem own_Rs.nil {vm : Vm} : own_Rs Z vm [] := fun _ h => by cases h
theorem own_Rs.cons {vm : Vm} {o : String} {i : Nat} {a : Addr} (L : Lit (s.setVm vm) o i a) (H : own_Rs Z vm K) : own_Rs Z vm ((o, i) :: K) := fun q hq => by
  rcases List.mem_cons.mp hq with rfl | hq
  · exact ⟨a, L⟩
  · exact H q hq
theorem own_Rs.app {vm : Vm} (H : own_Rs Z vm K) (H' : own_Rs Z vm K') : own_Rs Z vm (K ++ K') := fun q hq => (List.mem_append.mp hq).elim (H q) (H' q)
theorem own_Rs.sub {vm : Vm} (H : own_Rs Z vm K) (h : ∀ q ∈ K', q ∈ K) : own_Rs Z vm K' := fun q hq => H q (h q hq)
theorem own_backJ {y : MethodName} {bytes : ByteArray} {maxL : Nat} {ret : Option FieldType} {rm : Room} {len W : Nat} {as' : Array Value} {Q : Option Value → Heap → List Loc → Prop}
    (hM : MetFree l y (head1 [Cond.code y bytes maxL ret] rm) (fun a U => a = as' ∧ Z.Warmed39 U.vm ∧ U.heap = h ∧ own_Rs Z U.vm K) (fun _ _ _ _ _ => True) (fun _ U o U' => ∃ v L, o = .returned v ∧ Q v U'.heap L ∧ own_Rs Z U'.vm K' ∧ ReturnedEndW U o U' L rm.cells rm.slots))
    (hZ : Z.Warmed39 vm0) (wc : (Cond.code y bytes maxL ret).before a0 Z = true) (wz : (Cond.initialized y.cls).before a0 Z = true) (hf : rm.frames + 1 ≤ R.frames) (hl : W + (maxL + 11) + rm.locals ≤ R.locals) (H : own_Rs Z vm0 K) :
    BackS l R p e below (s.setVm vm0) args y len W (fun A a => a = as' ∧ A.U.heap = h ∧ A.cells + rm.cells ≤ R.cells ∧ A.slots + rm.slots ≤ R.slots)
      (fun A _ v B => ∃ L, Q v B.U.heap L ∧ B.locs = A.locs ++ L ∧ B.cells = A.cells + rm.cells ∧ B.slots = A.slots + rm.slots ∧ own_Rs Z B.U.vm K') :=
  BackS.of_freeW (bytes := bytes) (maxL := maxL) (ret := ret) (E := fun _ first o t L k n => k = rm.cells ∧ n = rm.slots ∧ (∃ v, o = .returned v ∧ Q v t.heap L) ∧ own_Rs Z t.vm K') hM hf hl
    (fun m meth c A a Y hp => have hU : Z.Warmed39 A.U.vm := wtrans (s := s.setVm vm0) hZ Y.warmed
      ⟨by show (Cond.and _ .tt).before a A.U = true; rw [Cond.before_and, mv hU wc]; rfl, mv hU wc, mv hU wz, hp.2.2.1, hp.2.2.2⟩)
    (fun m meth c A a g mk Y hp => ⟨hp.1, wtrans (s := s.setVm vm0) hZ Y.warmed, hp.2.1, H.stays (s := s) Y.warmed.wide⟩) (fun _ _ _ _ _ _ _ _ _ => trivial)
    (fun _ _ _ _ ⟨v, L, h1, h2, h3, h4⟩ => ⟨L, _, _, h4, rfl, rfl, ⟨v, h1, h2⟩, h3⟩)
    (fun m meth c A a g mk v t L k n Y hp _ _ ⟨e1, e2, ⟨v', e3, e4⟩, e5⟩ => by
      cases e3; subst e1 e2
      exact ⟨L, e4, rfl, rfl, rfl, e5⟩)
def own_PJ (Z : State) (K' : List (String × Nat)) (s : State) (Q : Option Value → Heap → List Loc → Prop) (k n : Nat) (o : Outcome) (t : State) : Prop := ∃ v L, o = .returned v ∧ Q v t.heap L ∧ own_Rs Z t.vm K' ∧ ReturnedEndW s o t L k n
theorem own_startJ {s₁ : State} {Q : Option Value → Heap → List Loc → Prop} {k n : Nat} {ml : Nat} {g : JFrame} (hef : entryFrame m args ml = g) (hk : own_Fin p e below (own_PJ Z K' s Q k n) s₁ g) :
    ∃ s₂ o, Steps p.tables e below (s₁.setTop (entryFrame m args ml)) s₂ ∧ s₂.status = .running ∧ Ended s₂ below o ∧ ∃ v L, o = .returned v ∧ Q v s₂.heap L ∧ own_Rs Z s₂.vm K' ∧ ReturnedEndW s o s₂ L k n := by
  rw [hef]; exact hk
theorem own_endJ (X : Stand p l e R (s.setVm vm0) m args below meth c T locs cells slots) {k0 : Nat} (hS : s.Since vm0 k0) (hk0 : k0 ≤ T.heap.size) (hZ : Z.Warmed39 vm0) (C : own_Rs Z vm0 K') {v : Option Value} (hv : meth.sig.returnType = none → v = none) (hlocks : meth.locks = false) {g : JFrame}
    (hret : ∀ {fs : List Frame}, (∀ (f : JFrame) (acts : List Action), f.method = m → f.locked = none → f.entered = [] → (doReturn e (T.setTop f) acts v).1 = T.setFrames fs) → Steps p.tables e below (T.setTop g) (T.setFrames fs))
    {Q : Option Value → Heap → List Loc → Prop} {k n : Nat} (hQ : Q v T.heap locs) (hk : cells ≤ k) (hn : slots ≤ n) : own_Fin p e below (own_PJ Z K' s Q k n) T g := by
  obtain ⟨fs, hr, hrun, hended, hW⟩ := X.leaveW hS hk0 hv hlocks
  have C2 : own_Rs Z T.vm K' := C.stays (s := s) X.warmed.wide
  exact ⟨_, _, hret hr, hrun, hended, _, _, rfl, hQ, C2, hW.1, hW.2.1, hW.2.2.1, hW.2.2.2.mono hk hn⟩
theorem own_callSJ (X : Stand p l e R (s.setVm vm0) m args below meth c T locs cells slots) (hx : p.tables.exec = Jvm.exec) (hZ : Z.Warmed39 vm0) {own : String} {index : Nat} {y : MethodName} {bytes : ByteArray} {maxL W : Nat} {ret : Option FieldType} {rm : Room} {as' : Array Value} {Q : Option Value → Heap → List Loc → Prop}
    (hown : vm0.findClass own = some m.cls) (w1 : (Jvm.Cond.methodLink own index y).before a0 Z = true) (w2 : (Jvm.Cond.static y).before a0 Z = true) (w3 : (Jvm.Cond.initialized y.cls).before a0 Z = true) (w4 : (Jvm.Cond.code y bytes maxL ret).before a0 Z = true) (hy : y.cls ≠ "java/lang/invoke/MethodHandle" ∧ y.cls ≠ "java/lang/invoke/VarHandle")
    {k0 : Nat} (hS : s.Since vm0 k0) (hk0 : k0 ≤ h.size) (H : own_Rs Z vm0 K)
    (hM : MetFree l y (head1 [Jvm.Cond.code y bytes maxL ret] rm) (fun a U => a = as' ∧ Z.Warmed39 U.vm ∧ U.heap = h ∧ own_Rs Z U.vm K) (fun _ _ _ _ _ => True) (fun _ U o U' => ∃ v L, o = .returned v ∧ Q v U'.heap L ∧ own_Rs Z U'.vm K' ∧ ReturnedEndW U o U' L rm.cells rm.slots))
    (hf : rm.frames + 1 ≤ R.frames) (hl : W + (maxL + 11) + rm.locals ≤ R.locals) (eT : T.heap = h) {g : JFrame} (hg : g.method = m) (hsize : g.locals.size = c.maxLocals) {argsL rest : List Value} (hlen : ∀ sig, parseMethodDescriptor y.desc = some sig → argsL.length = sig.parameters.length)
    (hstack : g.stack = argsL.reverse ++ rest) (hW : 2 * g.monitorRoom + (rest.map fun v => v.category).sum ≤ W) (hdg : decode c.code g.pc = .ok (.invokestatic index, 3)) (has : argsL.toArray = as') (hc : cells + rm.cells ≤ R.cells) (hs : slots + rm.slots ≤ R.slots) {P : Outcome → State → Prop}
    (k : ∀ (v : Option Value) (T' : State) (L : List Loc), Stand p l e R (s.setVm T'.vm) m args below meth c T' (locs ++ L) (cells + rm.cells) (slots + rm.slots) → s.Since T'.vm T'.heap.size → Z.Warmed39 T'.vm → T'.vm.findClass own = some m.cls → ((s.setVm vm0).Warmed39 T'.vm ∧ own_Rs Z T'.vm K') → Q v T'.heap L → own_Fin p e below P T' { g with pc := g.pc + 3, stack := v.toList ++ rest }) : own_Fin p e below P T g := by
  obtain ⟨v, _, ⟨U', L', k', n'⟩, -, X', hS2, hgr, ⟨Lc, hQ, l1, l2, l3, hC⟩, st⟩ := callSS X hx (y := y) hown (mvT (s := s.setVm vm0) hZ w1) (mvT (s := s.setVm vm0) hZ w2) (mvT (s := s.setVm vm0) hZ w3) (mvT (s := s.setVm vm0) hZ w4) hy (own_backJ (W := W) hM hZ w4 w3 hf hl H) hg hsize hlen hstack hW hdg (fun _ _ => ⟨has, eT, hc, hs⟩)
  dsimp only [Pt.U, Pt.locs, Pt.cells, Pt.slots] at X' l1 l2 l3 st hQ hC hS2 hgr
  subst l1 l2 l3
  exact own_by (fun _ q => st.trans q) (k v U' Lc X' (foldS hS (by rw [eT]; exact hk0) hS2 hgr) (State.Warmed39.trans (t := s.setVm vm0) hZ hS2.1) (by rw [hS2.1.alike.findClass]; exact hown) ⟨hS2.1, hC⟩ hQ)
theorem own_callIJ (X : Stand p l e R (s.setVm vm0) m args below meth c T locs cells slots) (hx : p.tables.exec = Jvm.exec) (hZ : Z.Warmed39 vm0) {own : String} {index : Nat} {y : MethodName} {bytes : ByteArray} {maxL W : Nat} {rm : Room} {as' : Array Value} {Q : Option Value → Heap → List Loc → Prop} (hin : y.name = "<init>")
    (hown : vm0.findClass own = some m.cls) (w1 : (Jvm.Cond.methodLink own index y).before a0 Z = true) (w2 : (Jvm.Cond.instanceMethod y).before a0 Z = true) (w4 : (Jvm.Cond.code y bytes maxL none).before a0 Z = true) (w3 : (Jvm.Cond.initialized y.cls).before a0 Z = true) (hy : y.cls ≠ "java/lang/invoke/MethodHandle" ∧ y.cls ≠ "java/lang/invoke/VarHandle")
    {k0 : Nat} (hS : s.Since vm0 k0) (hk0 : k0 ≤ h.size) (H : own_Rs Z vm0 K)
    (hM : MetFree l y (head1 [Jvm.Cond.code y bytes maxL none] rm) (fun a U => a = as' ∧ Z.Warmed39 U.vm ∧ U.heap = h ∧ own_Rs Z U.vm K) (fun _ _ _ _ _ => True) (fun _ U o U' => ∃ v L, o = .returned v ∧ Q v U'.heap L ∧ own_Rs Z U'.vm K' ∧ ReturnedEndW U o U' L rm.cells rm.slots))
    (hf : rm.frames + 1 ≤ R.frames) (hl : W + (maxL + 11) + rm.locals ≤ R.locals) (eT : T.heap = h) {g : JFrame} (hg : g.method = m) (hsize : g.locals.size = c.maxLocals) {a : Addr} {argsL rest : List Value} (hlen : ∀ sig, parseMethodDescriptor y.desc = some sig → argsL.length = sig.parameters.length)
    (hstack : g.stack = argsL.reverse ++ .ref a :: rest) (hW : 2 * g.monitorRoom + (rest.map fun v => v.category).sum ≤ W) (hdg : decode c.code g.pc = .ok (.invokespecial index, 3)) (has : (.ref a :: argsL).toArray = as') (hc : cells + rm.cells ≤ R.cells) (hs : slots + rm.slots ≤ R.slots) {P : Outcome → State → Prop}
    (k : ∀ (v : Option Value) (T' : State) (L : List Loc), Stand p l e R (s.setVm T'.vm) m args below meth c T' (locs ++ L) (cells + rm.cells) (slots + rm.slots) → s.Since T'.vm T'.heap.size → Z.Warmed39 T'.vm → T'.vm.findClass own = some m.cls → ((s.setVm vm0).Warmed39 T'.vm ∧ own_Rs Z T'.vm K') → Q v T'.heap L → own_Fin p e below P T' { g with pc := g.pc + 3, stack := v.toList ++ rest }) : own_Fin p e below P T g := by
  obtain ⟨v, _, ⟨U', L', k', n'⟩, -, X', hS2, hgr, ⟨Lc, hQ, l1, l2, l3, hC⟩, st⟩ := X.specialBackS hx (y := y) hin hown (mvT (s := s.setVm vm0) hZ w1) (mvT (s := s.setVm vm0) hZ w2) (mvT (s := s.setVm vm0) hZ w4) hy (own_backJ (W := W) hM hZ w4 w3 hf hl H) hg hsize (Steps.refl _) (a := a) hlen hstack hW hdg (fun _ _ => ⟨has, eT, hc, hs⟩)
  dsimp only [Pt.U, Pt.locs, Pt.cells, Pt.slots] at X' l1 l2 l3 st hQ hC hS2 hgr
  subst l1 l2 l3
  exact own_by (fun _ q => st.trans q) (k v U' Lc X' (foldS hS (by rw [eT]; exact hk0) hS2 hgr) (State.Warmed39.trans (t := s.setVm vm0) hZ hS2.1) (by rw [hS2.1.alike.findClass]; exact hown) ⟨hS2.1, hC⟩ hQ)
theorem own_callVJ (X : Stand p l e R (s.setVm vm0) m args below meth c T locs cells slots) (hx : p.tables.exec = Jvm.exec) (hZ : Z.Warmed39 vm0) {own C : String} {index : Nat} {y z : MethodName} {bytes : ByteArray} {maxL W : Nat} {ret : Option FieldType} {rm : Room} {as' : Array Value} {Q : Option Value → Heap → List Loc → Prop}
    (hown : vm0.findClass own = some m.cls) (w1 : (Jvm.Cond.methodLink own index y).before a0 Z = true) (w2 : (Jvm.Cond.declares y).before a0 Z = true) (nf : ∀ {s : State}, Z.Warmed39 s.vm → NotFace s y) (w5 : (Jvm.Cond.selects C y z).before a0 Z = true) (w6 : (Jvm.Cond.instanceMethod z).before a0 Z = true) (w4 : (Jvm.Cond.code z bytes maxL ret).before a0 Z = true) (w3 : (Jvm.Cond.initialized z.cls).before a0 Z = true) (hy : y.cls ≠ "java/lang/invoke/MethodHandle" ∧ y.cls ≠ "java/lang/invoke/VarHandle")
    {b : Addr} (E : Exa Z h b C) {k0 : Nat} (hS : s.Since vm0 k0) (hk0 : k0 ≤ h.size) (H : own_Rs Z vm0 K)
    (hM : MetFree l z (head1 [Jvm.Cond.code z bytes maxL ret] rm) (fun a U => a = as' ∧ Z.Warmed39 U.vm ∧ U.heap = h ∧ own_Rs Z U.vm K) (fun _ _ _ _ _ => True) (fun _ U o U' => ∃ v L, o = .returned v ∧ Q v U'.heap L ∧ own_Rs Z U'.vm K' ∧ ReturnedEndW U o U' L rm.cells rm.slots))
    (hf : rm.frames + 1 ≤ R.frames) (hl : W + (maxL + 11) + rm.locals ≤ R.locals) (eT : T.heap = h) {g : JFrame} (hg : g.method = m) (hsize : g.locals.size = c.maxLocals) {argsL rest : List Value} (hlen : ∀ sig, parseMethodDescriptor y.desc = some sig → argsL.length = sig.parameters.length)
    (hstack : g.stack = argsL.reverse ++ .ref b :: rest) (hW : 2 * g.monitorRoom + (rest.map fun v => v.category).sum ≤ W) (hdg : decode c.code g.pc = .ok (.invokevirtual index, 3)) (has : (.ref b :: argsL).toArray = as') (hc : cells + rm.cells ≤ R.cells) (hs : slots + rm.slots ≤ R.slots) {P : Outcome → State → Prop}
    (k : ∀ (v : Option Value) (T' : State) (L : List Loc), Stand p l e R (s.setVm T'.vm) m args below meth c T' (locs ++ L) (cells + rm.cells) (slots + rm.slots) → s.Since T'.vm T'.heap.size → Z.Warmed39 T'.vm → T'.vm.findClass own = some m.cls → ((s.setVm vm0).Warmed39 T'.vm ∧ own_Rs Z T'.vm K') → Q v T'.heap L → own_Fin p e below P T' { g with pc := g.pc + 3, stack := v.toList ++ rest }) : own_Fin p e below P T g := by
  obtain ⟨cq, kq, qa, qb, qc⟩ := isOf (s := s.setVm vm0) hZ eT E
  obtain ⟨v, _, ⟨U', L', k', n'⟩, -, X', hS2, hgr, ⟨Lc, hQ, l1, l2, l3, hC⟩, st⟩ := X.virtualBackS hx (y := y) (z := z) hown (mvT (s := s.setVm vm0) hZ w1) (mvT (s := s.setVm vm0) hZ w2) (nf (s := s.setVm vm0) hZ) (mvT (s := s.setVm vm0) hZ w5) (mvT (s := s.setVm vm0) hZ w6) hy (own_backJ (W := W) hM hZ w4 w3 hf hl H) qa qc hg hsize (Steps.refl _) hlen hstack hW hdg (fun _ _ => ⟨has, eT, hc, hs⟩)
  dsimp only [Pt.U, Pt.locs, Pt.cells, Pt.slots] at X' l1 l2 l3 st hQ hC hS2 hgr
  subst l1 l2 l3
  exact own_by (fun _ q => st.trans q) (k v U' Lc X' (foldS hS (by rw [eT]; exact hk0) hS2 hgr) (State.Warmed39.trans (t := s.setVm vm0) hZ hS2.1) (by rw [hS2.1.alike.findClass]; exact hown) ⟨hS2.1, hC⟩ hQ)
theorem own_ldcJ (X : Stand p l e R (s.setVm vm0) m args below meth c T locs cells slots) (hx : p.tables.exec = Jvm.exec) (hZ : Z.Warmed39 vm0) {own text : String} {index : Nat} (hown : vm0.findClass own = some m.cls) (w : (Cond.stringLink own index text).before a0 Z = true) (wS : ∀ a ∈ Bundle.stringAtoms, a.before a0 Z = true)
    (eT : T.heap = h) {k0 : Nat} (hS : s.Since vm0 k0) (hk : k0 ≤ h.size) (H : own_Rs Z vm0 K) {g : JFrame} (hg : g.method = m) (hd : decode c.code g.pc = .ok (.ldc index, 2)) {n : Nat} (hn : 4 * text.toList.length ≤ n) (hbig : n ≤ 536870912) (hc : cells + 2 ≤ R.cells) (hl' : slots + (n + 4) ≤ R.slots) :
    ∃ (a : Addr) (T' : State) (h' : Heap) (k1 : Nat), Stand p l e R (s.setVm T'.vm) m args below meth c T' locs (cells + 2) (slots + (n + 4)) ∧ T'.heap = h' ∧ Ext h h' ∧ s.Since T'.vm k1 ∧ k1 ≤ h'.size ∧ Z.Warmed39 T'.vm ∧ T'.vm.findClass own = some m.cls ∧ own_Rs Z T'.vm ((own, index) :: K) ∧
      ∀ target, Steps p.tables e below (T'.setTop { g with pc := g.pc + 2, stack := .ref a :: g.stack }) target → Steps p.tables e below (T.setTop g) target := by
  obtain ⟨a, T', X', hS', ⟨kk, hkk, hrr⟩, hb, -, -, st⟩ := X.ldcColdN hx (own := own) hown (mvS hZ w) (fun d hd => by
    have q := wS d hd
    simp only [Bundle.stringAtoms, List.mem_cons, List.not_mem_nil, or_false] at hd
    rcases hd with rfl | rfl | rfl | rfl | rfl | rfl | rfl
    · exact mv (s := s.setVm vm0) hZ q
    · exact mv (s := s.setVm vm0) hZ q
    · exact mvA (s := s.setVm vm0) hZ q
    · exact mv (s := s.setVm vm0) hZ q
    · exact mv (s := s.setVm vm0) hZ q
    · exact mv (s := s.setVm vm0) hZ q
    · exact mv (s := s.setVm vm0) hZ q) hg hd hn hbig hc hl'
  subst eT
  have E := ext_of hb
  have hf : T'.vm.findClass own = some m.cls := by rw [hS'.1.alike.findClass]; exact hown
  exact ⟨a, T', _, _, X', rfl, E, hS.trans hS' (Nat.le_trans hk E.1), Nat.le_refl _, State.Warmed39.trans (t := s.setVm vm0) hZ hS'.1, hf, own_Rs.cons (s := s) (a := a) (by simp [Lit, State.resolvedAt?, hf, hkk, hrr]) (H.stays (s := s) hS'.1), st⟩
theorem own_someF {x : Addr} {C O nm d : String} {n : Nat} (E : Exa Z h x C) (U : Unt h x) (L : Laid Z a0 C O nm d) (wi : (Cond.instantiable C n).before a0 Z = true) : ∃ v, Fld Z h x O nm d v := by
  obtain ⟨cell, k, h1, h2, h3, h4, h5⟩ := E
  obtain ⟨c2, u1, u2, -⟩ := U
  cases h1.symm.trans u1
  obtain ⟨c1, k1, cf, kf, i, f, a1, a2, a3, a4, a5, a6, -⟩ := L.spec
  cases h2.symm.trans a1
  cases h3.symm.trans a2
  obtain ⟨c3, k3, i1, i2, i3, -⟩ := Cond.instantiable_spec wi
  cases h2.symm.trans i1
  cases h3.symm.trans i2
  have hs : f.slot < cell.slots.size := by rw [h5 i3]; exact (Array.getElem?_eq_some_iff.mp a6).1
  exact ⟨_, cell, cf, kf, i, f, h1, a3, a4, by rw [u2]; simp, h4, a5, Array.getElem?_eq_getElem hs⟩
theorem own_ldcA (X : Stand p l e R (s.setVm vm0) m args below meth c T locs cells slots) (hx : p.tables.exec = Jvm.exec) (hZ : Z.Warmed39 vm0) {own text : String} {index : Nat} (hown : vm0.findClass own = some m.cls) (w : (Cond.stringLink own index text).before a0 Z = true) (H : own_Rs Z vm0 K) (hm : (own, index) ∈ K) {g : JFrame} (hg : g.method = m) (hd : decode c.code g.pc = .ok (.ldc index, 2)) :
    ∃ a : Addr, ∀ target, Steps p.tables e below (T.setTop { g with pc := g.pc + 2, stack := .ref a :: g.stack }) target → Steps p.tables e below (T.setTop g) target := by
  obtain ⟨a, L⟩ := H _ hm
  exact ⟨a, ldcAgain X hx hZ hown w (show Lit (s.setVm vm0) own index a from L) hg hd⟩
end OwnKitJ

theorem own_wSin : ∀ d ∈ Bundle.stringAtoms, d ∈ tables_1 := by decide +kernel
theorem own_wS {Z : State} {a0 : Array Value} (hw : ∀ d ∈ tables_1, d.before a0 Z = true) : ∀ d ∈ Bundle.stringAtoms, d.before a0 Z = true := fun d hd => hw d (own_wSin d hd)
section OwnKitU
variable {p : Program} {l : Launch} {e : Env} {R : Room} {s : State} {m : MethodId} {args : Array Value} {below : List Frame} {meth : Method} {c : Code} {T T' : State} {locs : List Loc} {cells slots : Nat} {Z : State} {a0 : Array Value} {h : Heap}
theorem own_callU (X : Stand p l e R s m args below meth c T locs cells slots) (hx : p.tables.exec = Jvm.exec) (hZ : Z.Warmed39 s.vm) {own C : String} {index : Nat} {y z : MethodName} {bytes : ByteArray} {maxL W : Nat} {ret : Option FieldType} {rm : Room} {as' : Array Value} {Q : Option Value → Heap → List Loc → Prop}
    (hown : s.vm.findClass own = some m.cls) (w1 : (Jvm.Cond.methodLink own index y).before a0 Z = true) (w7 : (Jvm.Cond.sameMethod y.cls z.cls y.name y.desc).before a0 Z = true) (w2 : (Jvm.Cond.declares ⟨z.cls, y.name, y.desc⟩).before a0 Z = true) (w5 : (Jvm.Cond.selects C y z).before a0 Z = true) (w6 : (Jvm.Cond.instanceMethod z).before a0 Z = true) (w4 : (Jvm.Cond.code z bytes maxL ret).before a0 Z = true) (w3 : (Jvm.Cond.initialized z.cls).before a0 Z = true) (hy : z.cls ≠ "java/lang/invoke/MethodHandle" ∧ z.cls ≠ "java/lang/invoke/VarHandle")
    {b : Addr} (E : Exa Z h b C)
    (hM : MetFree l z (head1 [Jvm.Cond.code z bytes maxL ret] rm) (fun a U => a = as' ∧ Z.Warmed39 U.vm ∧ U.heap = h) (fun _ _ _ _ _ => True) (fun _ U o U' => ∃ v L, o = .returned v ∧ Q v U'.heap L ∧ FrameEnd U o U' L rm.cells rm.slots))
    (hf : rm.frames + 1 ≤ R.frames) (hl : W + (maxL + 11) + rm.locals ≤ R.locals) (eT : T.heap = h) {g : JFrame} (hg : g.method = m) (hsize : g.locals.size = c.maxLocals) {argsL rest : List Value} (hlen : ∀ sig, parseMethodDescriptor y.desc = some sig → argsL.length = sig.parameters.length)
    (hstack : g.stack = argsL.reverse ++ .ref b :: rest) (hW : 2 * g.monitorRoom + (rest.map fun v => v.category).sum ≤ W) (hdg : decode c.code g.pc = .ok (.invokevirtual index, 3)) (has : (.ref b :: argsL).toArray = as') (hc : cells + rm.cells ≤ R.cells) (hs : slots + rm.slots ≤ R.slots) {P : Outcome → State → Prop}
    (k : ∀ (v : Option Value) (T' : State) (L : List Loc), Stand p l e R s m args below meth c T' (locs ++ L) (cells + rm.cells) (slots + rm.slots) → Q v T'.heap L → own_Fin p e below P T' { g with pc := g.pc + 3, stack := v.toList ++ rest }) : own_Fin p e below P T g := by
  obtain ⟨cq, kq, qa, qb, qc⟩ := isOf hZ eT E
  obtain ⟨v, _, ⟨U', L', k', n'⟩, -, X', ⟨Lc, hQ, l1, l2, l3⟩, st⟩ := X.virtualBackUp hx (x := y) (y := z) (owner := z.cls) hown (mvT hZ w1) (mvT hZ w7) (mvT hZ w2) hy (mvT hZ w5) (mvT hZ w6) (backOf (W := W) hM hZ w4 w3 hf hl) qa qc hg hsize (Steps.refl _) hlen hstack hW hdg (fun _ _ => ⟨has, eT, hc, hs⟩)
  dsimp only [Pt.U, Pt.locs, Pt.cells, Pt.slots] at X' l1 l2 l3 st hQ
  subst l1 l2 l3
  exact own_by (fun _ q => st.trans q) (k v U' Lc X' hQ)
end OwnKitU
section OwnKitP
variable {p : Program} {l : Launch} {e : Env} {R : Room} {s : State} {m : MethodId} {args : Array Value} {below : List Frame} {meth : Method} {c : Code} {T T' : State} {locs : List Loc} {cells slots : Nat} {Z : State} {a0 : Array Value} {h : Heap}
theorem own_nfc {C : String} {y z : MethodName} (w : (Jvm.Cond.selects C y z).before a0 Z = true) {y' : MethodName} (hc : y'.cls = z.cls) : ∀ {s : State}, Z.Warmed39 s.vm → NotFace s y' := fun {s} hZ r0 h0 => by
  have w' : (Jvm.Cond.selects C y z).before #[] s = true := mvT hZ w
  obtain ⟨c2, r2, m2, q1, q2, q3, q4, kP, hkP, hkPi⟩ := Cond.selects_spec w'
  have e1 := findClass_of_methodNamed h0
  have e2 := findClass_of_methodNamed q3
  rw [hc, e2] at e1
  have e3 : m2.cls = r0.cls := Option.some.inj e1
  exact ⟨kP, by rw [← e3]; exact hkP, hkPi⟩
theorem own_decl {y : MethodName} {bytes : ByteArray} {maxL : Nat} {ret : Option FieldType} (w1 : (Jvm.Cond.instanceMethod y).before a0 Z = true) (w2 : (Jvm.Cond.code y bytes maxL ret).before a0 Z = true) : (Jvm.Cond.declares y).before a0 Z = true := by
  obtain ⟨mk, methM, hn, hm, hst, hab⟩ := Cond.instanceMethod_spec w1
  obtain ⟨m2, cM, q1, -, -, -, -, -, -, hsig⟩ := Cond.code_spec hn w2
  cases hm.symm.trans q1
  simp [Cond.before, Cond.holds, Cond.value, hn, hm, hst, hsig]
theorem own_same {y : MethodName} (w : (Jvm.Cond.declares y).before a0 Z = true) (nf : NotFace Z y) (hy : y.cls ≠ "java/lang/invoke/MethodHandle" ∧ y.cls ≠ "java/lang/invoke/VarHandle") : (Jvm.Cond.sameMethod y.cls y.cls y.name y.desc).before a0 Z = true := by
  obtain ⟨r0, r, hn, -, -, -⟩ := Cond.declares_spec w
  obtain ⟨kr, hk, hni⟩ := nf r0 hn
  have e1 := findClass_of_methodNamed hn
  have e2 := State.methodFound?_of_named hn hy
  have hn' : Z.methodNamed? ⟨y.cls, y.name, y.desc⟩ = some r0 := hn
  simp [Cond.before, Cond.holds, Cond.value, e1, e2, hn', hk, hni]
theorem own_callP (X : Stand p l e R s m args below meth c T locs cells slots) (hx : p.tables.exec = Jvm.exec) (hZ : Z.Warmed39 s.vm) {own K : String} {index : Nat} {y : MethodName} {bytes : ByteArray} {maxL W : Nat} {ret : Option FieldType} {rm : Room} {as' : Array Value} {Q : Option Value → Heap → List Loc → Prop}
    (hown : s.vm.findClass own = some m.cls) (w1 : (Jvm.Cond.methodLink own index y).before a0 Z = true) (w2 : (Jvm.Cond.declares y).before a0 Z = true) (nf : ∀ {s : State}, Z.Warmed39 s.vm → NotFace s y) (w6 : (Jvm.Cond.instanceMethod y).before a0 Z = true) (w7 : (Jvm.Cond.superclass own y.cls).before a0 Z = true) (w4 : (Jvm.Cond.code y bytes maxL ret).before a0 Z = true) (w3 : (Jvm.Cond.initialized y.cls).before a0 Z = true) (hi : y.name ≠ "<init>") (hy : y.cls ≠ "java/lang/invoke/MethodHandle" ∧ y.cls ≠ "java/lang/invoke/VarHandle")
    {b : Addr} (E : Exa Z h b K)
    (hM : MetFree l y (head1 [Jvm.Cond.code y bytes maxL ret] rm) (fun a U => a = as' ∧ Z.Warmed39 U.vm ∧ U.heap = h) (fun _ _ _ _ _ => True) (fun _ U o U' => ∃ v L, o = .returned v ∧ Q v U'.heap L ∧ FrameEnd U o U' L rm.cells rm.slots))
    (hf : rm.frames + 1 ≤ R.frames) (hl : W + (maxL + 11) + rm.locals ≤ R.locals) (eT : T.heap = h) {g : JFrame} (hg : g.method = m) (hsize : g.locals.size = c.maxLocals) {argsL rest : List Value} (hlen : ∀ sig, parseMethodDescriptor y.desc = some sig → argsL.length = sig.parameters.length)
    (hstack : g.stack = argsL.reverse ++ .ref b :: rest) (hW : 2 * g.monitorRoom + (rest.map fun v => v.category).sum ≤ W) (hdg : decode c.code g.pc = .ok (.invokespecial index, 3)) (has : (.ref b :: argsL).toArray = as') (hc : cells + rm.cells ≤ R.cells) (hs : slots + rm.slots ≤ R.slots) {P : Outcome → State → Prop}
    (k : ∀ (v : Option Value) (T' : State) (L : List Loc), Stand p l e R s m args below meth c T' (locs ++ L) (cells + rm.cells) (slots + rm.slots) → Q v T'.heap L → own_Fin p e below P T' { g with pc := g.pc + 3, stack := v.toList ++ rest }) : own_Fin p e below P T g := by
  obtain ⟨v, _, ⟨U', L', k', n'⟩, -, X', ⟨Lc, hQ, l1, l2, l3⟩, st⟩ := superBack X hx hZ (y := y) hown w1 (own_same w2 (nf (State.Warmed39.refl Z)) hy) w6 w7 hi (backOf (W := W) hM hZ w4 w3 hf hl) eT (Ins.self E) hg hsize w4 hlen hstack hW hdg (fun _ _ => ⟨has, eT, hc, hs⟩)
  dsimp only [Pt.U, Pt.locs, Pt.cells, Pt.slots] at X' l1 l2 l3 st hQ
  subst l1 l2 l3
  exact own_by (fun _ q => st.trans q) (k v U' Lc X' hQ)
end OwnKitP

theorem own_d7_0 : decode jdk_31_method_11_code 0 = .ok (.aload_n 0, 1) := by decide +kernel
theorem own_d7_1 : decode jdk_31_method_11_code 1 = .ok (.ifnonnull 12, 3) := by decide +kernel
theorem own_d7_13 : decode jdk_31_method_11_code 13 = .ok (.aload_n 0, 1) := by decide +kernel
theorem own_d7_14 : decode jdk_31_method_11_code 14 = .ok (.areturn, 1) := by decide +kernel
theorem own_rnn_ef (m : MethodId) (a : Addr) (b : Addr) : entryFrame m #[(.ref a), (.ref b)] 2 = mkF m 0 #[.val (.ref a), .val (.ref b)] [] := by  first | (simp [entryFrame, mkF, argsToLocals, Value.category]; done) | rfl
def own_rnn_Q (Z : State) (a : Addr) (b : Addr) (h0 : Heap) (n0 : Nat) (v : Option Value) (h : Heap) (L : List Loc) : Prop := v = some (.ref a) ∧ Fr n0 L ∧ h = h0
theorem own_pn_java_util_Objects : plainName "java/util/Objects" = true := by first | (simp [plainName, overriddenIn]; done) | decide +kernel
set_option maxRecDepth 65536 in
set_option maxHeartbeats 40000000 in
theorem own_rnn (l : Launch) (Z : State) (a0 : Array Value) (hw : ∀ d ∈ tables_1, d.before a0 Z = true) (ws : List Jvm.Cond) (a : Addr) (b : Addr) (h0 : Heap) (n0 : Nat) (Z0 : n0 ≤ h0.size)  :
    MetFree l own_y17 (head1 (Jvm.Cond.code own_y17 jdk_31_method_11_code 2 (some (.object "java/lang/Object")) :: ws) (⟨0, 0, 0, 0⟩ : Room)) (fun aa U => aa = #[(.ref a), (.ref b)] ∧ Z.Warmed39 U.vm ∧ U.heap = h0) (fun _ _ _ _ _ => True) (fun _ U o U' => ∃ v L, o = .returned v ∧ own_rnn_Q Z a b h0 n0 v U'.heap L ∧ FrameEnd U o U' L (⟨0, 0, 0, 0⟩ : Room).cells (⟨0, 0, 0, 0⟩ : Room).slots) := by
  refine MetFree.of_bodySF (plainFor_of_name own_pn_java_util_Objects) hisR ?_
  intro p e s m args below meth c s₁ Bd hml0 hP hK
  obtain ⟨rfl, hZ, hh⟩ := hP
  have hx := Bd.exec
  have hby := Bd.bytes
  have hml : c.maxLocals = 2 := hml0
  have hown : s.vm.findClass "java/util/Objects" = some m.cls := findClass_of_methodNamed Bd.named
  have hnm := (name_of_methodNamed Bd.named Bd.method).1
  have hlk := Bd.notSynchronized
  have X0 : Stand p l e (⟨0, 0, 0, 0⟩ : Room) s m #[(.ref a), (.ref b)] below meth c s₁ [] 0 0 := Stand.of_body Bd
  have e0 : s₁.heap = h0 := by rw [← hh, Bd.state]; rfl
  have N0 := Fr.nil n0
  refine own_start (Q := own_rnn_Q Z a b h0 n0) (own_rnn_ef m a b) ?_
  refine own_g (mkF m 14 #[.val (.ref a), .val (.ref b)] [(.ref a)]) (fun _ q => XS.aloadN X0.here hx rfl (hb hby own_d7_0) rfl rfl (XS.ifnonnullYes X0.here hx rfl (pc0 := 1) (pc' := 13) rfl (hb hby own_d7_1) rfl (by decide) (by decide) (XS.aloadN X0.here hx rfl (hb hby own_d7_13) rfl rfl q))) ?_
  exact own_end X0 (v := some (.ref a)) (fun h => by rw [Bd.returns] at h; cases h) hlk (fun hr => retOut X0 hx Bd.returns (own_narR rfl) (Or.inr (Or.inr (Or.inr (Or.inr ⟨rfl, rfl, rfl⟩)))) (hb hby own_d7_14) hr) (by rw [e0]; exact ⟨rfl, N0, rfl⟩) (by decide) (by decide)
theorem own_d8_0 : decode prog_50_method_5_code 0 = .ok (.aload_n 0, 1) := by decide +kernel
theorem own_d8_1 : decode prog_50_method_5_code 1 = .ok (.getfield 39, 3) := by decide +kernel
theorem own_d8_4 : decode prog_50_method_5_code 4 = .ok (.ireturn, 1) := by decide +kernel
theorem own_run_ef (m : MethodId) (a : Addr) : entryFrame m #[(.ref a)] 1 = mkF m 0 #[.val (.ref a)] [] := by  first | (simp [entryFrame, mkF, argsToLocals, Value.category]; done) | rfl
def own_run_Q (Z : State) (a : Addr) (rf : Int32) (h0 : Heap) (n0 : Nat) (v : Option Value) (h : Heap) (L : List Loc) : Prop := v = some (.int (nar .boolean rf)) ∧ Fr n0 L ∧ h = h0
theorem own_pn_com_example_bahikhata_bahikhata_model_Facility : plainName "com/example/bahikhata/bahikhata/model/Facility" = true := by first | (simp [plainName, overriddenIn]; done) | decide +kernel
set_option maxRecDepth 65536 in
set_option maxHeartbeats 40000000 in
theorem own_run (l : Launch) (Z : State) (a0 : Array Value) (hw : ∀ d ∈ tables_1, d.before a0 Z = true) (ws : List Jvm.Cond) (a : Addr) (rf : Int32) (h0 : Heap) (n0 : Nat) (Z0 : n0 ≤ h0.size) (R_a : Fld Z h0 a "com/example/bahikhata/bahikhata/model/Facility" "runningAccount" "Z" (.int rf)) :
    MetFree l own_y6 (head1 (Jvm.Cond.code own_y6 prog_50_method_5_code 1 (some .boolean) :: ws) (⟨0, 0, 0, 0⟩ : Room)) (fun aa U => aa = #[(.ref a)] ∧ Z.Warmed39 U.vm ∧ U.heap = h0) (fun _ _ _ _ _ => True) (fun _ U o U' => ∃ v L, o = .returned v ∧ own_run_Q Z a rf h0 n0 v U'.heap L ∧ FrameEnd U o U' L (⟨0, 0, 0, 0⟩ : Room).cells (⟨0, 0, 0, 0⟩ : Room).slots) := by
  refine MetFree.of_bodySF (plainFor_of_name own_pn_com_example_bahikhata_bahikhata_model_Facility) hisR ?_
  intro p e s m args below meth c s₁ Bd hml0 hP hK
  obtain ⟨rfl, hZ, hh⟩ := hP
  have hx := Bd.exec
  have hby := Bd.bytes
  have hml : c.maxLocals = 1 := hml0
  have hown : s.vm.findClass "com/example/bahikhata/bahikhata/model/Facility" = some m.cls := findClass_of_methodNamed Bd.named
  have hnm := (name_of_methodNamed Bd.named Bd.method).1
  have hlk := Bd.notSynchronized
  have X0 : Stand p l e (⟨0, 0, 0, 0⟩ : Room) s m #[(.ref a)] below meth c s₁ [] 0 0 := Stand.of_body Bd
  have e0 : s₁.heap = h0 := by rw [← hh, Bd.state]; rfl
  have N0 := Fr.nil n0
  refine own_start (Q := own_run_Q Z a rf h0 n0) (own_run_ef m a) ?_
  refine own_g (mkF m 1 #[.val (.ref a)] [(.ref a)]) (fun _ q => XS.aloadN X0.here hx rfl (hb hby own_d8_0) rfl rfl q) ?_
  obtain ⟨T1, X1, e1, st1⟩ := getF X0 hx hZ hown (host := "") (Or.inl (own_h hw 57 rfl)) Via.refl e0 R_a (g := (mkF m 1 #[.val (.ref a)] [(.ref a)])) rfl rfl (hb hby own_d8_1)
  refine own_by (g' := (mkF m 4 #[.val (.ref a)] [(.int rf)])) st1 ?_
  exact own_end X1 (v := some (.int (nar .boolean rf))) (fun h => by rw [Bd.returns] at h; cases h) hlk (fun hr => retN X1 hx (t := .boolean) Bd.returns (by simp) (hb hby own_d8_4) hr) (by rw [e1]; exact ⟨rfl, N0, rfl⟩) (by decide) (by decide)
theorem own_d5_0 : decode jdk_30_method_1_code 0 = .ok (.aload_n 0, 1) := by decide +kernel
theorem own_d5_1 : decode jdk_30_method_1_code 1 = .ok (.invokespecial 1, 3) := by decide +kernel
theorem own_d5_4 : decode jdk_30_method_1_code 4 = .ok (.return_, 1) := by decide +kernel
theorem own_rec_ef (m : MethodId) (a : Addr) : entryFrame m #[(.ref a)] 1 = mkF m 0 #[.val (.ref a)] [] := by  first | (simp [entryFrame, mkF, argsToLocals, Value.category]; done) | rfl
def own_rec_Q (Z : State) (a : Addr) (h0 : Heap) (n0 : Nat) (v : Option Value) (h : Heap) (L : List Loc) : Prop := v = none ∧ Fr n0 L ∧ h = h0
theorem own_pn_java_lang_Record : plainName "java/lang/Record" = true := by first | (simp [plainName, overriddenIn]; done) | decide +kernel
set_option maxRecDepth 65536 in
set_option maxHeartbeats 40000000 in
theorem own_rec (l : Launch) (Z : State) (a0 : Array Value) (hw : ∀ d ∈ tables_1, d.before a0 Z = true) (ws : List Jvm.Cond) (a : Addr) (h0 : Heap) (n0 : Nat) (Z0 : n0 ≤ h0.size)  :
    MetFree l own_y15 (head1 (Jvm.Cond.code own_y15 jdk_30_method_1_code 1 none :: ws) (⟨1, 0, 0, 12⟩ : Room)) (fun aa U => aa = #[(.ref a)] ∧ Z.Warmed39 U.vm ∧ U.heap = h0) (fun _ _ _ _ _ => True) (fun _ U o U' => ∃ v L, o = .returned v ∧ own_rec_Q Z a h0 n0 v U'.heap L ∧ FrameEnd U o U' L (⟨1, 0, 0, 12⟩ : Room).cells (⟨1, 0, 0, 12⟩ : Room).slots) := by
  refine MetFree.of_bodySF (plainFor_of_name own_pn_java_lang_Record) hisR ?_
  intro p e s m args below meth c s₁ Bd hml0 hP hK
  obtain ⟨rfl, hZ, hh⟩ := hP
  have hx := Bd.exec
  have hby := Bd.bytes
  have hml : c.maxLocals = 1 := hml0
  have hown : s.vm.findClass "java/lang/Record" = some m.cls := findClass_of_methodNamed Bd.named
  have hnm := (name_of_methodNamed Bd.named Bd.method).1
  have hlk := Bd.notSynchronized
  have X0 : Stand p l e (⟨1, 0, 0, 12⟩ : Room) s m #[(.ref a)] below meth c s₁ [] 0 0 := Stand.of_body Bd
  have e0 : s₁.heap = h0 := by rw [← hh, Bd.state]; rfl
  have N0 := Fr.nil n0
  refine own_start (Q := own_rec_Q Z a h0 n0) (own_rec_ef m a) ?_
  refine own_g (mkF m 1 #[.val (.ref a)] [(.ref a)]) (fun _ q => XS.aloadN X0.here hx rfl (hb hby own_d5_0) rfl rfl q) ?_
  obtain ⟨T1, X1, e1, st1⟩ := initO X0 hx hZ hown (own_h hw 37 rfl) (own_h hw 38 rfl) (own_h hw 39 rfl) e0 (g := (mkF m 1 #[.val (.ref a)] [(.ref a)])) rfl (by rw [hml]; rfl) rfl (hb hby own_d5_1) (by decide) (W := 0) (by show 2 * 0 + _ ≤ _; exact Nat.le_of_eq rfl) (by decide)
  refine own_by (g' := (mkF m 4 #[.val (.ref a)] [])) st1 ?_
  exact own_end X1 (v := none) (fun _ => rfl) hlk (fun hr => X1.returnOut hx Bd.returns (hb hby own_d5_4) hr) (by rw [e1]; exact ⟨rfl, N0, rfl⟩) (by decide) (by decide)
theorem own_d4_0 : decode prog_53_method_1_code 0 = .ok (.aload_n 0, 1) := by decide +kernel
theorem own_d4_1 : decode prog_53_method_1_code 1 = .ok (.invokespecial 1, 3) := by decide +kernel
theorem own_pd__28_29V : parseMethodDescriptor "()V" = some ⟨[], none⟩ := by decide +kernel
theorem own_d4_4 : decode prog_53_method_1_code 4 = .ok (.aload_n 1, 1) := by decide +kernel
theorem own_d4_5 : decode prog_53_method_1_code 5 = .ok (.ldc 7, 2) := by decide +kernel
theorem own_d4_7 : decode prog_53_method_1_code 7 = .ok (.invokestatic 9, 3) := by decide +kernel
theorem own_pd__28Ljava_2flang_2fObject_3bLjava_2flang_2fString_3b_29Ljava_2flang_2fObject_3b : parseMethodDescriptor "(Ljava/lang/Object;Ljava/lang/String;)Ljava/lang/Object;" = some ⟨[(.object "java/lang/Object"), (.object "java/lang/String")], some (.object "java/lang/Object")⟩ := by decide +kernel
theorem own_d4_10 : decode prog_53_method_1_code 10 = .ok (.pop, 1) := by decide +kernel
theorem own_d4_11 : decode prog_53_method_1_code 11 = .ok (.aload_n 2, 1) := by decide +kernel
theorem own_d4_12 : decode prog_53_method_1_code 12 = .ok (.ldc 15, 2) := by decide +kernel
theorem own_d4_14 : decode prog_53_method_1_code 14 = .ok (.invokestatic 9, 3) := by decide +kernel
theorem own_d4_17 : decode prog_53_method_1_code 17 = .ok (.pop, 1) := by decide +kernel
theorem own_d4_18 : decode prog_53_method_1_code 18 = .ok (.aload_n 3, 1) := by decide +kernel
theorem own_d4_19 : decode prog_53_method_1_code 19 = .ok (.ldc 17, 2) := by decide +kernel
theorem own_d4_21 : decode prog_53_method_1_code 21 = .ok (.invokestatic 9, 3) := by decide +kernel
theorem own_d4_24 : decode prog_53_method_1_code 24 = .ok (.pop, 1) := by decide +kernel
theorem own_d4_25 : decode prog_53_method_1_code 25 = .ok (.aload 4, 2) := by decide +kernel
theorem own_d4_27 : decode prog_53_method_1_code 27 = .ok (.ldc 19, 2) := by decide +kernel
theorem own_d4_29 : decode prog_53_method_1_code 29 = .ok (.invokestatic 9, 3) := by decide +kernel
theorem own_d4_32 : decode prog_53_method_1_code 32 = .ok (.pop, 1) := by decide +kernel
theorem own_d4_33 : decode prog_53_method_1_code 33 = .ok (.aload 8, 2) := by decide +kernel
theorem own_d4_35 : decode prog_53_method_1_code 35 = .ok (.ldc 21, 2) := by decide +kernel
theorem own_d4_37 : decode prog_53_method_1_code 37 = .ok (.invokestatic 9, 3) := by decide +kernel
theorem own_d4_40 : decode prog_53_method_1_code 40 = .ok (.pop, 1) := by decide +kernel
theorem own_d4_41 : decode prog_53_method_1_code 41 = .ok (.aload 9, 2) := by decide +kernel
theorem own_d4_43 : decode prog_53_method_1_code 43 = .ok (.ldc 23, 2) := by decide +kernel
theorem own_d4_45 : decode prog_53_method_1_code 45 = .ok (.invokestatic 9, 3) := by decide +kernel
theorem own_d4_48 : decode prog_53_method_1_code 48 = .ok (.pop, 1) := by decide +kernel
theorem own_d4_49 : decode prog_53_method_1_code 49 = .ok (.aload 13, 2) := by decide +kernel
theorem own_d4_51 : decode prog_53_method_1_code 51 = .ok (.ldc 25, 2) := by decide +kernel
theorem own_d4_53 : decode prog_53_method_1_code 53 = .ok (.invokestatic 9, 3) := by decide +kernel
theorem own_d4_56 : decode prog_53_method_1_code 56 = .ok (.pop, 1) := by decide +kernel
theorem own_d4_57 : decode prog_53_method_1_code 57 = .ok (.aload 14, 2) := by decide +kernel
theorem own_d4_59 : decode prog_53_method_1_code 59 = .ok (.ldc 27, 2) := by decide +kernel
theorem own_d4_61 : decode prog_53_method_1_code 61 = .ok (.invokestatic 9, 3) := by decide +kernel
theorem own_d4_64 : decode prog_53_method_1_code 64 = .ok (.pop, 1) := by decide +kernel
theorem own_d4_65 : decode prog_53_method_1_code 65 = .ok (.aload_n 3, 1) := by decide +kernel
theorem own_d4_66 : decode prog_53_method_1_code 66 = .ok (.invokevirtual 29, 3) := by decide +kernel
theorem own_pd__28_29Z : parseMethodDescriptor "()Z" = some ⟨[], some .boolean⟩ := by decide +kernel
theorem own_d4_69 : decode prog_53_method_1_code 69 = .ok (.ifCond .eq 51, 3) := by decide +kernel
theorem own_d4_120 : decode prog_53_method_1_code 120 = .ok (.aload_n 0, 1) := by decide +kernel
theorem own_d4_121 : decode prog_53_method_1_code 121 = .ok (.aload_n 1, 1) := by decide +kernel
theorem own_d4_122 : decode prog_53_method_1_code 122 = .ok (.putfield 47, 3) := by decide +kernel
theorem own_d4_125 : decode prog_53_method_1_code 125 = .ok (.aload_n 0, 1) := by decide +kernel
theorem own_d4_126 : decode prog_53_method_1_code 126 = .ok (.aload_n 2, 1) := by decide +kernel
theorem own_d4_127 : decode prog_53_method_1_code 127 = .ok (.putfield 52, 3) := by decide +kernel
theorem own_d4_130 : decode prog_53_method_1_code 130 = .ok (.aload_n 0, 1) := by decide +kernel
theorem own_d4_131 : decode prog_53_method_1_code 131 = .ok (.aload_n 3, 1) := by decide +kernel
theorem own_d4_132 : decode prog_53_method_1_code 132 = .ok (.putfield 54, 3) := by decide +kernel
theorem own_d4_135 : decode prog_53_method_1_code 135 = .ok (.aload_n 0, 1) := by decide +kernel
theorem own_d4_136 : decode prog_53_method_1_code 136 = .ok (.aload 4, 2) := by decide +kernel
theorem own_d4_138 : decode prog_53_method_1_code 138 = .ok (.putfield 57, 3) := by decide +kernel
theorem own_d4_141 : decode prog_53_method_1_code 141 = .ok (.aload_n 0, 1) := by decide +kernel
theorem own_d4_142 : decode prog_53_method_1_code 142 = .ok (.aload 5, 2) := by decide +kernel
theorem own_d4_144 : decode prog_53_method_1_code 144 = .ok (.putfield 60, 3) := by decide +kernel
theorem own_d4_147 : decode prog_53_method_1_code 147 = .ok (.aload_n 0, 1) := by decide +kernel
theorem own_d4_148 : decode prog_53_method_1_code 148 = .ok (.aload 6, 2) := by decide +kernel
theorem own_d4_150 : decode prog_53_method_1_code 150 = .ok (.putfield 64, 3) := by decide +kernel
theorem own_d4_153 : decode prog_53_method_1_code 153 = .ok (.aload_n 0, 1) := by decide +kernel
theorem own_d4_154 : decode prog_53_method_1_code 154 = .ok (.aload 7, 2) := by decide +kernel
theorem own_d4_156 : decode prog_53_method_1_code 156 = .ok (.putfield 67, 3) := by decide +kernel
theorem own_d4_159 : decode prog_53_method_1_code 159 = .ok (.aload_n 0, 1) := by decide +kernel
theorem own_d4_160 : decode prog_53_method_1_code 160 = .ok (.aload 8, 2) := by decide +kernel
theorem own_d4_162 : decode prog_53_method_1_code 162 = .ok (.putfield 70, 3) := by decide +kernel
theorem own_d4_165 : decode prog_53_method_1_code 165 = .ok (.aload_n 0, 1) := by decide +kernel
theorem own_d4_166 : decode prog_53_method_1_code 166 = .ok (.aload 9, 2) := by decide +kernel
theorem own_d4_168 : decode prog_53_method_1_code 168 = .ok (.putfield 72, 3) := by decide +kernel
theorem own_d4_171 : decode prog_53_method_1_code 171 = .ok (.aload_n 0, 1) := by decide +kernel
theorem own_d4_172 : decode prog_53_method_1_code 172 = .ok (.iload 10, 2) := by decide +kernel
theorem own_d4_174 : decode prog_53_method_1_code 174 = .ok (.putfield 74, 3) := by decide +kernel
theorem own_d4_177 : decode prog_53_method_1_code 177 = .ok (.aload_n 0, 1) := by decide +kernel
theorem own_d4_178 : decode prog_53_method_1_code 178 = .ok (.iload 11, 2) := by decide +kernel
theorem own_d4_180 : decode prog_53_method_1_code 180 = .ok (.putfield 78, 3) := by decide +kernel
theorem own_d4_183 : decode prog_53_method_1_code 183 = .ok (.aload_n 0, 1) := by decide +kernel
theorem own_d4_184 : decode prog_53_method_1_code 184 = .ok (.iload 12, 2) := by decide +kernel
theorem own_d4_186 : decode prog_53_method_1_code 186 = .ok (.putfield 81, 3) := by decide +kernel
theorem own_d4_189 : decode prog_53_method_1_code 189 = .ok (.aload_n 0, 1) := by decide +kernel
theorem own_d4_190 : decode prog_53_method_1_code 190 = .ok (.aload 13, 2) := by decide +kernel
theorem own_d4_192 : decode prog_53_method_1_code 192 = .ok (.putfield 84, 3) := by decide +kernel
theorem own_d4_195 : decode prog_53_method_1_code 195 = .ok (.aload_n 0, 1) := by decide +kernel
theorem own_d4_196 : decode prog_53_method_1_code 196 = .ok (.aload 14, 2) := by decide +kernel
theorem own_d4_198 : decode prog_53_method_1_code 198 = .ok (.putfield 86, 3) := by decide +kernel
theorem own_d4_201 : decode prog_53_method_1_code 201 = .ok (.aload_n 0, 1) := by decide +kernel
theorem own_d4_202 : decode prog_53_method_1_code 202 = .ok (.aload 15, 2) := by decide +kernel
theorem own_d4_204 : decode prog_53_method_1_code 204 = .ok (.putfield 88, 3) := by decide +kernel
theorem own_d4_207 : decode prog_53_method_1_code 207 = .ok (.aload_n 0, 1) := by decide +kernel
theorem own_d4_208 : decode prog_53_method_1_code 208 = .ok (.aload 16, 2) := by decide +kernel
theorem own_d4_210 : decode prog_53_method_1_code 210 = .ok (.putfield 90, 3) := by decide +kernel
theorem own_d4_213 : decode prog_53_method_1_code 213 = .ok (.aload_n 0, 1) := by decide +kernel
theorem own_d4_214 : decode prog_53_method_1_code 214 = .ok (.aload 17, 2) := by decide +kernel
theorem own_d4_216 : decode prog_53_method_1_code 216 = .ok (.putfield 92, 3) := by decide +kernel
theorem own_d4_219 : decode prog_53_method_1_code 219 = .ok (.aload_n 0, 1) := by decide +kernel
theorem own_d4_220 : decode prog_53_method_1_code 220 = .ok (.aload 18, 2) := by decide +kernel
theorem own_d4_222 : decode prog_53_method_1_code 222 = .ok (.putfield 95, 3) := by decide +kernel
theorem own_d4_225 : decode prog_53_method_1_code 225 = .ok (.aload_n 0, 1) := by decide +kernel
theorem own_d4_226 : decode prog_53_method_1_code 226 = .ok (.aload 19, 2) := by decide +kernel
theorem own_d4_228 : decode prog_53_method_1_code 228 = .ok (.putfield 97, 3) := by decide +kernel
theorem own_d4_231 : decode prog_53_method_1_code 231 = .ok (.aload_n 0, 1) := by decide +kernel
theorem own_d4_232 : decode prog_53_method_1_code 232 = .ok (.aload 20, 2) := by decide +kernel
theorem own_d4_234 : decode prog_53_method_1_code 234 = .ok (.putfield 99, 3) := by decide +kernel
theorem own_d4_237 : decode prog_53_method_1_code 237 = .ok (.aload_n 0, 1) := by decide +kernel
theorem own_d4_238 : decode prog_53_method_1_code 238 = .ok (.aload 21, 2) := by decide +kernel
theorem own_d4_240 : decode prog_53_method_1_code 240 = .ok (.putfield 101, 3) := by decide +kernel
theorem own_d4_243 : decode prog_53_method_1_code 243 = .ok (.return_, 1) := by decide +kernel
abbrev own_frL (m : MethodId) (x0 sa sb fc zz : Addr) (sv : Value) (dd : Addr) (pc : Nat) (st : List Value) : JFrame := mkF m pc #[.val (.ref x0), .val (.ref sa), .val (.ref sb), .val (.ref fc), .val (.ref zz), .val sv, .val .null, .val .null, .val (.ref zz), .val (.ref zz), .val (.int 0), .val (.int 0), .val (.int 0), .val (.ref zz), .val (.ref zz), .val (.ref zz), .val (.ref zz), .val .null, .val (.ref dd), .val (.ref zz), .val (.ref zz), .val (.ref dd)] st
theorem own_liAn_ef (m : MethodId) (x0 : Addr) (sa : Addr) (sb : Addr) (fc : Addr) (zz : Addr) (sv : Value) (dd : Addr) (hsv : sv.isRef = true) : entryFrame m #[(.ref x0), (.ref sa), (.ref sb), (.ref fc), (.ref zz), sv, .null, .null, (.ref zz), (.ref zz), (.int 0), (.int 0), (.int 0), (.ref zz), (.ref zz), (.ref zz), (.ref zz), .null, (.ref dd), (.ref zz), (.ref zz), (.ref dd)] 22 = mkF m 0 #[.val (.ref x0), .val (.ref sa), .val (.ref sb), .val (.ref fc), .val (.ref zz), .val sv, .val .null, .val .null, .val (.ref zz), .val (.ref zz), .val (.int 0), .val (.int 0), .val (.int 0), .val (.ref zz), .val (.ref zz), .val (.ref zz), .val (.ref zz), .val .null, .val (.ref dd), .val (.ref zz), .val (.ref zz), .val (.ref dd)] [] := by rcases ref_cases hsv with rfl | ⟨_, rfl⟩ <;>  first | (simp [entryFrame, mkF, argsToLocals, Value.category]; done) | rfl
def own_liAn_Q (Z : State) (x0 : Addr) (sa : Addr) (sb : Addr) (fc : Addr) (zz : Addr) (sv : Value) (dd : Addr) (h0 : Heap) (n0 : Nat) (v : Option Value) (h : Heap) (L : List Loc) : Prop := v = none ∧ Fr n0 L ∧ Keep h0 h [x0] ∧ Exa Z h x0 "com/example/bahikhata/bahikhata/model/Loan" ∧ Fld Z h x0 "com/example/bahikhata/bahikhata/model/Loan" "overdueSince" "Ljava/time/LocalDate;" sv ∧ Fld Z h x0 "com/example/bahikhata/bahikhata/model/Loan" "facility" "Lcom/example/bahikhata/bahikhata/model/Facility;" (.ref fc)
theorem own_pn_com_example_bahikhata_bahikhata_model_Loan : plainName "com/example/bahikhata/bahikhata/model/Loan" = true := by first | (simp [plainName, overriddenIn]; done) | decide +kernel
set_option maxRecDepth 65536 in
set_option maxHeartbeats 40000000 in
theorem own_liAn (l : Launch) (Z : State) (a0 : Array Value) (hw : ∀ d ∈ tables_1, d.before a0 Z = true) (ws : List Jvm.Cond) (x0 : Addr) (sa : Addr) (sb : Addr) (fc : Addr) (zz : Addr) (sv : Value) (dd : Addr) (h0 : Heap) (n0 : Nat) (Z0 : n0 ≤ h0.size) (hsv : sv.isRef = true) (E_x : Exa Z h0 x0 "com/example/bahikhata/bahikhata/model/Loan") (g_x : n0 ≤ x0) (U_x : Unt h0 x0) (E_f : Exa Z h0 fc "com/example/bahikhata/bahikhata/model/Facility") (R_f : Fld Z h0 fc "com/example/bahikhata/bahikhata/model/Facility" "runningAccount" "Z" (.int 0)) (n_fx : fc ≠ x0) :
    MetFree l own_y8 (head1 (Jvm.Cond.code own_y8 prog_53_method_1_code 22 none :: ws) (⟨2, 16, 444, 24⟩ : Room)) (fun aa U => aa = #[(.ref x0), (.ref sa), (.ref sb), (.ref fc), (.ref zz), sv, .null, .null, (.ref zz), (.ref zz), (.int 0), (.int 0), (.int 0), (.ref zz), (.ref zz), (.ref zz), (.ref zz), .null, (.ref dd), (.ref zz), (.ref zz), (.ref dd)] ∧ Z.Warmed39 U.vm ∧ U.heap = h0 ∧ own_Rs Z U.vm ([] : List (String × Nat))) (fun _ _ _ _ _ => True) (fun _ U o U' => ∃ v L, o = .returned v ∧ own_liAn_Q Z x0 sa sb fc zz sv dd h0 n0 v U'.heap L ∧ own_Rs Z U'.vm ([("com/example/bahikhata/bahikhata/model/Loan", 7), ("com/example/bahikhata/bahikhata/model/Loan", 15), ("com/example/bahikhata/bahikhata/model/Loan", 17), ("com/example/bahikhata/bahikhata/model/Loan", 19), ("com/example/bahikhata/bahikhata/model/Loan", 21), ("com/example/bahikhata/bahikhata/model/Loan", 23), ("com/example/bahikhata/bahikhata/model/Loan", 25), ("com/example/bahikhata/bahikhata/model/Loan", 27)] : List (String × Nat)) ∧ ReturnedEndW U o U' L (⟨2, 16, 444, 24⟩ : Room).cells (⟨2, 16, 444, 24⟩ : Room).slots) := by
  refine MetFree.of_bodySF (plainFor_of_name own_pn_com_example_bahikhata_bahikhata_model_Loan) hisR ?_
  intro p e s m args below meth c s₁ Bd hml0 hP hK
  obtain ⟨rfl, hZ, hh, RS0⟩ := hP
  have hx := Bd.exec
  have hby := Bd.bytes
  have hml : c.maxLocals = 22 := hml0
  have hown : s.vm.findClass "com/example/bahikhata/bahikhata/model/Loan" = some m.cls := findClass_of_methodNamed Bd.named
  have hnm := (name_of_methodNamed Bd.named Bd.method).1
  have hlk := Bd.notSynchronized
  have X0 : Stand p l e (⟨2, 16, 444, 24⟩ : Room) (s.setVm s.vm) m #[(.ref x0), (.ref sa), (.ref sb), (.ref fc), (.ref zz), sv, .null, .null, (.ref zz), (.ref zz), (.int 0), (.int 0), (.int 0), (.ref zz), (.ref zz), (.ref zz), (.ref zz), .null, (.ref dd), (.ref zz), (.ref zz), (.ref dd)] below meth c s₁ [] 0 0 := Stand.of_body Bd
  have e0 : s₁.heap = h0 := by rw [← hh, Bd.state]; rfl
  have N0 := Fr.nil n0
  have hS : s.Since s.vm 0 := (State.WarmedH.refl s).since 0
  have hk0 : 0 ≤ h0.size := Nat.zero_le _
  have wS := own_wS hw
  refine own_startJ (K' := ([("com/example/bahikhata/bahikhata/model/Loan", 7), ("com/example/bahikhata/bahikhata/model/Loan", 15), ("com/example/bahikhata/bahikhata/model/Loan", 17), ("com/example/bahikhata/bahikhata/model/Loan", 19), ("com/example/bahikhata/bahikhata/model/Loan", 21), ("com/example/bahikhata/bahikhata/model/Loan", 23), ("com/example/bahikhata/bahikhata/model/Loan", 25), ("com/example/bahikhata/bahikhata/model/Loan", 27)] : List (String × Nat))) (Q := own_liAn_Q Z x0 sa sb fc zz sv dd h0 n0) (own_liAn_ef m x0 sa sb fc zz sv dd hsv) ?_
  refine own_g (own_frL m x0 sa sb fc zz sv dd 1 [(.ref x0)]) (fun _ q => XS.aloadN X0.here hx rfl (hb hby own_d4_0) rfl rfl q) ?_
  refine own_callI X0 hx hZ (y := own_y15) rfl hown (own_h hw 32 rfl) (own_h hw 33 rfl) (own_h hw 36 rfl) (own_h hw 35 rfl) (by decide) (own_rec l Z a0 hw [] x0 h0 n0 (Nat.le_trans Z0 (Keep.refl h0 [x0]).1) ) (by decide) (by decide) e0 (g := (own_frL m x0 sa sb fc zz sv dd 1 [(.ref x0)])) rfl (by rw [hml]; rfl) (argsL := []) (rest := []) (lenOf own_pd__28_29V rfl) rfl (W := 0) (by show 2 * 0 + _ ≤ _; exact Nat.le_of_eq rfl) (hb hby own_d4_1) rfl (by decide) (by decide) ?_
  rintro rv1 T1 L1 X1 ⟨rfl, Nq1, eh1⟩
  have N1 := Fr.app N0 Nq1
  refine own_g (own_frL m x0 sa sb fc zz sv dd 5 [(.ref sa)]) (fun _ q => XS.aloadN X1.here hx rfl (hb hby own_d4_4) rfl rfl q) ?_
  obtain ⟨a2, T2, h2, j2, X2, e2, E2, hS, hk2, hZ, hown, RS2, st2⟩ := own_ldcJ X1 hx hZ hown (own_h hw 40 rfl) wS eh1 hS hk0 RS0 (g := (own_frL m x0 sa sb fc zz sv dd 5 [(.ref sa)])) rfl (hb hby own_d4_5) (n := 36) (by decide) (by decide) (by decide) (by decide)
  refine own_by (g' := (own_frL m x0 sa sb fc zz sv dd 7 [(.ref a2), (.ref sa)])) st2 ?_
  have k3_ := ((Keep.refl h0 [x0]).ext E2)
  refine own_callS X2 hx hZ (y := own_y17) hown (own_h hw 41 rfl) (own_h hw 42 rfl) (own_h hw 43 rfl) (own_h hw 44 rfl) (by decide) (own_rnn l Z a0 hw [] sa a2 h2 n0 (Nat.le_trans Z0 k3_.1) ) (by decide) (by decide) e2 (g := (own_frL m x0 sa sb fc zz sv dd 7 [(.ref a2), (.ref sa)])) rfl (by rw [hml]; rfl) (argsL := [(.ref sa), (.ref a2)]) (rest := []) (lenOf own_pd__28Ljava_2flang_2fObject_3bLjava_2flang_2fString_3b_29Ljava_2flang_2fObject_3b rfl) rfl (W := 0) (by show 2 * 0 + _ ≤ _; exact Nat.le_of_eq rfl) (hb hby own_d4_7) rfl (by decide) (by decide) ?_
  rintro rv4 T4 L4 X4 ⟨rfl, Nq4, eh4⟩
  have N4 := Fr.app N1 Nq4
  refine own_g (own_frL m x0 sa sb fc zz sv dd 12 [(.ref sb)]) (fun _ q => XS.pop X4.here hx rfl (hb hby own_d4_10) rfl rfl (XS.aloadN X4.here hx rfl (hb hby own_d4_11) rfl rfl q)) ?_
  obtain ⟨a5, T5, h5, j5, X5, e5, E5, hS, hk5, hZ, hown, RS5, st5⟩ := own_ldcJ X4 hx hZ hown (own_h hw 45 rfl) wS eh4 hS hk2 RS2 (g := (own_frL m x0 sa sb fc zz sv dd 12 [(.ref sb)])) rfl (hb hby own_d4_12) (n := 40) (by decide) (by decide) (by decide) (by decide)
  refine own_by (g' := (own_frL m x0 sa sb fc zz sv dd 14 [(.ref a5), (.ref sb)])) st5 ?_
  have k6_ := (k3_.ext E5)
  refine own_callS X5 hx hZ (y := own_y17) hown (own_h hw 41 rfl) (own_h hw 42 rfl) (own_h hw 43 rfl) (own_h hw 44 rfl) (by decide) (own_rnn l Z a0 hw [] sb a5 h5 n0 (Nat.le_trans Z0 k6_.1) ) (by decide) (by decide) e5 (g := (own_frL m x0 sa sb fc zz sv dd 14 [(.ref a5), (.ref sb)])) rfl (by rw [hml]; rfl) (argsL := [(.ref sb), (.ref a5)]) (rest := []) (lenOf own_pd__28Ljava_2flang_2fObject_3bLjava_2flang_2fString_3b_29Ljava_2flang_2fObject_3b rfl) rfl (W := 0) (by show 2 * 0 + _ ≤ _; exact Nat.le_of_eq rfl) (hb hby own_d4_14) rfl (by decide) (by decide) ?_
  rintro rv7 T7 L7 X7 ⟨rfl, Nq7, eh7⟩
  have N7 := Fr.app N4 Nq7
  refine own_g (own_frL m x0 sa sb fc zz sv dd 19 [(.ref fc)]) (fun _ q => XS.pop X7.here hx rfl (hb hby own_d4_17) rfl rfl (XS.aloadN X7.here hx rfl (hb hby own_d4_18) rfl rfl q)) ?_
  obtain ⟨a8, T8, h8, j8, X8, e8, E8, hS, hk8, hZ, hown, RS8, st8⟩ := own_ldcJ X7 hx hZ hown (own_h hw 46 rfl) wS eh7 hS hk5 RS5 (g := (own_frL m x0 sa sb fc zz sv dd 19 [(.ref fc)])) rfl (hb hby own_d4_19) (n := 32) (by decide) (by decide) (by decide) (by decide)
  refine own_by (g' := (own_frL m x0 sa sb fc zz sv dd 21 [(.ref a8), (.ref fc)])) st8 ?_
  have k9_ := (k6_.ext E8)
  refine own_callS X8 hx hZ (y := own_y17) hown (own_h hw 41 rfl) (own_h hw 42 rfl) (own_h hw 43 rfl) (own_h hw 44 rfl) (by decide) (own_rnn l Z a0 hw [] fc a8 h8 n0 (Nat.le_trans Z0 k9_.1) ) (by decide) (by decide) e8 (g := (own_frL m x0 sa sb fc zz sv dd 21 [(.ref a8), (.ref fc)])) rfl (by rw [hml]; rfl) (argsL := [(.ref fc), (.ref a8)]) (rest := []) (lenOf own_pd__28Ljava_2flang_2fObject_3bLjava_2flang_2fString_3b_29Ljava_2flang_2fObject_3b rfl) rfl (W := 0) (by show 2 * 0 + _ ≤ _; exact Nat.le_of_eq rfl) (hb hby own_d4_21) rfl (by decide) (by decide) ?_
  rintro rv10 T10 L10 X10 ⟨rfl, Nq10, eh10⟩
  have N10 := Fr.app N7 Nq10
  refine own_g (own_frL m x0 sa sb fc zz sv dd 27 [(.ref zz)]) (fun _ q => XS.pop X10.here hx rfl (hb hby own_d4_24) rfl rfl (XS.aload X10.here hx rfl (hb hby own_d4_25) rfl rfl q)) ?_
  obtain ⟨a11, T11, h11, j11, X11, e11, E11, hS, hk11, hZ, hown, RS11, st11⟩ := own_ldcJ X10 hx hZ hown (own_h hw 47 rfl) wS eh10 hS hk8 RS8 (g := (own_frL m x0 sa sb fc zz sv dd 27 [(.ref zz)])) rfl (hb hby own_d4_27) (n := 44) (by decide) (by decide) (by decide) (by decide)
  refine own_by (g' := (own_frL m x0 sa sb fc zz sv dd 29 [(.ref a11), (.ref zz)])) st11 ?_
  have k12_ := (k9_.ext E11)
  refine own_callS X11 hx hZ (y := own_y17) hown (own_h hw 41 rfl) (own_h hw 42 rfl) (own_h hw 43 rfl) (own_h hw 44 rfl) (by decide) (own_rnn l Z a0 hw [] zz a11 h11 n0 (Nat.le_trans Z0 k12_.1) ) (by decide) (by decide) e11 (g := (own_frL m x0 sa sb fc zz sv dd 29 [(.ref a11), (.ref zz)])) rfl (by rw [hml]; rfl) (argsL := [(.ref zz), (.ref a11)]) (rest := []) (lenOf own_pd__28Ljava_2flang_2fObject_3bLjava_2flang_2fString_3b_29Ljava_2flang_2fObject_3b rfl) rfl (W := 0) (by show 2 * 0 + _ ≤ _; exact Nat.le_of_eq rfl) (hb hby own_d4_29) rfl (by decide) (by decide) ?_
  rintro rv13 T13 L13 X13 ⟨rfl, Nq13, eh13⟩
  have N13 := Fr.app N10 Nq13
  refine own_g (own_frL m x0 sa sb fc zz sv dd 35 [(.ref zz)]) (fun _ q => XS.pop X13.here hx rfl (hb hby own_d4_32) rfl rfl (XS.aload X13.here hx rfl (hb hby own_d4_33) rfl rfl q)) ?_
  obtain ⟨a14, T14, h14, j14, X14, e14, E14, hS, hk14, hZ, hown, RS14, st14⟩ := own_ldcJ X13 hx hZ hown (own_h hw 48 rfl) wS eh13 hS hk11 RS11 (g := (own_frL m x0 sa sb fc zz sv dd 35 [(.ref zz)])) rfl (hb hby own_d4_35) (n := 52) (by decide) (by decide) (by decide) (by decide)
  refine own_by (g' := (own_frL m x0 sa sb fc zz sv dd 37 [(.ref a14), (.ref zz)])) st14 ?_
  have k15_ := (k12_.ext E14)
  refine own_callS X14 hx hZ (y := own_y17) hown (own_h hw 41 rfl) (own_h hw 42 rfl) (own_h hw 43 rfl) (own_h hw 44 rfl) (by decide) (own_rnn l Z a0 hw [] zz a14 h14 n0 (Nat.le_trans Z0 k15_.1) ) (by decide) (by decide) e14 (g := (own_frL m x0 sa sb fc zz sv dd 37 [(.ref a14), (.ref zz)])) rfl (by rw [hml]; rfl) (argsL := [(.ref zz), (.ref a14)]) (rest := []) (lenOf own_pd__28Ljava_2flang_2fObject_3bLjava_2flang_2fString_3b_29Ljava_2flang_2fObject_3b rfl) rfl (W := 0) (by show 2 * 0 + _ ≤ _; exact Nat.le_of_eq rfl) (hb hby own_d4_37) rfl (by decide) (by decide) ?_
  rintro rv16 T16 L16 X16 ⟨rfl, Nq16, eh16⟩
  have N16 := Fr.app N13 Nq16
  refine own_g (own_frL m x0 sa sb fc zz sv dd 43 [(.ref zz)]) (fun _ q => XS.pop X16.here hx rfl (hb hby own_d4_40) rfl rfl (XS.aload X16.here hx rfl (hb hby own_d4_41) rfl rfl q)) ?_
  obtain ⟨a17, T17, h17, j17, X17, e17, E17, hS, hk17, hZ, hown, RS17, st17⟩ := own_ldcJ X16 hx hZ hown (own_h hw 49 rfl) wS eh16 hS hk14 RS14 (g := (own_frL m x0 sa sb fc zz sv dd 43 [(.ref zz)])) rfl (hb hby own_d4_43) (n := 84) (by decide) (by decide) (by decide) (by decide)
  refine own_by (g' := (own_frL m x0 sa sb fc zz sv dd 45 [(.ref a17), (.ref zz)])) st17 ?_
  have k18_ := (k15_.ext E17)
  refine own_callS X17 hx hZ (y := own_y17) hown (own_h hw 41 rfl) (own_h hw 42 rfl) (own_h hw 43 rfl) (own_h hw 44 rfl) (by decide) (own_rnn l Z a0 hw [] zz a17 h17 n0 (Nat.le_trans Z0 k18_.1) ) (by decide) (by decide) e17 (g := (own_frL m x0 sa sb fc zz sv dd 45 [(.ref a17), (.ref zz)])) rfl (by rw [hml]; rfl) (argsL := [(.ref zz), (.ref a17)]) (rest := []) (lenOf own_pd__28Ljava_2flang_2fObject_3bLjava_2flang_2fString_3b_29Ljava_2flang_2fObject_3b rfl) rfl (W := 0) (by show 2 * 0 + _ ≤ _; exact Nat.le_of_eq rfl) (hb hby own_d4_45) rfl (by decide) (by decide) ?_
  rintro rv19 T19 L19 X19 ⟨rfl, Nq19, eh19⟩
  have N19 := Fr.app N16 Nq19
  refine own_g (own_frL m x0 sa sb fc zz sv dd 51 [(.ref zz)]) (fun _ q => XS.pop X19.here hx rfl (hb hby own_d4_48) rfl rfl (XS.aload X19.here hx rfl (hb hby own_d4_49) rfl rfl q)) ?_
  obtain ⟨a20, T20, h20, j20, X20, e20, E20, hS, hk20, hZ, hown, RS20, st20⟩ := own_ldcJ X19 hx hZ hown (own_h hw 50 rfl) wS eh19 hS hk17 RS17 (g := (own_frL m x0 sa sb fc zz sv dd 51 [(.ref zz)])) rfl (hb hby own_d4_51) (n := 52) (by decide) (by decide) (by decide) (by decide)
  refine own_by (g' := (own_frL m x0 sa sb fc zz sv dd 53 [(.ref a20), (.ref zz)])) st20 ?_
  have k21_ := (k18_.ext E20)
  refine own_callS X20 hx hZ (y := own_y17) hown (own_h hw 41 rfl) (own_h hw 42 rfl) (own_h hw 43 rfl) (own_h hw 44 rfl) (by decide) (own_rnn l Z a0 hw [] zz a20 h20 n0 (Nat.le_trans Z0 k21_.1) ) (by decide) (by decide) e20 (g := (own_frL m x0 sa sb fc zz sv dd 53 [(.ref a20), (.ref zz)])) rfl (by rw [hml]; rfl) (argsL := [(.ref zz), (.ref a20)]) (rest := []) (lenOf own_pd__28Ljava_2flang_2fObject_3bLjava_2flang_2fString_3b_29Ljava_2flang_2fObject_3b rfl) rfl (W := 0) (by show 2 * 0 + _ ≤ _; exact Nat.le_of_eq rfl) (hb hby own_d4_53) rfl (by decide) (by decide) ?_
  rintro rv22 T22 L22 X22 ⟨rfl, Nq22, eh22⟩
  have N22 := Fr.app N19 Nq22
  refine own_g (own_frL m x0 sa sb fc zz sv dd 59 [(.ref zz)]) (fun _ q => XS.pop X22.here hx rfl (hb hby own_d4_56) rfl rfl (XS.aload X22.here hx rfl (hb hby own_d4_57) rfl rfl q)) ?_
  obtain ⟨a23, T23, h23, j23, X23, e23, E23, hS, hk23, hZ, hown, RS23, st23⟩ := own_ldcJ X22 hx hZ hown (own_h hw 51 rfl) wS eh22 hS hk20 RS20 (g := (own_frL m x0 sa sb fc zz sv dd 59 [(.ref zz)])) rfl (hb hby own_d4_59) (n := 72) (by decide) (by decide) (by decide) (by decide)
  refine own_by (g' := (own_frL m x0 sa sb fc zz sv dd 61 [(.ref a23), (.ref zz)])) st23 ?_
  have k24_ := (k21_.ext E23)
  refine own_callS X23 hx hZ (y := own_y17) hown (own_h hw 41 rfl) (own_h hw 42 rfl) (own_h hw 43 rfl) (own_h hw 44 rfl) (by decide) (own_rnn l Z a0 hw [] zz a23 h23 n0 (Nat.le_trans Z0 k24_.1) ) (by decide) (by decide) e23 (g := (own_frL m x0 sa sb fc zz sv dd 61 [(.ref a23), (.ref zz)])) rfl (by rw [hml]; rfl) (argsL := [(.ref zz), (.ref a23)]) (rest := []) (lenOf own_pd__28Ljava_2flang_2fObject_3bLjava_2flang_2fString_3b_29Ljava_2flang_2fObject_3b rfl) rfl (W := 0) (by show 2 * 0 + _ ≤ _; exact Nat.le_of_eq rfl) (hb hby own_d4_61) rfl (by decide) (by decide) ?_
  rintro rv25 T25 L25 X25 ⟨rfl, Nq25, eh25⟩
  have N25 := Fr.app N22 Nq25
  refine own_g (own_frL m x0 sa sb fc zz sv dd 66 [(.ref fc)]) (fun _ q => XS.pop X25.here hx rfl (hb hby own_d4_64) rfl rfl (XS.aloadN X25.here hx rfl (hb hby own_d4_65) rfl rfl q)) ?_
  have f26_fc := ((((((((R_f.ext E2).ext E5).ext E8).ext E11).ext E14).ext E17).ext E20).ext E23)
  have e27_fc := ((((((((E_f.ext E2).ext E5).ext E8).ext E11).ext E14).ext E17).ext E20).ext E23)
  refine own_callV X25 hx hZ (y := own_y6) (z := own_y6) hown (own_h hw 52 rfl) (own_h hw 53 rfl) (own_nf (own_h hw 55 rfl)) (own_h hw 55 rfl) (own_h hw 54 rfl) (own_h hw 56 rfl) (own_h hw 8 rfl) (by decide) e27_fc (own_run l Z a0 hw [] fc _ h23 n0 (Nat.le_trans Z0 k24_.1) f26_fc) (by decide) (by decide) eh25 (g := (own_frL m x0 sa sb fc zz sv dd 66 [(.ref fc)])) rfl (by rw [hml]; rfl) (argsL := []) (rest := []) (lenOf own_pd__28_29Z rfl) rfl (W := 0) (by show 2 * 0 + _ ≤ _; exact Nat.le_of_eq rfl) (hb hby own_d4_66) rfl (by decide) (by decide) ?_
  rintro rv28 T28 L28 X28 ⟨rfl, Nq28, eh28⟩
  have N28 := Fr.app N25 Nq28
  refine own_g (own_frL m x0 sa sb fc zz sv dd 122 [(.ref sa), (.ref x0)]) (fun _ q => XS.ifYes X28.here hx rfl (pc0 := 69) (pc' := 120) rfl (hb hby own_d4_69) rfl ((if0 _ _).trans (teq (by decide : (0 : Int32) = (0 : Int32))).1) (by decide) (by decide) (XS.aloadN X28.here hx rfl (hb hby own_d4_120) rfl rfl (XS.aloadN X28.here hx rfl (hb hby own_d4_121) rfl rfl q))) ?_
  have e29_x0 := ((((((((E_x.ext E2).ext E5).ext E8).ext E11).ext E14).ext E17).ext E20).ext E23)
  have x31_x0 := (Unt.ext E23 (Unt.ext E20 (Unt.ext E17 (Unt.ext E14 (Unt.ext E11 (Unt.ext E8 (Unt.ext E5 (Unt.ext E2 U_x))))))))
  obtain ⟨vo30, Fo30⟩ := own_someF e29_x0 x31_x0 (Or.inr (own_h hw 60 rfl)) (own_h hw 18 rfl)
  obtain ⟨T32, h32, X32, e32, W32, st32⟩ := putF X28 hx hZ hown (host := "") (Or.inl (own_h hw 59 rfl)) Via.refl eh28 Fo30 e29_x0 (Or.inr ⟨(own_h hw 60 rfl), rfl, hnm⟩) (own_h hw 18 rfl) (ty := (.object "java/lang/String")) (by decide) (rfl) (rfl) (g := (own_frL m x0 sa sb fc zz sv dd 122 [(.ref sa), (.ref x0)])) rfl rfl (hb hby own_d4_122)
  have N32 := Fr.snoc X32 N28 g_x
  refine own_by (g' := (own_frL m x0 sa sb fc zz sv dd 125 [])) st32 ?_
  refine own_g (own_frL m x0 sa sb fc zz sv dd 127 [(.ref sb), (.ref x0)]) (fun _ q => XS.aloadN X32.here hx rfl (hb hby own_d4_125) rfl rfl (XS.aloadN X32.here hx rfl (hb hby own_d4_126) rfl rfl q)) ?_
  have e33_x0 := (e29_x0.wr W32)
  have x35_x0 := (Unt.wr W32 x31_x0)
  obtain ⟨vo34, Fo34⟩ := own_someF e33_x0 x35_x0 (Or.inr (own_h hw 62 rfl)) (own_h hw 18 rfl)
  obtain ⟨T36, h36, X36, e36, W36, st36⟩ := putF X32 hx hZ hown (host := "") (Or.inl (own_h hw 61 rfl)) Via.refl e32 Fo34 e33_x0 (Or.inr ⟨(own_h hw 62 rfl), rfl, hnm⟩) (own_h hw 18 rfl) (ty := (.object "java/lang/String")) (by decide) (rfl) (rfl) (g := (own_frL m x0 sa sb fc zz sv dd 127 [(.ref sb), (.ref x0)])) rfl rfl (hb hby own_d4_127)
  have N36 := Fr.snoc X36 N32 g_x
  refine own_by (g' := (own_frL m x0 sa sb fc zz sv dd 130 [])) st36 ?_
  refine own_g (own_frL m x0 sa sb fc zz sv dd 132 [(.ref fc), (.ref x0)]) (fun _ q => XS.aloadN X36.here hx rfl (hb hby own_d4_130) rfl rfl (XS.aloadN X36.here hx rfl (hb hby own_d4_131) rfl rfl q)) ?_
  have e37_x0 := (e33_x0.wr W36)
  have x39_x0 := (Unt.wr W36 x35_x0)
  obtain ⟨vo38, Fo38⟩ := own_someF e37_x0 x39_x0 (Or.inr (own_h hw 64 rfl)) (own_h hw 18 rfl)
  obtain ⟨T40, h40, X40, e40, W40, st40⟩ := putF X36 hx hZ hown (host := "") (Or.inl (own_h hw 63 rfl)) Via.refl e36 Fo38 e37_x0 (Or.inr ⟨(own_h hw 64 rfl), rfl, hnm⟩) (own_h hw 18 rfl) (ty := (.object "com/example/bahikhata/bahikhata/model/Facility")) (by decide) (rfl) (rfl) (g := (own_frL m x0 sa sb fc zz sv dd 132 [(.ref fc), (.ref x0)])) rfl rfl (hb hby own_d4_132)
  have Fw40 := Fo38.same W40
  have N40 := Fr.snoc X40 N36 g_x
  refine own_by (g' := (own_frL m x0 sa sb fc zz sv dd 135 [])) st40 ?_
  refine own_g (own_frL m x0 sa sb fc zz sv dd 138 [(.ref zz), (.ref x0)]) (fun _ q => XS.aloadN X40.here hx rfl (hb hby own_d4_135) rfl rfl (XS.aload X40.here hx rfl (hb hby own_d4_136) rfl rfl q)) ?_
  have e41_x0 := (e37_x0.wr W40)
  have x43_x0 := (Unt.wr W40 x39_x0)
  obtain ⟨vo42, Fo42⟩ := own_someF e41_x0 x43_x0 (Or.inr (own_h hw 66 rfl)) (own_h hw 18 rfl)
  obtain ⟨T44, h44, X44, e44, W44, st44⟩ := putF X40 hx hZ hown (host := "") (Or.inl (own_h hw 65 rfl)) Via.refl e40 Fo42 e41_x0 (Or.inr ⟨(own_h hw 66 rfl), rfl, hnm⟩) (own_h hw 18 rfl) (ty := (.object "java/math/BigDecimal")) (by decide) (rfl) (rfl) (g := (own_frL m x0 sa sb fc zz sv dd 138 [(.ref zz), (.ref x0)])) rfl rfl (hb hby own_d4_138)
  have N44 := Fr.snoc X44 N40 g_x
  refine own_by (g' := (own_frL m x0 sa sb fc zz sv dd 141 [])) st44 ?_
  refine own_g (own_frL m x0 sa sb fc zz sv dd 144 [sv, (.ref x0)]) (fun _ q => XS.aloadN X44.here hx rfl (hb hby own_d4_141) rfl rfl (XS.aload X44.here hx rfl (hb hby own_d4_142) rfl hsv q)) ?_
  have e45_x0 := (e41_x0.wr W44)
  have x47_x0 := (Unt.wr W44 x43_x0)
  obtain ⟨vo46, Fo46⟩ := own_someF e45_x0 x47_x0 (Or.inr (own_h hw 68 rfl)) (own_h hw 18 rfl)
  obtain ⟨T48, h48, X48, e48, W48, st48⟩ := putF X44 hx hZ hown (host := "") (Or.inl (own_h hw 67 rfl)) Via.refl e44 Fo46 e45_x0 (Or.inr ⟨(own_h hw 68 rfl), rfl, hnm⟩) (own_h hw 18 rfl) (ty := (.object "java/time/LocalDate")) (by decide) (own_narR rfl) (own_fitsR rfl hsv) (g := (own_frL m x0 sa sb fc zz sv dd 144 [sv, (.ref x0)])) rfl rfl (hb hby own_d4_144)
  have Fw48 := Fo46.same W48
  have N48 := Fr.snoc X48 N44 g_x
  refine own_by (g' := (own_frL m x0 sa sb fc zz sv dd 147 [])) st48 ?_
  refine own_g (own_frL m x0 sa sb fc zz sv dd 150 [.null, (.ref x0)]) (fun _ q => XS.aloadN X48.here hx rfl (hb hby own_d4_147) rfl rfl (XS.aload X48.here hx rfl (hb hby own_d4_148) rfl rfl q)) ?_
  have e49_x0 := (e45_x0.wr W48)
  have x51_x0 := (Unt.wr W48 x47_x0)
  obtain ⟨vo50, Fo50⟩ := own_someF e49_x0 x51_x0 (Or.inr (own_h hw 70 rfl)) (own_h hw 18 rfl)
  obtain ⟨T52, h52, X52, e52, W52, st52⟩ := putF X48 hx hZ hown (host := "") (Or.inl (own_h hw 69 rfl)) Via.refl e48 Fo50 e49_x0 (Or.inr ⟨(own_h hw 70 rfl), rfl, hnm⟩) (own_h hw 18 rfl) (ty := (.object "java/lang/String")) (by decide) (rfl) (rfl) (g := (own_frL m x0 sa sb fc zz sv dd 150 [.null, (.ref x0)])) rfl rfl (hb hby own_d4_150)
  have N52 := Fr.snoc X52 N48 g_x
  refine own_by (g' := (own_frL m x0 sa sb fc zz sv dd 153 [])) st52 ?_
  refine own_g (own_frL m x0 sa sb fc zz sv dd 156 [.null, (.ref x0)]) (fun _ q => XS.aloadN X52.here hx rfl (hb hby own_d4_153) rfl rfl (XS.aload X52.here hx rfl (hb hby own_d4_154) rfl rfl q)) ?_
  have e53_x0 := (e49_x0.wr W52)
  have x55_x0 := (Unt.wr W52 x51_x0)
  obtain ⟨vo54, Fo54⟩ := own_someF e53_x0 x55_x0 (Or.inr (own_h hw 72 rfl)) (own_h hw 18 rfl)
  obtain ⟨T56, h56, X56, e56, W56, st56⟩ := putF X52 hx hZ hown (host := "") (Or.inl (own_h hw 71 rfl)) Via.refl e52 Fo54 e53_x0 (Or.inr ⟨(own_h hw 72 rfl), rfl, hnm⟩) (own_h hw 18 rfl) (ty := (.object "java/time/LocalDate")) (by decide) (rfl) (rfl) (g := (own_frL m x0 sa sb fc zz sv dd 156 [.null, (.ref x0)])) rfl rfl (hb hby own_d4_156)
  have N56 := Fr.snoc X56 N52 g_x
  refine own_by (g' := (own_frL m x0 sa sb fc zz sv dd 159 [])) st56 ?_
  refine own_g (own_frL m x0 sa sb fc zz sv dd 162 [(.ref zz), (.ref x0)]) (fun _ q => XS.aloadN X56.here hx rfl (hb hby own_d4_159) rfl rfl (XS.aload X56.here hx rfl (hb hby own_d4_160) rfl rfl q)) ?_
  have e57_x0 := (e53_x0.wr W56)
  have x59_x0 := (Unt.wr W56 x55_x0)
  obtain ⟨vo58, Fo58⟩ := own_someF e57_x0 x59_x0 (Or.inr (own_h hw 74 rfl)) (own_h hw 18 rfl)
  obtain ⟨T60, h60, X60, e60, W60, st60⟩ := putF X56 hx hZ hown (host := "") (Or.inl (own_h hw 73 rfl)) Via.refl e56 Fo58 e57_x0 (Or.inr ⟨(own_h hw 74 rfl), rfl, hnm⟩) (own_h hw 18 rfl) (ty := (.object "java/math/BigDecimal")) (by decide) (rfl) (rfl) (g := (own_frL m x0 sa sb fc zz sv dd 162 [(.ref zz), (.ref x0)])) rfl rfl (hb hby own_d4_162)
  have N60 := Fr.snoc X60 N56 g_x
  refine own_by (g' := (own_frL m x0 sa sb fc zz sv dd 165 [])) st60 ?_
  refine own_g (own_frL m x0 sa sb fc zz sv dd 168 [(.ref zz), (.ref x0)]) (fun _ q => XS.aloadN X60.here hx rfl (hb hby own_d4_165) rfl rfl (XS.aload X60.here hx rfl (hb hby own_d4_166) rfl rfl q)) ?_
  have e61_x0 := (e57_x0.wr W60)
  have x63_x0 := (Unt.wr W60 x59_x0)
  obtain ⟨vo62, Fo62⟩ := own_someF e61_x0 x63_x0 (Or.inr (own_h hw 76 rfl)) (own_h hw 18 rfl)
  obtain ⟨T64, h64, X64, e64, W64, st64⟩ := putF X60 hx hZ hown (host := "") (Or.inl (own_h hw 75 rfl)) Via.refl e60 Fo62 e61_x0 (Or.inr ⟨(own_h hw 76 rfl), rfl, hnm⟩) (own_h hw 18 rfl) (ty := (.object "java/math/BigDecimal")) (by decide) (rfl) (rfl) (g := (own_frL m x0 sa sb fc zz sv dd 168 [(.ref zz), (.ref x0)])) rfl rfl (hb hby own_d4_168)
  have N64 := Fr.snoc X64 N60 g_x
  refine own_by (g' := (own_frL m x0 sa sb fc zz sv dd 171 [])) st64 ?_
  refine own_g (own_frL m x0 sa sb fc zz sv dd 174 [(.int 0), (.ref x0)]) (fun _ q => XS.aloadN X64.here hx rfl (hb hby own_d4_171) rfl rfl (XS.iload X64.here hx rfl (hb hby own_d4_172) rfl q)) ?_
  have e65_x0 := (e61_x0.wr W64)
  have x67_x0 := (Unt.wr W64 x63_x0)
  obtain ⟨vo66, Fo66⟩ := own_someF e65_x0 x67_x0 (Or.inr (own_h hw 78 rfl)) (own_h hw 18 rfl)
  obtain ⟨T68, h68, X68, e68, W68, st68⟩ := putFN X64 hx hZ hown (own_h hw 77 rfl) Via.refl e64 Fo66 e65_x0 (Or.inr ⟨(own_h hw 78 rfl), rfl, hnm⟩) (own_h hw 18 rfl) (ty := .boolean) (v' := (.int 0)) (by decide) rfl (by decide) (g := (own_frL m x0 sa sb fc zz sv dd 174 [(.int 0), (.ref x0)])) rfl rfl (hb hby own_d4_174)
  have N68 := Fr.snoc X68 N64 g_x
  refine own_by (g' := (own_frL m x0 sa sb fc zz sv dd 177 [])) st68 ?_
  refine own_g (own_frL m x0 sa sb fc zz sv dd 180 [(.int 0), (.ref x0)]) (fun _ q => XS.aloadN X68.here hx rfl (hb hby own_d4_177) rfl rfl (XS.iload X68.here hx rfl (hb hby own_d4_178) rfl q)) ?_
  have e69_x0 := (e65_x0.wr W68)
  have x71_x0 := (Unt.wr W68 x67_x0)
  obtain ⟨vo70, Fo70⟩ := own_someF e69_x0 x71_x0 (Or.inr (own_h hw 80 rfl)) (own_h hw 18 rfl)
  obtain ⟨T72, h72, X72, e72, W72, st72⟩ := putFN X68 hx hZ hown (own_h hw 79 rfl) Via.refl e68 Fo70 e69_x0 (Or.inr ⟨(own_h hw 80 rfl), rfl, hnm⟩) (own_h hw 18 rfl) (ty := .boolean) (v' := (.int 0)) (by decide) rfl (by decide) (g := (own_frL m x0 sa sb fc zz sv dd 180 [(.int 0), (.ref x0)])) rfl rfl (hb hby own_d4_180)
  have N72 := Fr.snoc X72 N68 g_x
  refine own_by (g' := (own_frL m x0 sa sb fc zz sv dd 183 [])) st72 ?_
  refine own_g (own_frL m x0 sa sb fc zz sv dd 186 [(.int 0), (.ref x0)]) (fun _ q => XS.aloadN X72.here hx rfl (hb hby own_d4_183) rfl rfl (XS.iload X72.here hx rfl (hb hby own_d4_184) rfl q)) ?_
  have e73_x0 := (e69_x0.wr W72)
  have x75_x0 := (Unt.wr W72 x71_x0)
  obtain ⟨vo74, Fo74⟩ := own_someF e73_x0 x75_x0 (Or.inr (own_h hw 82 rfl)) (own_h hw 18 rfl)
  obtain ⟨T76, h76, X76, e76, W76, st76⟩ := putFN X72 hx hZ hown (own_h hw 81 rfl) Via.refl e72 Fo74 e73_x0 (Or.inr ⟨(own_h hw 82 rfl), rfl, hnm⟩) (own_h hw 18 rfl) (ty := .boolean) (v' := (.int 0)) (by decide) rfl (by decide) (g := (own_frL m x0 sa sb fc zz sv dd 186 [(.int 0), (.ref x0)])) rfl rfl (hb hby own_d4_186)
  have N76 := Fr.snoc X76 N72 g_x
  refine own_by (g' := (own_frL m x0 sa sb fc zz sv dd 189 [])) st76 ?_
  refine own_g (own_frL m x0 sa sb fc zz sv dd 192 [(.ref zz), (.ref x0)]) (fun _ q => XS.aloadN X76.here hx rfl (hb hby own_d4_189) rfl rfl (XS.aload X76.here hx rfl (hb hby own_d4_190) rfl rfl q)) ?_
  have e77_x0 := (e73_x0.wr W76)
  have x79_x0 := (Unt.wr W76 x75_x0)
  obtain ⟨vo78, Fo78⟩ := own_someF e77_x0 x79_x0 (Or.inr (own_h hw 84 rfl)) (own_h hw 18 rfl)
  obtain ⟨T80, h80, X80, e80, W80, st80⟩ := putF X76 hx hZ hown (host := "") (Or.inl (own_h hw 83 rfl)) Via.refl e76 Fo78 e77_x0 (Or.inr ⟨(own_h hw 84 rfl), rfl, hnm⟩) (own_h hw 18 rfl) (ty := (.object "java/math/BigDecimal")) (by decide) (rfl) (rfl) (g := (own_frL m x0 sa sb fc zz sv dd 192 [(.ref zz), (.ref x0)])) rfl rfl (hb hby own_d4_192)
  have N80 := Fr.snoc X80 N76 g_x
  refine own_by (g' := (own_frL m x0 sa sb fc zz sv dd 195 [])) st80 ?_
  refine own_g (own_frL m x0 sa sb fc zz sv dd 198 [(.ref zz), (.ref x0)]) (fun _ q => XS.aloadN X80.here hx rfl (hb hby own_d4_195) rfl rfl (XS.aload X80.here hx rfl (hb hby own_d4_196) rfl rfl q)) ?_
  have e81_x0 := (e77_x0.wr W80)
  have x83_x0 := (Unt.wr W80 x79_x0)
  obtain ⟨vo82, Fo82⟩ := own_someF e81_x0 x83_x0 (Or.inr (own_h hw 86 rfl)) (own_h hw 18 rfl)
  obtain ⟨T84, h84, X84, e84, W84, st84⟩ := putF X80 hx hZ hown (host := "") (Or.inl (own_h hw 85 rfl)) Via.refl e80 Fo82 e81_x0 (Or.inr ⟨(own_h hw 86 rfl), rfl, hnm⟩) (own_h hw 18 rfl) (ty := (.object "java/math/BigDecimal")) (by decide) (rfl) (rfl) (g := (own_frL m x0 sa sb fc zz sv dd 198 [(.ref zz), (.ref x0)])) rfl rfl (hb hby own_d4_198)
  have N84 := Fr.snoc X84 N80 g_x
  refine own_by (g' := (own_frL m x0 sa sb fc zz sv dd 201 [])) st84 ?_
  refine own_g (own_frL m x0 sa sb fc zz sv dd 204 [(.ref zz), (.ref x0)]) (fun _ q => XS.aloadN X84.here hx rfl (hb hby own_d4_201) rfl rfl (XS.aload X84.here hx rfl (hb hby own_d4_202) rfl rfl q)) ?_
  have e85_x0 := (e81_x0.wr W84)
  have x87_x0 := (Unt.wr W84 x83_x0)
  obtain ⟨vo86, Fo86⟩ := own_someF e85_x0 x87_x0 (Or.inr (own_h hw 88 rfl)) (own_h hw 18 rfl)
  obtain ⟨T88, h88, X88, e88, W88, st88⟩ := putF X84 hx hZ hown (host := "") (Or.inl (own_h hw 87 rfl)) Via.refl e84 Fo86 e85_x0 (Or.inr ⟨(own_h hw 88 rfl), rfl, hnm⟩) (own_h hw 18 rfl) (ty := (.object "java/math/BigDecimal")) (by decide) (rfl) (rfl) (g := (own_frL m x0 sa sb fc zz sv dd 204 [(.ref zz), (.ref x0)])) rfl rfl (hb hby own_d4_204)
  have N88 := Fr.snoc X88 N84 g_x
  refine own_by (g' := (own_frL m x0 sa sb fc zz sv dd 207 [])) st88 ?_
  refine own_g (own_frL m x0 sa sb fc zz sv dd 210 [(.ref zz), (.ref x0)]) (fun _ q => XS.aloadN X88.here hx rfl (hb hby own_d4_207) rfl rfl (XS.aload X88.here hx rfl (hb hby own_d4_208) rfl rfl q)) ?_
  have e89_x0 := (e85_x0.wr W88)
  have x91_x0 := (Unt.wr W88 x87_x0)
  obtain ⟨vo90, Fo90⟩ := own_someF e89_x0 x91_x0 (Or.inr (own_h hw 90 rfl)) (own_h hw 18 rfl)
  obtain ⟨T92, h92, X92, e92, W92, st92⟩ := putF X88 hx hZ hown (host := "") (Or.inl (own_h hw 89 rfl)) Via.refl e88 Fo90 e89_x0 (Or.inr ⟨(own_h hw 90 rfl), rfl, hnm⟩) (own_h hw 18 rfl) (ty := (.object "java/math/BigDecimal")) (by decide) (rfl) (rfl) (g := (own_frL m x0 sa sb fc zz sv dd 210 [(.ref zz), (.ref x0)])) rfl rfl (hb hby own_d4_210)
  have N92 := Fr.snoc X92 N88 g_x
  refine own_by (g' := (own_frL m x0 sa sb fc zz sv dd 213 [])) st92 ?_
  refine own_g (own_frL m x0 sa sb fc zz sv dd 216 [.null, (.ref x0)]) (fun _ q => XS.aloadN X92.here hx rfl (hb hby own_d4_213) rfl rfl (XS.aload X92.here hx rfl (hb hby own_d4_214) rfl rfl q)) ?_
  have e93_x0 := (e89_x0.wr W92)
  have x95_x0 := (Unt.wr W92 x91_x0)
  obtain ⟨vo94, Fo94⟩ := own_someF e93_x0 x95_x0 (Or.inr (own_h hw 92 rfl)) (own_h hw 18 rfl)
  obtain ⟨T96, h96, X96, e96, W96, st96⟩ := putF X92 hx hZ hown (host := "") (Or.inl (own_h hw 91 rfl)) Via.refl e92 Fo94 e93_x0 (Or.inr ⟨(own_h hw 92 rfl), rfl, hnm⟩) (own_h hw 18 rfl) (ty := (.object "java/time/LocalDate")) (by decide) (rfl) (rfl) (g := (own_frL m x0 sa sb fc zz sv dd 216 [.null, (.ref x0)])) rfl rfl (hb hby own_d4_216)
  have N96 := Fr.snoc X96 N92 g_x
  refine own_by (g' := (own_frL m x0 sa sb fc zz sv dd 219 [])) st96 ?_
  refine own_g (own_frL m x0 sa sb fc zz sv dd 222 [(.ref dd), (.ref x0)]) (fun _ q => XS.aloadN X96.here hx rfl (hb hby own_d4_219) rfl rfl (XS.aload X96.here hx rfl (hb hby own_d4_220) rfl rfl q)) ?_
  have e97_x0 := (e93_x0.wr W96)
  have x99_x0 := (Unt.wr W96 x95_x0)
  obtain ⟨vo98, Fo98⟩ := own_someF e97_x0 x99_x0 (Or.inr (own_h hw 94 rfl)) (own_h hw 18 rfl)
  obtain ⟨T100, h100, X100, e100, W100, st100⟩ := putF X96 hx hZ hown (host := "") (Or.inl (own_h hw 93 rfl)) Via.refl e96 Fo98 e97_x0 (Or.inr ⟨(own_h hw 94 rfl), rfl, hnm⟩) (own_h hw 18 rfl) (ty := (.object "java/time/LocalDate")) (by decide) (rfl) (rfl) (g := (own_frL m x0 sa sb fc zz sv dd 222 [(.ref dd), (.ref x0)])) rfl rfl (hb hby own_d4_222)
  have N100 := Fr.snoc X100 N96 g_x
  refine own_by (g' := (own_frL m x0 sa sb fc zz sv dd 225 [])) st100 ?_
  refine own_g (own_frL m x0 sa sb fc zz sv dd 228 [(.ref zz), (.ref x0)]) (fun _ q => XS.aloadN X100.here hx rfl (hb hby own_d4_225) rfl rfl (XS.aload X100.here hx rfl (hb hby own_d4_226) rfl rfl q)) ?_
  have e101_x0 := (e97_x0.wr W100)
  have x103_x0 := (Unt.wr W100 x99_x0)
  obtain ⟨vo102, Fo102⟩ := own_someF e101_x0 x103_x0 (Or.inr (own_h hw 96 rfl)) (own_h hw 18 rfl)
  obtain ⟨T104, h104, X104, e104, W104, st104⟩ := putF X100 hx hZ hown (host := "") (Or.inl (own_h hw 95 rfl)) Via.refl e100 Fo102 e101_x0 (Or.inr ⟨(own_h hw 96 rfl), rfl, hnm⟩) (own_h hw 18 rfl) (ty := (.object "java/math/BigDecimal")) (by decide) (rfl) (rfl) (g := (own_frL m x0 sa sb fc zz sv dd 228 [(.ref zz), (.ref x0)])) rfl rfl (hb hby own_d4_228)
  have N104 := Fr.snoc X104 N100 g_x
  refine own_by (g' := (own_frL m x0 sa sb fc zz sv dd 231 [])) st104 ?_
  refine own_g (own_frL m x0 sa sb fc zz sv dd 234 [(.ref zz), (.ref x0)]) (fun _ q => XS.aloadN X104.here hx rfl (hb hby own_d4_231) rfl rfl (XS.aload X104.here hx rfl (hb hby own_d4_232) rfl rfl q)) ?_
  have e105_x0 := (e101_x0.wr W104)
  have x107_x0 := (Unt.wr W104 x103_x0)
  obtain ⟨vo106, Fo106⟩ := own_someF e105_x0 x107_x0 (Or.inr (own_h hw 98 rfl)) (own_h hw 18 rfl)
  obtain ⟨T108, h108, X108, e108, W108, st108⟩ := putF X104 hx hZ hown (host := "") (Or.inl (own_h hw 97 rfl)) Via.refl e104 Fo106 e105_x0 (Or.inr ⟨(own_h hw 98 rfl), rfl, hnm⟩) (own_h hw 18 rfl) (ty := (.object "java/math/BigDecimal")) (by decide) (rfl) (rfl) (g := (own_frL m x0 sa sb fc zz sv dd 234 [(.ref zz), (.ref x0)])) rfl rfl (hb hby own_d4_234)
  have N108 := Fr.snoc X108 N104 g_x
  refine own_by (g' := (own_frL m x0 sa sb fc zz sv dd 237 [])) st108 ?_
  refine own_g (own_frL m x0 sa sb fc zz sv dd 240 [(.ref dd), (.ref x0)]) (fun _ q => XS.aloadN X108.here hx rfl (hb hby own_d4_237) rfl rfl (XS.aload X108.here hx rfl (hb hby own_d4_238) rfl rfl q)) ?_
  have e109_x0 := (e105_x0.wr W108)
  have x111_x0 := (Unt.wr W108 x107_x0)
  obtain ⟨vo110, Fo110⟩ := own_someF e109_x0 x111_x0 (Or.inr (own_h hw 100 rfl)) (own_h hw 18 rfl)
  obtain ⟨T112, h112, X112, e112, W112, st112⟩ := putF X108 hx hZ hown (host := "") (Or.inl (own_h hw 99 rfl)) Via.refl e108 Fo110 e109_x0 (Or.inr ⟨(own_h hw 100 rfl), rfl, hnm⟩) (own_h hw 18 rfl) (ty := (.object "java/time/LocalDate")) (by decide) (rfl) (rfl) (g := (own_frL m x0 sa sb fc zz sv dd 240 [(.ref dd), (.ref x0)])) rfl rfl (hb hby own_d4_240)
  have N112 := Fr.snoc X112 N108 g_x
  refine own_by (g' := (own_frL m x0 sa sb fc zz sv dd 243 [])) st112 ?_
  have k113_ := (((((((((((((((((((((k24_.wr W32 (Or.inl (List.mem_of_getElem? (i := 0) rfl))).wr W36 (Or.inl (List.mem_of_getElem? (i := 0) rfl))).wr W40 (Or.inl (List.mem_of_getElem? (i := 0) rfl))).wr W44 (Or.inl (List.mem_of_getElem? (i := 0) rfl))).wr W48 (Or.inl (List.mem_of_getElem? (i := 0) rfl))).wr W52 (Or.inl (List.mem_of_getElem? (i := 0) rfl))).wr W56 (Or.inl (List.mem_of_getElem? (i := 0) rfl))).wr W60 (Or.inl (List.mem_of_getElem? (i := 0) rfl))).wr W64 (Or.inl (List.mem_of_getElem? (i := 0) rfl))).wr W68 (Or.inl (List.mem_of_getElem? (i := 0) rfl))).wr W72 (Or.inl (List.mem_of_getElem? (i := 0) rfl))).wr W76 (Or.inl (List.mem_of_getElem? (i := 0) rfl))).wr W80 (Or.inl (List.mem_of_getElem? (i := 0) rfl))).wr W84 (Or.inl (List.mem_of_getElem? (i := 0) rfl))).wr W88 (Or.inl (List.mem_of_getElem? (i := 0) rfl))).wr W92 (Or.inl (List.mem_of_getElem? (i := 0) rfl))).wr W96 (Or.inl (List.mem_of_getElem? (i := 0) rfl))).wr W100 (Or.inl (List.mem_of_getElem? (i := 0) rfl))).wr W104 (Or.inl (List.mem_of_getElem? (i := 0) rfl))).wr W108 (Or.inl (List.mem_of_getElem? (i := 0) rfl))).wr W112 (Or.inl (List.mem_of_getElem? (i := 0) rfl)))
  have e114_x0 := (e109_x0.wr W112)
  have f115_x0 := ((((((((((((((((Fw48.other W52 (Or.inr (slot_ne (Or.inr (own_h hw 68 rfl)) (Or.inr (own_h hw 70 rfl)) (by decide) (t := (.object "java/time/LocalDate")) (t' := (.object "java/lang/String")) (by decide) (by decide)))).other W56 (Or.inr (slot_ne (Or.inr (own_h hw 68 rfl)) (Or.inr (own_h hw 72 rfl)) (by decide) (t := (.object "java/time/LocalDate")) (t' := (.object "java/time/LocalDate")) (by decide) (by decide)))).other W60 (Or.inr (slot_ne (Or.inr (own_h hw 68 rfl)) (Or.inr (own_h hw 74 rfl)) (by decide) (t := (.object "java/time/LocalDate")) (t' := (.object "java/math/BigDecimal")) (by decide) (by decide)))).other W64 (Or.inr (slot_ne (Or.inr (own_h hw 68 rfl)) (Or.inr (own_h hw 76 rfl)) (by decide) (t := (.object "java/time/LocalDate")) (t' := (.object "java/math/BigDecimal")) (by decide) (by decide)))).other W68 (Or.inr (slot_ne (Or.inr (own_h hw 68 rfl)) (Or.inr (own_h hw 78 rfl)) (by decide) (t := (.object "java/time/LocalDate")) (t' := .boolean) (by decide) (by decide)))).other W72 (Or.inr (slot_ne (Or.inr (own_h hw 68 rfl)) (Or.inr (own_h hw 80 rfl)) (by decide) (t := (.object "java/time/LocalDate")) (t' := .boolean) (by decide) (by decide)))).other W76 (Or.inr (slot_ne (Or.inr (own_h hw 68 rfl)) (Or.inr (own_h hw 82 rfl)) (by decide) (t := (.object "java/time/LocalDate")) (t' := .boolean) (by decide) (by decide)))).other W80 (Or.inr (slot_ne (Or.inr (own_h hw 68 rfl)) (Or.inr (own_h hw 84 rfl)) (by decide) (t := (.object "java/time/LocalDate")) (t' := (.object "java/math/BigDecimal")) (by decide) (by decide)))).other W84 (Or.inr (slot_ne (Or.inr (own_h hw 68 rfl)) (Or.inr (own_h hw 86 rfl)) (by decide) (t := (.object "java/time/LocalDate")) (t' := (.object "java/math/BigDecimal")) (by decide) (by decide)))).other W88 (Or.inr (slot_ne (Or.inr (own_h hw 68 rfl)) (Or.inr (own_h hw 88 rfl)) (by decide) (t := (.object "java/time/LocalDate")) (t' := (.object "java/math/BigDecimal")) (by decide) (by decide)))).other W92 (Or.inr (slot_ne (Or.inr (own_h hw 68 rfl)) (Or.inr (own_h hw 90 rfl)) (by decide) (t := (.object "java/time/LocalDate")) (t' := (.object "java/math/BigDecimal")) (by decide) (by decide)))).other W96 (Or.inr (slot_ne (Or.inr (own_h hw 68 rfl)) (Or.inr (own_h hw 92 rfl)) (by decide) (t := (.object "java/time/LocalDate")) (t' := (.object "java/time/LocalDate")) (by decide) (by decide)))).other W100 (Or.inr (slot_ne (Or.inr (own_h hw 68 rfl)) (Or.inr (own_h hw 94 rfl)) (by decide) (t := (.object "java/time/LocalDate")) (t' := (.object "java/time/LocalDate")) (by decide) (by decide)))).other W104 (Or.inr (slot_ne (Or.inr (own_h hw 68 rfl)) (Or.inr (own_h hw 96 rfl)) (by decide) (t := (.object "java/time/LocalDate")) (t' := (.object "java/math/BigDecimal")) (by decide) (by decide)))).other W108 (Or.inr (slot_ne (Or.inr (own_h hw 68 rfl)) (Or.inr (own_h hw 98 rfl)) (by decide) (t := (.object "java/time/LocalDate")) (t' := (.object "java/math/BigDecimal")) (by decide) (by decide)))).other W112 (Or.inr (slot_ne (Or.inr (own_h hw 68 rfl)) (Or.inr (own_h hw 100 rfl)) (by decide) (t := (.object "java/time/LocalDate")) (t' := (.object "java/time/LocalDate")) (by decide) (by decide))))
  have f116_x0 := ((((((((((((((((((Fw40.other W44 (Or.inr (slot_ne (Or.inr (own_h hw 64 rfl)) (Or.inr (own_h hw 66 rfl)) (by decide) (t := (.object "com/example/bahikhata/bahikhata/model/Facility")) (t' := (.object "java/math/BigDecimal")) (by decide) (by decide)))).other W48 (Or.inr (slot_ne (Or.inr (own_h hw 64 rfl)) (Or.inr (own_h hw 68 rfl)) (by decide) (t := (.object "com/example/bahikhata/bahikhata/model/Facility")) (t' := (.object "java/time/LocalDate")) (by decide) (by decide)))).other W52 (Or.inr (slot_ne (Or.inr (own_h hw 64 rfl)) (Or.inr (own_h hw 70 rfl)) (by decide) (t := (.object "com/example/bahikhata/bahikhata/model/Facility")) (t' := (.object "java/lang/String")) (by decide) (by decide)))).other W56 (Or.inr (slot_ne (Or.inr (own_h hw 64 rfl)) (Or.inr (own_h hw 72 rfl)) (by decide) (t := (.object "com/example/bahikhata/bahikhata/model/Facility")) (t' := (.object "java/time/LocalDate")) (by decide) (by decide)))).other W60 (Or.inr (slot_ne (Or.inr (own_h hw 64 rfl)) (Or.inr (own_h hw 74 rfl)) (by decide) (t := (.object "com/example/bahikhata/bahikhata/model/Facility")) (t' := (.object "java/math/BigDecimal")) (by decide) (by decide)))).other W64 (Or.inr (slot_ne (Or.inr (own_h hw 64 rfl)) (Or.inr (own_h hw 76 rfl)) (by decide) (t := (.object "com/example/bahikhata/bahikhata/model/Facility")) (t' := (.object "java/math/BigDecimal")) (by decide) (by decide)))).other W68 (Or.inr (slot_ne (Or.inr (own_h hw 64 rfl)) (Or.inr (own_h hw 78 rfl)) (by decide) (t := (.object "com/example/bahikhata/bahikhata/model/Facility")) (t' := .boolean) (by decide) (by decide)))).other W72 (Or.inr (slot_ne (Or.inr (own_h hw 64 rfl)) (Or.inr (own_h hw 80 rfl)) (by decide) (t := (.object "com/example/bahikhata/bahikhata/model/Facility")) (t' := .boolean) (by decide) (by decide)))).other W76 (Or.inr (slot_ne (Or.inr (own_h hw 64 rfl)) (Or.inr (own_h hw 82 rfl)) (by decide) (t := (.object "com/example/bahikhata/bahikhata/model/Facility")) (t' := .boolean) (by decide) (by decide)))).other W80 (Or.inr (slot_ne (Or.inr (own_h hw 64 rfl)) (Or.inr (own_h hw 84 rfl)) (by decide) (t := (.object "com/example/bahikhata/bahikhata/model/Facility")) (t' := (.object "java/math/BigDecimal")) (by decide) (by decide)))).other W84 (Or.inr (slot_ne (Or.inr (own_h hw 64 rfl)) (Or.inr (own_h hw 86 rfl)) (by decide) (t := (.object "com/example/bahikhata/bahikhata/model/Facility")) (t' := (.object "java/math/BigDecimal")) (by decide) (by decide)))).other W88 (Or.inr (slot_ne (Or.inr (own_h hw 64 rfl)) (Or.inr (own_h hw 88 rfl)) (by decide) (t := (.object "com/example/bahikhata/bahikhata/model/Facility")) (t' := (.object "java/math/BigDecimal")) (by decide) (by decide)))).other W92 (Or.inr (slot_ne (Or.inr (own_h hw 64 rfl)) (Or.inr (own_h hw 90 rfl)) (by decide) (t := (.object "com/example/bahikhata/bahikhata/model/Facility")) (t' := (.object "java/math/BigDecimal")) (by decide) (by decide)))).other W96 (Or.inr (slot_ne (Or.inr (own_h hw 64 rfl)) (Or.inr (own_h hw 92 rfl)) (by decide) (t := (.object "com/example/bahikhata/bahikhata/model/Facility")) (t' := (.object "java/time/LocalDate")) (by decide) (by decide)))).other W100 (Or.inr (slot_ne (Or.inr (own_h hw 64 rfl)) (Or.inr (own_h hw 94 rfl)) (by decide) (t := (.object "com/example/bahikhata/bahikhata/model/Facility")) (t' := (.object "java/time/LocalDate")) (by decide) (by decide)))).other W104 (Or.inr (slot_ne (Or.inr (own_h hw 64 rfl)) (Or.inr (own_h hw 96 rfl)) (by decide) (t := (.object "com/example/bahikhata/bahikhata/model/Facility")) (t' := (.object "java/math/BigDecimal")) (by decide) (by decide)))).other W108 (Or.inr (slot_ne (Or.inr (own_h hw 64 rfl)) (Or.inr (own_h hw 98 rfl)) (by decide) (t := (.object "com/example/bahikhata/bahikhata/model/Facility")) (t' := (.object "java/math/BigDecimal")) (by decide) (by decide)))).other W112 (Or.inr (slot_ne (Or.inr (own_h hw 64 rfl)) (Or.inr (own_h hw 100 rfl)) (by decide) (t := (.object "com/example/bahikhata/bahikhata/model/Facility")) (t' := (.object "java/time/LocalDate")) (by decide) (by decide))))
  have hk117_ := (Nat.le_trans (Nat.le_trans (Nat.le_trans (Nat.le_trans (Nat.le_trans (Nat.le_trans (Nat.le_trans (Nat.le_trans (Nat.le_trans (Nat.le_trans (Nat.le_trans (Nat.le_trans (Nat.le_trans (Nat.le_trans (Nat.le_trans (Nat.le_trans (Nat.le_trans (Nat.le_trans (Nat.le_trans (Nat.le_trans (Nat.le_trans hk23 (Keep.of_wr W32).1) (Keep.of_wr W36).1) (Keep.of_wr W40).1) (Keep.of_wr W44).1) (Keep.of_wr W48).1) (Keep.of_wr W52).1) (Keep.of_wr W56).1) (Keep.of_wr W60).1) (Keep.of_wr W64).1) (Keep.of_wr W68).1) (Keep.of_wr W72).1) (Keep.of_wr W76).1) (Keep.of_wr W80).1) (Keep.of_wr W84).1) (Keep.of_wr W88).1) (Keep.of_wr W92).1) (Keep.of_wr W96).1) (Keep.of_wr W100).1) (Keep.of_wr W104).1) (Keep.of_wr W108).1) (Keep.of_wr W112).1)
  exact own_endJ X112 hS (by rw [e112]; exact hk117_) hZ (own_Rs.sub RS23 (by decide)) (v := none) (fun _ => rfl) hlk (fun hr => X112.returnOut hx Bd.returns (hb hby own_d4_243) hr) (by rw [e112]; exact ⟨rfl, N112, k113_, e114_x0, f115_x0, f116_x0⟩) (by decide) (by decide)
theorem own_d4_72 : decode prog_53_method_1_code 72 = .ok (.aload 15, 2) := by decide +kernel
theorem own_d4_74 : decode prog_53_method_1_code 74 = .ok (.ldc 35, 2) := by decide +kernel
theorem own_d4_76 : decode prog_53_method_1_code 76 = .ok (.invokestatic 9, 3) := by decide +kernel
theorem own_d4_79 : decode prog_53_method_1_code 79 = .ok (.pop, 1) := by decide +kernel
theorem own_d4_80 : decode prog_53_method_1_code 80 = .ok (.aload 16, 2) := by decide +kernel
theorem own_d4_82 : decode prog_53_method_1_code 82 = .ok (.ldc 37, 2) := by decide +kernel
theorem own_d4_84 : decode prog_53_method_1_code 84 = .ok (.invokestatic 9, 3) := by decide +kernel
theorem own_d4_87 : decode prog_53_method_1_code 87 = .ok (.pop, 1) := by decide +kernel
theorem own_d4_88 : decode prog_53_method_1_code 88 = .ok (.aload 18, 2) := by decide +kernel
theorem own_d4_90 : decode prog_53_method_1_code 90 = .ok (.ldc 39, 2) := by decide +kernel
theorem own_d4_92 : decode prog_53_method_1_code 92 = .ok (.invokestatic 9, 3) := by decide +kernel
theorem own_d4_95 : decode prog_53_method_1_code 95 = .ok (.pop, 1) := by decide +kernel
theorem own_d4_96 : decode prog_53_method_1_code 96 = .ok (.aload 19, 2) := by decide +kernel
theorem own_d4_98 : decode prog_53_method_1_code 98 = .ok (.ldc 41, 2) := by decide +kernel
theorem own_d4_100 : decode prog_53_method_1_code 100 = .ok (.invokestatic 9, 3) := by decide +kernel
theorem own_d4_103 : decode prog_53_method_1_code 103 = .ok (.pop, 1) := by decide +kernel
theorem own_d4_104 : decode prog_53_method_1_code 104 = .ok (.aload 20, 2) := by decide +kernel
theorem own_d4_106 : decode prog_53_method_1_code 106 = .ok (.ldc 43, 2) := by decide +kernel
theorem own_d4_108 : decode prog_53_method_1_code 108 = .ok (.invokestatic 9, 3) := by decide +kernel
theorem own_d4_111 : decode prog_53_method_1_code 111 = .ok (.pop, 1) := by decide +kernel
theorem own_d4_112 : decode prog_53_method_1_code 112 = .ok (.aload 21, 2) := by decide +kernel
theorem own_d4_114 : decode prog_53_method_1_code 114 = .ok (.ldc 45, 2) := by decide +kernel
theorem own_d4_116 : decode prog_53_method_1_code 116 = .ok (.invokestatic 9, 3) := by decide +kernel
theorem own_d4_119 : decode prog_53_method_1_code 119 = .ok (.pop, 1) := by decide +kernel
theorem own_liAr_ef (m : MethodId) (x0 : Addr) (sa : Addr) (sb : Addr) (fc : Addr) (zz : Addr) (sv : Value) (dd : Addr) (hsv : sv.isRef = true) : entryFrame m #[(.ref x0), (.ref sa), (.ref sb), (.ref fc), (.ref zz), sv, .null, .null, (.ref zz), (.ref zz), (.int 0), (.int 0), (.int 0), (.ref zz), (.ref zz), (.ref zz), (.ref zz), .null, (.ref dd), (.ref zz), (.ref zz), (.ref dd)] 22 = mkF m 0 #[.val (.ref x0), .val (.ref sa), .val (.ref sb), .val (.ref fc), .val (.ref zz), .val sv, .val .null, .val .null, .val (.ref zz), .val (.ref zz), .val (.int 0), .val (.int 0), .val (.int 0), .val (.ref zz), .val (.ref zz), .val (.ref zz), .val (.ref zz), .val .null, .val (.ref dd), .val (.ref zz), .val (.ref zz), .val (.ref dd)] [] := by rcases ref_cases hsv with rfl | ⟨_, rfl⟩ <;>  first | (simp [entryFrame, mkF, argsToLocals, Value.category]; done) | rfl
def own_liAr_Q (Z : State) (x0 : Addr) (sa : Addr) (sb : Addr) (fc : Addr) (zz : Addr) (sv : Value) (dd : Addr) (h0 : Heap) (n0 : Nat) (v : Option Value) (h : Heap) (L : List Loc) : Prop := v = none ∧ Fr n0 L ∧ Keep h0 h [x0] ∧ Exa Z h x0 "com/example/bahikhata/bahikhata/model/Loan" ∧ Fld Z h x0 "com/example/bahikhata/bahikhata/model/Loan" "overdueSince" "Ljava/time/LocalDate;" sv ∧ Fld Z h x0 "com/example/bahikhata/bahikhata/model/Loan" "facility" "Lcom/example/bahikhata/bahikhata/model/Facility;" (.ref fc)
set_option maxRecDepth 65536 in
set_option maxHeartbeats 40000000 in
theorem own_liAr (l : Launch) (Z : State) (a0 : Array Value) (hw : ∀ d ∈ tables_1, d.before a0 Z = true) (ws : List Jvm.Cond) (x0 : Addr) (sa : Addr) (sb : Addr) (fc : Addr) (zz : Addr) (sv : Value) (dd : Addr) (h0 : Heap) (n0 : Nat) (Z0 : n0 ≤ h0.size) (hsv : sv.isRef = true) (E_x : Exa Z h0 x0 "com/example/bahikhata/bahikhata/model/Loan") (g_x : n0 ≤ x0) (U_x : Unt h0 x0) (E_f : Exa Z h0 fc "com/example/bahikhata/bahikhata/model/Facility") (R_f : Fld Z h0 fc "com/example/bahikhata/bahikhata/model/Facility" "runningAccount" "Z" (.int 1)) (n_fx : fc ≠ x0) :
    MetFree l own_y8 (head1 (Jvm.Cond.code own_y8 prog_53_method_1_code 22 none :: ws) (⟨2, 28, 752, 24⟩ : Room)) (fun aa U => aa = #[(.ref x0), (.ref sa), (.ref sb), (.ref fc), (.ref zz), sv, .null, .null, (.ref zz), (.ref zz), (.int 0), (.int 0), (.int 0), (.ref zz), (.ref zz), (.ref zz), (.ref zz), .null, (.ref dd), (.ref zz), (.ref zz), (.ref dd)] ∧ Z.Warmed39 U.vm ∧ U.heap = h0 ∧ own_Rs Z U.vm ([] : List (String × Nat))) (fun _ _ _ _ _ => True) (fun _ U o U' => ∃ v L, o = .returned v ∧ own_liAr_Q Z x0 sa sb fc zz sv dd h0 n0 v U'.heap L ∧ own_Rs Z U'.vm ([("com/example/bahikhata/bahikhata/model/Loan", 7), ("com/example/bahikhata/bahikhata/model/Loan", 15), ("com/example/bahikhata/bahikhata/model/Loan", 17), ("com/example/bahikhata/bahikhata/model/Loan", 19), ("com/example/bahikhata/bahikhata/model/Loan", 21), ("com/example/bahikhata/bahikhata/model/Loan", 23), ("com/example/bahikhata/bahikhata/model/Loan", 25), ("com/example/bahikhata/bahikhata/model/Loan", 27), ("com/example/bahikhata/bahikhata/model/Loan", 35), ("com/example/bahikhata/bahikhata/model/Loan", 37), ("com/example/bahikhata/bahikhata/model/Loan", 39), ("com/example/bahikhata/bahikhata/model/Loan", 41), ("com/example/bahikhata/bahikhata/model/Loan", 43), ("com/example/bahikhata/bahikhata/model/Loan", 45)] : List (String × Nat)) ∧ ReturnedEndW U o U' L (⟨2, 28, 752, 24⟩ : Room).cells (⟨2, 28, 752, 24⟩ : Room).slots) := by
  refine MetFree.of_bodySF (plainFor_of_name own_pn_com_example_bahikhata_bahikhata_model_Loan) hisR ?_
  intro p e s m args below meth c s₁ Bd hml0 hP hK
  obtain ⟨rfl, hZ, hh, RS0⟩ := hP
  have hx := Bd.exec
  have hby := Bd.bytes
  have hml : c.maxLocals = 22 := hml0
  have hown : s.vm.findClass "com/example/bahikhata/bahikhata/model/Loan" = some m.cls := findClass_of_methodNamed Bd.named
  have hnm := (name_of_methodNamed Bd.named Bd.method).1
  have hlk := Bd.notSynchronized
  have X0 : Stand p l e (⟨2, 28, 752, 24⟩ : Room) (s.setVm s.vm) m #[(.ref x0), (.ref sa), (.ref sb), (.ref fc), (.ref zz), sv, .null, .null, (.ref zz), (.ref zz), (.int 0), (.int 0), (.int 0), (.ref zz), (.ref zz), (.ref zz), (.ref zz), .null, (.ref dd), (.ref zz), (.ref zz), (.ref dd)] below meth c s₁ [] 0 0 := Stand.of_body Bd
  have e0 : s₁.heap = h0 := by rw [← hh, Bd.state]; rfl
  have N0 := Fr.nil n0
  have hS : s.Since s.vm 0 := (State.WarmedH.refl s).since 0
  have hk0 : 0 ≤ h0.size := Nat.zero_le _
  have wS := own_wS hw
  refine own_startJ (K' := ([("com/example/bahikhata/bahikhata/model/Loan", 7), ("com/example/bahikhata/bahikhata/model/Loan", 15), ("com/example/bahikhata/bahikhata/model/Loan", 17), ("com/example/bahikhata/bahikhata/model/Loan", 19), ("com/example/bahikhata/bahikhata/model/Loan", 21), ("com/example/bahikhata/bahikhata/model/Loan", 23), ("com/example/bahikhata/bahikhata/model/Loan", 25), ("com/example/bahikhata/bahikhata/model/Loan", 27), ("com/example/bahikhata/bahikhata/model/Loan", 35), ("com/example/bahikhata/bahikhata/model/Loan", 37), ("com/example/bahikhata/bahikhata/model/Loan", 39), ("com/example/bahikhata/bahikhata/model/Loan", 41), ("com/example/bahikhata/bahikhata/model/Loan", 43), ("com/example/bahikhata/bahikhata/model/Loan", 45)] : List (String × Nat))) (Q := own_liAr_Q Z x0 sa sb fc zz sv dd h0 n0) (own_liAr_ef m x0 sa sb fc zz sv dd hsv) ?_
  refine own_g (own_frL m x0 sa sb fc zz sv dd 1 [(.ref x0)]) (fun _ q => XS.aloadN X0.here hx rfl (hb hby own_d4_0) rfl rfl q) ?_
  refine own_callI X0 hx hZ (y := own_y15) rfl hown (own_h hw 32 rfl) (own_h hw 33 rfl) (own_h hw 36 rfl) (own_h hw 35 rfl) (by decide) (own_rec l Z a0 hw [] x0 h0 n0 (Nat.le_trans Z0 (Keep.refl h0 [x0]).1) ) (by decide) (by decide) e0 (g := (own_frL m x0 sa sb fc zz sv dd 1 [(.ref x0)])) rfl (by rw [hml]; rfl) (argsL := []) (rest := []) (lenOf own_pd__28_29V rfl) rfl (W := 0) (by show 2 * 0 + _ ≤ _; exact Nat.le_of_eq rfl) (hb hby own_d4_1) rfl (by decide) (by decide) ?_
  rintro rv1 T1 L1 X1 ⟨rfl, Nq1, eh1⟩
  have N1 := Fr.app N0 Nq1
  refine own_g (own_frL m x0 sa sb fc zz sv dd 5 [(.ref sa)]) (fun _ q => XS.aloadN X1.here hx rfl (hb hby own_d4_4) rfl rfl q) ?_
  obtain ⟨a2, T2, h2, j2, X2, e2, E2, hS, hk2, hZ, hown, RS2, st2⟩ := own_ldcJ X1 hx hZ hown (own_h hw 40 rfl) wS eh1 hS hk0 RS0 (g := (own_frL m x0 sa sb fc zz sv dd 5 [(.ref sa)])) rfl (hb hby own_d4_5) (n := 36) (by decide) (by decide) (by decide) (by decide)
  refine own_by (g' := (own_frL m x0 sa sb fc zz sv dd 7 [(.ref a2), (.ref sa)])) st2 ?_
  have k3_ := ((Keep.refl h0 [x0]).ext E2)
  refine own_callS X2 hx hZ (y := own_y17) hown (own_h hw 41 rfl) (own_h hw 42 rfl) (own_h hw 43 rfl) (own_h hw 44 rfl) (by decide) (own_rnn l Z a0 hw [] sa a2 h2 n0 (Nat.le_trans Z0 k3_.1) ) (by decide) (by decide) e2 (g := (own_frL m x0 sa sb fc zz sv dd 7 [(.ref a2), (.ref sa)])) rfl (by rw [hml]; rfl) (argsL := [(.ref sa), (.ref a2)]) (rest := []) (lenOf own_pd__28Ljava_2flang_2fObject_3bLjava_2flang_2fString_3b_29Ljava_2flang_2fObject_3b rfl) rfl (W := 0) (by show 2 * 0 + _ ≤ _; exact Nat.le_of_eq rfl) (hb hby own_d4_7) rfl (by decide) (by decide) ?_
  rintro rv4 T4 L4 X4 ⟨rfl, Nq4, eh4⟩
  have N4 := Fr.app N1 Nq4
  refine own_g (own_frL m x0 sa sb fc zz sv dd 12 [(.ref sb)]) (fun _ q => XS.pop X4.here hx rfl (hb hby own_d4_10) rfl rfl (XS.aloadN X4.here hx rfl (hb hby own_d4_11) rfl rfl q)) ?_
  obtain ⟨a5, T5, h5, j5, X5, e5, E5, hS, hk5, hZ, hown, RS5, st5⟩ := own_ldcJ X4 hx hZ hown (own_h hw 45 rfl) wS eh4 hS hk2 RS2 (g := (own_frL m x0 sa sb fc zz sv dd 12 [(.ref sb)])) rfl (hb hby own_d4_12) (n := 40) (by decide) (by decide) (by decide) (by decide)
  refine own_by (g' := (own_frL m x0 sa sb fc zz sv dd 14 [(.ref a5), (.ref sb)])) st5 ?_
  have k6_ := (k3_.ext E5)
  refine own_callS X5 hx hZ (y := own_y17) hown (own_h hw 41 rfl) (own_h hw 42 rfl) (own_h hw 43 rfl) (own_h hw 44 rfl) (by decide) (own_rnn l Z a0 hw [] sb a5 h5 n0 (Nat.le_trans Z0 k6_.1) ) (by decide) (by decide) e5 (g := (own_frL m x0 sa sb fc zz sv dd 14 [(.ref a5), (.ref sb)])) rfl (by rw [hml]; rfl) (argsL := [(.ref sb), (.ref a5)]) (rest := []) (lenOf own_pd__28Ljava_2flang_2fObject_3bLjava_2flang_2fString_3b_29Ljava_2flang_2fObject_3b rfl) rfl (W := 0) (by show 2 * 0 + _ ≤ _; exact Nat.le_of_eq rfl) (hb hby own_d4_14) rfl (by decide) (by decide) ?_
  rintro rv7 T7 L7 X7 ⟨rfl, Nq7, eh7⟩
  have N7 := Fr.app N4 Nq7
  refine own_g (own_frL m x0 sa sb fc zz sv dd 19 [(.ref fc)]) (fun _ q => XS.pop X7.here hx rfl (hb hby own_d4_17) rfl rfl (XS.aloadN X7.here hx rfl (hb hby own_d4_18) rfl rfl q)) ?_
  obtain ⟨a8, T8, h8, j8, X8, e8, E8, hS, hk8, hZ, hown, RS8, st8⟩ := own_ldcJ X7 hx hZ hown (own_h hw 46 rfl) wS eh7 hS hk5 RS5 (g := (own_frL m x0 sa sb fc zz sv dd 19 [(.ref fc)])) rfl (hb hby own_d4_19) (n := 32) (by decide) (by decide) (by decide) (by decide)
  refine own_by (g' := (own_frL m x0 sa sb fc zz sv dd 21 [(.ref a8), (.ref fc)])) st8 ?_
  have k9_ := (k6_.ext E8)
  refine own_callS X8 hx hZ (y := own_y17) hown (own_h hw 41 rfl) (own_h hw 42 rfl) (own_h hw 43 rfl) (own_h hw 44 rfl) (by decide) (own_rnn l Z a0 hw [] fc a8 h8 n0 (Nat.le_trans Z0 k9_.1) ) (by decide) (by decide) e8 (g := (own_frL m x0 sa sb fc zz sv dd 21 [(.ref a8), (.ref fc)])) rfl (by rw [hml]; rfl) (argsL := [(.ref fc), (.ref a8)]) (rest := []) (lenOf own_pd__28Ljava_2flang_2fObject_3bLjava_2flang_2fString_3b_29Ljava_2flang_2fObject_3b rfl) rfl (W := 0) (by show 2 * 0 + _ ≤ _; exact Nat.le_of_eq rfl) (hb hby own_d4_21) rfl (by decide) (by decide) ?_
  rintro rv10 T10 L10 X10 ⟨rfl, Nq10, eh10⟩
  have N10 := Fr.app N7 Nq10
  refine own_g (own_frL m x0 sa sb fc zz sv dd 27 [(.ref zz)]) (fun _ q => XS.pop X10.here hx rfl (hb hby own_d4_24) rfl rfl (XS.aload X10.here hx rfl (hb hby own_d4_25) rfl rfl q)) ?_
  obtain ⟨a11, T11, h11, j11, X11, e11, E11, hS, hk11, hZ, hown, RS11, st11⟩ := own_ldcJ X10 hx hZ hown (own_h hw 47 rfl) wS eh10 hS hk8 RS8 (g := (own_frL m x0 sa sb fc zz sv dd 27 [(.ref zz)])) rfl (hb hby own_d4_27) (n := 44) (by decide) (by decide) (by decide) (by decide)
  refine own_by (g' := (own_frL m x0 sa sb fc zz sv dd 29 [(.ref a11), (.ref zz)])) st11 ?_
  have k12_ := (k9_.ext E11)
  refine own_callS X11 hx hZ (y := own_y17) hown (own_h hw 41 rfl) (own_h hw 42 rfl) (own_h hw 43 rfl) (own_h hw 44 rfl) (by decide) (own_rnn l Z a0 hw [] zz a11 h11 n0 (Nat.le_trans Z0 k12_.1) ) (by decide) (by decide) e11 (g := (own_frL m x0 sa sb fc zz sv dd 29 [(.ref a11), (.ref zz)])) rfl (by rw [hml]; rfl) (argsL := [(.ref zz), (.ref a11)]) (rest := []) (lenOf own_pd__28Ljava_2flang_2fObject_3bLjava_2flang_2fString_3b_29Ljava_2flang_2fObject_3b rfl) rfl (W := 0) (by show 2 * 0 + _ ≤ _; exact Nat.le_of_eq rfl) (hb hby own_d4_29) rfl (by decide) (by decide) ?_
  rintro rv13 T13 L13 X13 ⟨rfl, Nq13, eh13⟩
  have N13 := Fr.app N10 Nq13
  refine own_g (own_frL m x0 sa sb fc zz sv dd 35 [(.ref zz)]) (fun _ q => XS.pop X13.here hx rfl (hb hby own_d4_32) rfl rfl (XS.aload X13.here hx rfl (hb hby own_d4_33) rfl rfl q)) ?_
  obtain ⟨a14, T14, h14, j14, X14, e14, E14, hS, hk14, hZ, hown, RS14, st14⟩ := own_ldcJ X13 hx hZ hown (own_h hw 48 rfl) wS eh13 hS hk11 RS11 (g := (own_frL m x0 sa sb fc zz sv dd 35 [(.ref zz)])) rfl (hb hby own_d4_35) (n := 52) (by decide) (by decide) (by decide) (by decide)
  refine own_by (g' := (own_frL m x0 sa sb fc zz sv dd 37 [(.ref a14), (.ref zz)])) st14 ?_
  have k15_ := (k12_.ext E14)
  refine own_callS X14 hx hZ (y := own_y17) hown (own_h hw 41 rfl) (own_h hw 42 rfl) (own_h hw 43 rfl) (own_h hw 44 rfl) (by decide) (own_rnn l Z a0 hw [] zz a14 h14 n0 (Nat.le_trans Z0 k15_.1) ) (by decide) (by decide) e14 (g := (own_frL m x0 sa sb fc zz sv dd 37 [(.ref a14), (.ref zz)])) rfl (by rw [hml]; rfl) (argsL := [(.ref zz), (.ref a14)]) (rest := []) (lenOf own_pd__28Ljava_2flang_2fObject_3bLjava_2flang_2fString_3b_29Ljava_2flang_2fObject_3b rfl) rfl (W := 0) (by show 2 * 0 + _ ≤ _; exact Nat.le_of_eq rfl) (hb hby own_d4_37) rfl (by decide) (by decide) ?_
  rintro rv16 T16 L16 X16 ⟨rfl, Nq16, eh16⟩
  have N16 := Fr.app N13 Nq16
  refine own_g (own_frL m x0 sa sb fc zz sv dd 43 [(.ref zz)]) (fun _ q => XS.pop X16.here hx rfl (hb hby own_d4_40) rfl rfl (XS.aload X16.here hx rfl (hb hby own_d4_41) rfl rfl q)) ?_
  obtain ⟨a17, T17, h17, j17, X17, e17, E17, hS, hk17, hZ, hown, RS17, st17⟩ := own_ldcJ X16 hx hZ hown (own_h hw 49 rfl) wS eh16 hS hk14 RS14 (g := (own_frL m x0 sa sb fc zz sv dd 43 [(.ref zz)])) rfl (hb hby own_d4_43) (n := 84) (by decide) (by decide) (by decide) (by decide)
  refine own_by (g' := (own_frL m x0 sa sb fc zz sv dd 45 [(.ref a17), (.ref zz)])) st17 ?_
  have k18_ := (k15_.ext E17)
  refine own_callS X17 hx hZ (y := own_y17) hown (own_h hw 41 rfl) (own_h hw 42 rfl) (own_h hw 43 rfl) (own_h hw 44 rfl) (by decide) (own_rnn l Z a0 hw [] zz a17 h17 n0 (Nat.le_trans Z0 k18_.1) ) (by decide) (by decide) e17 (g := (own_frL m x0 sa sb fc zz sv dd 45 [(.ref a17), (.ref zz)])) rfl (by rw [hml]; rfl) (argsL := [(.ref zz), (.ref a17)]) (rest := []) (lenOf own_pd__28Ljava_2flang_2fObject_3bLjava_2flang_2fString_3b_29Ljava_2flang_2fObject_3b rfl) rfl (W := 0) (by show 2 * 0 + _ ≤ _; exact Nat.le_of_eq rfl) (hb hby own_d4_45) rfl (by decide) (by decide) ?_
  rintro rv19 T19 L19 X19 ⟨rfl, Nq19, eh19⟩
  have N19 := Fr.app N16 Nq19
  refine own_g (own_frL m x0 sa sb fc zz sv dd 51 [(.ref zz)]) (fun _ q => XS.pop X19.here hx rfl (hb hby own_d4_48) rfl rfl (XS.aload X19.here hx rfl (hb hby own_d4_49) rfl rfl q)) ?_
  obtain ⟨a20, T20, h20, j20, X20, e20, E20, hS, hk20, hZ, hown, RS20, st20⟩ := own_ldcJ X19 hx hZ hown (own_h hw 50 rfl) wS eh19 hS hk17 RS17 (g := (own_frL m x0 sa sb fc zz sv dd 51 [(.ref zz)])) rfl (hb hby own_d4_51) (n := 52) (by decide) (by decide) (by decide) (by decide)
  refine own_by (g' := (own_frL m x0 sa sb fc zz sv dd 53 [(.ref a20), (.ref zz)])) st20 ?_
  have k21_ := (k18_.ext E20)
  refine own_callS X20 hx hZ (y := own_y17) hown (own_h hw 41 rfl) (own_h hw 42 rfl) (own_h hw 43 rfl) (own_h hw 44 rfl) (by decide) (own_rnn l Z a0 hw [] zz a20 h20 n0 (Nat.le_trans Z0 k21_.1) ) (by decide) (by decide) e20 (g := (own_frL m x0 sa sb fc zz sv dd 53 [(.ref a20), (.ref zz)])) rfl (by rw [hml]; rfl) (argsL := [(.ref zz), (.ref a20)]) (rest := []) (lenOf own_pd__28Ljava_2flang_2fObject_3bLjava_2flang_2fString_3b_29Ljava_2flang_2fObject_3b rfl) rfl (W := 0) (by show 2 * 0 + _ ≤ _; exact Nat.le_of_eq rfl) (hb hby own_d4_53) rfl (by decide) (by decide) ?_
  rintro rv22 T22 L22 X22 ⟨rfl, Nq22, eh22⟩
  have N22 := Fr.app N19 Nq22
  refine own_g (own_frL m x0 sa sb fc zz sv dd 59 [(.ref zz)]) (fun _ q => XS.pop X22.here hx rfl (hb hby own_d4_56) rfl rfl (XS.aload X22.here hx rfl (hb hby own_d4_57) rfl rfl q)) ?_
  obtain ⟨a23, T23, h23, j23, X23, e23, E23, hS, hk23, hZ, hown, RS23, st23⟩ := own_ldcJ X22 hx hZ hown (own_h hw 51 rfl) wS eh22 hS hk20 RS20 (g := (own_frL m x0 sa sb fc zz sv dd 59 [(.ref zz)])) rfl (hb hby own_d4_59) (n := 72) (by decide) (by decide) (by decide) (by decide)
  refine own_by (g' := (own_frL m x0 sa sb fc zz sv dd 61 [(.ref a23), (.ref zz)])) st23 ?_
  have k24_ := (k21_.ext E23)
  refine own_callS X23 hx hZ (y := own_y17) hown (own_h hw 41 rfl) (own_h hw 42 rfl) (own_h hw 43 rfl) (own_h hw 44 rfl) (by decide) (own_rnn l Z a0 hw [] zz a23 h23 n0 (Nat.le_trans Z0 k24_.1) ) (by decide) (by decide) e23 (g := (own_frL m x0 sa sb fc zz sv dd 61 [(.ref a23), (.ref zz)])) rfl (by rw [hml]; rfl) (argsL := [(.ref zz), (.ref a23)]) (rest := []) (lenOf own_pd__28Ljava_2flang_2fObject_3bLjava_2flang_2fString_3b_29Ljava_2flang_2fObject_3b rfl) rfl (W := 0) (by show 2 * 0 + _ ≤ _; exact Nat.le_of_eq rfl) (hb hby own_d4_61) rfl (by decide) (by decide) ?_
  rintro rv25 T25 L25 X25 ⟨rfl, Nq25, eh25⟩
  have N25 := Fr.app N22 Nq25
  refine own_g (own_frL m x0 sa sb fc zz sv dd 66 [(.ref fc)]) (fun _ q => XS.pop X25.here hx rfl (hb hby own_d4_64) rfl rfl (XS.aloadN X25.here hx rfl (hb hby own_d4_65) rfl rfl q)) ?_
  have f26_fc := ((((((((R_f.ext E2).ext E5).ext E8).ext E11).ext E14).ext E17).ext E20).ext E23)
  have e27_fc := ((((((((E_f.ext E2).ext E5).ext E8).ext E11).ext E14).ext E17).ext E20).ext E23)
  refine own_callV X25 hx hZ (y := own_y6) (z := own_y6) hown (own_h hw 52 rfl) (own_h hw 53 rfl) (own_nf (own_h hw 55 rfl)) (own_h hw 55 rfl) (own_h hw 54 rfl) (own_h hw 56 rfl) (own_h hw 8 rfl) (by decide) e27_fc (own_run l Z a0 hw [] fc _ h23 n0 (Nat.le_trans Z0 k24_.1) f26_fc) (by decide) (by decide) eh25 (g := (own_frL m x0 sa sb fc zz sv dd 66 [(.ref fc)])) rfl (by rw [hml]; rfl) (argsL := []) (rest := []) (lenOf own_pd__28_29Z rfl) rfl (W := 0) (by show 2 * 0 + _ ≤ _; exact Nat.le_of_eq rfl) (hb hby own_d4_66) rfl (by decide) (by decide) ?_
  rintro rv28 T28 L28 X28 ⟨rfl, Nq28, eh28⟩
  have N28 := Fr.app N25 Nq28
  refine own_g (own_frL m x0 sa sb fc zz sv dd 74 [(.ref zz)]) (fun _ q => XS.ifNo X28.here hx rfl (hb hby own_d4_69) rfl ((if0 _ _).trans (feq (by decide : ¬ ((1 : Int32) = (0 : Int32)))).1) (XS.aload X28.here hx rfl (hb hby own_d4_72) rfl rfl q)) ?_
  obtain ⟨a29, T29, h29, j29, X29, e29, E29, hS, hk29, hZ, hown, RS29, st29⟩ := own_ldcJ X28 hx hZ hown (own_h hw 105 rfl) wS eh28 hS hk23 RS23 (g := (own_frL m x0 sa sb fc zz sv dd 74 [(.ref zz)])) rfl (hb hby own_d4_74) (n := 60) (by decide) (by decide) (by decide) (by decide)
  refine own_by (g' := (own_frL m x0 sa sb fc zz sv dd 76 [(.ref a29), (.ref zz)])) st29 ?_
  have k30_ := (k24_.ext E29)
  refine own_callS X29 hx hZ (y := own_y17) hown (own_h hw 41 rfl) (own_h hw 42 rfl) (own_h hw 43 rfl) (own_h hw 44 rfl) (by decide) (own_rnn l Z a0 hw [] zz a29 h29 n0 (Nat.le_trans Z0 k30_.1) ) (by decide) (by decide) e29 (g := (own_frL m x0 sa sb fc zz sv dd 76 [(.ref a29), (.ref zz)])) rfl (by rw [hml]; rfl) (argsL := [(.ref zz), (.ref a29)]) (rest := []) (lenOf own_pd__28Ljava_2flang_2fObject_3bLjava_2flang_2fString_3b_29Ljava_2flang_2fObject_3b rfl) rfl (W := 0) (by show 2 * 0 + _ ≤ _; exact Nat.le_of_eq rfl) (hb hby own_d4_76) rfl (by decide) (by decide) ?_
  rintro rv31 T31 L31 X31 ⟨rfl, Nq31, eh31⟩
  have N31 := Fr.app N28 Nq31
  refine own_g (own_frL m x0 sa sb fc zz sv dd 82 [(.ref zz)]) (fun _ q => XS.pop X31.here hx rfl (hb hby own_d4_79) rfl rfl (XS.aload X31.here hx rfl (hb hby own_d4_80) rfl rfl q)) ?_
  obtain ⟨a32, T32, h32, j32, X32, e32, E32, hS, hk32, hZ, hown, RS32, st32⟩ := own_ldcJ X31 hx hZ hown (own_h hw 106 rfl) wS eh31 hS hk29 RS29 (g := (own_frL m x0 sa sb fc zz sv dd 82 [(.ref zz)])) rfl (hb hby own_d4_82) (n := 48) (by decide) (by decide) (by decide) (by decide)
  refine own_by (g' := (own_frL m x0 sa sb fc zz sv dd 84 [(.ref a32), (.ref zz)])) st32 ?_
  have k33_ := (k30_.ext E32)
  refine own_callS X32 hx hZ (y := own_y17) hown (own_h hw 41 rfl) (own_h hw 42 rfl) (own_h hw 43 rfl) (own_h hw 44 rfl) (by decide) (own_rnn l Z a0 hw [] zz a32 h32 n0 (Nat.le_trans Z0 k33_.1) ) (by decide) (by decide) e32 (g := (own_frL m x0 sa sb fc zz sv dd 84 [(.ref a32), (.ref zz)])) rfl (by rw [hml]; rfl) (argsL := [(.ref zz), (.ref a32)]) (rest := []) (lenOf own_pd__28Ljava_2flang_2fObject_3bLjava_2flang_2fString_3b_29Ljava_2flang_2fObject_3b rfl) rfl (W := 0) (by show 2 * 0 + _ ≤ _; exact Nat.le_of_eq rfl) (hb hby own_d4_84) rfl (by decide) (by decide) ?_
  rintro rv34 T34 L34 X34 ⟨rfl, Nq34, eh34⟩
  have N34 := Fr.app N31 Nq34
  refine own_g (own_frL m x0 sa sb fc zz sv dd 90 [(.ref dd)]) (fun _ q => XS.pop X34.here hx rfl (hb hby own_d4_87) rfl rfl (XS.aload X34.here hx rfl (hb hby own_d4_88) rfl rfl q)) ?_
  obtain ⟨a35, T35, h35, j35, X35, e35, E35, hS, hk35, hZ, hown, RS35, st35⟩ := own_ldcJ X34 hx hZ hown (own_h hw 107 rfl) wS eh34 hS hk32 RS32 (g := (own_frL m x0 sa sb fc zz sv dd 90 [(.ref dd)])) rfl (hb hby own_d4_90) (n := 56) (by decide) (by decide) (by decide) (by decide)
  refine own_by (g' := (own_frL m x0 sa sb fc zz sv dd 92 [(.ref a35), (.ref dd)])) st35 ?_
  have k36_ := (k33_.ext E35)
  refine own_callS X35 hx hZ (y := own_y17) hown (own_h hw 41 rfl) (own_h hw 42 rfl) (own_h hw 43 rfl) (own_h hw 44 rfl) (by decide) (own_rnn l Z a0 hw [] dd a35 h35 n0 (Nat.le_trans Z0 k36_.1) ) (by decide) (by decide) e35 (g := (own_frL m x0 sa sb fc zz sv dd 92 [(.ref a35), (.ref dd)])) rfl (by rw [hml]; rfl) (argsL := [(.ref dd), (.ref a35)]) (rest := []) (lenOf own_pd__28Ljava_2flang_2fObject_3bLjava_2flang_2fString_3b_29Ljava_2flang_2fObject_3b rfl) rfl (W := 0) (by show 2 * 0 + _ ≤ _; exact Nat.le_of_eq rfl) (hb hby own_d4_92) rfl (by decide) (by decide) ?_
  rintro rv37 T37 L37 X37 ⟨rfl, Nq37, eh37⟩
  have N37 := Fr.app N34 Nq37
  refine own_g (own_frL m x0 sa sb fc zz sv dd 98 [(.ref zz)]) (fun _ q => XS.pop X37.here hx rfl (hb hby own_d4_95) rfl rfl (XS.aload X37.here hx rfl (hb hby own_d4_96) rfl rfl q)) ?_
  obtain ⟨a38, T38, h38, j38, X38, e38, E38, hS, hk38, hZ, hown, RS38, st38⟩ := own_ldcJ X37 hx hZ hown (own_h hw 108 rfl) wS eh37 hS hk35 RS35 (g := (own_frL m x0 sa sb fc zz sv dd 98 [(.ref zz)])) rfl (hb hby own_d4_98) (n := 40) (by decide) (by decide) (by decide) (by decide)
  refine own_by (g' := (own_frL m x0 sa sb fc zz sv dd 100 [(.ref a38), (.ref zz)])) st38 ?_
  have k39_ := (k36_.ext E38)
  refine own_callS X38 hx hZ (y := own_y17) hown (own_h hw 41 rfl) (own_h hw 42 rfl) (own_h hw 43 rfl) (own_h hw 44 rfl) (by decide) (own_rnn l Z a0 hw [] zz a38 h38 n0 (Nat.le_trans Z0 k39_.1) ) (by decide) (by decide) e38 (g := (own_frL m x0 sa sb fc zz sv dd 100 [(.ref a38), (.ref zz)])) rfl (by rw [hml]; rfl) (argsL := [(.ref zz), (.ref a38)]) (rest := []) (lenOf own_pd__28Ljava_2flang_2fObject_3bLjava_2flang_2fString_3b_29Ljava_2flang_2fObject_3b rfl) rfl (W := 0) (by show 2 * 0 + _ ≤ _; exact Nat.le_of_eq rfl) (hb hby own_d4_100) rfl (by decide) (by decide) ?_
  rintro rv40 T40 L40 X40 ⟨rfl, Nq40, eh40⟩
  have N40 := Fr.app N37 Nq40
  refine own_g (own_frL m x0 sa sb fc zz sv dd 106 [(.ref zz)]) (fun _ q => XS.pop X40.here hx rfl (hb hby own_d4_103) rfl rfl (XS.aload X40.here hx rfl (hb hby own_d4_104) rfl rfl q)) ?_
  obtain ⟨a41, T41, h41, j41, X41, e41, E41, hS, hk41, hZ, hown, RS41, st41⟩ := own_ldcJ X40 hx hZ hown (own_h hw 109 rfl) wS eh40 hS hk38 RS38 (g := (own_frL m x0 sa sb fc zz sv dd 106 [(.ref zz)])) rfl (hb hby own_d4_106) (n := 44) (by decide) (by decide) (by decide) (by decide)
  refine own_by (g' := (own_frL m x0 sa sb fc zz sv dd 108 [(.ref a41), (.ref zz)])) st41 ?_
  have k42_ := (k39_.ext E41)
  refine own_callS X41 hx hZ (y := own_y17) hown (own_h hw 41 rfl) (own_h hw 42 rfl) (own_h hw 43 rfl) (own_h hw 44 rfl) (by decide) (own_rnn l Z a0 hw [] zz a41 h41 n0 (Nat.le_trans Z0 k42_.1) ) (by decide) (by decide) e41 (g := (own_frL m x0 sa sb fc zz sv dd 108 [(.ref a41), (.ref zz)])) rfl (by rw [hml]; rfl) (argsL := [(.ref zz), (.ref a41)]) (rest := []) (lenOf own_pd__28Ljava_2flang_2fObject_3bLjava_2flang_2fString_3b_29Ljava_2flang_2fObject_3b rfl) rfl (W := 0) (by show 2 * 0 + _ ≤ _; exact Nat.le_of_eq rfl) (hb hby own_d4_108) rfl (by decide) (by decide) ?_
  rintro rv43 T43 L43 X43 ⟨rfl, Nq43, eh43⟩
  have N43 := Fr.app N40 Nq43
  refine own_g (own_frL m x0 sa sb fc zz sv dd 114 [(.ref dd)]) (fun _ q => XS.pop X43.here hx rfl (hb hby own_d4_111) rfl rfl (XS.aload X43.here hx rfl (hb hby own_d4_112) rfl rfl q)) ?_
  obtain ⟨a44, T44, h44, j44, X44, e44, E44, hS, hk44, hZ, hown, RS44, st44⟩ := own_ldcJ X43 hx hZ hown (own_h hw 110 rfl) wS eh43 hS hk41 RS41 (g := (own_frL m x0 sa sb fc zz sv dd 114 [(.ref dd)])) rfl (hb hby own_d4_114) (n := 36) (by decide) (by decide) (by decide) (by decide)
  refine own_by (g' := (own_frL m x0 sa sb fc zz sv dd 116 [(.ref a44), (.ref dd)])) st44 ?_
  have k45_ := (k42_.ext E44)
  refine own_callS X44 hx hZ (y := own_y17) hown (own_h hw 41 rfl) (own_h hw 42 rfl) (own_h hw 43 rfl) (own_h hw 44 rfl) (by decide) (own_rnn l Z a0 hw [] dd a44 h44 n0 (Nat.le_trans Z0 k45_.1) ) (by decide) (by decide) e44 (g := (own_frL m x0 sa sb fc zz sv dd 116 [(.ref a44), (.ref dd)])) rfl (by rw [hml]; rfl) (argsL := [(.ref dd), (.ref a44)]) (rest := []) (lenOf own_pd__28Ljava_2flang_2fObject_3bLjava_2flang_2fString_3b_29Ljava_2flang_2fObject_3b rfl) rfl (W := 0) (by show 2 * 0 + _ ≤ _; exact Nat.le_of_eq rfl) (hb hby own_d4_116) rfl (by decide) (by decide) ?_
  rintro rv46 T46 L46 X46 ⟨rfl, Nq46, eh46⟩
  have N46 := Fr.app N43 Nq46
  refine own_g (own_frL m x0 sa sb fc zz sv dd 122 [(.ref sa), (.ref x0)]) (fun _ q => XS.pop X46.here hx rfl (hb hby own_d4_119) rfl rfl (XS.aloadN X46.here hx rfl (hb hby own_d4_120) rfl rfl (XS.aloadN X46.here hx rfl (hb hby own_d4_121) rfl rfl q))) ?_
  have e47_x0 := ((((((((((((((E_x.ext E2).ext E5).ext E8).ext E11).ext E14).ext E17).ext E20).ext E23).ext E29).ext E32).ext E35).ext E38).ext E41).ext E44)
  have x49_x0 := (Unt.ext E44 (Unt.ext E41 (Unt.ext E38 (Unt.ext E35 (Unt.ext E32 (Unt.ext E29 (Unt.ext E23 (Unt.ext E20 (Unt.ext E17 (Unt.ext E14 (Unt.ext E11 (Unt.ext E8 (Unt.ext E5 (Unt.ext E2 U_x))))))))))))))
  obtain ⟨vo48, Fo48⟩ := own_someF e47_x0 x49_x0 (Or.inr (own_h hw 60 rfl)) (own_h hw 18 rfl)
  obtain ⟨T50, h50, X50, e50, W50, st50⟩ := putF X46 hx hZ hown (host := "") (Or.inl (own_h hw 59 rfl)) Via.refl eh46 Fo48 e47_x0 (Or.inr ⟨(own_h hw 60 rfl), rfl, hnm⟩) (own_h hw 18 rfl) (ty := (.object "java/lang/String")) (by decide) (rfl) (rfl) (g := (own_frL m x0 sa sb fc zz sv dd 122 [(.ref sa), (.ref x0)])) rfl rfl (hb hby own_d4_122)
  have N50 := Fr.snoc X50 N46 g_x
  refine own_by (g' := (own_frL m x0 sa sb fc zz sv dd 125 [])) st50 ?_
  refine own_g (own_frL m x0 sa sb fc zz sv dd 127 [(.ref sb), (.ref x0)]) (fun _ q => XS.aloadN X50.here hx rfl (hb hby own_d4_125) rfl rfl (XS.aloadN X50.here hx rfl (hb hby own_d4_126) rfl rfl q)) ?_
  have e51_x0 := (e47_x0.wr W50)
  have x53_x0 := (Unt.wr W50 x49_x0)
  obtain ⟨vo52, Fo52⟩ := own_someF e51_x0 x53_x0 (Or.inr (own_h hw 62 rfl)) (own_h hw 18 rfl)
  obtain ⟨T54, h54, X54, e54, W54, st54⟩ := putF X50 hx hZ hown (host := "") (Or.inl (own_h hw 61 rfl)) Via.refl e50 Fo52 e51_x0 (Or.inr ⟨(own_h hw 62 rfl), rfl, hnm⟩) (own_h hw 18 rfl) (ty := (.object "java/lang/String")) (by decide) (rfl) (rfl) (g := (own_frL m x0 sa sb fc zz sv dd 127 [(.ref sb), (.ref x0)])) rfl rfl (hb hby own_d4_127)
  have N54 := Fr.snoc X54 N50 g_x
  refine own_by (g' := (own_frL m x0 sa sb fc zz sv dd 130 [])) st54 ?_
  refine own_g (own_frL m x0 sa sb fc zz sv dd 132 [(.ref fc), (.ref x0)]) (fun _ q => XS.aloadN X54.here hx rfl (hb hby own_d4_130) rfl rfl (XS.aloadN X54.here hx rfl (hb hby own_d4_131) rfl rfl q)) ?_
  have e55_x0 := (e51_x0.wr W54)
  have x57_x0 := (Unt.wr W54 x53_x0)
  obtain ⟨vo56, Fo56⟩ := own_someF e55_x0 x57_x0 (Or.inr (own_h hw 64 rfl)) (own_h hw 18 rfl)
  obtain ⟨T58, h58, X58, e58, W58, st58⟩ := putF X54 hx hZ hown (host := "") (Or.inl (own_h hw 63 rfl)) Via.refl e54 Fo56 e55_x0 (Or.inr ⟨(own_h hw 64 rfl), rfl, hnm⟩) (own_h hw 18 rfl) (ty := (.object "com/example/bahikhata/bahikhata/model/Facility")) (by decide) (rfl) (rfl) (g := (own_frL m x0 sa sb fc zz sv dd 132 [(.ref fc), (.ref x0)])) rfl rfl (hb hby own_d4_132)
  have Fw58 := Fo56.same W58
  have N58 := Fr.snoc X58 N54 g_x
  refine own_by (g' := (own_frL m x0 sa sb fc zz sv dd 135 [])) st58 ?_
  refine own_g (own_frL m x0 sa sb fc zz sv dd 138 [(.ref zz), (.ref x0)]) (fun _ q => XS.aloadN X58.here hx rfl (hb hby own_d4_135) rfl rfl (XS.aload X58.here hx rfl (hb hby own_d4_136) rfl rfl q)) ?_
  have e59_x0 := (e55_x0.wr W58)
  have x61_x0 := (Unt.wr W58 x57_x0)
  obtain ⟨vo60, Fo60⟩ := own_someF e59_x0 x61_x0 (Or.inr (own_h hw 66 rfl)) (own_h hw 18 rfl)
  obtain ⟨T62, h62, X62, e62, W62, st62⟩ := putF X58 hx hZ hown (host := "") (Or.inl (own_h hw 65 rfl)) Via.refl e58 Fo60 e59_x0 (Or.inr ⟨(own_h hw 66 rfl), rfl, hnm⟩) (own_h hw 18 rfl) (ty := (.object "java/math/BigDecimal")) (by decide) (rfl) (rfl) (g := (own_frL m x0 sa sb fc zz sv dd 138 [(.ref zz), (.ref x0)])) rfl rfl (hb hby own_d4_138)
  have N62 := Fr.snoc X62 N58 g_x
  refine own_by (g' := (own_frL m x0 sa sb fc zz sv dd 141 [])) st62 ?_
  refine own_g (own_frL m x0 sa sb fc zz sv dd 144 [sv, (.ref x0)]) (fun _ q => XS.aloadN X62.here hx rfl (hb hby own_d4_141) rfl rfl (XS.aload X62.here hx rfl (hb hby own_d4_142) rfl hsv q)) ?_
  have e63_x0 := (e59_x0.wr W62)
  have x65_x0 := (Unt.wr W62 x61_x0)
  obtain ⟨vo64, Fo64⟩ := own_someF e63_x0 x65_x0 (Or.inr (own_h hw 68 rfl)) (own_h hw 18 rfl)
  obtain ⟨T66, h66, X66, e66, W66, st66⟩ := putF X62 hx hZ hown (host := "") (Or.inl (own_h hw 67 rfl)) Via.refl e62 Fo64 e63_x0 (Or.inr ⟨(own_h hw 68 rfl), rfl, hnm⟩) (own_h hw 18 rfl) (ty := (.object "java/time/LocalDate")) (by decide) (own_narR rfl) (own_fitsR rfl hsv) (g := (own_frL m x0 sa sb fc zz sv dd 144 [sv, (.ref x0)])) rfl rfl (hb hby own_d4_144)
  have Fw66 := Fo64.same W66
  have N66 := Fr.snoc X66 N62 g_x
  refine own_by (g' := (own_frL m x0 sa sb fc zz sv dd 147 [])) st66 ?_
  refine own_g (own_frL m x0 sa sb fc zz sv dd 150 [.null, (.ref x0)]) (fun _ q => XS.aloadN X66.here hx rfl (hb hby own_d4_147) rfl rfl (XS.aload X66.here hx rfl (hb hby own_d4_148) rfl rfl q)) ?_
  have e67_x0 := (e63_x0.wr W66)
  have x69_x0 := (Unt.wr W66 x65_x0)
  obtain ⟨vo68, Fo68⟩ := own_someF e67_x0 x69_x0 (Or.inr (own_h hw 70 rfl)) (own_h hw 18 rfl)
  obtain ⟨T70, h70, X70, e70, W70, st70⟩ := putF X66 hx hZ hown (host := "") (Or.inl (own_h hw 69 rfl)) Via.refl e66 Fo68 e67_x0 (Or.inr ⟨(own_h hw 70 rfl), rfl, hnm⟩) (own_h hw 18 rfl) (ty := (.object "java/lang/String")) (by decide) (rfl) (rfl) (g := (own_frL m x0 sa sb fc zz sv dd 150 [.null, (.ref x0)])) rfl rfl (hb hby own_d4_150)
  have N70 := Fr.snoc X70 N66 g_x
  refine own_by (g' := (own_frL m x0 sa sb fc zz sv dd 153 [])) st70 ?_
  refine own_g (own_frL m x0 sa sb fc zz sv dd 156 [.null, (.ref x0)]) (fun _ q => XS.aloadN X70.here hx rfl (hb hby own_d4_153) rfl rfl (XS.aload X70.here hx rfl (hb hby own_d4_154) rfl rfl q)) ?_
  have e71_x0 := (e67_x0.wr W70)
  have x73_x0 := (Unt.wr W70 x69_x0)
  obtain ⟨vo72, Fo72⟩ := own_someF e71_x0 x73_x0 (Or.inr (own_h hw 72 rfl)) (own_h hw 18 rfl)
  obtain ⟨T74, h74, X74, e74, W74, st74⟩ := putF X70 hx hZ hown (host := "") (Or.inl (own_h hw 71 rfl)) Via.refl e70 Fo72 e71_x0 (Or.inr ⟨(own_h hw 72 rfl), rfl, hnm⟩) (own_h hw 18 rfl) (ty := (.object "java/time/LocalDate")) (by decide) (rfl) (rfl) (g := (own_frL m x0 sa sb fc zz sv dd 156 [.null, (.ref x0)])) rfl rfl (hb hby own_d4_156)
  have N74 := Fr.snoc X74 N70 g_x
  refine own_by (g' := (own_frL m x0 sa sb fc zz sv dd 159 [])) st74 ?_
  refine own_g (own_frL m x0 sa sb fc zz sv dd 162 [(.ref zz), (.ref x0)]) (fun _ q => XS.aloadN X74.here hx rfl (hb hby own_d4_159) rfl rfl (XS.aload X74.here hx rfl (hb hby own_d4_160) rfl rfl q)) ?_
  have e75_x0 := (e71_x0.wr W74)
  have x77_x0 := (Unt.wr W74 x73_x0)
  obtain ⟨vo76, Fo76⟩ := own_someF e75_x0 x77_x0 (Or.inr (own_h hw 74 rfl)) (own_h hw 18 rfl)
  obtain ⟨T78, h78, X78, e78, W78, st78⟩ := putF X74 hx hZ hown (host := "") (Or.inl (own_h hw 73 rfl)) Via.refl e74 Fo76 e75_x0 (Or.inr ⟨(own_h hw 74 rfl), rfl, hnm⟩) (own_h hw 18 rfl) (ty := (.object "java/math/BigDecimal")) (by decide) (rfl) (rfl) (g := (own_frL m x0 sa sb fc zz sv dd 162 [(.ref zz), (.ref x0)])) rfl rfl (hb hby own_d4_162)
  have N78 := Fr.snoc X78 N74 g_x
  refine own_by (g' := (own_frL m x0 sa sb fc zz sv dd 165 [])) st78 ?_
  refine own_g (own_frL m x0 sa sb fc zz sv dd 168 [(.ref zz), (.ref x0)]) (fun _ q => XS.aloadN X78.here hx rfl (hb hby own_d4_165) rfl rfl (XS.aload X78.here hx rfl (hb hby own_d4_166) rfl rfl q)) ?_
  have e79_x0 := (e75_x0.wr W78)
  have x81_x0 := (Unt.wr W78 x77_x0)
  obtain ⟨vo80, Fo80⟩ := own_someF e79_x0 x81_x0 (Or.inr (own_h hw 76 rfl)) (own_h hw 18 rfl)
  obtain ⟨T82, h82, X82, e82, W82, st82⟩ := putF X78 hx hZ hown (host := "") (Or.inl (own_h hw 75 rfl)) Via.refl e78 Fo80 e79_x0 (Or.inr ⟨(own_h hw 76 rfl), rfl, hnm⟩) (own_h hw 18 rfl) (ty := (.object "java/math/BigDecimal")) (by decide) (rfl) (rfl) (g := (own_frL m x0 sa sb fc zz sv dd 168 [(.ref zz), (.ref x0)])) rfl rfl (hb hby own_d4_168)
  have N82 := Fr.snoc X82 N78 g_x
  refine own_by (g' := (own_frL m x0 sa sb fc zz sv dd 171 [])) st82 ?_
  refine own_g (own_frL m x0 sa sb fc zz sv dd 174 [(.int 0), (.ref x0)]) (fun _ q => XS.aloadN X82.here hx rfl (hb hby own_d4_171) rfl rfl (XS.iload X82.here hx rfl (hb hby own_d4_172) rfl q)) ?_
  have e83_x0 := (e79_x0.wr W82)
  have x85_x0 := (Unt.wr W82 x81_x0)
  obtain ⟨vo84, Fo84⟩ := own_someF e83_x0 x85_x0 (Or.inr (own_h hw 78 rfl)) (own_h hw 18 rfl)
  obtain ⟨T86, h86, X86, e86, W86, st86⟩ := putFN X82 hx hZ hown (own_h hw 77 rfl) Via.refl e82 Fo84 e83_x0 (Or.inr ⟨(own_h hw 78 rfl), rfl, hnm⟩) (own_h hw 18 rfl) (ty := .boolean) (v' := (.int 0)) (by decide) rfl (by decide) (g := (own_frL m x0 sa sb fc zz sv dd 174 [(.int 0), (.ref x0)])) rfl rfl (hb hby own_d4_174)
  have N86 := Fr.snoc X86 N82 g_x
  refine own_by (g' := (own_frL m x0 sa sb fc zz sv dd 177 [])) st86 ?_
  refine own_g (own_frL m x0 sa sb fc zz sv dd 180 [(.int 0), (.ref x0)]) (fun _ q => XS.aloadN X86.here hx rfl (hb hby own_d4_177) rfl rfl (XS.iload X86.here hx rfl (hb hby own_d4_178) rfl q)) ?_
  have e87_x0 := (e83_x0.wr W86)
  have x89_x0 := (Unt.wr W86 x85_x0)
  obtain ⟨vo88, Fo88⟩ := own_someF e87_x0 x89_x0 (Or.inr (own_h hw 80 rfl)) (own_h hw 18 rfl)
  obtain ⟨T90, h90, X90, e90, W90, st90⟩ := putFN X86 hx hZ hown (own_h hw 79 rfl) Via.refl e86 Fo88 e87_x0 (Or.inr ⟨(own_h hw 80 rfl), rfl, hnm⟩) (own_h hw 18 rfl) (ty := .boolean) (v' := (.int 0)) (by decide) rfl (by decide) (g := (own_frL m x0 sa sb fc zz sv dd 180 [(.int 0), (.ref x0)])) rfl rfl (hb hby own_d4_180)
  have N90 := Fr.snoc X90 N86 g_x
  refine own_by (g' := (own_frL m x0 sa sb fc zz sv dd 183 [])) st90 ?_
  refine own_g (own_frL m x0 sa sb fc zz sv dd 186 [(.int 0), (.ref x0)]) (fun _ q => XS.aloadN X90.here hx rfl (hb hby own_d4_183) rfl rfl (XS.iload X90.here hx rfl (hb hby own_d4_184) rfl q)) ?_
  have e91_x0 := (e87_x0.wr W90)
  have x93_x0 := (Unt.wr W90 x89_x0)
  obtain ⟨vo92, Fo92⟩ := own_someF e91_x0 x93_x0 (Or.inr (own_h hw 82 rfl)) (own_h hw 18 rfl)
  obtain ⟨T94, h94, X94, e94, W94, st94⟩ := putFN X90 hx hZ hown (own_h hw 81 rfl) Via.refl e90 Fo92 e91_x0 (Or.inr ⟨(own_h hw 82 rfl), rfl, hnm⟩) (own_h hw 18 rfl) (ty := .boolean) (v' := (.int 0)) (by decide) rfl (by decide) (g := (own_frL m x0 sa sb fc zz sv dd 186 [(.int 0), (.ref x0)])) rfl rfl (hb hby own_d4_186)
  have N94 := Fr.snoc X94 N90 g_x
  refine own_by (g' := (own_frL m x0 sa sb fc zz sv dd 189 [])) st94 ?_
  refine own_g (own_frL m x0 sa sb fc zz sv dd 192 [(.ref zz), (.ref x0)]) (fun _ q => XS.aloadN X94.here hx rfl (hb hby own_d4_189) rfl rfl (XS.aload X94.here hx rfl (hb hby own_d4_190) rfl rfl q)) ?_
  have e95_x0 := (e91_x0.wr W94)
  have x97_x0 := (Unt.wr W94 x93_x0)
  obtain ⟨vo96, Fo96⟩ := own_someF e95_x0 x97_x0 (Or.inr (own_h hw 84 rfl)) (own_h hw 18 rfl)
  obtain ⟨T98, h98, X98, e98, W98, st98⟩ := putF X94 hx hZ hown (host := "") (Or.inl (own_h hw 83 rfl)) Via.refl e94 Fo96 e95_x0 (Or.inr ⟨(own_h hw 84 rfl), rfl, hnm⟩) (own_h hw 18 rfl) (ty := (.object "java/math/BigDecimal")) (by decide) (rfl) (rfl) (g := (own_frL m x0 sa sb fc zz sv dd 192 [(.ref zz), (.ref x0)])) rfl rfl (hb hby own_d4_192)
  have N98 := Fr.snoc X98 N94 g_x
  refine own_by (g' := (own_frL m x0 sa sb fc zz sv dd 195 [])) st98 ?_
  refine own_g (own_frL m x0 sa sb fc zz sv dd 198 [(.ref zz), (.ref x0)]) (fun _ q => XS.aloadN X98.here hx rfl (hb hby own_d4_195) rfl rfl (XS.aload X98.here hx rfl (hb hby own_d4_196) rfl rfl q)) ?_
  have e99_x0 := (e95_x0.wr W98)
  have x101_x0 := (Unt.wr W98 x97_x0)
  obtain ⟨vo100, Fo100⟩ := own_someF e99_x0 x101_x0 (Or.inr (own_h hw 86 rfl)) (own_h hw 18 rfl)
  obtain ⟨T102, h102, X102, e102, W102, st102⟩ := putF X98 hx hZ hown (host := "") (Or.inl (own_h hw 85 rfl)) Via.refl e98 Fo100 e99_x0 (Or.inr ⟨(own_h hw 86 rfl), rfl, hnm⟩) (own_h hw 18 rfl) (ty := (.object "java/math/BigDecimal")) (by decide) (rfl) (rfl) (g := (own_frL m x0 sa sb fc zz sv dd 198 [(.ref zz), (.ref x0)])) rfl rfl (hb hby own_d4_198)
  have N102 := Fr.snoc X102 N98 g_x
  refine own_by (g' := (own_frL m x0 sa sb fc zz sv dd 201 [])) st102 ?_
  refine own_g (own_frL m x0 sa sb fc zz sv dd 204 [(.ref zz), (.ref x0)]) (fun _ q => XS.aloadN X102.here hx rfl (hb hby own_d4_201) rfl rfl (XS.aload X102.here hx rfl (hb hby own_d4_202) rfl rfl q)) ?_
  have e103_x0 := (e99_x0.wr W102)
  have x105_x0 := (Unt.wr W102 x101_x0)
  obtain ⟨vo104, Fo104⟩ := own_someF e103_x0 x105_x0 (Or.inr (own_h hw 88 rfl)) (own_h hw 18 rfl)
  obtain ⟨T106, h106, X106, e106, W106, st106⟩ := putF X102 hx hZ hown (host := "") (Or.inl (own_h hw 87 rfl)) Via.refl e102 Fo104 e103_x0 (Or.inr ⟨(own_h hw 88 rfl), rfl, hnm⟩) (own_h hw 18 rfl) (ty := (.object "java/math/BigDecimal")) (by decide) (rfl) (rfl) (g := (own_frL m x0 sa sb fc zz sv dd 204 [(.ref zz), (.ref x0)])) rfl rfl (hb hby own_d4_204)
  have N106 := Fr.snoc X106 N102 g_x
  refine own_by (g' := (own_frL m x0 sa sb fc zz sv dd 207 [])) st106 ?_
  refine own_g (own_frL m x0 sa sb fc zz sv dd 210 [(.ref zz), (.ref x0)]) (fun _ q => XS.aloadN X106.here hx rfl (hb hby own_d4_207) rfl rfl (XS.aload X106.here hx rfl (hb hby own_d4_208) rfl rfl q)) ?_
  have e107_x0 := (e103_x0.wr W106)
  have x109_x0 := (Unt.wr W106 x105_x0)
  obtain ⟨vo108, Fo108⟩ := own_someF e107_x0 x109_x0 (Or.inr (own_h hw 90 rfl)) (own_h hw 18 rfl)
  obtain ⟨T110, h110, X110, e110, W110, st110⟩ := putF X106 hx hZ hown (host := "") (Or.inl (own_h hw 89 rfl)) Via.refl e106 Fo108 e107_x0 (Or.inr ⟨(own_h hw 90 rfl), rfl, hnm⟩) (own_h hw 18 rfl) (ty := (.object "java/math/BigDecimal")) (by decide) (rfl) (rfl) (g := (own_frL m x0 sa sb fc zz sv dd 210 [(.ref zz), (.ref x0)])) rfl rfl (hb hby own_d4_210)
  have N110 := Fr.snoc X110 N106 g_x
  refine own_by (g' := (own_frL m x0 sa sb fc zz sv dd 213 [])) st110 ?_
  refine own_g (own_frL m x0 sa sb fc zz sv dd 216 [.null, (.ref x0)]) (fun _ q => XS.aloadN X110.here hx rfl (hb hby own_d4_213) rfl rfl (XS.aload X110.here hx rfl (hb hby own_d4_214) rfl rfl q)) ?_
  have e111_x0 := (e107_x0.wr W110)
  have x113_x0 := (Unt.wr W110 x109_x0)
  obtain ⟨vo112, Fo112⟩ := own_someF e111_x0 x113_x0 (Or.inr (own_h hw 92 rfl)) (own_h hw 18 rfl)
  obtain ⟨T114, h114, X114, e114, W114, st114⟩ := putF X110 hx hZ hown (host := "") (Or.inl (own_h hw 91 rfl)) Via.refl e110 Fo112 e111_x0 (Or.inr ⟨(own_h hw 92 rfl), rfl, hnm⟩) (own_h hw 18 rfl) (ty := (.object "java/time/LocalDate")) (by decide) (rfl) (rfl) (g := (own_frL m x0 sa sb fc zz sv dd 216 [.null, (.ref x0)])) rfl rfl (hb hby own_d4_216)
  have N114 := Fr.snoc X114 N110 g_x
  refine own_by (g' := (own_frL m x0 sa sb fc zz sv dd 219 [])) st114 ?_
  refine own_g (own_frL m x0 sa sb fc zz sv dd 222 [(.ref dd), (.ref x0)]) (fun _ q => XS.aloadN X114.here hx rfl (hb hby own_d4_219) rfl rfl (XS.aload X114.here hx rfl (hb hby own_d4_220) rfl rfl q)) ?_
  have e115_x0 := (e111_x0.wr W114)
  have x117_x0 := (Unt.wr W114 x113_x0)
  obtain ⟨vo116, Fo116⟩ := own_someF e115_x0 x117_x0 (Or.inr (own_h hw 94 rfl)) (own_h hw 18 rfl)
  obtain ⟨T118, h118, X118, e118, W118, st118⟩ := putF X114 hx hZ hown (host := "") (Or.inl (own_h hw 93 rfl)) Via.refl e114 Fo116 e115_x0 (Or.inr ⟨(own_h hw 94 rfl), rfl, hnm⟩) (own_h hw 18 rfl) (ty := (.object "java/time/LocalDate")) (by decide) (rfl) (rfl) (g := (own_frL m x0 sa sb fc zz sv dd 222 [(.ref dd), (.ref x0)])) rfl rfl (hb hby own_d4_222)
  have N118 := Fr.snoc X118 N114 g_x
  refine own_by (g' := (own_frL m x0 sa sb fc zz sv dd 225 [])) st118 ?_
  refine own_g (own_frL m x0 sa sb fc zz sv dd 228 [(.ref zz), (.ref x0)]) (fun _ q => XS.aloadN X118.here hx rfl (hb hby own_d4_225) rfl rfl (XS.aload X118.here hx rfl (hb hby own_d4_226) rfl rfl q)) ?_
  have e119_x0 := (e115_x0.wr W118)
  have x121_x0 := (Unt.wr W118 x117_x0)
  obtain ⟨vo120, Fo120⟩ := own_someF e119_x0 x121_x0 (Or.inr (own_h hw 96 rfl)) (own_h hw 18 rfl)
  obtain ⟨T122, h122, X122, e122, W122, st122⟩ := putF X118 hx hZ hown (host := "") (Or.inl (own_h hw 95 rfl)) Via.refl e118 Fo120 e119_x0 (Or.inr ⟨(own_h hw 96 rfl), rfl, hnm⟩) (own_h hw 18 rfl) (ty := (.object "java/math/BigDecimal")) (by decide) (rfl) (rfl) (g := (own_frL m x0 sa sb fc zz sv dd 228 [(.ref zz), (.ref x0)])) rfl rfl (hb hby own_d4_228)
  have N122 := Fr.snoc X122 N118 g_x
  refine own_by (g' := (own_frL m x0 sa sb fc zz sv dd 231 [])) st122 ?_
  refine own_g (own_frL m x0 sa sb fc zz sv dd 234 [(.ref zz), (.ref x0)]) (fun _ q => XS.aloadN X122.here hx rfl (hb hby own_d4_231) rfl rfl (XS.aload X122.here hx rfl (hb hby own_d4_232) rfl rfl q)) ?_
  have e123_x0 := (e119_x0.wr W122)
  have x125_x0 := (Unt.wr W122 x121_x0)
  obtain ⟨vo124, Fo124⟩ := own_someF e123_x0 x125_x0 (Or.inr (own_h hw 98 rfl)) (own_h hw 18 rfl)
  obtain ⟨T126, h126, X126, e126, W126, st126⟩ := putF X122 hx hZ hown (host := "") (Or.inl (own_h hw 97 rfl)) Via.refl e122 Fo124 e123_x0 (Or.inr ⟨(own_h hw 98 rfl), rfl, hnm⟩) (own_h hw 18 rfl) (ty := (.object "java/math/BigDecimal")) (by decide) (rfl) (rfl) (g := (own_frL m x0 sa sb fc zz sv dd 234 [(.ref zz), (.ref x0)])) rfl rfl (hb hby own_d4_234)
  have N126 := Fr.snoc X126 N122 g_x
  refine own_by (g' := (own_frL m x0 sa sb fc zz sv dd 237 [])) st126 ?_
  refine own_g (own_frL m x0 sa sb fc zz sv dd 240 [(.ref dd), (.ref x0)]) (fun _ q => XS.aloadN X126.here hx rfl (hb hby own_d4_237) rfl rfl (XS.aload X126.here hx rfl (hb hby own_d4_238) rfl rfl q)) ?_
  have e127_x0 := (e123_x0.wr W126)
  have x129_x0 := (Unt.wr W126 x125_x0)
  obtain ⟨vo128, Fo128⟩ := own_someF e127_x0 x129_x0 (Or.inr (own_h hw 100 rfl)) (own_h hw 18 rfl)
  obtain ⟨T130, h130, X130, e130, W130, st130⟩ := putF X126 hx hZ hown (host := "") (Or.inl (own_h hw 99 rfl)) Via.refl e126 Fo128 e127_x0 (Or.inr ⟨(own_h hw 100 rfl), rfl, hnm⟩) (own_h hw 18 rfl) (ty := (.object "java/time/LocalDate")) (by decide) (rfl) (rfl) (g := (own_frL m x0 sa sb fc zz sv dd 240 [(.ref dd), (.ref x0)])) rfl rfl (hb hby own_d4_240)
  have N130 := Fr.snoc X130 N126 g_x
  refine own_by (g' := (own_frL m x0 sa sb fc zz sv dd 243 [])) st130 ?_
  have k131_ := (((((((((((((((((((((k45_.wr W50 (Or.inl (List.mem_of_getElem? (i := 0) rfl))).wr W54 (Or.inl (List.mem_of_getElem? (i := 0) rfl))).wr W58 (Or.inl (List.mem_of_getElem? (i := 0) rfl))).wr W62 (Or.inl (List.mem_of_getElem? (i := 0) rfl))).wr W66 (Or.inl (List.mem_of_getElem? (i := 0) rfl))).wr W70 (Or.inl (List.mem_of_getElem? (i := 0) rfl))).wr W74 (Or.inl (List.mem_of_getElem? (i := 0) rfl))).wr W78 (Or.inl (List.mem_of_getElem? (i := 0) rfl))).wr W82 (Or.inl (List.mem_of_getElem? (i := 0) rfl))).wr W86 (Or.inl (List.mem_of_getElem? (i := 0) rfl))).wr W90 (Or.inl (List.mem_of_getElem? (i := 0) rfl))).wr W94 (Or.inl (List.mem_of_getElem? (i := 0) rfl))).wr W98 (Or.inl (List.mem_of_getElem? (i := 0) rfl))).wr W102 (Or.inl (List.mem_of_getElem? (i := 0) rfl))).wr W106 (Or.inl (List.mem_of_getElem? (i := 0) rfl))).wr W110 (Or.inl (List.mem_of_getElem? (i := 0) rfl))).wr W114 (Or.inl (List.mem_of_getElem? (i := 0) rfl))).wr W118 (Or.inl (List.mem_of_getElem? (i := 0) rfl))).wr W122 (Or.inl (List.mem_of_getElem? (i := 0) rfl))).wr W126 (Or.inl (List.mem_of_getElem? (i := 0) rfl))).wr W130 (Or.inl (List.mem_of_getElem? (i := 0) rfl)))
  have e132_x0 := (e127_x0.wr W130)
  have f133_x0 := ((((((((((((((((Fw66.other W70 (Or.inr (slot_ne (Or.inr (own_h hw 68 rfl)) (Or.inr (own_h hw 70 rfl)) (by decide) (t := (.object "java/time/LocalDate")) (t' := (.object "java/lang/String")) (by decide) (by decide)))).other W74 (Or.inr (slot_ne (Or.inr (own_h hw 68 rfl)) (Or.inr (own_h hw 72 rfl)) (by decide) (t := (.object "java/time/LocalDate")) (t' := (.object "java/time/LocalDate")) (by decide) (by decide)))).other W78 (Or.inr (slot_ne (Or.inr (own_h hw 68 rfl)) (Or.inr (own_h hw 74 rfl)) (by decide) (t := (.object "java/time/LocalDate")) (t' := (.object "java/math/BigDecimal")) (by decide) (by decide)))).other W82 (Or.inr (slot_ne (Or.inr (own_h hw 68 rfl)) (Or.inr (own_h hw 76 rfl)) (by decide) (t := (.object "java/time/LocalDate")) (t' := (.object "java/math/BigDecimal")) (by decide) (by decide)))).other W86 (Or.inr (slot_ne (Or.inr (own_h hw 68 rfl)) (Or.inr (own_h hw 78 rfl)) (by decide) (t := (.object "java/time/LocalDate")) (t' := .boolean) (by decide) (by decide)))).other W90 (Or.inr (slot_ne (Or.inr (own_h hw 68 rfl)) (Or.inr (own_h hw 80 rfl)) (by decide) (t := (.object "java/time/LocalDate")) (t' := .boolean) (by decide) (by decide)))).other W94 (Or.inr (slot_ne (Or.inr (own_h hw 68 rfl)) (Or.inr (own_h hw 82 rfl)) (by decide) (t := (.object "java/time/LocalDate")) (t' := .boolean) (by decide) (by decide)))).other W98 (Or.inr (slot_ne (Or.inr (own_h hw 68 rfl)) (Or.inr (own_h hw 84 rfl)) (by decide) (t := (.object "java/time/LocalDate")) (t' := (.object "java/math/BigDecimal")) (by decide) (by decide)))).other W102 (Or.inr (slot_ne (Or.inr (own_h hw 68 rfl)) (Or.inr (own_h hw 86 rfl)) (by decide) (t := (.object "java/time/LocalDate")) (t' := (.object "java/math/BigDecimal")) (by decide) (by decide)))).other W106 (Or.inr (slot_ne (Or.inr (own_h hw 68 rfl)) (Or.inr (own_h hw 88 rfl)) (by decide) (t := (.object "java/time/LocalDate")) (t' := (.object "java/math/BigDecimal")) (by decide) (by decide)))).other W110 (Or.inr (slot_ne (Or.inr (own_h hw 68 rfl)) (Or.inr (own_h hw 90 rfl)) (by decide) (t := (.object "java/time/LocalDate")) (t' := (.object "java/math/BigDecimal")) (by decide) (by decide)))).other W114 (Or.inr (slot_ne (Or.inr (own_h hw 68 rfl)) (Or.inr (own_h hw 92 rfl)) (by decide) (t := (.object "java/time/LocalDate")) (t' := (.object "java/time/LocalDate")) (by decide) (by decide)))).other W118 (Or.inr (slot_ne (Or.inr (own_h hw 68 rfl)) (Or.inr (own_h hw 94 rfl)) (by decide) (t := (.object "java/time/LocalDate")) (t' := (.object "java/time/LocalDate")) (by decide) (by decide)))).other W122 (Or.inr (slot_ne (Or.inr (own_h hw 68 rfl)) (Or.inr (own_h hw 96 rfl)) (by decide) (t := (.object "java/time/LocalDate")) (t' := (.object "java/math/BigDecimal")) (by decide) (by decide)))).other W126 (Or.inr (slot_ne (Or.inr (own_h hw 68 rfl)) (Or.inr (own_h hw 98 rfl)) (by decide) (t := (.object "java/time/LocalDate")) (t' := (.object "java/math/BigDecimal")) (by decide) (by decide)))).other W130 (Or.inr (slot_ne (Or.inr (own_h hw 68 rfl)) (Or.inr (own_h hw 100 rfl)) (by decide) (t := (.object "java/time/LocalDate")) (t' := (.object "java/time/LocalDate")) (by decide) (by decide))))
  have f134_x0 := ((((((((((((((((((Fw58.other W62 (Or.inr (slot_ne (Or.inr (own_h hw 64 rfl)) (Or.inr (own_h hw 66 rfl)) (by decide) (t := (.object "com/example/bahikhata/bahikhata/model/Facility")) (t' := (.object "java/math/BigDecimal")) (by decide) (by decide)))).other W66 (Or.inr (slot_ne (Or.inr (own_h hw 64 rfl)) (Or.inr (own_h hw 68 rfl)) (by decide) (t := (.object "com/example/bahikhata/bahikhata/model/Facility")) (t' := (.object "java/time/LocalDate")) (by decide) (by decide)))).other W70 (Or.inr (slot_ne (Or.inr (own_h hw 64 rfl)) (Or.inr (own_h hw 70 rfl)) (by decide) (t := (.object "com/example/bahikhata/bahikhata/model/Facility")) (t' := (.object "java/lang/String")) (by decide) (by decide)))).other W74 (Or.inr (slot_ne (Or.inr (own_h hw 64 rfl)) (Or.inr (own_h hw 72 rfl)) (by decide) (t := (.object "com/example/bahikhata/bahikhata/model/Facility")) (t' := (.object "java/time/LocalDate")) (by decide) (by decide)))).other W78 (Or.inr (slot_ne (Or.inr (own_h hw 64 rfl)) (Or.inr (own_h hw 74 rfl)) (by decide) (t := (.object "com/example/bahikhata/bahikhata/model/Facility")) (t' := (.object "java/math/BigDecimal")) (by decide) (by decide)))).other W82 (Or.inr (slot_ne (Or.inr (own_h hw 64 rfl)) (Or.inr (own_h hw 76 rfl)) (by decide) (t := (.object "com/example/bahikhata/bahikhata/model/Facility")) (t' := (.object "java/math/BigDecimal")) (by decide) (by decide)))).other W86 (Or.inr (slot_ne (Or.inr (own_h hw 64 rfl)) (Or.inr (own_h hw 78 rfl)) (by decide) (t := (.object "com/example/bahikhata/bahikhata/model/Facility")) (t' := .boolean) (by decide) (by decide)))).other W90 (Or.inr (slot_ne (Or.inr (own_h hw 64 rfl)) (Or.inr (own_h hw 80 rfl)) (by decide) (t := (.object "com/example/bahikhata/bahikhata/model/Facility")) (t' := .boolean) (by decide) (by decide)))).other W94 (Or.inr (slot_ne (Or.inr (own_h hw 64 rfl)) (Or.inr (own_h hw 82 rfl)) (by decide) (t := (.object "com/example/bahikhata/bahikhata/model/Facility")) (t' := .boolean) (by decide) (by decide)))).other W98 (Or.inr (slot_ne (Or.inr (own_h hw 64 rfl)) (Or.inr (own_h hw 84 rfl)) (by decide) (t := (.object "com/example/bahikhata/bahikhata/model/Facility")) (t' := (.object "java/math/BigDecimal")) (by decide) (by decide)))).other W102 (Or.inr (slot_ne (Or.inr (own_h hw 64 rfl)) (Or.inr (own_h hw 86 rfl)) (by decide) (t := (.object "com/example/bahikhata/bahikhata/model/Facility")) (t' := (.object "java/math/BigDecimal")) (by decide) (by decide)))).other W106 (Or.inr (slot_ne (Or.inr (own_h hw 64 rfl)) (Or.inr (own_h hw 88 rfl)) (by decide) (t := (.object "com/example/bahikhata/bahikhata/model/Facility")) (t' := (.object "java/math/BigDecimal")) (by decide) (by decide)))).other W110 (Or.inr (slot_ne (Or.inr (own_h hw 64 rfl)) (Or.inr (own_h hw 90 rfl)) (by decide) (t := (.object "com/example/bahikhata/bahikhata/model/Facility")) (t' := (.object "java/math/BigDecimal")) (by decide) (by decide)))).other W114 (Or.inr (slot_ne (Or.inr (own_h hw 64 rfl)) (Or.inr (own_h hw 92 rfl)) (by decide) (t := (.object "com/example/bahikhata/bahikhata/model/Facility")) (t' := (.object "java/time/LocalDate")) (by decide) (by decide)))).other W118 (Or.inr (slot_ne (Or.inr (own_h hw 64 rfl)) (Or.inr (own_h hw 94 rfl)) (by decide) (t := (.object "com/example/bahikhata/bahikhata/model/Facility")) (t' := (.object "java/time/LocalDate")) (by decide) (by decide)))).other W122 (Or.inr (slot_ne (Or.inr (own_h hw 64 rfl)) (Or.inr (own_h hw 96 rfl)) (by decide) (t := (.object "com/example/bahikhata/bahikhata/model/Facility")) (t' := (.object "java/math/BigDecimal")) (by decide) (by decide)))).other W126 (Or.inr (slot_ne (Or.inr (own_h hw 64 rfl)) (Or.inr (own_h hw 98 rfl)) (by decide) (t := (.object "com/example/bahikhata/bahikhata/model/Facility")) (t' := (.object "java/math/BigDecimal")) (by decide) (by decide)))).other W130 (Or.inr (slot_ne (Or.inr (own_h hw 64 rfl)) (Or.inr (own_h hw 100 rfl)) (by decide) (t := (.object "com/example/bahikhata/bahikhata/model/Facility")) (t' := (.object "java/time/LocalDate")) (by decide) (by decide))))
  have hk135_ := (Nat.le_trans (Nat.le_trans (Nat.le_trans (Nat.le_trans (Nat.le_trans (Nat.le_trans (Nat.le_trans (Nat.le_trans (Nat.le_trans (Nat.le_trans (Nat.le_trans (Nat.le_trans (Nat.le_trans (Nat.le_trans (Nat.le_trans (Nat.le_trans (Nat.le_trans (Nat.le_trans (Nat.le_trans (Nat.le_trans (Nat.le_trans hk44 (Keep.of_wr W50).1) (Keep.of_wr W54).1) (Keep.of_wr W58).1) (Keep.of_wr W62).1) (Keep.of_wr W66).1) (Keep.of_wr W70).1) (Keep.of_wr W74).1) (Keep.of_wr W78).1) (Keep.of_wr W82).1) (Keep.of_wr W86).1) (Keep.of_wr W90).1) (Keep.of_wr W94).1) (Keep.of_wr W98).1) (Keep.of_wr W102).1) (Keep.of_wr W106).1) (Keep.of_wr W110).1) (Keep.of_wr W114).1) (Keep.of_wr W118).1) (Keep.of_wr W122).1) (Keep.of_wr W126).1) (Keep.of_wr W130).1)
  exact own_endJ X130 hS (by rw [e130]; exact hk135_) hZ (own_Rs.sub RS44 (by decide)) (v := none) (fun _ => rfl) hlk (fun hr => X130.returnOut hx Bd.returns (hb hby own_d4_243) hr) (by rw [e130]; exact ⟨rfl, N130, k131_, e132_x0, f133_x0, f134_x0⟩) (by decide) (by decide)
theorem own_liBn_ef (m : MethodId) (x0 : Addr) (sa : Addr) (sb : Addr) (fc : Addr) (zz : Addr) (sv : Value) (dd : Addr) (hsv : sv.isRef = true) : entryFrame m #[(.ref x0), (.ref sa), (.ref sb), (.ref fc), (.ref zz), sv, .null, .null, (.ref zz), (.ref zz), (.int 0), (.int 0), (.int 0), (.ref zz), (.ref zz), (.ref zz), (.ref zz), .null, (.ref dd), (.ref zz), (.ref zz), (.ref dd)] 22 = mkF m 0 #[.val (.ref x0), .val (.ref sa), .val (.ref sb), .val (.ref fc), .val (.ref zz), .val sv, .val .null, .val .null, .val (.ref zz), .val (.ref zz), .val (.int 0), .val (.int 0), .val (.int 0), .val (.ref zz), .val (.ref zz), .val (.ref zz), .val (.ref zz), .val .null, .val (.ref dd), .val (.ref zz), .val (.ref zz), .val (.ref dd)] [] := by rcases ref_cases hsv with rfl | ⟨_, rfl⟩ <;>  first | (simp [entryFrame, mkF, argsToLocals, Value.category]; done) | rfl
def own_liBn_Q (Z : State) (x0 : Addr) (sa : Addr) (sb : Addr) (fc : Addr) (zz : Addr) (sv : Value) (dd : Addr) (h0 : Heap) (n0 : Nat) (v : Option Value) (h : Heap) (L : List Loc) : Prop := v = none ∧ Fr n0 L ∧ Keep h0 h [x0] ∧ Exa Z h x0 "com/example/bahikhata/bahikhata/model/Loan" ∧ Fld Z h x0 "com/example/bahikhata/bahikhata/model/Loan" "overdueSince" "Ljava/time/LocalDate;" sv ∧ Fld Z h x0 "com/example/bahikhata/bahikhata/model/Loan" "facility" "Lcom/example/bahikhata/bahikhata/model/Facility;" (.ref fc)
set_option maxRecDepth 65536 in
set_option maxHeartbeats 40000000 in
theorem own_liBn (l : Launch) (Z : State) (a0 : Array Value) (hw : ∀ d ∈ tables_1, d.before a0 Z = true) (ws : List Jvm.Cond) (x0 : Addr) (sa : Addr) (sb : Addr) (fc : Addr) (zz : Addr) (sv : Value) (dd : Addr) (h0 : Heap) (n0 : Nat) (Z0 : n0 ≤ h0.size) (hsv : sv.isRef = true) (E_x : Exa Z h0 x0 "com/example/bahikhata/bahikhata/model/Loan") (g_x : n0 ≤ x0) (U_x : Unt h0 x0) (E_f : Exa Z h0 fc "com/example/bahikhata/bahikhata/model/Facility") (R_f : Fld Z h0 fc "com/example/bahikhata/bahikhata/model/Facility" "runningAccount" "Z" (.int 0)) (n_fx : fc ≠ x0) :
    MetFree l own_y8 (head1 (Jvm.Cond.code own_y8 prog_53_method_1_code 22 none :: ws) (⟨2, 0, 0, 24⟩ : Room)) (fun aa U => aa = #[(.ref x0), (.ref sa), (.ref sb), (.ref fc), (.ref zz), sv, .null, .null, (.ref zz), (.ref zz), (.int 0), (.int 0), (.int 0), (.ref zz), (.ref zz), (.ref zz), (.ref zz), .null, (.ref dd), (.ref zz), (.ref zz), (.ref dd)] ∧ Z.Warmed39 U.vm ∧ U.heap = h0 ∧ own_Rs Z U.vm ([("com/example/bahikhata/bahikhata/model/Loan", 7), ("com/example/bahikhata/bahikhata/model/Loan", 15), ("com/example/bahikhata/bahikhata/model/Loan", 17), ("com/example/bahikhata/bahikhata/model/Loan", 19), ("com/example/bahikhata/bahikhata/model/Loan", 21), ("com/example/bahikhata/bahikhata/model/Loan", 23), ("com/example/bahikhata/bahikhata/model/Loan", 25), ("com/example/bahikhata/bahikhata/model/Loan", 27)] : List (String × Nat))) (fun _ _ _ _ _ => True) (fun _ U o U' => ∃ v L, o = .returned v ∧ own_liBn_Q Z x0 sa sb fc zz sv dd h0 n0 v U'.heap L ∧ own_Rs Z U'.vm ([("com/example/bahikhata/bahikhata/model/Loan", 7), ("com/example/bahikhata/bahikhata/model/Loan", 15), ("com/example/bahikhata/bahikhata/model/Loan", 17), ("com/example/bahikhata/bahikhata/model/Loan", 19), ("com/example/bahikhata/bahikhata/model/Loan", 21), ("com/example/bahikhata/bahikhata/model/Loan", 23), ("com/example/bahikhata/bahikhata/model/Loan", 25), ("com/example/bahikhata/bahikhata/model/Loan", 27)] : List (String × Nat)) ∧ ReturnedEndW U o U' L (⟨2, 0, 0, 24⟩ : Room).cells (⟨2, 0, 0, 24⟩ : Room).slots) := by
  refine MetFree.of_bodySF (plainFor_of_name own_pn_com_example_bahikhata_bahikhata_model_Loan) hisR ?_
  intro p e s m args below meth c s₁ Bd hml0 hP hK
  obtain ⟨rfl, hZ, hh, RS0⟩ := hP
  have hx := Bd.exec
  have hby := Bd.bytes
  have hml : c.maxLocals = 22 := hml0
  have hown : s.vm.findClass "com/example/bahikhata/bahikhata/model/Loan" = some m.cls := findClass_of_methodNamed Bd.named
  have hnm := (name_of_methodNamed Bd.named Bd.method).1
  have hlk := Bd.notSynchronized
  have X0 : Stand p l e (⟨2, 0, 0, 24⟩ : Room) (s.setVm s.vm) m #[(.ref x0), (.ref sa), (.ref sb), (.ref fc), (.ref zz), sv, .null, .null, (.ref zz), (.ref zz), (.int 0), (.int 0), (.int 0), (.ref zz), (.ref zz), (.ref zz), (.ref zz), .null, (.ref dd), (.ref zz), (.ref zz), (.ref dd)] below meth c s₁ [] 0 0 := Stand.of_body Bd
  have e0 : s₁.heap = h0 := by rw [← hh, Bd.state]; rfl
  have N0 := Fr.nil n0
  have hS : s.Since s.vm 0 := (State.WarmedH.refl s).since 0
  have hk0 : 0 ≤ h0.size := Nat.zero_le _
  have wS := own_wS hw
  refine own_startJ (K' := ([("com/example/bahikhata/bahikhata/model/Loan", 7), ("com/example/bahikhata/bahikhata/model/Loan", 15), ("com/example/bahikhata/bahikhata/model/Loan", 17), ("com/example/bahikhata/bahikhata/model/Loan", 19), ("com/example/bahikhata/bahikhata/model/Loan", 21), ("com/example/bahikhata/bahikhata/model/Loan", 23), ("com/example/bahikhata/bahikhata/model/Loan", 25), ("com/example/bahikhata/bahikhata/model/Loan", 27)] : List (String × Nat))) (Q := own_liBn_Q Z x0 sa sb fc zz sv dd h0 n0) (own_liBn_ef m x0 sa sb fc zz sv dd hsv) ?_
  refine own_g (own_frL m x0 sa sb fc zz sv dd 1 [(.ref x0)]) (fun _ q => XS.aloadN X0.here hx rfl (hb hby own_d4_0) rfl rfl q) ?_
  refine own_callI X0 hx hZ (y := own_y15) rfl hown (own_h hw 32 rfl) (own_h hw 33 rfl) (own_h hw 36 rfl) (own_h hw 35 rfl) (by decide) (own_rec l Z a0 hw [] x0 h0 n0 (Nat.le_trans Z0 (Keep.refl h0 [x0]).1) ) (by decide) (by decide) e0 (g := (own_frL m x0 sa sb fc zz sv dd 1 [(.ref x0)])) rfl (by rw [hml]; rfl) (argsL := []) (rest := []) (lenOf own_pd__28_29V rfl) rfl (W := 0) (by show 2 * 0 + _ ≤ _; exact Nat.le_of_eq rfl) (hb hby own_d4_1) rfl (by decide) (by decide) ?_
  rintro rv1 T1 L1 X1 ⟨rfl, Nq1, eh1⟩
  have N1 := Fr.app N0 Nq1
  refine own_g (own_frL m x0 sa sb fc zz sv dd 5 [(.ref sa)]) (fun _ q => XS.aloadN X1.here hx rfl (hb hby own_d4_4) rfl rfl q) ?_
  obtain ⟨a2, st2⟩ := own_ldcA X1 hx hZ hown (own_h hw 40 rfl) RS0 (by decide) (g := (own_frL m x0 sa sb fc zz sv dd 5 [(.ref sa)])) rfl (hb hby own_d4_5)
  refine own_by (g' := (own_frL m x0 sa sb fc zz sv dd 7 [(.ref a2), (.ref sa)])) st2 ?_
  refine own_callS X1 hx hZ (y := own_y17) hown (own_h hw 41 rfl) (own_h hw 42 rfl) (own_h hw 43 rfl) (own_h hw 44 rfl) (by decide) (own_rnn l Z a0 hw [] sa a2 h0 n0 (Nat.le_trans Z0 (Keep.refl h0 [x0]).1) ) (by decide) (by decide) eh1 (g := (own_frL m x0 sa sb fc zz sv dd 7 [(.ref a2), (.ref sa)])) rfl (by rw [hml]; rfl) (argsL := [(.ref sa), (.ref a2)]) (rest := []) (lenOf own_pd__28Ljava_2flang_2fObject_3bLjava_2flang_2fString_3b_29Ljava_2flang_2fObject_3b rfl) rfl (W := 0) (by show 2 * 0 + _ ≤ _; exact Nat.le_of_eq rfl) (hb hby own_d4_7) rfl (by decide) (by decide) ?_
  rintro rv3 T3 L3 X3 ⟨rfl, Nq3, eh3⟩
  have N3 := Fr.app N1 Nq3
  refine own_g (own_frL m x0 sa sb fc zz sv dd 12 [(.ref sb)]) (fun _ q => XS.pop X3.here hx rfl (hb hby own_d4_10) rfl rfl (XS.aloadN X3.here hx rfl (hb hby own_d4_11) rfl rfl q)) ?_
  obtain ⟨a4, st4⟩ := own_ldcA X3 hx hZ hown (own_h hw 45 rfl) RS0 (by decide) (g := (own_frL m x0 sa sb fc zz sv dd 12 [(.ref sb)])) rfl (hb hby own_d4_12)
  refine own_by (g' := (own_frL m x0 sa sb fc zz sv dd 14 [(.ref a4), (.ref sb)])) st4 ?_
  refine own_callS X3 hx hZ (y := own_y17) hown (own_h hw 41 rfl) (own_h hw 42 rfl) (own_h hw 43 rfl) (own_h hw 44 rfl) (by decide) (own_rnn l Z a0 hw [] sb a4 h0 n0 (Nat.le_trans Z0 (Keep.refl h0 [x0]).1) ) (by decide) (by decide) eh3 (g := (own_frL m x0 sa sb fc zz sv dd 14 [(.ref a4), (.ref sb)])) rfl (by rw [hml]; rfl) (argsL := [(.ref sb), (.ref a4)]) (rest := []) (lenOf own_pd__28Ljava_2flang_2fObject_3bLjava_2flang_2fString_3b_29Ljava_2flang_2fObject_3b rfl) rfl (W := 0) (by show 2 * 0 + _ ≤ _; exact Nat.le_of_eq rfl) (hb hby own_d4_14) rfl (by decide) (by decide) ?_
  rintro rv5 T5 L5 X5 ⟨rfl, Nq5, eh5⟩
  have N5 := Fr.app N3 Nq5
  refine own_g (own_frL m x0 sa sb fc zz sv dd 19 [(.ref fc)]) (fun _ q => XS.pop X5.here hx rfl (hb hby own_d4_17) rfl rfl (XS.aloadN X5.here hx rfl (hb hby own_d4_18) rfl rfl q)) ?_
  obtain ⟨a6, st6⟩ := own_ldcA X5 hx hZ hown (own_h hw 46 rfl) RS0 (by decide) (g := (own_frL m x0 sa sb fc zz sv dd 19 [(.ref fc)])) rfl (hb hby own_d4_19)
  refine own_by (g' := (own_frL m x0 sa sb fc zz sv dd 21 [(.ref a6), (.ref fc)])) st6 ?_
  refine own_callS X5 hx hZ (y := own_y17) hown (own_h hw 41 rfl) (own_h hw 42 rfl) (own_h hw 43 rfl) (own_h hw 44 rfl) (by decide) (own_rnn l Z a0 hw [] fc a6 h0 n0 (Nat.le_trans Z0 (Keep.refl h0 [x0]).1) ) (by decide) (by decide) eh5 (g := (own_frL m x0 sa sb fc zz sv dd 21 [(.ref a6), (.ref fc)])) rfl (by rw [hml]; rfl) (argsL := [(.ref fc), (.ref a6)]) (rest := []) (lenOf own_pd__28Ljava_2flang_2fObject_3bLjava_2flang_2fString_3b_29Ljava_2flang_2fObject_3b rfl) rfl (W := 0) (by show 2 * 0 + _ ≤ _; exact Nat.le_of_eq rfl) (hb hby own_d4_21) rfl (by decide) (by decide) ?_
  rintro rv7 T7 L7 X7 ⟨rfl, Nq7, eh7⟩
  have N7 := Fr.app N5 Nq7
  refine own_g (own_frL m x0 sa sb fc zz sv dd 27 [(.ref zz)]) (fun _ q => XS.pop X7.here hx rfl (hb hby own_d4_24) rfl rfl (XS.aload X7.here hx rfl (hb hby own_d4_25) rfl rfl q)) ?_
  obtain ⟨a8, st8⟩ := own_ldcA X7 hx hZ hown (own_h hw 47 rfl) RS0 (by decide) (g := (own_frL m x0 sa sb fc zz sv dd 27 [(.ref zz)])) rfl (hb hby own_d4_27)
  refine own_by (g' := (own_frL m x0 sa sb fc zz sv dd 29 [(.ref a8), (.ref zz)])) st8 ?_
  refine own_callS X7 hx hZ (y := own_y17) hown (own_h hw 41 rfl) (own_h hw 42 rfl) (own_h hw 43 rfl) (own_h hw 44 rfl) (by decide) (own_rnn l Z a0 hw [] zz a8 h0 n0 (Nat.le_trans Z0 (Keep.refl h0 [x0]).1) ) (by decide) (by decide) eh7 (g := (own_frL m x0 sa sb fc zz sv dd 29 [(.ref a8), (.ref zz)])) rfl (by rw [hml]; rfl) (argsL := [(.ref zz), (.ref a8)]) (rest := []) (lenOf own_pd__28Ljava_2flang_2fObject_3bLjava_2flang_2fString_3b_29Ljava_2flang_2fObject_3b rfl) rfl (W := 0) (by show 2 * 0 + _ ≤ _; exact Nat.le_of_eq rfl) (hb hby own_d4_29) rfl (by decide) (by decide) ?_
  rintro rv9 T9 L9 X9 ⟨rfl, Nq9, eh9⟩
  have N9 := Fr.app N7 Nq9
  refine own_g (own_frL m x0 sa sb fc zz sv dd 35 [(.ref zz)]) (fun _ q => XS.pop X9.here hx rfl (hb hby own_d4_32) rfl rfl (XS.aload X9.here hx rfl (hb hby own_d4_33) rfl rfl q)) ?_
  obtain ⟨a10, st10⟩ := own_ldcA X9 hx hZ hown (own_h hw 48 rfl) RS0 (by decide) (g := (own_frL m x0 sa sb fc zz sv dd 35 [(.ref zz)])) rfl (hb hby own_d4_35)
  refine own_by (g' := (own_frL m x0 sa sb fc zz sv dd 37 [(.ref a10), (.ref zz)])) st10 ?_
  refine own_callS X9 hx hZ (y := own_y17) hown (own_h hw 41 rfl) (own_h hw 42 rfl) (own_h hw 43 rfl) (own_h hw 44 rfl) (by decide) (own_rnn l Z a0 hw [] zz a10 h0 n0 (Nat.le_trans Z0 (Keep.refl h0 [x0]).1) ) (by decide) (by decide) eh9 (g := (own_frL m x0 sa sb fc zz sv dd 37 [(.ref a10), (.ref zz)])) rfl (by rw [hml]; rfl) (argsL := [(.ref zz), (.ref a10)]) (rest := []) (lenOf own_pd__28Ljava_2flang_2fObject_3bLjava_2flang_2fString_3b_29Ljava_2flang_2fObject_3b rfl) rfl (W := 0) (by show 2 * 0 + _ ≤ _; exact Nat.le_of_eq rfl) (hb hby own_d4_37) rfl (by decide) (by decide) ?_
  rintro rv11 T11 L11 X11 ⟨rfl, Nq11, eh11⟩
  have N11 := Fr.app N9 Nq11
  refine own_g (own_frL m x0 sa sb fc zz sv dd 43 [(.ref zz)]) (fun _ q => XS.pop X11.here hx rfl (hb hby own_d4_40) rfl rfl (XS.aload X11.here hx rfl (hb hby own_d4_41) rfl rfl q)) ?_
  obtain ⟨a12, st12⟩ := own_ldcA X11 hx hZ hown (own_h hw 49 rfl) RS0 (by decide) (g := (own_frL m x0 sa sb fc zz sv dd 43 [(.ref zz)])) rfl (hb hby own_d4_43)
  refine own_by (g' := (own_frL m x0 sa sb fc zz sv dd 45 [(.ref a12), (.ref zz)])) st12 ?_
  refine own_callS X11 hx hZ (y := own_y17) hown (own_h hw 41 rfl) (own_h hw 42 rfl) (own_h hw 43 rfl) (own_h hw 44 rfl) (by decide) (own_rnn l Z a0 hw [] zz a12 h0 n0 (Nat.le_trans Z0 (Keep.refl h0 [x0]).1) ) (by decide) (by decide) eh11 (g := (own_frL m x0 sa sb fc zz sv dd 45 [(.ref a12), (.ref zz)])) rfl (by rw [hml]; rfl) (argsL := [(.ref zz), (.ref a12)]) (rest := []) (lenOf own_pd__28Ljava_2flang_2fObject_3bLjava_2flang_2fString_3b_29Ljava_2flang_2fObject_3b rfl) rfl (W := 0) (by show 2 * 0 + _ ≤ _; exact Nat.le_of_eq rfl) (hb hby own_d4_45) rfl (by decide) (by decide) ?_
  rintro rv13 T13 L13 X13 ⟨rfl, Nq13, eh13⟩
  have N13 := Fr.app N11 Nq13
  refine own_g (own_frL m x0 sa sb fc zz sv dd 51 [(.ref zz)]) (fun _ q => XS.pop X13.here hx rfl (hb hby own_d4_48) rfl rfl (XS.aload X13.here hx rfl (hb hby own_d4_49) rfl rfl q)) ?_
  obtain ⟨a14, st14⟩ := own_ldcA X13 hx hZ hown (own_h hw 50 rfl) RS0 (by decide) (g := (own_frL m x0 sa sb fc zz sv dd 51 [(.ref zz)])) rfl (hb hby own_d4_51)
  refine own_by (g' := (own_frL m x0 sa sb fc zz sv dd 53 [(.ref a14), (.ref zz)])) st14 ?_
  refine own_callS X13 hx hZ (y := own_y17) hown (own_h hw 41 rfl) (own_h hw 42 rfl) (own_h hw 43 rfl) (own_h hw 44 rfl) (by decide) (own_rnn l Z a0 hw [] zz a14 h0 n0 (Nat.le_trans Z0 (Keep.refl h0 [x0]).1) ) (by decide) (by decide) eh13 (g := (own_frL m x0 sa sb fc zz sv dd 53 [(.ref a14), (.ref zz)])) rfl (by rw [hml]; rfl) (argsL := [(.ref zz), (.ref a14)]) (rest := []) (lenOf own_pd__28Ljava_2flang_2fObject_3bLjava_2flang_2fString_3b_29Ljava_2flang_2fObject_3b rfl) rfl (W := 0) (by show 2 * 0 + _ ≤ _; exact Nat.le_of_eq rfl) (hb hby own_d4_53) rfl (by decide) (by decide) ?_
  rintro rv15 T15 L15 X15 ⟨rfl, Nq15, eh15⟩
  have N15 := Fr.app N13 Nq15
  refine own_g (own_frL m x0 sa sb fc zz sv dd 59 [(.ref zz)]) (fun _ q => XS.pop X15.here hx rfl (hb hby own_d4_56) rfl rfl (XS.aload X15.here hx rfl (hb hby own_d4_57) rfl rfl q)) ?_
  obtain ⟨a16, st16⟩ := own_ldcA X15 hx hZ hown (own_h hw 51 rfl) RS0 (by decide) (g := (own_frL m x0 sa sb fc zz sv dd 59 [(.ref zz)])) rfl (hb hby own_d4_59)
  refine own_by (g' := (own_frL m x0 sa sb fc zz sv dd 61 [(.ref a16), (.ref zz)])) st16 ?_
  refine own_callS X15 hx hZ (y := own_y17) hown (own_h hw 41 rfl) (own_h hw 42 rfl) (own_h hw 43 rfl) (own_h hw 44 rfl) (by decide) (own_rnn l Z a0 hw [] zz a16 h0 n0 (Nat.le_trans Z0 (Keep.refl h0 [x0]).1) ) (by decide) (by decide) eh15 (g := (own_frL m x0 sa sb fc zz sv dd 61 [(.ref a16), (.ref zz)])) rfl (by rw [hml]; rfl) (argsL := [(.ref zz), (.ref a16)]) (rest := []) (lenOf own_pd__28Ljava_2flang_2fObject_3bLjava_2flang_2fString_3b_29Ljava_2flang_2fObject_3b rfl) rfl (W := 0) (by show 2 * 0 + _ ≤ _; exact Nat.le_of_eq rfl) (hb hby own_d4_61) rfl (by decide) (by decide) ?_
  rintro rv17 T17 L17 X17 ⟨rfl, Nq17, eh17⟩
  have N17 := Fr.app N15 Nq17
  refine own_g (own_frL m x0 sa sb fc zz sv dd 66 [(.ref fc)]) (fun _ q => XS.pop X17.here hx rfl (hb hby own_d4_64) rfl rfl (XS.aloadN X17.here hx rfl (hb hby own_d4_65) rfl rfl q)) ?_
  refine own_callV X17 hx hZ (y := own_y6) (z := own_y6) hown (own_h hw 52 rfl) (own_h hw 53 rfl) (own_nf (own_h hw 55 rfl)) (own_h hw 55 rfl) (own_h hw 54 rfl) (own_h hw 56 rfl) (own_h hw 8 rfl) (by decide) E_f (own_run l Z a0 hw [] fc _ h0 n0 (Nat.le_trans Z0 (Keep.refl h0 [x0]).1) R_f) (by decide) (by decide) eh17 (g := (own_frL m x0 sa sb fc zz sv dd 66 [(.ref fc)])) rfl (by rw [hml]; rfl) (argsL := []) (rest := []) (lenOf own_pd__28_29Z rfl) rfl (W := 0) (by show 2 * 0 + _ ≤ _; exact Nat.le_of_eq rfl) (hb hby own_d4_66) rfl (by decide) (by decide) ?_
  rintro rv18 T18 L18 X18 ⟨rfl, Nq18, eh18⟩
  have N18 := Fr.app N17 Nq18
  refine own_g (own_frL m x0 sa sb fc zz sv dd 122 [(.ref sa), (.ref x0)]) (fun _ q => XS.ifYes X18.here hx rfl (pc0 := 69) (pc' := 120) rfl (hb hby own_d4_69) rfl ((if0 _ _).trans (teq (by decide : (0 : Int32) = (0 : Int32))).1) (by decide) (by decide) (XS.aloadN X18.here hx rfl (hb hby own_d4_120) rfl rfl (XS.aloadN X18.here hx rfl (hb hby own_d4_121) rfl rfl q))) ?_
  obtain ⟨vo19, Fo19⟩ := own_someF E_x U_x (Or.inr (own_h hw 60 rfl)) (own_h hw 18 rfl)
  obtain ⟨T20, h20, X20, e20, W20, st20⟩ := putF X18 hx hZ hown (host := "") (Or.inl (own_h hw 59 rfl)) Via.refl eh18 Fo19 E_x (Or.inr ⟨(own_h hw 60 rfl), rfl, hnm⟩) (own_h hw 18 rfl) (ty := (.object "java/lang/String")) (by decide) (rfl) (rfl) (g := (own_frL m x0 sa sb fc zz sv dd 122 [(.ref sa), (.ref x0)])) rfl rfl (hb hby own_d4_122)
  have N20 := Fr.snoc X20 N18 g_x
  refine own_by (g' := (own_frL m x0 sa sb fc zz sv dd 125 [])) st20 ?_
  refine own_g (own_frL m x0 sa sb fc zz sv dd 127 [(.ref sb), (.ref x0)]) (fun _ q => XS.aloadN X20.here hx rfl (hb hby own_d4_125) rfl rfl (XS.aloadN X20.here hx rfl (hb hby own_d4_126) rfl rfl q)) ?_
  have e21_x0 := (E_x.wr W20)
  have x23_x0 := (Unt.wr W20 U_x)
  obtain ⟨vo22, Fo22⟩ := own_someF e21_x0 x23_x0 (Or.inr (own_h hw 62 rfl)) (own_h hw 18 rfl)
  obtain ⟨T24, h24, X24, e24, W24, st24⟩ := putF X20 hx hZ hown (host := "") (Or.inl (own_h hw 61 rfl)) Via.refl e20 Fo22 e21_x0 (Or.inr ⟨(own_h hw 62 rfl), rfl, hnm⟩) (own_h hw 18 rfl) (ty := (.object "java/lang/String")) (by decide) (rfl) (rfl) (g := (own_frL m x0 sa sb fc zz sv dd 127 [(.ref sb), (.ref x0)])) rfl rfl (hb hby own_d4_127)
  have N24 := Fr.snoc X24 N20 g_x
  refine own_by (g' := (own_frL m x0 sa sb fc zz sv dd 130 [])) st24 ?_
  refine own_g (own_frL m x0 sa sb fc zz sv dd 132 [(.ref fc), (.ref x0)]) (fun _ q => XS.aloadN X24.here hx rfl (hb hby own_d4_130) rfl rfl (XS.aloadN X24.here hx rfl (hb hby own_d4_131) rfl rfl q)) ?_
  have e25_x0 := (e21_x0.wr W24)
  have x27_x0 := (Unt.wr W24 x23_x0)
  obtain ⟨vo26, Fo26⟩ := own_someF e25_x0 x27_x0 (Or.inr (own_h hw 64 rfl)) (own_h hw 18 rfl)
  obtain ⟨T28, h28, X28, e28, W28, st28⟩ := putF X24 hx hZ hown (host := "") (Or.inl (own_h hw 63 rfl)) Via.refl e24 Fo26 e25_x0 (Or.inr ⟨(own_h hw 64 rfl), rfl, hnm⟩) (own_h hw 18 rfl) (ty := (.object "com/example/bahikhata/bahikhata/model/Facility")) (by decide) (rfl) (rfl) (g := (own_frL m x0 sa sb fc zz sv dd 132 [(.ref fc), (.ref x0)])) rfl rfl (hb hby own_d4_132)
  have Fw28 := Fo26.same W28
  have N28 := Fr.snoc X28 N24 g_x
  refine own_by (g' := (own_frL m x0 sa sb fc zz sv dd 135 [])) st28 ?_
  refine own_g (own_frL m x0 sa sb fc zz sv dd 138 [(.ref zz), (.ref x0)]) (fun _ q => XS.aloadN X28.here hx rfl (hb hby own_d4_135) rfl rfl (XS.aload X28.here hx rfl (hb hby own_d4_136) rfl rfl q)) ?_
  have e29_x0 := (e25_x0.wr W28)
  have x31_x0 := (Unt.wr W28 x27_x0)
  obtain ⟨vo30, Fo30⟩ := own_someF e29_x0 x31_x0 (Or.inr (own_h hw 66 rfl)) (own_h hw 18 rfl)
  obtain ⟨T32, h32, X32, e32, W32, st32⟩ := putF X28 hx hZ hown (host := "") (Or.inl (own_h hw 65 rfl)) Via.refl e28 Fo30 e29_x0 (Or.inr ⟨(own_h hw 66 rfl), rfl, hnm⟩) (own_h hw 18 rfl) (ty := (.object "java/math/BigDecimal")) (by decide) (rfl) (rfl) (g := (own_frL m x0 sa sb fc zz sv dd 138 [(.ref zz), (.ref x0)])) rfl rfl (hb hby own_d4_138)
  have N32 := Fr.snoc X32 N28 g_x
  refine own_by (g' := (own_frL m x0 sa sb fc zz sv dd 141 [])) st32 ?_
  refine own_g (own_frL m x0 sa sb fc zz sv dd 144 [sv, (.ref x0)]) (fun _ q => XS.aloadN X32.here hx rfl (hb hby own_d4_141) rfl rfl (XS.aload X32.here hx rfl (hb hby own_d4_142) rfl hsv q)) ?_
  have e33_x0 := (e29_x0.wr W32)
  have x35_x0 := (Unt.wr W32 x31_x0)
  obtain ⟨vo34, Fo34⟩ := own_someF e33_x0 x35_x0 (Or.inr (own_h hw 68 rfl)) (own_h hw 18 rfl)
  obtain ⟨T36, h36, X36, e36, W36, st36⟩ := putF X32 hx hZ hown (host := "") (Or.inl (own_h hw 67 rfl)) Via.refl e32 Fo34 e33_x0 (Or.inr ⟨(own_h hw 68 rfl), rfl, hnm⟩) (own_h hw 18 rfl) (ty := (.object "java/time/LocalDate")) (by decide) (own_narR rfl) (own_fitsR rfl hsv) (g := (own_frL m x0 sa sb fc zz sv dd 144 [sv, (.ref x0)])) rfl rfl (hb hby own_d4_144)
  have Fw36 := Fo34.same W36
  have N36 := Fr.snoc X36 N32 g_x
  refine own_by (g' := (own_frL m x0 sa sb fc zz sv dd 147 [])) st36 ?_
  refine own_g (own_frL m x0 sa sb fc zz sv dd 150 [.null, (.ref x0)]) (fun _ q => XS.aloadN X36.here hx rfl (hb hby own_d4_147) rfl rfl (XS.aload X36.here hx rfl (hb hby own_d4_148) rfl rfl q)) ?_
  have e37_x0 := (e33_x0.wr W36)
  have x39_x0 := (Unt.wr W36 x35_x0)
  obtain ⟨vo38, Fo38⟩ := own_someF e37_x0 x39_x0 (Or.inr (own_h hw 70 rfl)) (own_h hw 18 rfl)
  obtain ⟨T40, h40, X40, e40, W40, st40⟩ := putF X36 hx hZ hown (host := "") (Or.inl (own_h hw 69 rfl)) Via.refl e36 Fo38 e37_x0 (Or.inr ⟨(own_h hw 70 rfl), rfl, hnm⟩) (own_h hw 18 rfl) (ty := (.object "java/lang/String")) (by decide) (rfl) (rfl) (g := (own_frL m x0 sa sb fc zz sv dd 150 [.null, (.ref x0)])) rfl rfl (hb hby own_d4_150)
  have N40 := Fr.snoc X40 N36 g_x
  refine own_by (g' := (own_frL m x0 sa sb fc zz sv dd 153 [])) st40 ?_
  refine own_g (own_frL m x0 sa sb fc zz sv dd 156 [.null, (.ref x0)]) (fun _ q => XS.aloadN X40.here hx rfl (hb hby own_d4_153) rfl rfl (XS.aload X40.here hx rfl (hb hby own_d4_154) rfl rfl q)) ?_
  have e41_x0 := (e37_x0.wr W40)
  have x43_x0 := (Unt.wr W40 x39_x0)
  obtain ⟨vo42, Fo42⟩ := own_someF e41_x0 x43_x0 (Or.inr (own_h hw 72 rfl)) (own_h hw 18 rfl)
  obtain ⟨T44, h44, X44, e44, W44, st44⟩ := putF X40 hx hZ hown (host := "") (Or.inl (own_h hw 71 rfl)) Via.refl e40 Fo42 e41_x0 (Or.inr ⟨(own_h hw 72 rfl), rfl, hnm⟩) (own_h hw 18 rfl) (ty := (.object "java/time/LocalDate")) (by decide) (rfl) (rfl) (g := (own_frL m x0 sa sb fc zz sv dd 156 [.null, (.ref x0)])) rfl rfl (hb hby own_d4_156)
  have N44 := Fr.snoc X44 N40 g_x
  refine own_by (g' := (own_frL m x0 sa sb fc zz sv dd 159 [])) st44 ?_
  refine own_g (own_frL m x0 sa sb fc zz sv dd 162 [(.ref zz), (.ref x0)]) (fun _ q => XS.aloadN X44.here hx rfl (hb hby own_d4_159) rfl rfl (XS.aload X44.here hx rfl (hb hby own_d4_160) rfl rfl q)) ?_
  have e45_x0 := (e41_x0.wr W44)
  have x47_x0 := (Unt.wr W44 x43_x0)
  obtain ⟨vo46, Fo46⟩ := own_someF e45_x0 x47_x0 (Or.inr (own_h hw 74 rfl)) (own_h hw 18 rfl)
  obtain ⟨T48, h48, X48, e48, W48, st48⟩ := putF X44 hx hZ hown (host := "") (Or.inl (own_h hw 73 rfl)) Via.refl e44 Fo46 e45_x0 (Or.inr ⟨(own_h hw 74 rfl), rfl, hnm⟩) (own_h hw 18 rfl) (ty := (.object "java/math/BigDecimal")) (by decide) (rfl) (rfl) (g := (own_frL m x0 sa sb fc zz sv dd 162 [(.ref zz), (.ref x0)])) rfl rfl (hb hby own_d4_162)
  have N48 := Fr.snoc X48 N44 g_x
  refine own_by (g' := (own_frL m x0 sa sb fc zz sv dd 165 [])) st48 ?_
  refine own_g (own_frL m x0 sa sb fc zz sv dd 168 [(.ref zz), (.ref x0)]) (fun _ q => XS.aloadN X48.here hx rfl (hb hby own_d4_165) rfl rfl (XS.aload X48.here hx rfl (hb hby own_d4_166) rfl rfl q)) ?_
  have e49_x0 := (e45_x0.wr W48)
  have x51_x0 := (Unt.wr W48 x47_x0)
  obtain ⟨vo50, Fo50⟩ := own_someF e49_x0 x51_x0 (Or.inr (own_h hw 76 rfl)) (own_h hw 18 rfl)
  obtain ⟨T52, h52, X52, e52, W52, st52⟩ := putF X48 hx hZ hown (host := "") (Or.inl (own_h hw 75 rfl)) Via.refl e48 Fo50 e49_x0 (Or.inr ⟨(own_h hw 76 rfl), rfl, hnm⟩) (own_h hw 18 rfl) (ty := (.object "java/math/BigDecimal")) (by decide) (rfl) (rfl) (g := (own_frL m x0 sa sb fc zz sv dd 168 [(.ref zz), (.ref x0)])) rfl rfl (hb hby own_d4_168)
  have N52 := Fr.snoc X52 N48 g_x
  refine own_by (g' := (own_frL m x0 sa sb fc zz sv dd 171 [])) st52 ?_
  refine own_g (own_frL m x0 sa sb fc zz sv dd 174 [(.int 0), (.ref x0)]) (fun _ q => XS.aloadN X52.here hx rfl (hb hby own_d4_171) rfl rfl (XS.iload X52.here hx rfl (hb hby own_d4_172) rfl q)) ?_
  have e53_x0 := (e49_x0.wr W52)
  have x55_x0 := (Unt.wr W52 x51_x0)
  obtain ⟨vo54, Fo54⟩ := own_someF e53_x0 x55_x0 (Or.inr (own_h hw 78 rfl)) (own_h hw 18 rfl)
  obtain ⟨T56, h56, X56, e56, W56, st56⟩ := putFN X52 hx hZ hown (own_h hw 77 rfl) Via.refl e52 Fo54 e53_x0 (Or.inr ⟨(own_h hw 78 rfl), rfl, hnm⟩) (own_h hw 18 rfl) (ty := .boolean) (v' := (.int 0)) (by decide) rfl (by decide) (g := (own_frL m x0 sa sb fc zz sv dd 174 [(.int 0), (.ref x0)])) rfl rfl (hb hby own_d4_174)
  have N56 := Fr.snoc X56 N52 g_x
  refine own_by (g' := (own_frL m x0 sa sb fc zz sv dd 177 [])) st56 ?_
  refine own_g (own_frL m x0 sa sb fc zz sv dd 180 [(.int 0), (.ref x0)]) (fun _ q => XS.aloadN X56.here hx rfl (hb hby own_d4_177) rfl rfl (XS.iload X56.here hx rfl (hb hby own_d4_178) rfl q)) ?_
  have e57_x0 := (e53_x0.wr W56)
  have x59_x0 := (Unt.wr W56 x55_x0)
  obtain ⟨vo58, Fo58⟩ := own_someF e57_x0 x59_x0 (Or.inr (own_h hw 80 rfl)) (own_h hw 18 rfl)
  obtain ⟨T60, h60, X60, e60, W60, st60⟩ := putFN X56 hx hZ hown (own_h hw 79 rfl) Via.refl e56 Fo58 e57_x0 (Or.inr ⟨(own_h hw 80 rfl), rfl, hnm⟩) (own_h hw 18 rfl) (ty := .boolean) (v' := (.int 0)) (by decide) rfl (by decide) (g := (own_frL m x0 sa sb fc zz sv dd 180 [(.int 0), (.ref x0)])) rfl rfl (hb hby own_d4_180)
  have N60 := Fr.snoc X60 N56 g_x
  refine own_by (g' := (own_frL m x0 sa sb fc zz sv dd 183 [])) st60 ?_
  refine own_g (own_frL m x0 sa sb fc zz sv dd 186 [(.int 0), (.ref x0)]) (fun _ q => XS.aloadN X60.here hx rfl (hb hby own_d4_183) rfl rfl (XS.iload X60.here hx rfl (hb hby own_d4_184) rfl q)) ?_
  have e61_x0 := (e57_x0.wr W60)
  have x63_x0 := (Unt.wr W60 x59_x0)
  obtain ⟨vo62, Fo62⟩ := own_someF e61_x0 x63_x0 (Or.inr (own_h hw 82 rfl)) (own_h hw 18 rfl)
  obtain ⟨T64, h64, X64, e64, W64, st64⟩ := putFN X60 hx hZ hown (own_h hw 81 rfl) Via.refl e60 Fo62 e61_x0 (Or.inr ⟨(own_h hw 82 rfl), rfl, hnm⟩) (own_h hw 18 rfl) (ty := .boolean) (v' := (.int 0)) (by decide) rfl (by decide) (g := (own_frL m x0 sa sb fc zz sv dd 186 [(.int 0), (.ref x0)])) rfl rfl (hb hby own_d4_186)
  have N64 := Fr.snoc X64 N60 g_x
  refine own_by (g' := (own_frL m x0 sa sb fc zz sv dd 189 [])) st64 ?_
  refine own_g (own_frL m x0 sa sb fc zz sv dd 192 [(.ref zz), (.ref x0)]) (fun _ q => XS.aloadN X64.here hx rfl (hb hby own_d4_189) rfl rfl (XS.aload X64.here hx rfl (hb hby own_d4_190) rfl rfl q)) ?_
  have e65_x0 := (e61_x0.wr W64)
  have x67_x0 := (Unt.wr W64 x63_x0)
  obtain ⟨vo66, Fo66⟩ := own_someF e65_x0 x67_x0 (Or.inr (own_h hw 84 rfl)) (own_h hw 18 rfl)
  obtain ⟨T68, h68, X68, e68, W68, st68⟩ := putF X64 hx hZ hown (host := "") (Or.inl (own_h hw 83 rfl)) Via.refl e64 Fo66 e65_x0 (Or.inr ⟨(own_h hw 84 rfl), rfl, hnm⟩) (own_h hw 18 rfl) (ty := (.object "java/math/BigDecimal")) (by decide) (rfl) (rfl) (g := (own_frL m x0 sa sb fc zz sv dd 192 [(.ref zz), (.ref x0)])) rfl rfl (hb hby own_d4_192)
  have N68 := Fr.snoc X68 N64 g_x
  refine own_by (g' := (own_frL m x0 sa sb fc zz sv dd 195 [])) st68 ?_
  refine own_g (own_frL m x0 sa sb fc zz sv dd 198 [(.ref zz), (.ref x0)]) (fun _ q => XS.aloadN X68.here hx rfl (hb hby own_d4_195) rfl rfl (XS.aload X68.here hx rfl (hb hby own_d4_196) rfl rfl q)) ?_
  have e69_x0 := (e65_x0.wr W68)
  have x71_x0 := (Unt.wr W68 x67_x0)
  obtain ⟨vo70, Fo70⟩ := own_someF e69_x0 x71_x0 (Or.inr (own_h hw 86 rfl)) (own_h hw 18 rfl)
  obtain ⟨T72, h72, X72, e72, W72, st72⟩ := putF X68 hx hZ hown (host := "") (Or.inl (own_h hw 85 rfl)) Via.refl e68 Fo70 e69_x0 (Or.inr ⟨(own_h hw 86 rfl), rfl, hnm⟩) (own_h hw 18 rfl) (ty := (.object "java/math/BigDecimal")) (by decide) (rfl) (rfl) (g := (own_frL m x0 sa sb fc zz sv dd 198 [(.ref zz), (.ref x0)])) rfl rfl (hb hby own_d4_198)
  have N72 := Fr.snoc X72 N68 g_x
  refine own_by (g' := (own_frL m x0 sa sb fc zz sv dd 201 [])) st72 ?_
  refine own_g (own_frL m x0 sa sb fc zz sv dd 204 [(.ref zz), (.ref x0)]) (fun _ q => XS.aloadN X72.here hx rfl (hb hby own_d4_201) rfl rfl (XS.aload X72.here hx rfl (hb hby own_d4_202) rfl rfl q)) ?_
  have e73_x0 := (e69_x0.wr W72)
  have x75_x0 := (Unt.wr W72 x71_x0)
  obtain ⟨vo74, Fo74⟩ := own_someF e73_x0 x75_x0 (Or.inr (own_h hw 88 rfl)) (own_h hw 18 rfl)
  obtain ⟨T76, h76, X76, e76, W76, st76⟩ := putF X72 hx hZ hown (host := "") (Or.inl (own_h hw 87 rfl)) Via.refl e72 Fo74 e73_x0 (Or.inr ⟨(own_h hw 88 rfl), rfl, hnm⟩) (own_h hw 18 rfl) (ty := (.object "java/math/BigDecimal")) (by decide) (rfl) (rfl) (g := (own_frL m x0 sa sb fc zz sv dd 204 [(.ref zz), (.ref x0)])) rfl rfl (hb hby own_d4_204)
  have N76 := Fr.snoc X76 N72 g_x
  refine own_by (g' := (own_frL m x0 sa sb fc zz sv dd 207 [])) st76 ?_
  refine own_g (own_frL m x0 sa sb fc zz sv dd 210 [(.ref zz), (.ref x0)]) (fun _ q => XS.aloadN X76.here hx rfl (hb hby own_d4_207) rfl rfl (XS.aload X76.here hx rfl (hb hby own_d4_208) rfl rfl q)) ?_
  have e77_x0 := (e73_x0.wr W76)
  have x79_x0 := (Unt.wr W76 x75_x0)
  obtain ⟨vo78, Fo78⟩ := own_someF e77_x0 x79_x0 (Or.inr (own_h hw 90 rfl)) (own_h hw 18 rfl)
  obtain ⟨T80, h80, X80, e80, W80, st80⟩ := putF X76 hx hZ hown (host := "") (Or.inl (own_h hw 89 rfl)) Via.refl e76 Fo78 e77_x0 (Or.inr ⟨(own_h hw 90 rfl), rfl, hnm⟩) (own_h hw 18 rfl) (ty := (.object "java/math/BigDecimal")) (by decide) (rfl) (rfl) (g := (own_frL m x0 sa sb fc zz sv dd 210 [(.ref zz), (.ref x0)])) rfl rfl (hb hby own_d4_210)
  have N80 := Fr.snoc X80 N76 g_x
  refine own_by (g' := (own_frL m x0 sa sb fc zz sv dd 213 [])) st80 ?_
  refine own_g (own_frL m x0 sa sb fc zz sv dd 216 [.null, (.ref x0)]) (fun _ q => XS.aloadN X80.here hx rfl (hb hby own_d4_213) rfl rfl (XS.aload X80.here hx rfl (hb hby own_d4_214) rfl rfl q)) ?_
  have e81_x0 := (e77_x0.wr W80)
  have x83_x0 := (Unt.wr W80 x79_x0)
  obtain ⟨vo82, Fo82⟩ := own_someF e81_x0 x83_x0 (Or.inr (own_h hw 92 rfl)) (own_h hw 18 rfl)
  obtain ⟨T84, h84, X84, e84, W84, st84⟩ := putF X80 hx hZ hown (host := "") (Or.inl (own_h hw 91 rfl)) Via.refl e80 Fo82 e81_x0 (Or.inr ⟨(own_h hw 92 rfl), rfl, hnm⟩) (own_h hw 18 rfl) (ty := (.object "java/time/LocalDate")) (by decide) (rfl) (rfl) (g := (own_frL m x0 sa sb fc zz sv dd 216 [.null, (.ref x0)])) rfl rfl (hb hby own_d4_216)
  have N84 := Fr.snoc X84 N80 g_x
  refine own_by (g' := (own_frL m x0 sa sb fc zz sv dd 219 [])) st84 ?_
  refine own_g (own_frL m x0 sa sb fc zz sv dd 222 [(.ref dd), (.ref x0)]) (fun _ q => XS.aloadN X84.here hx rfl (hb hby own_d4_219) rfl rfl (XS.aload X84.here hx rfl (hb hby own_d4_220) rfl rfl q)) ?_
  have e85_x0 := (e81_x0.wr W84)
  have x87_x0 := (Unt.wr W84 x83_x0)
  obtain ⟨vo86, Fo86⟩ := own_someF e85_x0 x87_x0 (Or.inr (own_h hw 94 rfl)) (own_h hw 18 rfl)
  obtain ⟨T88, h88, X88, e88, W88, st88⟩ := putF X84 hx hZ hown (host := "") (Or.inl (own_h hw 93 rfl)) Via.refl e84 Fo86 e85_x0 (Or.inr ⟨(own_h hw 94 rfl), rfl, hnm⟩) (own_h hw 18 rfl) (ty := (.object "java/time/LocalDate")) (by decide) (rfl) (rfl) (g := (own_frL m x0 sa sb fc zz sv dd 222 [(.ref dd), (.ref x0)])) rfl rfl (hb hby own_d4_222)
  have N88 := Fr.snoc X88 N84 g_x
  refine own_by (g' := (own_frL m x0 sa sb fc zz sv dd 225 [])) st88 ?_
  refine own_g (own_frL m x0 sa sb fc zz sv dd 228 [(.ref zz), (.ref x0)]) (fun _ q => XS.aloadN X88.here hx rfl (hb hby own_d4_225) rfl rfl (XS.aload X88.here hx rfl (hb hby own_d4_226) rfl rfl q)) ?_
  have e89_x0 := (e85_x0.wr W88)
  have x91_x0 := (Unt.wr W88 x87_x0)
  obtain ⟨vo90, Fo90⟩ := own_someF e89_x0 x91_x0 (Or.inr (own_h hw 96 rfl)) (own_h hw 18 rfl)
  obtain ⟨T92, h92, X92, e92, W92, st92⟩ := putF X88 hx hZ hown (host := "") (Or.inl (own_h hw 95 rfl)) Via.refl e88 Fo90 e89_x0 (Or.inr ⟨(own_h hw 96 rfl), rfl, hnm⟩) (own_h hw 18 rfl) (ty := (.object "java/math/BigDecimal")) (by decide) (rfl) (rfl) (g := (own_frL m x0 sa sb fc zz sv dd 228 [(.ref zz), (.ref x0)])) rfl rfl (hb hby own_d4_228)
  have N92 := Fr.snoc X92 N88 g_x
  refine own_by (g' := (own_frL m x0 sa sb fc zz sv dd 231 [])) st92 ?_
  refine own_g (own_frL m x0 sa sb fc zz sv dd 234 [(.ref zz), (.ref x0)]) (fun _ q => XS.aloadN X92.here hx rfl (hb hby own_d4_231) rfl rfl (XS.aload X92.here hx rfl (hb hby own_d4_232) rfl rfl q)) ?_
  have e93_x0 := (e89_x0.wr W92)
  have x95_x0 := (Unt.wr W92 x91_x0)
  obtain ⟨vo94, Fo94⟩ := own_someF e93_x0 x95_x0 (Or.inr (own_h hw 98 rfl)) (own_h hw 18 rfl)
  obtain ⟨T96, h96, X96, e96, W96, st96⟩ := putF X92 hx hZ hown (host := "") (Or.inl (own_h hw 97 rfl)) Via.refl e92 Fo94 e93_x0 (Or.inr ⟨(own_h hw 98 rfl), rfl, hnm⟩) (own_h hw 18 rfl) (ty := (.object "java/math/BigDecimal")) (by decide) (rfl) (rfl) (g := (own_frL m x0 sa sb fc zz sv dd 234 [(.ref zz), (.ref x0)])) rfl rfl (hb hby own_d4_234)
  have N96 := Fr.snoc X96 N92 g_x
  refine own_by (g' := (own_frL m x0 sa sb fc zz sv dd 237 [])) st96 ?_
  refine own_g (own_frL m x0 sa sb fc zz sv dd 240 [(.ref dd), (.ref x0)]) (fun _ q => XS.aloadN X96.here hx rfl (hb hby own_d4_237) rfl rfl (XS.aload X96.here hx rfl (hb hby own_d4_238) rfl rfl q)) ?_
  have e97_x0 := (e93_x0.wr W96)
  have x99_x0 := (Unt.wr W96 x95_x0)
  obtain ⟨vo98, Fo98⟩ := own_someF e97_x0 x99_x0 (Or.inr (own_h hw 100 rfl)) (own_h hw 18 rfl)
  obtain ⟨T100, h100, X100, e100, W100, st100⟩ := putF X96 hx hZ hown (host := "") (Or.inl (own_h hw 99 rfl)) Via.refl e96 Fo98 e97_x0 (Or.inr ⟨(own_h hw 100 rfl), rfl, hnm⟩) (own_h hw 18 rfl) (ty := (.object "java/time/LocalDate")) (by decide) (rfl) (rfl) (g := (own_frL m x0 sa sb fc zz sv dd 240 [(.ref dd), (.ref x0)])) rfl rfl (hb hby own_d4_240)
  have N100 := Fr.snoc X100 N96 g_x
  refine own_by (g' := (own_frL m x0 sa sb fc zz sv dd 243 [])) st100 ?_
  have k101_ := ((((((((((((((((((((((Keep.refl h0 [x0]).wr W20 (Or.inl (List.mem_of_getElem? (i := 0) rfl))).wr W24 (Or.inl (List.mem_of_getElem? (i := 0) rfl))).wr W28 (Or.inl (List.mem_of_getElem? (i := 0) rfl))).wr W32 (Or.inl (List.mem_of_getElem? (i := 0) rfl))).wr W36 (Or.inl (List.mem_of_getElem? (i := 0) rfl))).wr W40 (Or.inl (List.mem_of_getElem? (i := 0) rfl))).wr W44 (Or.inl (List.mem_of_getElem? (i := 0) rfl))).wr W48 (Or.inl (List.mem_of_getElem? (i := 0) rfl))).wr W52 (Or.inl (List.mem_of_getElem? (i := 0) rfl))).wr W56 (Or.inl (List.mem_of_getElem? (i := 0) rfl))).wr W60 (Or.inl (List.mem_of_getElem? (i := 0) rfl))).wr W64 (Or.inl (List.mem_of_getElem? (i := 0) rfl))).wr W68 (Or.inl (List.mem_of_getElem? (i := 0) rfl))).wr W72 (Or.inl (List.mem_of_getElem? (i := 0) rfl))).wr W76 (Or.inl (List.mem_of_getElem? (i := 0) rfl))).wr W80 (Or.inl (List.mem_of_getElem? (i := 0) rfl))).wr W84 (Or.inl (List.mem_of_getElem? (i := 0) rfl))).wr W88 (Or.inl (List.mem_of_getElem? (i := 0) rfl))).wr W92 (Or.inl (List.mem_of_getElem? (i := 0) rfl))).wr W96 (Or.inl (List.mem_of_getElem? (i := 0) rfl))).wr W100 (Or.inl (List.mem_of_getElem? (i := 0) rfl)))
  have e102_x0 := (e97_x0.wr W100)
  have f103_x0 := ((((((((((((((((Fw36.other W40 (Or.inr (slot_ne (Or.inr (own_h hw 68 rfl)) (Or.inr (own_h hw 70 rfl)) (by decide) (t := (.object "java/time/LocalDate")) (t' := (.object "java/lang/String")) (by decide) (by decide)))).other W44 (Or.inr (slot_ne (Or.inr (own_h hw 68 rfl)) (Or.inr (own_h hw 72 rfl)) (by decide) (t := (.object "java/time/LocalDate")) (t' := (.object "java/time/LocalDate")) (by decide) (by decide)))).other W48 (Or.inr (slot_ne (Or.inr (own_h hw 68 rfl)) (Or.inr (own_h hw 74 rfl)) (by decide) (t := (.object "java/time/LocalDate")) (t' := (.object "java/math/BigDecimal")) (by decide) (by decide)))).other W52 (Or.inr (slot_ne (Or.inr (own_h hw 68 rfl)) (Or.inr (own_h hw 76 rfl)) (by decide) (t := (.object "java/time/LocalDate")) (t' := (.object "java/math/BigDecimal")) (by decide) (by decide)))).other W56 (Or.inr (slot_ne (Or.inr (own_h hw 68 rfl)) (Or.inr (own_h hw 78 rfl)) (by decide) (t := (.object "java/time/LocalDate")) (t' := .boolean) (by decide) (by decide)))).other W60 (Or.inr (slot_ne (Or.inr (own_h hw 68 rfl)) (Or.inr (own_h hw 80 rfl)) (by decide) (t := (.object "java/time/LocalDate")) (t' := .boolean) (by decide) (by decide)))).other W64 (Or.inr (slot_ne (Or.inr (own_h hw 68 rfl)) (Or.inr (own_h hw 82 rfl)) (by decide) (t := (.object "java/time/LocalDate")) (t' := .boolean) (by decide) (by decide)))).other W68 (Or.inr (slot_ne (Or.inr (own_h hw 68 rfl)) (Or.inr (own_h hw 84 rfl)) (by decide) (t := (.object "java/time/LocalDate")) (t' := (.object "java/math/BigDecimal")) (by decide) (by decide)))).other W72 (Or.inr (slot_ne (Or.inr (own_h hw 68 rfl)) (Or.inr (own_h hw 86 rfl)) (by decide) (t := (.object "java/time/LocalDate")) (t' := (.object "java/math/BigDecimal")) (by decide) (by decide)))).other W76 (Or.inr (slot_ne (Or.inr (own_h hw 68 rfl)) (Or.inr (own_h hw 88 rfl)) (by decide) (t := (.object "java/time/LocalDate")) (t' := (.object "java/math/BigDecimal")) (by decide) (by decide)))).other W80 (Or.inr (slot_ne (Or.inr (own_h hw 68 rfl)) (Or.inr (own_h hw 90 rfl)) (by decide) (t := (.object "java/time/LocalDate")) (t' := (.object "java/math/BigDecimal")) (by decide) (by decide)))).other W84 (Or.inr (slot_ne (Or.inr (own_h hw 68 rfl)) (Or.inr (own_h hw 92 rfl)) (by decide) (t := (.object "java/time/LocalDate")) (t' := (.object "java/time/LocalDate")) (by decide) (by decide)))).other W88 (Or.inr (slot_ne (Or.inr (own_h hw 68 rfl)) (Or.inr (own_h hw 94 rfl)) (by decide) (t := (.object "java/time/LocalDate")) (t' := (.object "java/time/LocalDate")) (by decide) (by decide)))).other W92 (Or.inr (slot_ne (Or.inr (own_h hw 68 rfl)) (Or.inr (own_h hw 96 rfl)) (by decide) (t := (.object "java/time/LocalDate")) (t' := (.object "java/math/BigDecimal")) (by decide) (by decide)))).other W96 (Or.inr (slot_ne (Or.inr (own_h hw 68 rfl)) (Or.inr (own_h hw 98 rfl)) (by decide) (t := (.object "java/time/LocalDate")) (t' := (.object "java/math/BigDecimal")) (by decide) (by decide)))).other W100 (Or.inr (slot_ne (Or.inr (own_h hw 68 rfl)) (Or.inr (own_h hw 100 rfl)) (by decide) (t := (.object "java/time/LocalDate")) (t' := (.object "java/time/LocalDate")) (by decide) (by decide))))
  have f104_x0 := ((((((((((((((((((Fw28.other W32 (Or.inr (slot_ne (Or.inr (own_h hw 64 rfl)) (Or.inr (own_h hw 66 rfl)) (by decide) (t := (.object "com/example/bahikhata/bahikhata/model/Facility")) (t' := (.object "java/math/BigDecimal")) (by decide) (by decide)))).other W36 (Or.inr (slot_ne (Or.inr (own_h hw 64 rfl)) (Or.inr (own_h hw 68 rfl)) (by decide) (t := (.object "com/example/bahikhata/bahikhata/model/Facility")) (t' := (.object "java/time/LocalDate")) (by decide) (by decide)))).other W40 (Or.inr (slot_ne (Or.inr (own_h hw 64 rfl)) (Or.inr (own_h hw 70 rfl)) (by decide) (t := (.object "com/example/bahikhata/bahikhata/model/Facility")) (t' := (.object "java/lang/String")) (by decide) (by decide)))).other W44 (Or.inr (slot_ne (Or.inr (own_h hw 64 rfl)) (Or.inr (own_h hw 72 rfl)) (by decide) (t := (.object "com/example/bahikhata/bahikhata/model/Facility")) (t' := (.object "java/time/LocalDate")) (by decide) (by decide)))).other W48 (Or.inr (slot_ne (Or.inr (own_h hw 64 rfl)) (Or.inr (own_h hw 74 rfl)) (by decide) (t := (.object "com/example/bahikhata/bahikhata/model/Facility")) (t' := (.object "java/math/BigDecimal")) (by decide) (by decide)))).other W52 (Or.inr (slot_ne (Or.inr (own_h hw 64 rfl)) (Or.inr (own_h hw 76 rfl)) (by decide) (t := (.object "com/example/bahikhata/bahikhata/model/Facility")) (t' := (.object "java/math/BigDecimal")) (by decide) (by decide)))).other W56 (Or.inr (slot_ne (Or.inr (own_h hw 64 rfl)) (Or.inr (own_h hw 78 rfl)) (by decide) (t := (.object "com/example/bahikhata/bahikhata/model/Facility")) (t' := .boolean) (by decide) (by decide)))).other W60 (Or.inr (slot_ne (Or.inr (own_h hw 64 rfl)) (Or.inr (own_h hw 80 rfl)) (by decide) (t := (.object "com/example/bahikhata/bahikhata/model/Facility")) (t' := .boolean) (by decide) (by decide)))).other W64 (Or.inr (slot_ne (Or.inr (own_h hw 64 rfl)) (Or.inr (own_h hw 82 rfl)) (by decide) (t := (.object "com/example/bahikhata/bahikhata/model/Facility")) (t' := .boolean) (by decide) (by decide)))).other W68 (Or.inr (slot_ne (Or.inr (own_h hw 64 rfl)) (Or.inr (own_h hw 84 rfl)) (by decide) (t := (.object "com/example/bahikhata/bahikhata/model/Facility")) (t' := (.object "java/math/BigDecimal")) (by decide) (by decide)))).other W72 (Or.inr (slot_ne (Or.inr (own_h hw 64 rfl)) (Or.inr (own_h hw 86 rfl)) (by decide) (t := (.object "com/example/bahikhata/bahikhata/model/Facility")) (t' := (.object "java/math/BigDecimal")) (by decide) (by decide)))).other W76 (Or.inr (slot_ne (Or.inr (own_h hw 64 rfl)) (Or.inr (own_h hw 88 rfl)) (by decide) (t := (.object "com/example/bahikhata/bahikhata/model/Facility")) (t' := (.object "java/math/BigDecimal")) (by decide) (by decide)))).other W80 (Or.inr (slot_ne (Or.inr (own_h hw 64 rfl)) (Or.inr (own_h hw 90 rfl)) (by decide) (t := (.object "com/example/bahikhata/bahikhata/model/Facility")) (t' := (.object "java/math/BigDecimal")) (by decide) (by decide)))).other W84 (Or.inr (slot_ne (Or.inr (own_h hw 64 rfl)) (Or.inr (own_h hw 92 rfl)) (by decide) (t := (.object "com/example/bahikhata/bahikhata/model/Facility")) (t' := (.object "java/time/LocalDate")) (by decide) (by decide)))).other W88 (Or.inr (slot_ne (Or.inr (own_h hw 64 rfl)) (Or.inr (own_h hw 94 rfl)) (by decide) (t := (.object "com/example/bahikhata/bahikhata/model/Facility")) (t' := (.object "java/time/LocalDate")) (by decide) (by decide)))).other W92 (Or.inr (slot_ne (Or.inr (own_h hw 64 rfl)) (Or.inr (own_h hw 96 rfl)) (by decide) (t := (.object "com/example/bahikhata/bahikhata/model/Facility")) (t' := (.object "java/math/BigDecimal")) (by decide) (by decide)))).other W96 (Or.inr (slot_ne (Or.inr (own_h hw 64 rfl)) (Or.inr (own_h hw 98 rfl)) (by decide) (t := (.object "com/example/bahikhata/bahikhata/model/Facility")) (t' := (.object "java/math/BigDecimal")) (by decide) (by decide)))).other W100 (Or.inr (slot_ne (Or.inr (own_h hw 64 rfl)) (Or.inr (own_h hw 100 rfl)) (by decide) (t := (.object "com/example/bahikhata/bahikhata/model/Facility")) (t' := (.object "java/time/LocalDate")) (by decide) (by decide))))
  have hk105_ := (Nat.le_trans (Nat.le_trans (Nat.le_trans (Nat.le_trans (Nat.le_trans (Nat.le_trans (Nat.le_trans (Nat.le_trans (Nat.le_trans (Nat.le_trans (Nat.le_trans (Nat.le_trans (Nat.le_trans (Nat.le_trans (Nat.le_trans (Nat.le_trans (Nat.le_trans (Nat.le_trans (Nat.le_trans (Nat.le_trans (Nat.le_trans hk0 (Keep.of_wr W20).1) (Keep.of_wr W24).1) (Keep.of_wr W28).1) (Keep.of_wr W32).1) (Keep.of_wr W36).1) (Keep.of_wr W40).1) (Keep.of_wr W44).1) (Keep.of_wr W48).1) (Keep.of_wr W52).1) (Keep.of_wr W56).1) (Keep.of_wr W60).1) (Keep.of_wr W64).1) (Keep.of_wr W68).1) (Keep.of_wr W72).1) (Keep.of_wr W76).1) (Keep.of_wr W80).1) (Keep.of_wr W84).1) (Keep.of_wr W88).1) (Keep.of_wr W92).1) (Keep.of_wr W96).1) (Keep.of_wr W100).1)
  exact own_endJ X100 hS (by rw [e100]; exact hk105_) hZ (own_Rs.sub RS0 (by decide)) (v := none) (fun _ => rfl) hlk (fun hr => X100.returnOut hx Bd.returns (hb hby own_d4_243) hr) (by rw [e100]; exact ⟨rfl, N100, k101_, e102_x0, f103_x0, f104_x0⟩) (by decide) (by decide)
theorem own_liBr_ef (m : MethodId) (x0 : Addr) (sa : Addr) (sb : Addr) (fc : Addr) (zz : Addr) (sv : Value) (dd : Addr) (hsv : sv.isRef = true) : entryFrame m #[(.ref x0), (.ref sa), (.ref sb), (.ref fc), (.ref zz), sv, .null, .null, (.ref zz), (.ref zz), (.int 0), (.int 0), (.int 0), (.ref zz), (.ref zz), (.ref zz), (.ref zz), .null, (.ref dd), (.ref zz), (.ref zz), (.ref dd)] 22 = mkF m 0 #[.val (.ref x0), .val (.ref sa), .val (.ref sb), .val (.ref fc), .val (.ref zz), .val sv, .val .null, .val .null, .val (.ref zz), .val (.ref zz), .val (.int 0), .val (.int 0), .val (.int 0), .val (.ref zz), .val (.ref zz), .val (.ref zz), .val (.ref zz), .val .null, .val (.ref dd), .val (.ref zz), .val (.ref zz), .val (.ref dd)] [] := by rcases ref_cases hsv with rfl | ⟨_, rfl⟩ <;>  first | (simp [entryFrame, mkF, argsToLocals, Value.category]; done) | rfl
def own_liBr_Q (Z : State) (x0 : Addr) (sa : Addr) (sb : Addr) (fc : Addr) (zz : Addr) (sv : Value) (dd : Addr) (h0 : Heap) (n0 : Nat) (v : Option Value) (h : Heap) (L : List Loc) : Prop := v = none ∧ Fr n0 L ∧ Keep h0 h [x0] ∧ Exa Z h x0 "com/example/bahikhata/bahikhata/model/Loan" ∧ Fld Z h x0 "com/example/bahikhata/bahikhata/model/Loan" "overdueSince" "Ljava/time/LocalDate;" sv ∧ Fld Z h x0 "com/example/bahikhata/bahikhata/model/Loan" "facility" "Lcom/example/bahikhata/bahikhata/model/Facility;" (.ref fc)
set_option maxRecDepth 65536 in
set_option maxHeartbeats 40000000 in
theorem own_liBr (l : Launch) (Z : State) (a0 : Array Value) (hw : ∀ d ∈ tables_1, d.before a0 Z = true) (ws : List Jvm.Cond) (x0 : Addr) (sa : Addr) (sb : Addr) (fc : Addr) (zz : Addr) (sv : Value) (dd : Addr) (h0 : Heap) (n0 : Nat) (Z0 : n0 ≤ h0.size) (hsv : sv.isRef = true) (E_x : Exa Z h0 x0 "com/example/bahikhata/bahikhata/model/Loan") (g_x : n0 ≤ x0) (U_x : Unt h0 x0) (E_f : Exa Z h0 fc "com/example/bahikhata/bahikhata/model/Facility") (R_f : Fld Z h0 fc "com/example/bahikhata/bahikhata/model/Facility" "runningAccount" "Z" (.int 1)) (n_fx : fc ≠ x0) :
    MetFree l own_y8 (head1 (Jvm.Cond.code own_y8 prog_53_method_1_code 22 none :: ws) (⟨2, 12, 308, 24⟩ : Room)) (fun aa U => aa = #[(.ref x0), (.ref sa), (.ref sb), (.ref fc), (.ref zz), sv, .null, .null, (.ref zz), (.ref zz), (.int 0), (.int 0), (.int 0), (.ref zz), (.ref zz), (.ref zz), (.ref zz), .null, (.ref dd), (.ref zz), (.ref zz), (.ref dd)] ∧ Z.Warmed39 U.vm ∧ U.heap = h0 ∧ own_Rs Z U.vm ([("com/example/bahikhata/bahikhata/model/Loan", 7), ("com/example/bahikhata/bahikhata/model/Loan", 15), ("com/example/bahikhata/bahikhata/model/Loan", 17), ("com/example/bahikhata/bahikhata/model/Loan", 19), ("com/example/bahikhata/bahikhata/model/Loan", 21), ("com/example/bahikhata/bahikhata/model/Loan", 23), ("com/example/bahikhata/bahikhata/model/Loan", 25), ("com/example/bahikhata/bahikhata/model/Loan", 27)] : List (String × Nat))) (fun _ _ _ _ _ => True) (fun _ U o U' => ∃ v L, o = .returned v ∧ own_liBr_Q Z x0 sa sb fc zz sv dd h0 n0 v U'.heap L ∧ own_Rs Z U'.vm ([("com/example/bahikhata/bahikhata/model/Loan", 7), ("com/example/bahikhata/bahikhata/model/Loan", 15), ("com/example/bahikhata/bahikhata/model/Loan", 17), ("com/example/bahikhata/bahikhata/model/Loan", 19), ("com/example/bahikhata/bahikhata/model/Loan", 21), ("com/example/bahikhata/bahikhata/model/Loan", 23), ("com/example/bahikhata/bahikhata/model/Loan", 25), ("com/example/bahikhata/bahikhata/model/Loan", 27), ("com/example/bahikhata/bahikhata/model/Loan", 35), ("com/example/bahikhata/bahikhata/model/Loan", 37), ("com/example/bahikhata/bahikhata/model/Loan", 39), ("com/example/bahikhata/bahikhata/model/Loan", 41), ("com/example/bahikhata/bahikhata/model/Loan", 43), ("com/example/bahikhata/bahikhata/model/Loan", 45)] : List (String × Nat)) ∧ ReturnedEndW U o U' L (⟨2, 12, 308, 24⟩ : Room).cells (⟨2, 12, 308, 24⟩ : Room).slots) := by
  refine MetFree.of_bodySF (plainFor_of_name own_pn_com_example_bahikhata_bahikhata_model_Loan) hisR ?_
  intro p e s m args below meth c s₁ Bd hml0 hP hK
  obtain ⟨rfl, hZ, hh, RS0⟩ := hP
  have hx := Bd.exec
  have hby := Bd.bytes
  have hml : c.maxLocals = 22 := hml0
  have hown : s.vm.findClass "com/example/bahikhata/bahikhata/model/Loan" = some m.cls := findClass_of_methodNamed Bd.named
  have hnm := (name_of_methodNamed Bd.named Bd.method).1
  have hlk := Bd.notSynchronized
  have X0 : Stand p l e (⟨2, 12, 308, 24⟩ : Room) (s.setVm s.vm) m #[(.ref x0), (.ref sa), (.ref sb), (.ref fc), (.ref zz), sv, .null, .null, (.ref zz), (.ref zz), (.int 0), (.int 0), (.int 0), (.ref zz), (.ref zz), (.ref zz), (.ref zz), .null, (.ref dd), (.ref zz), (.ref zz), (.ref dd)] below meth c s₁ [] 0 0 := Stand.of_body Bd
  have e0 : s₁.heap = h0 := by rw [← hh, Bd.state]; rfl
  have N0 := Fr.nil n0
  have hS : s.Since s.vm 0 := (State.WarmedH.refl s).since 0
  have hk0 : 0 ≤ h0.size := Nat.zero_le _
  have wS := own_wS hw
  refine own_startJ (K' := ([("com/example/bahikhata/bahikhata/model/Loan", 7), ("com/example/bahikhata/bahikhata/model/Loan", 15), ("com/example/bahikhata/bahikhata/model/Loan", 17), ("com/example/bahikhata/bahikhata/model/Loan", 19), ("com/example/bahikhata/bahikhata/model/Loan", 21), ("com/example/bahikhata/bahikhata/model/Loan", 23), ("com/example/bahikhata/bahikhata/model/Loan", 25), ("com/example/bahikhata/bahikhata/model/Loan", 27), ("com/example/bahikhata/bahikhata/model/Loan", 35), ("com/example/bahikhata/bahikhata/model/Loan", 37), ("com/example/bahikhata/bahikhata/model/Loan", 39), ("com/example/bahikhata/bahikhata/model/Loan", 41), ("com/example/bahikhata/bahikhata/model/Loan", 43), ("com/example/bahikhata/bahikhata/model/Loan", 45)] : List (String × Nat))) (Q := own_liBr_Q Z x0 sa sb fc zz sv dd h0 n0) (own_liBr_ef m x0 sa sb fc zz sv dd hsv) ?_
  refine own_g (own_frL m x0 sa sb fc zz sv dd 1 [(.ref x0)]) (fun _ q => XS.aloadN X0.here hx rfl (hb hby own_d4_0) rfl rfl q) ?_
  refine own_callI X0 hx hZ (y := own_y15) rfl hown (own_h hw 32 rfl) (own_h hw 33 rfl) (own_h hw 36 rfl) (own_h hw 35 rfl) (by decide) (own_rec l Z a0 hw [] x0 h0 n0 (Nat.le_trans Z0 (Keep.refl h0 [x0]).1) ) (by decide) (by decide) e0 (g := (own_frL m x0 sa sb fc zz sv dd 1 [(.ref x0)])) rfl (by rw [hml]; rfl) (argsL := []) (rest := []) (lenOf own_pd__28_29V rfl) rfl (W := 0) (by show 2 * 0 + _ ≤ _; exact Nat.le_of_eq rfl) (hb hby own_d4_1) rfl (by decide) (by decide) ?_
  rintro rv1 T1 L1 X1 ⟨rfl, Nq1, eh1⟩
  have N1 := Fr.app N0 Nq1
  refine own_g (own_frL m x0 sa sb fc zz sv dd 5 [(.ref sa)]) (fun _ q => XS.aloadN X1.here hx rfl (hb hby own_d4_4) rfl rfl q) ?_
  obtain ⟨a2, st2⟩ := own_ldcA X1 hx hZ hown (own_h hw 40 rfl) RS0 (by decide) (g := (own_frL m x0 sa sb fc zz sv dd 5 [(.ref sa)])) rfl (hb hby own_d4_5)
  refine own_by (g' := (own_frL m x0 sa sb fc zz sv dd 7 [(.ref a2), (.ref sa)])) st2 ?_
  refine own_callS X1 hx hZ (y := own_y17) hown (own_h hw 41 rfl) (own_h hw 42 rfl) (own_h hw 43 rfl) (own_h hw 44 rfl) (by decide) (own_rnn l Z a0 hw [] sa a2 h0 n0 (Nat.le_trans Z0 (Keep.refl h0 [x0]).1) ) (by decide) (by decide) eh1 (g := (own_frL m x0 sa sb fc zz sv dd 7 [(.ref a2), (.ref sa)])) rfl (by rw [hml]; rfl) (argsL := [(.ref sa), (.ref a2)]) (rest := []) (lenOf own_pd__28Ljava_2flang_2fObject_3bLjava_2flang_2fString_3b_29Ljava_2flang_2fObject_3b rfl) rfl (W := 0) (by show 2 * 0 + _ ≤ _; exact Nat.le_of_eq rfl) (hb hby own_d4_7) rfl (by decide) (by decide) ?_
  rintro rv3 T3 L3 X3 ⟨rfl, Nq3, eh3⟩
  have N3 := Fr.app N1 Nq3
  refine own_g (own_frL m x0 sa sb fc zz sv dd 12 [(.ref sb)]) (fun _ q => XS.pop X3.here hx rfl (hb hby own_d4_10) rfl rfl (XS.aloadN X3.here hx rfl (hb hby own_d4_11) rfl rfl q)) ?_
  obtain ⟨a4, st4⟩ := own_ldcA X3 hx hZ hown (own_h hw 45 rfl) RS0 (by decide) (g := (own_frL m x0 sa sb fc zz sv dd 12 [(.ref sb)])) rfl (hb hby own_d4_12)
  refine own_by (g' := (own_frL m x0 sa sb fc zz sv dd 14 [(.ref a4), (.ref sb)])) st4 ?_
  refine own_callS X3 hx hZ (y := own_y17) hown (own_h hw 41 rfl) (own_h hw 42 rfl) (own_h hw 43 rfl) (own_h hw 44 rfl) (by decide) (own_rnn l Z a0 hw [] sb a4 h0 n0 (Nat.le_trans Z0 (Keep.refl h0 [x0]).1) ) (by decide) (by decide) eh3 (g := (own_frL m x0 sa sb fc zz sv dd 14 [(.ref a4), (.ref sb)])) rfl (by rw [hml]; rfl) (argsL := [(.ref sb), (.ref a4)]) (rest := []) (lenOf own_pd__28Ljava_2flang_2fObject_3bLjava_2flang_2fString_3b_29Ljava_2flang_2fObject_3b rfl) rfl (W := 0) (by show 2 * 0 + _ ≤ _; exact Nat.le_of_eq rfl) (hb hby own_d4_14) rfl (by decide) (by decide) ?_
  rintro rv5 T5 L5 X5 ⟨rfl, Nq5, eh5⟩
  have N5 := Fr.app N3 Nq5
  refine own_g (own_frL m x0 sa sb fc zz sv dd 19 [(.ref fc)]) (fun _ q => XS.pop X5.here hx rfl (hb hby own_d4_17) rfl rfl (XS.aloadN X5.here hx rfl (hb hby own_d4_18) rfl rfl q)) ?_
  obtain ⟨a6, st6⟩ := own_ldcA X5 hx hZ hown (own_h hw 46 rfl) RS0 (by decide) (g := (own_frL m x0 sa sb fc zz sv dd 19 [(.ref fc)])) rfl (hb hby own_d4_19)
  refine own_by (g' := (own_frL m x0 sa sb fc zz sv dd 21 [(.ref a6), (.ref fc)])) st6 ?_
  refine own_callS X5 hx hZ (y := own_y17) hown (own_h hw 41 rfl) (own_h hw 42 rfl) (own_h hw 43 rfl) (own_h hw 44 rfl) (by decide) (own_rnn l Z a0 hw [] fc a6 h0 n0 (Nat.le_trans Z0 (Keep.refl h0 [x0]).1) ) (by decide) (by decide) eh5 (g := (own_frL m x0 sa sb fc zz sv dd 21 [(.ref a6), (.ref fc)])) rfl (by rw [hml]; rfl) (argsL := [(.ref fc), (.ref a6)]) (rest := []) (lenOf own_pd__28Ljava_2flang_2fObject_3bLjava_2flang_2fString_3b_29Ljava_2flang_2fObject_3b rfl) rfl (W := 0) (by show 2 * 0 + _ ≤ _; exact Nat.le_of_eq rfl) (hb hby own_d4_21) rfl (by decide) (by decide) ?_
  rintro rv7 T7 L7 X7 ⟨rfl, Nq7, eh7⟩
  have N7 := Fr.app N5 Nq7
  refine own_g (own_frL m x0 sa sb fc zz sv dd 27 [(.ref zz)]) (fun _ q => XS.pop X7.here hx rfl (hb hby own_d4_24) rfl rfl (XS.aload X7.here hx rfl (hb hby own_d4_25) rfl rfl q)) ?_
  obtain ⟨a8, st8⟩ := own_ldcA X7 hx hZ hown (own_h hw 47 rfl) RS0 (by decide) (g := (own_frL m x0 sa sb fc zz sv dd 27 [(.ref zz)])) rfl (hb hby own_d4_27)
  refine own_by (g' := (own_frL m x0 sa sb fc zz sv dd 29 [(.ref a8), (.ref zz)])) st8 ?_
  refine own_callS X7 hx hZ (y := own_y17) hown (own_h hw 41 rfl) (own_h hw 42 rfl) (own_h hw 43 rfl) (own_h hw 44 rfl) (by decide) (own_rnn l Z a0 hw [] zz a8 h0 n0 (Nat.le_trans Z0 (Keep.refl h0 [x0]).1) ) (by decide) (by decide) eh7 (g := (own_frL m x0 sa sb fc zz sv dd 29 [(.ref a8), (.ref zz)])) rfl (by rw [hml]; rfl) (argsL := [(.ref zz), (.ref a8)]) (rest := []) (lenOf own_pd__28Ljava_2flang_2fObject_3bLjava_2flang_2fString_3b_29Ljava_2flang_2fObject_3b rfl) rfl (W := 0) (by show 2 * 0 + _ ≤ _; exact Nat.le_of_eq rfl) (hb hby own_d4_29) rfl (by decide) (by decide) ?_
  rintro rv9 T9 L9 X9 ⟨rfl, Nq9, eh9⟩
  have N9 := Fr.app N7 Nq9
  refine own_g (own_frL m x0 sa sb fc zz sv dd 35 [(.ref zz)]) (fun _ q => XS.pop X9.here hx rfl (hb hby own_d4_32) rfl rfl (XS.aload X9.here hx rfl (hb hby own_d4_33) rfl rfl q)) ?_
  obtain ⟨a10, st10⟩ := own_ldcA X9 hx hZ hown (own_h hw 48 rfl) RS0 (by decide) (g := (own_frL m x0 sa sb fc zz sv dd 35 [(.ref zz)])) rfl (hb hby own_d4_35)
  refine own_by (g' := (own_frL m x0 sa sb fc zz sv dd 37 [(.ref a10), (.ref zz)])) st10 ?_
  refine own_callS X9 hx hZ (y := own_y17) hown (own_h hw 41 rfl) (own_h hw 42 rfl) (own_h hw 43 rfl) (own_h hw 44 rfl) (by decide) (own_rnn l Z a0 hw [] zz a10 h0 n0 (Nat.le_trans Z0 (Keep.refl h0 [x0]).1) ) (by decide) (by decide) eh9 (g := (own_frL m x0 sa sb fc zz sv dd 37 [(.ref a10), (.ref zz)])) rfl (by rw [hml]; rfl) (argsL := [(.ref zz), (.ref a10)]) (rest := []) (lenOf own_pd__28Ljava_2flang_2fObject_3bLjava_2flang_2fString_3b_29Ljava_2flang_2fObject_3b rfl) rfl (W := 0) (by show 2 * 0 + _ ≤ _; exact Nat.le_of_eq rfl) (hb hby own_d4_37) rfl (by decide) (by decide) ?_
  rintro rv11 T11 L11 X11 ⟨rfl, Nq11, eh11⟩
  have N11 := Fr.app N9 Nq11
  refine own_g (own_frL m x0 sa sb fc zz sv dd 43 [(.ref zz)]) (fun _ q => XS.pop X11.here hx rfl (hb hby own_d4_40) rfl rfl (XS.aload X11.here hx rfl (hb hby own_d4_41) rfl rfl q)) ?_
  obtain ⟨a12, st12⟩ := own_ldcA X11 hx hZ hown (own_h hw 49 rfl) RS0 (by decide) (g := (own_frL m x0 sa sb fc zz sv dd 43 [(.ref zz)])) rfl (hb hby own_d4_43)
  refine own_by (g' := (own_frL m x0 sa sb fc zz sv dd 45 [(.ref a12), (.ref zz)])) st12 ?_
  refine own_callS X11 hx hZ (y := own_y17) hown (own_h hw 41 rfl) (own_h hw 42 rfl) (own_h hw 43 rfl) (own_h hw 44 rfl) (by decide) (own_rnn l Z a0 hw [] zz a12 h0 n0 (Nat.le_trans Z0 (Keep.refl h0 [x0]).1) ) (by decide) (by decide) eh11 (g := (own_frL m x0 sa sb fc zz sv dd 45 [(.ref a12), (.ref zz)])) rfl (by rw [hml]; rfl) (argsL := [(.ref zz), (.ref a12)]) (rest := []) (lenOf own_pd__28Ljava_2flang_2fObject_3bLjava_2flang_2fString_3b_29Ljava_2flang_2fObject_3b rfl) rfl (W := 0) (by show 2 * 0 + _ ≤ _; exact Nat.le_of_eq rfl) (hb hby own_d4_45) rfl (by decide) (by decide) ?_
  rintro rv13 T13 L13 X13 ⟨rfl, Nq13, eh13⟩
  have N13 := Fr.app N11 Nq13
  refine own_g (own_frL m x0 sa sb fc zz sv dd 51 [(.ref zz)]) (fun _ q => XS.pop X13.here hx rfl (hb hby own_d4_48) rfl rfl (XS.aload X13.here hx rfl (hb hby own_d4_49) rfl rfl q)) ?_
  obtain ⟨a14, st14⟩ := own_ldcA X13 hx hZ hown (own_h hw 50 rfl) RS0 (by decide) (g := (own_frL m x0 sa sb fc zz sv dd 51 [(.ref zz)])) rfl (hb hby own_d4_51)
  refine own_by (g' := (own_frL m x0 sa sb fc zz sv dd 53 [(.ref a14), (.ref zz)])) st14 ?_
  refine own_callS X13 hx hZ (y := own_y17) hown (own_h hw 41 rfl) (own_h hw 42 rfl) (own_h hw 43 rfl) (own_h hw 44 rfl) (by decide) (own_rnn l Z a0 hw [] zz a14 h0 n0 (Nat.le_trans Z0 (Keep.refl h0 [x0]).1) ) (by decide) (by decide) eh13 (g := (own_frL m x0 sa sb fc zz sv dd 53 [(.ref a14), (.ref zz)])) rfl (by rw [hml]; rfl) (argsL := [(.ref zz), (.ref a14)]) (rest := []) (lenOf own_pd__28Ljava_2flang_2fObject_3bLjava_2flang_2fString_3b_29Ljava_2flang_2fObject_3b rfl) rfl (W := 0) (by show 2 * 0 + _ ≤ _; exact Nat.le_of_eq rfl) (hb hby own_d4_53) rfl (by decide) (by decide) ?_
  rintro rv15 T15 L15 X15 ⟨rfl, Nq15, eh15⟩
  have N15 := Fr.app N13 Nq15
  refine own_g (own_frL m x0 sa sb fc zz sv dd 59 [(.ref zz)]) (fun _ q => XS.pop X15.here hx rfl (hb hby own_d4_56) rfl rfl (XS.aload X15.here hx rfl (hb hby own_d4_57) rfl rfl q)) ?_
  obtain ⟨a16, st16⟩ := own_ldcA X15 hx hZ hown (own_h hw 51 rfl) RS0 (by decide) (g := (own_frL m x0 sa sb fc zz sv dd 59 [(.ref zz)])) rfl (hb hby own_d4_59)
  refine own_by (g' := (own_frL m x0 sa sb fc zz sv dd 61 [(.ref a16), (.ref zz)])) st16 ?_
  refine own_callS X15 hx hZ (y := own_y17) hown (own_h hw 41 rfl) (own_h hw 42 rfl) (own_h hw 43 rfl) (own_h hw 44 rfl) (by decide) (own_rnn l Z a0 hw [] zz a16 h0 n0 (Nat.le_trans Z0 (Keep.refl h0 [x0]).1) ) (by decide) (by decide) eh15 (g := (own_frL m x0 sa sb fc zz sv dd 61 [(.ref a16), (.ref zz)])) rfl (by rw [hml]; rfl) (argsL := [(.ref zz), (.ref a16)]) (rest := []) (lenOf own_pd__28Ljava_2flang_2fObject_3bLjava_2flang_2fString_3b_29Ljava_2flang_2fObject_3b rfl) rfl (W := 0) (by show 2 * 0 + _ ≤ _; exact Nat.le_of_eq rfl) (hb hby own_d4_61) rfl (by decide) (by decide) ?_
  rintro rv17 T17 L17 X17 ⟨rfl, Nq17, eh17⟩
  have N17 := Fr.app N15 Nq17
  refine own_g (own_frL m x0 sa sb fc zz sv dd 66 [(.ref fc)]) (fun _ q => XS.pop X17.here hx rfl (hb hby own_d4_64) rfl rfl (XS.aloadN X17.here hx rfl (hb hby own_d4_65) rfl rfl q)) ?_
  refine own_callV X17 hx hZ (y := own_y6) (z := own_y6) hown (own_h hw 52 rfl) (own_h hw 53 rfl) (own_nf (own_h hw 55 rfl)) (own_h hw 55 rfl) (own_h hw 54 rfl) (own_h hw 56 rfl) (own_h hw 8 rfl) (by decide) E_f (own_run l Z a0 hw [] fc _ h0 n0 (Nat.le_trans Z0 (Keep.refl h0 [x0]).1) R_f) (by decide) (by decide) eh17 (g := (own_frL m x0 sa sb fc zz sv dd 66 [(.ref fc)])) rfl (by rw [hml]; rfl) (argsL := []) (rest := []) (lenOf own_pd__28_29Z rfl) rfl (W := 0) (by show 2 * 0 + _ ≤ _; exact Nat.le_of_eq rfl) (hb hby own_d4_66) rfl (by decide) (by decide) ?_
  rintro rv18 T18 L18 X18 ⟨rfl, Nq18, eh18⟩
  have N18 := Fr.app N17 Nq18
  refine own_g (own_frL m x0 sa sb fc zz sv dd 74 [(.ref zz)]) (fun _ q => XS.ifNo X18.here hx rfl (hb hby own_d4_69) rfl ((if0 _ _).trans (feq (by decide : ¬ ((1 : Int32) = (0 : Int32)))).1) (XS.aload X18.here hx rfl (hb hby own_d4_72) rfl rfl q)) ?_
  obtain ⟨a19, T19, h19, j19, X19, e19, E19, hS, hk19, hZ, hown, RS19, st19⟩ := own_ldcJ X18 hx hZ hown (own_h hw 105 rfl) wS eh18 hS hk0 RS0 (g := (own_frL m x0 sa sb fc zz sv dd 74 [(.ref zz)])) rfl (hb hby own_d4_74) (n := 60) (by decide) (by decide) (by decide) (by decide)
  refine own_by (g' := (own_frL m x0 sa sb fc zz sv dd 76 [(.ref a19), (.ref zz)])) st19 ?_
  have k20_ := ((Keep.refl h0 [x0]).ext E19)
  refine own_callS X19 hx hZ (y := own_y17) hown (own_h hw 41 rfl) (own_h hw 42 rfl) (own_h hw 43 rfl) (own_h hw 44 rfl) (by decide) (own_rnn l Z a0 hw [] zz a19 h19 n0 (Nat.le_trans Z0 k20_.1) ) (by decide) (by decide) e19 (g := (own_frL m x0 sa sb fc zz sv dd 76 [(.ref a19), (.ref zz)])) rfl (by rw [hml]; rfl) (argsL := [(.ref zz), (.ref a19)]) (rest := []) (lenOf own_pd__28Ljava_2flang_2fObject_3bLjava_2flang_2fString_3b_29Ljava_2flang_2fObject_3b rfl) rfl (W := 0) (by show 2 * 0 + _ ≤ _; exact Nat.le_of_eq rfl) (hb hby own_d4_76) rfl (by decide) (by decide) ?_
  rintro rv21 T21 L21 X21 ⟨rfl, Nq21, eh21⟩
  have N21 := Fr.app N18 Nq21
  refine own_g (own_frL m x0 sa sb fc zz sv dd 82 [(.ref zz)]) (fun _ q => XS.pop X21.here hx rfl (hb hby own_d4_79) rfl rfl (XS.aload X21.here hx rfl (hb hby own_d4_80) rfl rfl q)) ?_
  obtain ⟨a22, T22, h22, j22, X22, e22, E22, hS, hk22, hZ, hown, RS22, st22⟩ := own_ldcJ X21 hx hZ hown (own_h hw 106 rfl) wS eh21 hS hk19 RS19 (g := (own_frL m x0 sa sb fc zz sv dd 82 [(.ref zz)])) rfl (hb hby own_d4_82) (n := 48) (by decide) (by decide) (by decide) (by decide)
  refine own_by (g' := (own_frL m x0 sa sb fc zz sv dd 84 [(.ref a22), (.ref zz)])) st22 ?_
  have k23_ := (k20_.ext E22)
  refine own_callS X22 hx hZ (y := own_y17) hown (own_h hw 41 rfl) (own_h hw 42 rfl) (own_h hw 43 rfl) (own_h hw 44 rfl) (by decide) (own_rnn l Z a0 hw [] zz a22 h22 n0 (Nat.le_trans Z0 k23_.1) ) (by decide) (by decide) e22 (g := (own_frL m x0 sa sb fc zz sv dd 84 [(.ref a22), (.ref zz)])) rfl (by rw [hml]; rfl) (argsL := [(.ref zz), (.ref a22)]) (rest := []) (lenOf own_pd__28Ljava_2flang_2fObject_3bLjava_2flang_2fString_3b_29Ljava_2flang_2fObject_3b rfl) rfl (W := 0) (by show 2 * 0 + _ ≤ _; exact Nat.le_of_eq rfl) (hb hby own_d4_84) rfl (by decide) (by decide) ?_
  rintro rv24 T24 L24 X24 ⟨rfl, Nq24, eh24⟩
  have N24 := Fr.app N21 Nq24
  refine own_g (own_frL m x0 sa sb fc zz sv dd 90 [(.ref dd)]) (fun _ q => XS.pop X24.here hx rfl (hb hby own_d4_87) rfl rfl (XS.aload X24.here hx rfl (hb hby own_d4_88) rfl rfl q)) ?_
  obtain ⟨a25, T25, h25, j25, X25, e25, E25, hS, hk25, hZ, hown, RS25, st25⟩ := own_ldcJ X24 hx hZ hown (own_h hw 107 rfl) wS eh24 hS hk22 RS22 (g := (own_frL m x0 sa sb fc zz sv dd 90 [(.ref dd)])) rfl (hb hby own_d4_90) (n := 56) (by decide) (by decide) (by decide) (by decide)
  refine own_by (g' := (own_frL m x0 sa sb fc zz sv dd 92 [(.ref a25), (.ref dd)])) st25 ?_
  have k26_ := (k23_.ext E25)
  refine own_callS X25 hx hZ (y := own_y17) hown (own_h hw 41 rfl) (own_h hw 42 rfl) (own_h hw 43 rfl) (own_h hw 44 rfl) (by decide) (own_rnn l Z a0 hw [] dd a25 h25 n0 (Nat.le_trans Z0 k26_.1) ) (by decide) (by decide) e25 (g := (own_frL m x0 sa sb fc zz sv dd 92 [(.ref a25), (.ref dd)])) rfl (by rw [hml]; rfl) (argsL := [(.ref dd), (.ref a25)]) (rest := []) (lenOf own_pd__28Ljava_2flang_2fObject_3bLjava_2flang_2fString_3b_29Ljava_2flang_2fObject_3b rfl) rfl (W := 0) (by show 2 * 0 + _ ≤ _; exact Nat.le_of_eq rfl) (hb hby own_d4_92) rfl (by decide) (by decide) ?_
  rintro rv27 T27 L27 X27 ⟨rfl, Nq27, eh27⟩
  have N27 := Fr.app N24 Nq27
  refine own_g (own_frL m x0 sa sb fc zz sv dd 98 [(.ref zz)]) (fun _ q => XS.pop X27.here hx rfl (hb hby own_d4_95) rfl rfl (XS.aload X27.here hx rfl (hb hby own_d4_96) rfl rfl q)) ?_
  obtain ⟨a28, T28, h28, j28, X28, e28, E28, hS, hk28, hZ, hown, RS28, st28⟩ := own_ldcJ X27 hx hZ hown (own_h hw 108 rfl) wS eh27 hS hk25 RS25 (g := (own_frL m x0 sa sb fc zz sv dd 98 [(.ref zz)])) rfl (hb hby own_d4_98) (n := 40) (by decide) (by decide) (by decide) (by decide)
  refine own_by (g' := (own_frL m x0 sa sb fc zz sv dd 100 [(.ref a28), (.ref zz)])) st28 ?_
  have k29_ := (k26_.ext E28)
  refine own_callS X28 hx hZ (y := own_y17) hown (own_h hw 41 rfl) (own_h hw 42 rfl) (own_h hw 43 rfl) (own_h hw 44 rfl) (by decide) (own_rnn l Z a0 hw [] zz a28 h28 n0 (Nat.le_trans Z0 k29_.1) ) (by decide) (by decide) e28 (g := (own_frL m x0 sa sb fc zz sv dd 100 [(.ref a28), (.ref zz)])) rfl (by rw [hml]; rfl) (argsL := [(.ref zz), (.ref a28)]) (rest := []) (lenOf own_pd__28Ljava_2flang_2fObject_3bLjava_2flang_2fString_3b_29Ljava_2flang_2fObject_3b rfl) rfl (W := 0) (by show 2 * 0 + _ ≤ _; exact Nat.le_of_eq rfl) (hb hby own_d4_100) rfl (by decide) (by decide) ?_
  rintro rv30 T30 L30 X30 ⟨rfl, Nq30, eh30⟩
  have N30 := Fr.app N27 Nq30
  refine own_g (own_frL m x0 sa sb fc zz sv dd 106 [(.ref zz)]) (fun _ q => XS.pop X30.here hx rfl (hb hby own_d4_103) rfl rfl (XS.aload X30.here hx rfl (hb hby own_d4_104) rfl rfl q)) ?_
  obtain ⟨a31, T31, h31, j31, X31, e31, E31, hS, hk31, hZ, hown, RS31, st31⟩ := own_ldcJ X30 hx hZ hown (own_h hw 109 rfl) wS eh30 hS hk28 RS28 (g := (own_frL m x0 sa sb fc zz sv dd 106 [(.ref zz)])) rfl (hb hby own_d4_106) (n := 44) (by decide) (by decide) (by decide) (by decide)
  refine own_by (g' := (own_frL m x0 sa sb fc zz sv dd 108 [(.ref a31), (.ref zz)])) st31 ?_
  have k32_ := (k29_.ext E31)
  refine own_callS X31 hx hZ (y := own_y17) hown (own_h hw 41 rfl) (own_h hw 42 rfl) (own_h hw 43 rfl) (own_h hw 44 rfl) (by decide) (own_rnn l Z a0 hw [] zz a31 h31 n0 (Nat.le_trans Z0 k32_.1) ) (by decide) (by decide) e31 (g := (own_frL m x0 sa sb fc zz sv dd 108 [(.ref a31), (.ref zz)])) rfl (by rw [hml]; rfl) (argsL := [(.ref zz), (.ref a31)]) (rest := []) (lenOf own_pd__28Ljava_2flang_2fObject_3bLjava_2flang_2fString_3b_29Ljava_2flang_2fObject_3b rfl) rfl (W := 0) (by show 2 * 0 + _ ≤ _; exact Nat.le_of_eq rfl) (hb hby own_d4_108) rfl (by decide) (by decide) ?_
  rintro rv33 T33 L33 X33 ⟨rfl, Nq33, eh33⟩
  have N33 := Fr.app N30 Nq33
  refine own_g (own_frL m x0 sa sb fc zz sv dd 114 [(.ref dd)]) (fun _ q => XS.pop X33.here hx rfl (hb hby own_d4_111) rfl rfl (XS.aload X33.here hx rfl (hb hby own_d4_112) rfl rfl q)) ?_
  obtain ⟨a34, T34, h34, j34, X34, e34, E34, hS, hk34, hZ, hown, RS34, st34⟩ := own_ldcJ X33 hx hZ hown (own_h hw 110 rfl) wS eh33 hS hk31 RS31 (g := (own_frL m x0 sa sb fc zz sv dd 114 [(.ref dd)])) rfl (hb hby own_d4_114) (n := 36) (by decide) (by decide) (by decide) (by decide)
  refine own_by (g' := (own_frL m x0 sa sb fc zz sv dd 116 [(.ref a34), (.ref dd)])) st34 ?_
  have k35_ := (k32_.ext E34)
  refine own_callS X34 hx hZ (y := own_y17) hown (own_h hw 41 rfl) (own_h hw 42 rfl) (own_h hw 43 rfl) (own_h hw 44 rfl) (by decide) (own_rnn l Z a0 hw [] dd a34 h34 n0 (Nat.le_trans Z0 k35_.1) ) (by decide) (by decide) e34 (g := (own_frL m x0 sa sb fc zz sv dd 116 [(.ref a34), (.ref dd)])) rfl (by rw [hml]; rfl) (argsL := [(.ref dd), (.ref a34)]) (rest := []) (lenOf own_pd__28Ljava_2flang_2fObject_3bLjava_2flang_2fString_3b_29Ljava_2flang_2fObject_3b rfl) rfl (W := 0) (by show 2 * 0 + _ ≤ _; exact Nat.le_of_eq rfl) (hb hby own_d4_116) rfl (by decide) (by decide) ?_
  rintro rv36 T36 L36 X36 ⟨rfl, Nq36, eh36⟩
  have N36 := Fr.app N33 Nq36
  refine own_g (own_frL m x0 sa sb fc zz sv dd 122 [(.ref sa), (.ref x0)]) (fun _ q => XS.pop X36.here hx rfl (hb hby own_d4_119) rfl rfl (XS.aloadN X36.here hx rfl (hb hby own_d4_120) rfl rfl (XS.aloadN X36.here hx rfl (hb hby own_d4_121) rfl rfl q))) ?_
  have e37_x0 := ((((((E_x.ext E19).ext E22).ext E25).ext E28).ext E31).ext E34)
  have x39_x0 := (Unt.ext E34 (Unt.ext E31 (Unt.ext E28 (Unt.ext E25 (Unt.ext E22 (Unt.ext E19 U_x))))))
  obtain ⟨vo38, Fo38⟩ := own_someF e37_x0 x39_x0 (Or.inr (own_h hw 60 rfl)) (own_h hw 18 rfl)
  obtain ⟨T40, h40, X40, e40, W40, st40⟩ := putF X36 hx hZ hown (host := "") (Or.inl (own_h hw 59 rfl)) Via.refl eh36 Fo38 e37_x0 (Or.inr ⟨(own_h hw 60 rfl), rfl, hnm⟩) (own_h hw 18 rfl) (ty := (.object "java/lang/String")) (by decide) (rfl) (rfl) (g := (own_frL m x0 sa sb fc zz sv dd 122 [(.ref sa), (.ref x0)])) rfl rfl (hb hby own_d4_122)
  have N40 := Fr.snoc X40 N36 g_x
  refine own_by (g' := (own_frL m x0 sa sb fc zz sv dd 125 [])) st40 ?_
  refine own_g (own_frL m x0 sa sb fc zz sv dd 127 [(.ref sb), (.ref x0)]) (fun _ q => XS.aloadN X40.here hx rfl (hb hby own_d4_125) rfl rfl (XS.aloadN X40.here hx rfl (hb hby own_d4_126) rfl rfl q)) ?_
  have e41_x0 := (e37_x0.wr W40)
  have x43_x0 := (Unt.wr W40 x39_x0)
  obtain ⟨vo42, Fo42⟩ := own_someF e41_x0 x43_x0 (Or.inr (own_h hw 62 rfl)) (own_h hw 18 rfl)
  obtain ⟨T44, h44, X44, e44, W44, st44⟩ := putF X40 hx hZ hown (host := "") (Or.inl (own_h hw 61 rfl)) Via.refl e40 Fo42 e41_x0 (Or.inr ⟨(own_h hw 62 rfl), rfl, hnm⟩) (own_h hw 18 rfl) (ty := (.object "java/lang/String")) (by decide) (rfl) (rfl) (g := (own_frL m x0 sa sb fc zz sv dd 127 [(.ref sb), (.ref x0)])) rfl rfl (hb hby own_d4_127)
  have N44 := Fr.snoc X44 N40 g_x
  refine own_by (g' := (own_frL m x0 sa sb fc zz sv dd 130 [])) st44 ?_
  refine own_g (own_frL m x0 sa sb fc zz sv dd 132 [(.ref fc), (.ref x0)]) (fun _ q => XS.aloadN X44.here hx rfl (hb hby own_d4_130) rfl rfl (XS.aloadN X44.here hx rfl (hb hby own_d4_131) rfl rfl q)) ?_
  have e45_x0 := (e41_x0.wr W44)
  have x47_x0 := (Unt.wr W44 x43_x0)
  obtain ⟨vo46, Fo46⟩ := own_someF e45_x0 x47_x0 (Or.inr (own_h hw 64 rfl)) (own_h hw 18 rfl)
  obtain ⟨T48, h48, X48, e48, W48, st48⟩ := putF X44 hx hZ hown (host := "") (Or.inl (own_h hw 63 rfl)) Via.refl e44 Fo46 e45_x0 (Or.inr ⟨(own_h hw 64 rfl), rfl, hnm⟩) (own_h hw 18 rfl) (ty := (.object "com/example/bahikhata/bahikhata/model/Facility")) (by decide) (rfl) (rfl) (g := (own_frL m x0 sa sb fc zz sv dd 132 [(.ref fc), (.ref x0)])) rfl rfl (hb hby own_d4_132)
  have Fw48 := Fo46.same W48
  have N48 := Fr.snoc X48 N44 g_x
  refine own_by (g' := (own_frL m x0 sa sb fc zz sv dd 135 [])) st48 ?_
  refine own_g (own_frL m x0 sa sb fc zz sv dd 138 [(.ref zz), (.ref x0)]) (fun _ q => XS.aloadN X48.here hx rfl (hb hby own_d4_135) rfl rfl (XS.aload X48.here hx rfl (hb hby own_d4_136) rfl rfl q)) ?_
  have e49_x0 := (e45_x0.wr W48)
  have x51_x0 := (Unt.wr W48 x47_x0)
  obtain ⟨vo50, Fo50⟩ := own_someF e49_x0 x51_x0 (Or.inr (own_h hw 66 rfl)) (own_h hw 18 rfl)
  obtain ⟨T52, h52, X52, e52, W52, st52⟩ := putF X48 hx hZ hown (host := "") (Or.inl (own_h hw 65 rfl)) Via.refl e48 Fo50 e49_x0 (Or.inr ⟨(own_h hw 66 rfl), rfl, hnm⟩) (own_h hw 18 rfl) (ty := (.object "java/math/BigDecimal")) (by decide) (rfl) (rfl) (g := (own_frL m x0 sa sb fc zz sv dd 138 [(.ref zz), (.ref x0)])) rfl rfl (hb hby own_d4_138)
  have N52 := Fr.snoc X52 N48 g_x
  refine own_by (g' := (own_frL m x0 sa sb fc zz sv dd 141 [])) st52 ?_
  refine own_g (own_frL m x0 sa sb fc zz sv dd 144 [sv, (.ref x0)]) (fun _ q => XS.aloadN X52.here hx rfl (hb hby own_d4_141) rfl rfl (XS.aload X52.here hx rfl (hb hby own_d4_142) rfl hsv q)) ?_
  have e53_x0 := (e49_x0.wr W52)
  have x55_x0 := (Unt.wr W52 x51_x0)
  obtain ⟨vo54, Fo54⟩ := own_someF e53_x0 x55_x0 (Or.inr (own_h hw 68 rfl)) (own_h hw 18 rfl)
  obtain ⟨T56, h56, X56, e56, W56, st56⟩ := putF X52 hx hZ hown (host := "") (Or.inl (own_h hw 67 rfl)) Via.refl e52 Fo54 e53_x0 (Or.inr ⟨(own_h hw 68 rfl), rfl, hnm⟩) (own_h hw 18 rfl) (ty := (.object "java/time/LocalDate")) (by decide) (own_narR rfl) (own_fitsR rfl hsv) (g := (own_frL m x0 sa sb fc zz sv dd 144 [sv, (.ref x0)])) rfl rfl (hb hby own_d4_144)
  have Fw56 := Fo54.same W56
  have N56 := Fr.snoc X56 N52 g_x
  refine own_by (g' := (own_frL m x0 sa sb fc zz sv dd 147 [])) st56 ?_
  refine own_g (own_frL m x0 sa sb fc zz sv dd 150 [.null, (.ref x0)]) (fun _ q => XS.aloadN X56.here hx rfl (hb hby own_d4_147) rfl rfl (XS.aload X56.here hx rfl (hb hby own_d4_148) rfl rfl q)) ?_
  have e57_x0 := (e53_x0.wr W56)
  have x59_x0 := (Unt.wr W56 x55_x0)
  obtain ⟨vo58, Fo58⟩ := own_someF e57_x0 x59_x0 (Or.inr (own_h hw 70 rfl)) (own_h hw 18 rfl)
  obtain ⟨T60, h60, X60, e60, W60, st60⟩ := putF X56 hx hZ hown (host := "") (Or.inl (own_h hw 69 rfl)) Via.refl e56 Fo58 e57_x0 (Or.inr ⟨(own_h hw 70 rfl), rfl, hnm⟩) (own_h hw 18 rfl) (ty := (.object "java/lang/String")) (by decide) (rfl) (rfl) (g := (own_frL m x0 sa sb fc zz sv dd 150 [.null, (.ref x0)])) rfl rfl (hb hby own_d4_150)
  have N60 := Fr.snoc X60 N56 g_x
  refine own_by (g' := (own_frL m x0 sa sb fc zz sv dd 153 [])) st60 ?_
  refine own_g (own_frL m x0 sa sb fc zz sv dd 156 [.null, (.ref x0)]) (fun _ q => XS.aloadN X60.here hx rfl (hb hby own_d4_153) rfl rfl (XS.aload X60.here hx rfl (hb hby own_d4_154) rfl rfl q)) ?_
  have e61_x0 := (e57_x0.wr W60)
  have x63_x0 := (Unt.wr W60 x59_x0)
  obtain ⟨vo62, Fo62⟩ := own_someF e61_x0 x63_x0 (Or.inr (own_h hw 72 rfl)) (own_h hw 18 rfl)
  obtain ⟨T64, h64, X64, e64, W64, st64⟩ := putF X60 hx hZ hown (host := "") (Or.inl (own_h hw 71 rfl)) Via.refl e60 Fo62 e61_x0 (Or.inr ⟨(own_h hw 72 rfl), rfl, hnm⟩) (own_h hw 18 rfl) (ty := (.object "java/time/LocalDate")) (by decide) (rfl) (rfl) (g := (own_frL m x0 sa sb fc zz sv dd 156 [.null, (.ref x0)])) rfl rfl (hb hby own_d4_156)
  have N64 := Fr.snoc X64 N60 g_x
  refine own_by (g' := (own_frL m x0 sa sb fc zz sv dd 159 [])) st64 ?_
  refine own_g (own_frL m x0 sa sb fc zz sv dd 162 [(.ref zz), (.ref x0)]) (fun _ q => XS.aloadN X64.here hx rfl (hb hby own_d4_159) rfl rfl (XS.aload X64.here hx rfl (hb hby own_d4_160) rfl rfl q)) ?_
  have e65_x0 := (e61_x0.wr W64)
  have x67_x0 := (Unt.wr W64 x63_x0)
  obtain ⟨vo66, Fo66⟩ := own_someF e65_x0 x67_x0 (Or.inr (own_h hw 74 rfl)) (own_h hw 18 rfl)
  obtain ⟨T68, h68, X68, e68, W68, st68⟩ := putF X64 hx hZ hown (host := "") (Or.inl (own_h hw 73 rfl)) Via.refl e64 Fo66 e65_x0 (Or.inr ⟨(own_h hw 74 rfl), rfl, hnm⟩) (own_h hw 18 rfl) (ty := (.object "java/math/BigDecimal")) (by decide) (rfl) (rfl) (g := (own_frL m x0 sa sb fc zz sv dd 162 [(.ref zz), (.ref x0)])) rfl rfl (hb hby own_d4_162)
  have N68 := Fr.snoc X68 N64 g_x
  refine own_by (g' := (own_frL m x0 sa sb fc zz sv dd 165 [])) st68 ?_
  refine own_g (own_frL m x0 sa sb fc zz sv dd 168 [(.ref zz), (.ref x0)]) (fun _ q => XS.aloadN X68.here hx rfl (hb hby own_d4_165) rfl rfl (XS.aload X68.here hx rfl (hb hby own_d4_166) rfl rfl q)) ?_
  have e69_x0 := (e65_x0.wr W68)
  have x71_x0 := (Unt.wr W68 x67_x0)
  obtain ⟨vo70, Fo70⟩ := own_someF e69_x0 x71_x0 (Or.inr (own_h hw 76 rfl)) (own_h hw 18 rfl)
  obtain ⟨T72, h72, X72, e72, W72, st72⟩ := putF X68 hx hZ hown (host := "") (Or.inl (own_h hw 75 rfl)) Via.refl e68 Fo70 e69_x0 (Or.inr ⟨(own_h hw 76 rfl), rfl, hnm⟩) (own_h hw 18 rfl) (ty := (.object "java/math/BigDecimal")) (by decide) (rfl) (rfl) (g := (own_frL m x0 sa sb fc zz sv dd 168 [(.ref zz), (.ref x0)])) rfl rfl (hb hby own_d4_168)
  have N72 := Fr.snoc X72 N68 g_x
  refine own_by (g' := (own_frL m x0 sa sb fc zz sv dd 171 [])) st72 ?_
  refine own_g (own_frL m x0 sa sb fc zz sv dd 174 [(.int 0), (.ref x0)]) (fun _ q => XS.aloadN X72.here hx rfl (hb hby own_d4_171) rfl rfl (XS.iload X72.here hx rfl (hb hby own_d4_172) rfl q)) ?_
  have e73_x0 := (e69_x0.wr W72)
  have x75_x0 := (Unt.wr W72 x71_x0)
  obtain ⟨vo74, Fo74⟩ := own_someF e73_x0 x75_x0 (Or.inr (own_h hw 78 rfl)) (own_h hw 18 rfl)
  obtain ⟨T76, h76, X76, e76, W76, st76⟩ := putFN X72 hx hZ hown (own_h hw 77 rfl) Via.refl e72 Fo74 e73_x0 (Or.inr ⟨(own_h hw 78 rfl), rfl, hnm⟩) (own_h hw 18 rfl) (ty := .boolean) (v' := (.int 0)) (by decide) rfl (by decide) (g := (own_frL m x0 sa sb fc zz sv dd 174 [(.int 0), (.ref x0)])) rfl rfl (hb hby own_d4_174)
  have N76 := Fr.snoc X76 N72 g_x
  refine own_by (g' := (own_frL m x0 sa sb fc zz sv dd 177 [])) st76 ?_
  refine own_g (own_frL m x0 sa sb fc zz sv dd 180 [(.int 0), (.ref x0)]) (fun _ q => XS.aloadN X76.here hx rfl (hb hby own_d4_177) rfl rfl (XS.iload X76.here hx rfl (hb hby own_d4_178) rfl q)) ?_
  have e77_x0 := (e73_x0.wr W76)
  have x79_x0 := (Unt.wr W76 x75_x0)
  obtain ⟨vo78, Fo78⟩ := own_someF e77_x0 x79_x0 (Or.inr (own_h hw 80 rfl)) (own_h hw 18 rfl)
  obtain ⟨T80, h80, X80, e80, W80, st80⟩ := putFN X76 hx hZ hown (own_h hw 79 rfl) Via.refl e76 Fo78 e77_x0 (Or.inr ⟨(own_h hw 80 rfl), rfl, hnm⟩) (own_h hw 18 rfl) (ty := .boolean) (v' := (.int 0)) (by decide) rfl (by decide) (g := (own_frL m x0 sa sb fc zz sv dd 180 [(.int 0), (.ref x0)])) rfl rfl (hb hby own_d4_180)
  have N80 := Fr.snoc X80 N76 g_x
  refine own_by (g' := (own_frL m x0 sa sb fc zz sv dd 183 [])) st80 ?_
  refine own_g (own_frL m x0 sa sb fc zz sv dd 186 [(.int 0), (.ref x0)]) (fun _ q => XS.aloadN X80.here hx rfl (hb hby own_d4_183) rfl rfl (XS.iload X80.here hx rfl (hb hby own_d4_184) rfl q)) ?_
  have e81_x0 := (e77_x0.wr W80)
  have x83_x0 := (Unt.wr W80 x79_x0)
  obtain ⟨vo82, Fo82⟩ := own_someF e81_x0 x83_x0 (Or.inr (own_h hw 82 rfl)) (own_h hw 18 rfl)
  obtain ⟨T84, h84, X84, e84, W84, st84⟩ := putFN X80 hx hZ hown (own_h hw 81 rfl) Via.refl e80 Fo82 e81_x0 (Or.inr ⟨(own_h hw 82 rfl), rfl, hnm⟩) (own_h hw 18 rfl) (ty := .boolean) (v' := (.int 0)) (by decide) rfl (by decide) (g := (own_frL m x0 sa sb fc zz sv dd 186 [(.int 0), (.ref x0)])) rfl rfl (hb hby own_d4_186)
  have N84 := Fr.snoc X84 N80 g_x
  refine own_by (g' := (own_frL m x0 sa sb fc zz sv dd 189 [])) st84 ?_
  refine own_g (own_frL m x0 sa sb fc zz sv dd 192 [(.ref zz), (.ref x0)]) (fun _ q => XS.aloadN X84.here hx rfl (hb hby own_d4_189) rfl rfl (XS.aload X84.here hx rfl (hb hby own_d4_190) rfl rfl q)) ?_
  have e85_x0 := (e81_x0.wr W84)
  have x87_x0 := (Unt.wr W84 x83_x0)
  obtain ⟨vo86, Fo86⟩ := own_someF e85_x0 x87_x0 (Or.inr (own_h hw 84 rfl)) (own_h hw 18 rfl)
  obtain ⟨T88, h88, X88, e88, W88, st88⟩ := putF X84 hx hZ hown (host := "") (Or.inl (own_h hw 83 rfl)) Via.refl e84 Fo86 e85_x0 (Or.inr ⟨(own_h hw 84 rfl), rfl, hnm⟩) (own_h hw 18 rfl) (ty := (.object "java/math/BigDecimal")) (by decide) (rfl) (rfl) (g := (own_frL m x0 sa sb fc zz sv dd 192 [(.ref zz), (.ref x0)])) rfl rfl (hb hby own_d4_192)
  have N88 := Fr.snoc X88 N84 g_x
  refine own_by (g' := (own_frL m x0 sa sb fc zz sv dd 195 [])) st88 ?_
  refine own_g (own_frL m x0 sa sb fc zz sv dd 198 [(.ref zz), (.ref x0)]) (fun _ q => XS.aloadN X88.here hx rfl (hb hby own_d4_195) rfl rfl (XS.aload X88.here hx rfl (hb hby own_d4_196) rfl rfl q)) ?_
  have e89_x0 := (e85_x0.wr W88)
  have x91_x0 := (Unt.wr W88 x87_x0)
  obtain ⟨vo90, Fo90⟩ := own_someF e89_x0 x91_x0 (Or.inr (own_h hw 86 rfl)) (own_h hw 18 rfl)
  obtain ⟨T92, h92, X92, e92, W92, st92⟩ := putF X88 hx hZ hown (host := "") (Or.inl (own_h hw 85 rfl)) Via.refl e88 Fo90 e89_x0 (Or.inr ⟨(own_h hw 86 rfl), rfl, hnm⟩) (own_h hw 18 rfl) (ty := (.object "java/math/BigDecimal")) (by decide) (rfl) (rfl) (g := (own_frL m x0 sa sb fc zz sv dd 198 [(.ref zz), (.ref x0)])) rfl rfl (hb hby own_d4_198)
  have N92 := Fr.snoc X92 N88 g_x
  refine own_by (g' := (own_frL m x0 sa sb fc zz sv dd 201 [])) st92 ?_
  refine own_g (own_frL m x0 sa sb fc zz sv dd 204 [(.ref zz), (.ref x0)]) (fun _ q => XS.aloadN X92.here hx rfl (hb hby own_d4_201) rfl rfl (XS.aload X92.here hx rfl (hb hby own_d4_202) rfl rfl q)) ?_
  have e93_x0 := (e89_x0.wr W92)
  have x95_x0 := (Unt.wr W92 x91_x0)
  obtain ⟨vo94, Fo94⟩ := own_someF e93_x0 x95_x0 (Or.inr (own_h hw 88 rfl)) (own_h hw 18 rfl)
  obtain ⟨T96, h96, X96, e96, W96, st96⟩ := putF X92 hx hZ hown (host := "") (Or.inl (own_h hw 87 rfl)) Via.refl e92 Fo94 e93_x0 (Or.inr ⟨(own_h hw 88 rfl), rfl, hnm⟩) (own_h hw 18 rfl) (ty := (.object "java/math/BigDecimal")) (by decide) (rfl) (rfl) (g := (own_frL m x0 sa sb fc zz sv dd 204 [(.ref zz), (.ref x0)])) rfl rfl (hb hby own_d4_204)
  have N96 := Fr.snoc X96 N92 g_x
  refine own_by (g' := (own_frL m x0 sa sb fc zz sv dd 207 [])) st96 ?_
  refine own_g (own_frL m x0 sa sb fc zz sv dd 210 [(.ref zz), (.ref x0)]) (fun _ q => XS.aloadN X96.here hx rfl (hb hby own_d4_207) rfl rfl (XS.aload X96.here hx rfl (hb hby own_d4_208) rfl rfl q)) ?_
  have e97_x0 := (e93_x0.wr W96)
  have x99_x0 := (Unt.wr W96 x95_x0)
  obtain ⟨vo98, Fo98⟩ := own_someF e97_x0 x99_x0 (Or.inr (own_h hw 90 rfl)) (own_h hw 18 rfl)
  obtain ⟨T100, h100, X100, e100, W100, st100⟩ := putF X96 hx hZ hown (host := "") (Or.inl (own_h hw 89 rfl)) Via.refl e96 Fo98 e97_x0 (Or.inr ⟨(own_h hw 90 rfl), rfl, hnm⟩) (own_h hw 18 rfl) (ty := (.object "java/math/BigDecimal")) (by decide) (rfl) (rfl) (g := (own_frL m x0 sa sb fc zz sv dd 210 [(.ref zz), (.ref x0)])) rfl rfl (hb hby own_d4_210)
  have N100 := Fr.snoc X100 N96 g_x
  refine own_by (g' := (own_frL m x0 sa sb fc zz sv dd 213 [])) st100 ?_
  refine own_g (own_frL m x0 sa sb fc zz sv dd 216 [.null, (.ref x0)]) (fun _ q => XS.aloadN X100.here hx rfl (hb hby own_d4_213) rfl rfl (XS.aload X100.here hx rfl (hb hby own_d4_214) rfl rfl q)) ?_
  have e101_x0 := (e97_x0.wr W100)
  have x103_x0 := (Unt.wr W100 x99_x0)
  obtain ⟨vo102, Fo102⟩ := own_someF e101_x0 x103_x0 (Or.inr (own_h hw 92 rfl)) (own_h hw 18 rfl)
  obtain ⟨T104, h104, X104, e104, W104, st104⟩ := putF X100 hx hZ hown (host := "") (Or.inl (own_h hw 91 rfl)) Via.refl e100 Fo102 e101_x0 (Or.inr ⟨(own_h hw 92 rfl), rfl, hnm⟩) (own_h hw 18 rfl) (ty := (.object "java/time/LocalDate")) (by decide) (rfl) (rfl) (g := (own_frL m x0 sa sb fc zz sv dd 216 [.null, (.ref x0)])) rfl rfl (hb hby own_d4_216)
  have N104 := Fr.snoc X104 N100 g_x
  refine own_by (g' := (own_frL m x0 sa sb fc zz sv dd 219 [])) st104 ?_
  refine own_g (own_frL m x0 sa sb fc zz sv dd 222 [(.ref dd), (.ref x0)]) (fun _ q => XS.aloadN X104.here hx rfl (hb hby own_d4_219) rfl rfl (XS.aload X104.here hx rfl (hb hby own_d4_220) rfl rfl q)) ?_
  have e105_x0 := (e101_x0.wr W104)
  have x107_x0 := (Unt.wr W104 x103_x0)
  obtain ⟨vo106, Fo106⟩ := own_someF e105_x0 x107_x0 (Or.inr (own_h hw 94 rfl)) (own_h hw 18 rfl)
  obtain ⟨T108, h108, X108, e108, W108, st108⟩ := putF X104 hx hZ hown (host := "") (Or.inl (own_h hw 93 rfl)) Via.refl e104 Fo106 e105_x0 (Or.inr ⟨(own_h hw 94 rfl), rfl, hnm⟩) (own_h hw 18 rfl) (ty := (.object "java/time/LocalDate")) (by decide) (rfl) (rfl) (g := (own_frL m x0 sa sb fc zz sv dd 222 [(.ref dd), (.ref x0)])) rfl rfl (hb hby own_d4_222)
  have N108 := Fr.snoc X108 N104 g_x
  refine own_by (g' := (own_frL m x0 sa sb fc zz sv dd 225 [])) st108 ?_
  refine own_g (own_frL m x0 sa sb fc zz sv dd 228 [(.ref zz), (.ref x0)]) (fun _ q => XS.aloadN X108.here hx rfl (hb hby own_d4_225) rfl rfl (XS.aload X108.here hx rfl (hb hby own_d4_226) rfl rfl q)) ?_
  have e109_x0 := (e105_x0.wr W108)
  have x111_x0 := (Unt.wr W108 x107_x0)
  obtain ⟨vo110, Fo110⟩ := own_someF e109_x0 x111_x0 (Or.inr (own_h hw 96 rfl)) (own_h hw 18 rfl)
  obtain ⟨T112, h112, X112, e112, W112, st112⟩ := putF X108 hx hZ hown (host := "") (Or.inl (own_h hw 95 rfl)) Via.refl e108 Fo110 e109_x0 (Or.inr ⟨(own_h hw 96 rfl), rfl, hnm⟩) (own_h hw 18 rfl) (ty := (.object "java/math/BigDecimal")) (by decide) (rfl) (rfl) (g := (own_frL m x0 sa sb fc zz sv dd 228 [(.ref zz), (.ref x0)])) rfl rfl (hb hby own_d4_228)
  have N112 := Fr.snoc X112 N108 g_x
  refine own_by (g' := (own_frL m x0 sa sb fc zz sv dd 231 [])) st112 ?_
  refine own_g (own_frL m x0 sa sb fc zz sv dd 234 [(.ref zz), (.ref x0)]) (fun _ q => XS.aloadN X112.here hx rfl (hb hby own_d4_231) rfl rfl (XS.aload X112.here hx rfl (hb hby own_d4_232) rfl rfl q)) ?_
  have e113_x0 := (e109_x0.wr W112)
  have x115_x0 := (Unt.wr W112 x111_x0)
  obtain ⟨vo114, Fo114⟩ := own_someF e113_x0 x115_x0 (Or.inr (own_h hw 98 rfl)) (own_h hw 18 rfl)
  obtain ⟨T116, h116, X116, e116, W116, st116⟩ := putF X112 hx hZ hown (host := "") (Or.inl (own_h hw 97 rfl)) Via.refl e112 Fo114 e113_x0 (Or.inr ⟨(own_h hw 98 rfl), rfl, hnm⟩) (own_h hw 18 rfl) (ty := (.object "java/math/BigDecimal")) (by decide) (rfl) (rfl) (g := (own_frL m x0 sa sb fc zz sv dd 234 [(.ref zz), (.ref x0)])) rfl rfl (hb hby own_d4_234)
  have N116 := Fr.snoc X116 N112 g_x
  refine own_by (g' := (own_frL m x0 sa sb fc zz sv dd 237 [])) st116 ?_
  refine own_g (own_frL m x0 sa sb fc zz sv dd 240 [(.ref dd), (.ref x0)]) (fun _ q => XS.aloadN X116.here hx rfl (hb hby own_d4_237) rfl rfl (XS.aload X116.here hx rfl (hb hby own_d4_238) rfl rfl q)) ?_
  have e117_x0 := (e113_x0.wr W116)
  have x119_x0 := (Unt.wr W116 x115_x0)
  obtain ⟨vo118, Fo118⟩ := own_someF e117_x0 x119_x0 (Or.inr (own_h hw 100 rfl)) (own_h hw 18 rfl)
  obtain ⟨T120, h120, X120, e120, W120, st120⟩ := putF X116 hx hZ hown (host := "") (Or.inl (own_h hw 99 rfl)) Via.refl e116 Fo118 e117_x0 (Or.inr ⟨(own_h hw 100 rfl), rfl, hnm⟩) (own_h hw 18 rfl) (ty := (.object "java/time/LocalDate")) (by decide) (rfl) (rfl) (g := (own_frL m x0 sa sb fc zz sv dd 240 [(.ref dd), (.ref x0)])) rfl rfl (hb hby own_d4_240)
  have N120 := Fr.snoc X120 N116 g_x
  refine own_by (g' := (own_frL m x0 sa sb fc zz sv dd 243 [])) st120 ?_
  have k121_ := (((((((((((((((((((((k35_.wr W40 (Or.inl (List.mem_of_getElem? (i := 0) rfl))).wr W44 (Or.inl (List.mem_of_getElem? (i := 0) rfl))).wr W48 (Or.inl (List.mem_of_getElem? (i := 0) rfl))).wr W52 (Or.inl (List.mem_of_getElem? (i := 0) rfl))).wr W56 (Or.inl (List.mem_of_getElem? (i := 0) rfl))).wr W60 (Or.inl (List.mem_of_getElem? (i := 0) rfl))).wr W64 (Or.inl (List.mem_of_getElem? (i := 0) rfl))).wr W68 (Or.inl (List.mem_of_getElem? (i := 0) rfl))).wr W72 (Or.inl (List.mem_of_getElem? (i := 0) rfl))).wr W76 (Or.inl (List.mem_of_getElem? (i := 0) rfl))).wr W80 (Or.inl (List.mem_of_getElem? (i := 0) rfl))).wr W84 (Or.inl (List.mem_of_getElem? (i := 0) rfl))).wr W88 (Or.inl (List.mem_of_getElem? (i := 0) rfl))).wr W92 (Or.inl (List.mem_of_getElem? (i := 0) rfl))).wr W96 (Or.inl (List.mem_of_getElem? (i := 0) rfl))).wr W100 (Or.inl (List.mem_of_getElem? (i := 0) rfl))).wr W104 (Or.inl (List.mem_of_getElem? (i := 0) rfl))).wr W108 (Or.inl (List.mem_of_getElem? (i := 0) rfl))).wr W112 (Or.inl (List.mem_of_getElem? (i := 0) rfl))).wr W116 (Or.inl (List.mem_of_getElem? (i := 0) rfl))).wr W120 (Or.inl (List.mem_of_getElem? (i := 0) rfl)))
  have e122_x0 := (e117_x0.wr W120)
  have f123_x0 := ((((((((((((((((Fw56.other W60 (Or.inr (slot_ne (Or.inr (own_h hw 68 rfl)) (Or.inr (own_h hw 70 rfl)) (by decide) (t := (.object "java/time/LocalDate")) (t' := (.object "java/lang/String")) (by decide) (by decide)))).other W64 (Or.inr (slot_ne (Or.inr (own_h hw 68 rfl)) (Or.inr (own_h hw 72 rfl)) (by decide) (t := (.object "java/time/LocalDate")) (t' := (.object "java/time/LocalDate")) (by decide) (by decide)))).other W68 (Or.inr (slot_ne (Or.inr (own_h hw 68 rfl)) (Or.inr (own_h hw 74 rfl)) (by decide) (t := (.object "java/time/LocalDate")) (t' := (.object "java/math/BigDecimal")) (by decide) (by decide)))).other W72 (Or.inr (slot_ne (Or.inr (own_h hw 68 rfl)) (Or.inr (own_h hw 76 rfl)) (by decide) (t := (.object "java/time/LocalDate")) (t' := (.object "java/math/BigDecimal")) (by decide) (by decide)))).other W76 (Or.inr (slot_ne (Or.inr (own_h hw 68 rfl)) (Or.inr (own_h hw 78 rfl)) (by decide) (t := (.object "java/time/LocalDate")) (t' := .boolean) (by decide) (by decide)))).other W80 (Or.inr (slot_ne (Or.inr (own_h hw 68 rfl)) (Or.inr (own_h hw 80 rfl)) (by decide) (t := (.object "java/time/LocalDate")) (t' := .boolean) (by decide) (by decide)))).other W84 (Or.inr (slot_ne (Or.inr (own_h hw 68 rfl)) (Or.inr (own_h hw 82 rfl)) (by decide) (t := (.object "java/time/LocalDate")) (t' := .boolean) (by decide) (by decide)))).other W88 (Or.inr (slot_ne (Or.inr (own_h hw 68 rfl)) (Or.inr (own_h hw 84 rfl)) (by decide) (t := (.object "java/time/LocalDate")) (t' := (.object "java/math/BigDecimal")) (by decide) (by decide)))).other W92 (Or.inr (slot_ne (Or.inr (own_h hw 68 rfl)) (Or.inr (own_h hw 86 rfl)) (by decide) (t := (.object "java/time/LocalDate")) (t' := (.object "java/math/BigDecimal")) (by decide) (by decide)))).other W96 (Or.inr (slot_ne (Or.inr (own_h hw 68 rfl)) (Or.inr (own_h hw 88 rfl)) (by decide) (t := (.object "java/time/LocalDate")) (t' := (.object "java/math/BigDecimal")) (by decide) (by decide)))).other W100 (Or.inr (slot_ne (Or.inr (own_h hw 68 rfl)) (Or.inr (own_h hw 90 rfl)) (by decide) (t := (.object "java/time/LocalDate")) (t' := (.object "java/math/BigDecimal")) (by decide) (by decide)))).other W104 (Or.inr (slot_ne (Or.inr (own_h hw 68 rfl)) (Or.inr (own_h hw 92 rfl)) (by decide) (t := (.object "java/time/LocalDate")) (t' := (.object "java/time/LocalDate")) (by decide) (by decide)))).other W108 (Or.inr (slot_ne (Or.inr (own_h hw 68 rfl)) (Or.inr (own_h hw 94 rfl)) (by decide) (t := (.object "java/time/LocalDate")) (t' := (.object "java/time/LocalDate")) (by decide) (by decide)))).other W112 (Or.inr (slot_ne (Or.inr (own_h hw 68 rfl)) (Or.inr (own_h hw 96 rfl)) (by decide) (t := (.object "java/time/LocalDate")) (t' := (.object "java/math/BigDecimal")) (by decide) (by decide)))).other W116 (Or.inr (slot_ne (Or.inr (own_h hw 68 rfl)) (Or.inr (own_h hw 98 rfl)) (by decide) (t := (.object "java/time/LocalDate")) (t' := (.object "java/math/BigDecimal")) (by decide) (by decide)))).other W120 (Or.inr (slot_ne (Or.inr (own_h hw 68 rfl)) (Or.inr (own_h hw 100 rfl)) (by decide) (t := (.object "java/time/LocalDate")) (t' := (.object "java/time/LocalDate")) (by decide) (by decide))))
  have f124_x0 := ((((((((((((((((((Fw48.other W52 (Or.inr (slot_ne (Or.inr (own_h hw 64 rfl)) (Or.inr (own_h hw 66 rfl)) (by decide) (t := (.object "com/example/bahikhata/bahikhata/model/Facility")) (t' := (.object "java/math/BigDecimal")) (by decide) (by decide)))).other W56 (Or.inr (slot_ne (Or.inr (own_h hw 64 rfl)) (Or.inr (own_h hw 68 rfl)) (by decide) (t := (.object "com/example/bahikhata/bahikhata/model/Facility")) (t' := (.object "java/time/LocalDate")) (by decide) (by decide)))).other W60 (Or.inr (slot_ne (Or.inr (own_h hw 64 rfl)) (Or.inr (own_h hw 70 rfl)) (by decide) (t := (.object "com/example/bahikhata/bahikhata/model/Facility")) (t' := (.object "java/lang/String")) (by decide) (by decide)))).other W64 (Or.inr (slot_ne (Or.inr (own_h hw 64 rfl)) (Or.inr (own_h hw 72 rfl)) (by decide) (t := (.object "com/example/bahikhata/bahikhata/model/Facility")) (t' := (.object "java/time/LocalDate")) (by decide) (by decide)))).other W68 (Or.inr (slot_ne (Or.inr (own_h hw 64 rfl)) (Or.inr (own_h hw 74 rfl)) (by decide) (t := (.object "com/example/bahikhata/bahikhata/model/Facility")) (t' := (.object "java/math/BigDecimal")) (by decide) (by decide)))).other W72 (Or.inr (slot_ne (Or.inr (own_h hw 64 rfl)) (Or.inr (own_h hw 76 rfl)) (by decide) (t := (.object "com/example/bahikhata/bahikhata/model/Facility")) (t' := (.object "java/math/BigDecimal")) (by decide) (by decide)))).other W76 (Or.inr (slot_ne (Or.inr (own_h hw 64 rfl)) (Or.inr (own_h hw 78 rfl)) (by decide) (t := (.object "com/example/bahikhata/bahikhata/model/Facility")) (t' := .boolean) (by decide) (by decide)))).other W80 (Or.inr (slot_ne (Or.inr (own_h hw 64 rfl)) (Or.inr (own_h hw 80 rfl)) (by decide) (t := (.object "com/example/bahikhata/bahikhata/model/Facility")) (t' := .boolean) (by decide) (by decide)))).other W84 (Or.inr (slot_ne (Or.inr (own_h hw 64 rfl)) (Or.inr (own_h hw 82 rfl)) (by decide) (t := (.object "com/example/bahikhata/bahikhata/model/Facility")) (t' := .boolean) (by decide) (by decide)))).other W88 (Or.inr (slot_ne (Or.inr (own_h hw 64 rfl)) (Or.inr (own_h hw 84 rfl)) (by decide) (t := (.object "com/example/bahikhata/bahikhata/model/Facility")) (t' := (.object "java/math/BigDecimal")) (by decide) (by decide)))).other W92 (Or.inr (slot_ne (Or.inr (own_h hw 64 rfl)) (Or.inr (own_h hw 86 rfl)) (by decide) (t := (.object "com/example/bahikhata/bahikhata/model/Facility")) (t' := (.object "java/math/BigDecimal")) (by decide) (by decide)))).other W96 (Or.inr (slot_ne (Or.inr (own_h hw 64 rfl)) (Or.inr (own_h hw 88 rfl)) (by decide) (t := (.object "com/example/bahikhata/bahikhata/model/Facility")) (t' := (.object "java/math/BigDecimal")) (by decide) (by decide)))).other W100 (Or.inr (slot_ne (Or.inr (own_h hw 64 rfl)) (Or.inr (own_h hw 90 rfl)) (by decide) (t := (.object "com/example/bahikhata/bahikhata/model/Facility")) (t' := (.object "java/math/BigDecimal")) (by decide) (by decide)))).other W104 (Or.inr (slot_ne (Or.inr (own_h hw 64 rfl)) (Or.inr (own_h hw 92 rfl)) (by decide) (t := (.object "com/example/bahikhata/bahikhata/model/Facility")) (t' := (.object "java/time/LocalDate")) (by decide) (by decide)))).other W108 (Or.inr (slot_ne (Or.inr (own_h hw 64 rfl)) (Or.inr (own_h hw 94 rfl)) (by decide) (t := (.object "com/example/bahikhata/bahikhata/model/Facility")) (t' := (.object "java/time/LocalDate")) (by decide) (by decide)))).other W112 (Or.inr (slot_ne (Or.inr (own_h hw 64 rfl)) (Or.inr (own_h hw 96 rfl)) (by decide) (t := (.object "com/example/bahikhata/bahikhata/model/Facility")) (t' := (.object "java/math/BigDecimal")) (by decide) (by decide)))).other W116 (Or.inr (slot_ne (Or.inr (own_h hw 64 rfl)) (Or.inr (own_h hw 98 rfl)) (by decide) (t := (.object "com/example/bahikhata/bahikhata/model/Facility")) (t' := (.object "java/math/BigDecimal")) (by decide) (by decide)))).other W120 (Or.inr (slot_ne (Or.inr (own_h hw 64 rfl)) (Or.inr (own_h hw 100 rfl)) (by decide) (t := (.object "com/example/bahikhata/bahikhata/model/Facility")) (t' := (.object "java/time/LocalDate")) (by decide) (by decide))))
  have hk125_ := (Nat.le_trans (Nat.le_trans (Nat.le_trans (Nat.le_trans (Nat.le_trans (Nat.le_trans (Nat.le_trans (Nat.le_trans (Nat.le_trans (Nat.le_trans (Nat.le_trans (Nat.le_trans (Nat.le_trans (Nat.le_trans (Nat.le_trans (Nat.le_trans (Nat.le_trans (Nat.le_trans (Nat.le_trans (Nat.le_trans (Nat.le_trans hk34 (Keep.of_wr W40).1) (Keep.of_wr W44).1) (Keep.of_wr W48).1) (Keep.of_wr W52).1) (Keep.of_wr W56).1) (Keep.of_wr W60).1) (Keep.of_wr W64).1) (Keep.of_wr W68).1) (Keep.of_wr W72).1) (Keep.of_wr W76).1) (Keep.of_wr W80).1) (Keep.of_wr W84).1) (Keep.of_wr W88).1) (Keep.of_wr W92).1) (Keep.of_wr W96).1) (Keep.of_wr W100).1) (Keep.of_wr W104).1) (Keep.of_wr W108).1) (Keep.of_wr W112).1) (Keep.of_wr W116).1) (Keep.of_wr W120).1)
  exact own_endJ X120 hS (by rw [e120]; exact hk125_) hZ (own_Rs.sub RS34 (by decide)) (v := none) (fun _ => rfl) hlk (fun hr => X120.returnOut hx Bd.returns (hb hby own_d4_243) hr) (by rw [e120]; exact ⟨rfl, N120, k121_, e122_x0, f123_x0, f124_x0⟩) (by decide) (by decide)
theorem own_liCr_ef (m : MethodId) (x0 : Addr) (sa : Addr) (sb : Addr) (fc : Addr) (zz : Addr) (sv : Value) (dd : Addr) (hsv : sv.isRef = true) : entryFrame m #[(.ref x0), (.ref sa), (.ref sb), (.ref fc), (.ref zz), sv, .null, .null, (.ref zz), (.ref zz), (.int 0), (.int 0), (.int 0), (.ref zz), (.ref zz), (.ref zz), (.ref zz), .null, (.ref dd), (.ref zz), (.ref zz), (.ref dd)] 22 = mkF m 0 #[.val (.ref x0), .val (.ref sa), .val (.ref sb), .val (.ref fc), .val (.ref zz), .val sv, .val .null, .val .null, .val (.ref zz), .val (.ref zz), .val (.int 0), .val (.int 0), .val (.int 0), .val (.ref zz), .val (.ref zz), .val (.ref zz), .val (.ref zz), .val .null, .val (.ref dd), .val (.ref zz), .val (.ref zz), .val (.ref dd)] [] := by rcases ref_cases hsv with rfl | ⟨_, rfl⟩ <;>  first | (simp [entryFrame, mkF, argsToLocals, Value.category]; done) | rfl
def own_liCr_Q (Z : State) (x0 : Addr) (sa : Addr) (sb : Addr) (fc : Addr) (zz : Addr) (sv : Value) (dd : Addr) (h0 : Heap) (n0 : Nat) (v : Option Value) (h : Heap) (L : List Loc) : Prop := v = none ∧ Fr n0 L ∧ Keep h0 h [x0] ∧ Exa Z h x0 "com/example/bahikhata/bahikhata/model/Loan" ∧ Fld Z h x0 "com/example/bahikhata/bahikhata/model/Loan" "overdueSince" "Ljava/time/LocalDate;" sv ∧ Fld Z h x0 "com/example/bahikhata/bahikhata/model/Loan" "facility" "Lcom/example/bahikhata/bahikhata/model/Facility;" (.ref fc)
set_option maxRecDepth 65536 in
set_option maxHeartbeats 40000000 in
theorem own_liCr (l : Launch) (Z : State) (a0 : Array Value) (hw : ∀ d ∈ tables_1, d.before a0 Z = true) (ws : List Jvm.Cond) (x0 : Addr) (sa : Addr) (sb : Addr) (fc : Addr) (zz : Addr) (sv : Value) (dd : Addr) (h0 : Heap) (n0 : Nat) (Z0 : n0 ≤ h0.size) (hsv : sv.isRef = true) (E_x : Exa Z h0 x0 "com/example/bahikhata/bahikhata/model/Loan") (g_x : n0 ≤ x0) (U_x : Unt h0 x0) (E_f : Exa Z h0 fc "com/example/bahikhata/bahikhata/model/Facility") (R_f : Fld Z h0 fc "com/example/bahikhata/bahikhata/model/Facility" "runningAccount" "Z" (.int 1)) (n_fx : fc ≠ x0) :
    MetFree l own_y8 (head1 (Jvm.Cond.code own_y8 prog_53_method_1_code 22 none :: ws) (⟨2, 0, 0, 24⟩ : Room)) (fun aa U => aa = #[(.ref x0), (.ref sa), (.ref sb), (.ref fc), (.ref zz), sv, .null, .null, (.ref zz), (.ref zz), (.int 0), (.int 0), (.int 0), (.ref zz), (.ref zz), (.ref zz), (.ref zz), .null, (.ref dd), (.ref zz), (.ref zz), (.ref dd)] ∧ Z.Warmed39 U.vm ∧ U.heap = h0 ∧ own_Rs Z U.vm ([("com/example/bahikhata/bahikhata/model/Loan", 7), ("com/example/bahikhata/bahikhata/model/Loan", 15), ("com/example/bahikhata/bahikhata/model/Loan", 17), ("com/example/bahikhata/bahikhata/model/Loan", 19), ("com/example/bahikhata/bahikhata/model/Loan", 21), ("com/example/bahikhata/bahikhata/model/Loan", 23), ("com/example/bahikhata/bahikhata/model/Loan", 25), ("com/example/bahikhata/bahikhata/model/Loan", 27), ("com/example/bahikhata/bahikhata/model/Loan", 35), ("com/example/bahikhata/bahikhata/model/Loan", 37), ("com/example/bahikhata/bahikhata/model/Loan", 39), ("com/example/bahikhata/bahikhata/model/Loan", 41), ("com/example/bahikhata/bahikhata/model/Loan", 43), ("com/example/bahikhata/bahikhata/model/Loan", 45)] : List (String × Nat))) (fun _ _ _ _ _ => True) (fun _ U o U' => ∃ v L, o = .returned v ∧ own_liCr_Q Z x0 sa sb fc zz sv dd h0 n0 v U'.heap L ∧ own_Rs Z U'.vm ([("com/example/bahikhata/bahikhata/model/Loan", 7), ("com/example/bahikhata/bahikhata/model/Loan", 15), ("com/example/bahikhata/bahikhata/model/Loan", 17), ("com/example/bahikhata/bahikhata/model/Loan", 19), ("com/example/bahikhata/bahikhata/model/Loan", 21), ("com/example/bahikhata/bahikhata/model/Loan", 23), ("com/example/bahikhata/bahikhata/model/Loan", 25), ("com/example/bahikhata/bahikhata/model/Loan", 27), ("com/example/bahikhata/bahikhata/model/Loan", 35), ("com/example/bahikhata/bahikhata/model/Loan", 37), ("com/example/bahikhata/bahikhata/model/Loan", 39), ("com/example/bahikhata/bahikhata/model/Loan", 41), ("com/example/bahikhata/bahikhata/model/Loan", 43), ("com/example/bahikhata/bahikhata/model/Loan", 45)] : List (String × Nat)) ∧ ReturnedEndW U o U' L (⟨2, 0, 0, 24⟩ : Room).cells (⟨2, 0, 0, 24⟩ : Room).slots) := by
  refine MetFree.of_bodySF (plainFor_of_name own_pn_com_example_bahikhata_bahikhata_model_Loan) hisR ?_
  intro p e s m args below meth c s₁ Bd hml0 hP hK
  obtain ⟨rfl, hZ, hh, RS0⟩ := hP
  have hx := Bd.exec
  have hby := Bd.bytes
  have hml : c.maxLocals = 22 := hml0
  have hown : s.vm.findClass "com/example/bahikhata/bahikhata/model/Loan" = some m.cls := findClass_of_methodNamed Bd.named
  have hnm := (name_of_methodNamed Bd.named Bd.method).1
  have hlk := Bd.notSynchronized
  have X0 : Stand p l e (⟨2, 0, 0, 24⟩ : Room) (s.setVm s.vm) m #[(.ref x0), (.ref sa), (.ref sb), (.ref fc), (.ref zz), sv, .null, .null, (.ref zz), (.ref zz), (.int 0), (.int 0), (.int 0), (.ref zz), (.ref zz), (.ref zz), (.ref zz), .null, (.ref dd), (.ref zz), (.ref zz), (.ref dd)] below meth c s₁ [] 0 0 := Stand.of_body Bd
  have e0 : s₁.heap = h0 := by rw [← hh, Bd.state]; rfl
  have N0 := Fr.nil n0
  have hS : s.Since s.vm 0 := (State.WarmedH.refl s).since 0
  have hk0 : 0 ≤ h0.size := Nat.zero_le _
  have wS := own_wS hw
  refine own_startJ (K' := ([("com/example/bahikhata/bahikhata/model/Loan", 7), ("com/example/bahikhata/bahikhata/model/Loan", 15), ("com/example/bahikhata/bahikhata/model/Loan", 17), ("com/example/bahikhata/bahikhata/model/Loan", 19), ("com/example/bahikhata/bahikhata/model/Loan", 21), ("com/example/bahikhata/bahikhata/model/Loan", 23), ("com/example/bahikhata/bahikhata/model/Loan", 25), ("com/example/bahikhata/bahikhata/model/Loan", 27), ("com/example/bahikhata/bahikhata/model/Loan", 35), ("com/example/bahikhata/bahikhata/model/Loan", 37), ("com/example/bahikhata/bahikhata/model/Loan", 39), ("com/example/bahikhata/bahikhata/model/Loan", 41), ("com/example/bahikhata/bahikhata/model/Loan", 43), ("com/example/bahikhata/bahikhata/model/Loan", 45)] : List (String × Nat))) (Q := own_liCr_Q Z x0 sa sb fc zz sv dd h0 n0) (own_liCr_ef m x0 sa sb fc zz sv dd hsv) ?_
  refine own_g (own_frL m x0 sa sb fc zz sv dd 1 [(.ref x0)]) (fun _ q => XS.aloadN X0.here hx rfl (hb hby own_d4_0) rfl rfl q) ?_
  refine own_callI X0 hx hZ (y := own_y15) rfl hown (own_h hw 32 rfl) (own_h hw 33 rfl) (own_h hw 36 rfl) (own_h hw 35 rfl) (by decide) (own_rec l Z a0 hw [] x0 h0 n0 (Nat.le_trans Z0 (Keep.refl h0 [x0]).1) ) (by decide) (by decide) e0 (g := (own_frL m x0 sa sb fc zz sv dd 1 [(.ref x0)])) rfl (by rw [hml]; rfl) (argsL := []) (rest := []) (lenOf own_pd__28_29V rfl) rfl (W := 0) (by show 2 * 0 + _ ≤ _; exact Nat.le_of_eq rfl) (hb hby own_d4_1) rfl (by decide) (by decide) ?_
  rintro rv1 T1 L1 X1 ⟨rfl, Nq1, eh1⟩
  have N1 := Fr.app N0 Nq1
  refine own_g (own_frL m x0 sa sb fc zz sv dd 5 [(.ref sa)]) (fun _ q => XS.aloadN X1.here hx rfl (hb hby own_d4_4) rfl rfl q) ?_
  obtain ⟨a2, st2⟩ := own_ldcA X1 hx hZ hown (own_h hw 40 rfl) RS0 (by decide) (g := (own_frL m x0 sa sb fc zz sv dd 5 [(.ref sa)])) rfl (hb hby own_d4_5)
  refine own_by (g' := (own_frL m x0 sa sb fc zz sv dd 7 [(.ref a2), (.ref sa)])) st2 ?_
  refine own_callS X1 hx hZ (y := own_y17) hown (own_h hw 41 rfl) (own_h hw 42 rfl) (own_h hw 43 rfl) (own_h hw 44 rfl) (by decide) (own_rnn l Z a0 hw [] sa a2 h0 n0 (Nat.le_trans Z0 (Keep.refl h0 [x0]).1) ) (by decide) (by decide) eh1 (g := (own_frL m x0 sa sb fc zz sv dd 7 [(.ref a2), (.ref sa)])) rfl (by rw [hml]; rfl) (argsL := [(.ref sa), (.ref a2)]) (rest := []) (lenOf own_pd__28Ljava_2flang_2fObject_3bLjava_2flang_2fString_3b_29Ljava_2flang_2fObject_3b rfl) rfl (W := 0) (by show 2 * 0 + _ ≤ _; exact Nat.le_of_eq rfl) (hb hby own_d4_7) rfl (by decide) (by decide) ?_
  rintro rv3 T3 L3 X3 ⟨rfl, Nq3, eh3⟩
  have N3 := Fr.app N1 Nq3
  refine own_g (own_frL m x0 sa sb fc zz sv dd 12 [(.ref sb)]) (fun _ q => XS.pop X3.here hx rfl (hb hby own_d4_10) rfl rfl (XS.aloadN X3.here hx rfl (hb hby own_d4_11) rfl rfl q)) ?_
  obtain ⟨a4, st4⟩ := own_ldcA X3 hx hZ hown (own_h hw 45 rfl) RS0 (by decide) (g := (own_frL m x0 sa sb fc zz sv dd 12 [(.ref sb)])) rfl (hb hby own_d4_12)
  refine own_by (g' := (own_frL m x0 sa sb fc zz sv dd 14 [(.ref a4), (.ref sb)])) st4 ?_
  refine own_callS X3 hx hZ (y := own_y17) hown (own_h hw 41 rfl) (own_h hw 42 rfl) (own_h hw 43 rfl) (own_h hw 44 rfl) (by decide) (own_rnn l Z a0 hw [] sb a4 h0 n0 (Nat.le_trans Z0 (Keep.refl h0 [x0]).1) ) (by decide) (by decide) eh3 (g := (own_frL m x0 sa sb fc zz sv dd 14 [(.ref a4), (.ref sb)])) rfl (by rw [hml]; rfl) (argsL := [(.ref sb), (.ref a4)]) (rest := []) (lenOf own_pd__28Ljava_2flang_2fObject_3bLjava_2flang_2fString_3b_29Ljava_2flang_2fObject_3b rfl) rfl (W := 0) (by show 2 * 0 + _ ≤ _; exact Nat.le_of_eq rfl) (hb hby own_d4_14) rfl (by decide) (by decide) ?_
  rintro rv5 T5 L5 X5 ⟨rfl, Nq5, eh5⟩
  have N5 := Fr.app N3 Nq5
  refine own_g (own_frL m x0 sa sb fc zz sv dd 19 [(.ref fc)]) (fun _ q => XS.pop X5.here hx rfl (hb hby own_d4_17) rfl rfl (XS.aloadN X5.here hx rfl (hb hby own_d4_18) rfl rfl q)) ?_
  obtain ⟨a6, st6⟩ := own_ldcA X5 hx hZ hown (own_h hw 46 rfl) RS0 (by decide) (g := (own_frL m x0 sa sb fc zz sv dd 19 [(.ref fc)])) rfl (hb hby own_d4_19)
  refine own_by (g' := (own_frL m x0 sa sb fc zz sv dd 21 [(.ref a6), (.ref fc)])) st6 ?_
  refine own_callS X5 hx hZ (y := own_y17) hown (own_h hw 41 rfl) (own_h hw 42 rfl) (own_h hw 43 rfl) (own_h hw 44 rfl) (by decide) (own_rnn l Z a0 hw [] fc a6 h0 n0 (Nat.le_trans Z0 (Keep.refl h0 [x0]).1) ) (by decide) (by decide) eh5 (g := (own_frL m x0 sa sb fc zz sv dd 21 [(.ref a6), (.ref fc)])) rfl (by rw [hml]; rfl) (argsL := [(.ref fc), (.ref a6)]) (rest := []) (lenOf own_pd__28Ljava_2flang_2fObject_3bLjava_2flang_2fString_3b_29Ljava_2flang_2fObject_3b rfl) rfl (W := 0) (by show 2 * 0 + _ ≤ _; exact Nat.le_of_eq rfl) (hb hby own_d4_21) rfl (by decide) (by decide) ?_
  rintro rv7 T7 L7 X7 ⟨rfl, Nq7, eh7⟩
  have N7 := Fr.app N5 Nq7
  refine own_g (own_frL m x0 sa sb fc zz sv dd 27 [(.ref zz)]) (fun _ q => XS.pop X7.here hx rfl (hb hby own_d4_24) rfl rfl (XS.aload X7.here hx rfl (hb hby own_d4_25) rfl rfl q)) ?_
  obtain ⟨a8, st8⟩ := own_ldcA X7 hx hZ hown (own_h hw 47 rfl) RS0 (by decide) (g := (own_frL m x0 sa sb fc zz sv dd 27 [(.ref zz)])) rfl (hb hby own_d4_27)
  refine own_by (g' := (own_frL m x0 sa sb fc zz sv dd 29 [(.ref a8), (.ref zz)])) st8 ?_
  refine own_callS X7 hx hZ (y := own_y17) hown (own_h hw 41 rfl) (own_h hw 42 rfl) (own_h hw 43 rfl) (own_h hw 44 rfl) (by decide) (own_rnn l Z a0 hw [] zz a8 h0 n0 (Nat.le_trans Z0 (Keep.refl h0 [x0]).1) ) (by decide) (by decide) eh7 (g := (own_frL m x0 sa sb fc zz sv dd 29 [(.ref a8), (.ref zz)])) rfl (by rw [hml]; rfl) (argsL := [(.ref zz), (.ref a8)]) (rest := []) (lenOf own_pd__28Ljava_2flang_2fObject_3bLjava_2flang_2fString_3b_29Ljava_2flang_2fObject_3b rfl) rfl (W := 0) (by show 2 * 0 + _ ≤ _; exact Nat.le_of_eq rfl) (hb hby own_d4_29) rfl (by decide) (by decide) ?_
  rintro rv9 T9 L9 X9 ⟨rfl, Nq9, eh9⟩
  have N9 := Fr.app N7 Nq9
  refine own_g (own_frL m x0 sa sb fc zz sv dd 35 [(.ref zz)]) (fun _ q => XS.pop X9.here hx rfl (hb hby own_d4_32) rfl rfl (XS.aload X9.here hx rfl (hb hby own_d4_33) rfl rfl q)) ?_
  obtain ⟨a10, st10⟩ := own_ldcA X9 hx hZ hown (own_h hw 48 rfl) RS0 (by decide) (g := (own_frL m x0 sa sb fc zz sv dd 35 [(.ref zz)])) rfl (hb hby own_d4_35)
  refine own_by (g' := (own_frL m x0 sa sb fc zz sv dd 37 [(.ref a10), (.ref zz)])) st10 ?_
  refine own_callS X9 hx hZ (y := own_y17) hown (own_h hw 41 rfl) (own_h hw 42 rfl) (own_h hw 43 rfl) (own_h hw 44 rfl) (by decide) (own_rnn l Z a0 hw [] zz a10 h0 n0 (Nat.le_trans Z0 (Keep.refl h0 [x0]).1) ) (by decide) (by decide) eh9 (g := (own_frL m x0 sa sb fc zz sv dd 37 [(.ref a10), (.ref zz)])) rfl (by rw [hml]; rfl) (argsL := [(.ref zz), (.ref a10)]) (rest := []) (lenOf own_pd__28Ljava_2flang_2fObject_3bLjava_2flang_2fString_3b_29Ljava_2flang_2fObject_3b rfl) rfl (W := 0) (by show 2 * 0 + _ ≤ _; exact Nat.le_of_eq rfl) (hb hby own_d4_37) rfl (by decide) (by decide) ?_
  rintro rv11 T11 L11 X11 ⟨rfl, Nq11, eh11⟩
  have N11 := Fr.app N9 Nq11
  refine own_g (own_frL m x0 sa sb fc zz sv dd 43 [(.ref zz)]) (fun _ q => XS.pop X11.here hx rfl (hb hby own_d4_40) rfl rfl (XS.aload X11.here hx rfl (hb hby own_d4_41) rfl rfl q)) ?_
  obtain ⟨a12, st12⟩ := own_ldcA X11 hx hZ hown (own_h hw 49 rfl) RS0 (by decide) (g := (own_frL m x0 sa sb fc zz sv dd 43 [(.ref zz)])) rfl (hb hby own_d4_43)
  refine own_by (g' := (own_frL m x0 sa sb fc zz sv dd 45 [(.ref a12), (.ref zz)])) st12 ?_
  refine own_callS X11 hx hZ (y := own_y17) hown (own_h hw 41 rfl) (own_h hw 42 rfl) (own_h hw 43 rfl) (own_h hw 44 rfl) (by decide) (own_rnn l Z a0 hw [] zz a12 h0 n0 (Nat.le_trans Z0 (Keep.refl h0 [x0]).1) ) (by decide) (by decide) eh11 (g := (own_frL m x0 sa sb fc zz sv dd 45 [(.ref a12), (.ref zz)])) rfl (by rw [hml]; rfl) (argsL := [(.ref zz), (.ref a12)]) (rest := []) (lenOf own_pd__28Ljava_2flang_2fObject_3bLjava_2flang_2fString_3b_29Ljava_2flang_2fObject_3b rfl) rfl (W := 0) (by show 2 * 0 + _ ≤ _; exact Nat.le_of_eq rfl) (hb hby own_d4_45) rfl (by decide) (by decide) ?_
  rintro rv13 T13 L13 X13 ⟨rfl, Nq13, eh13⟩
  have N13 := Fr.app N11 Nq13
  refine own_g (own_frL m x0 sa sb fc zz sv dd 51 [(.ref zz)]) (fun _ q => XS.pop X13.here hx rfl (hb hby own_d4_48) rfl rfl (XS.aload X13.here hx rfl (hb hby own_d4_49) rfl rfl q)) ?_
  obtain ⟨a14, st14⟩ := own_ldcA X13 hx hZ hown (own_h hw 50 rfl) RS0 (by decide) (g := (own_frL m x0 sa sb fc zz sv dd 51 [(.ref zz)])) rfl (hb hby own_d4_51)
  refine own_by (g' := (own_frL m x0 sa sb fc zz sv dd 53 [(.ref a14), (.ref zz)])) st14 ?_
  refine own_callS X13 hx hZ (y := own_y17) hown (own_h hw 41 rfl) (own_h hw 42 rfl) (own_h hw 43 rfl) (own_h hw 44 rfl) (by decide) (own_rnn l Z a0 hw [] zz a14 h0 n0 (Nat.le_trans Z0 (Keep.refl h0 [x0]).1) ) (by decide) (by decide) eh13 (g := (own_frL m x0 sa sb fc zz sv dd 53 [(.ref a14), (.ref zz)])) rfl (by rw [hml]; rfl) (argsL := [(.ref zz), (.ref a14)]) (rest := []) (lenOf own_pd__28Ljava_2flang_2fObject_3bLjava_2flang_2fString_3b_29Ljava_2flang_2fObject_3b rfl) rfl (W := 0) (by show 2 * 0 + _ ≤ _; exact Nat.le_of_eq rfl) (hb hby own_d4_53) rfl (by decide) (by decide) ?_
  rintro rv15 T15 L15 X15 ⟨rfl, Nq15, eh15⟩
  have N15 := Fr.app N13 Nq15
  refine own_g (own_frL m x0 sa sb fc zz sv dd 59 [(.ref zz)]) (fun _ q => XS.pop X15.here hx rfl (hb hby own_d4_56) rfl rfl (XS.aload X15.here hx rfl (hb hby own_d4_57) rfl rfl q)) ?_
  obtain ⟨a16, st16⟩ := own_ldcA X15 hx hZ hown (own_h hw 51 rfl) RS0 (by decide) (g := (own_frL m x0 sa sb fc zz sv dd 59 [(.ref zz)])) rfl (hb hby own_d4_59)
  refine own_by (g' := (own_frL m x0 sa sb fc zz sv dd 61 [(.ref a16), (.ref zz)])) st16 ?_
  refine own_callS X15 hx hZ (y := own_y17) hown (own_h hw 41 rfl) (own_h hw 42 rfl) (own_h hw 43 rfl) (own_h hw 44 rfl) (by decide) (own_rnn l Z a0 hw [] zz a16 h0 n0 (Nat.le_trans Z0 (Keep.refl h0 [x0]).1) ) (by decide) (by decide) eh15 (g := (own_frL m x0 sa sb fc zz sv dd 61 [(.ref a16), (.ref zz)])) rfl (by rw [hml]; rfl) (argsL := [(.ref zz), (.ref a16)]) (rest := []) (lenOf own_pd__28Ljava_2flang_2fObject_3bLjava_2flang_2fString_3b_29Ljava_2flang_2fObject_3b rfl) rfl (W := 0) (by show 2 * 0 + _ ≤ _; exact Nat.le_of_eq rfl) (hb hby own_d4_61) rfl (by decide) (by decide) ?_
  rintro rv17 T17 L17 X17 ⟨rfl, Nq17, eh17⟩
  have N17 := Fr.app N15 Nq17
  refine own_g (own_frL m x0 sa sb fc zz sv dd 66 [(.ref fc)]) (fun _ q => XS.pop X17.here hx rfl (hb hby own_d4_64) rfl rfl (XS.aloadN X17.here hx rfl (hb hby own_d4_65) rfl rfl q)) ?_
  refine own_callV X17 hx hZ (y := own_y6) (z := own_y6) hown (own_h hw 52 rfl) (own_h hw 53 rfl) (own_nf (own_h hw 55 rfl)) (own_h hw 55 rfl) (own_h hw 54 rfl) (own_h hw 56 rfl) (own_h hw 8 rfl) (by decide) E_f (own_run l Z a0 hw [] fc _ h0 n0 (Nat.le_trans Z0 (Keep.refl h0 [x0]).1) R_f) (by decide) (by decide) eh17 (g := (own_frL m x0 sa sb fc zz sv dd 66 [(.ref fc)])) rfl (by rw [hml]; rfl) (argsL := []) (rest := []) (lenOf own_pd__28_29Z rfl) rfl (W := 0) (by show 2 * 0 + _ ≤ _; exact Nat.le_of_eq rfl) (hb hby own_d4_66) rfl (by decide) (by decide) ?_
  rintro rv18 T18 L18 X18 ⟨rfl, Nq18, eh18⟩
  have N18 := Fr.app N17 Nq18
  refine own_g (own_frL m x0 sa sb fc zz sv dd 74 [(.ref zz)]) (fun _ q => XS.ifNo X18.here hx rfl (hb hby own_d4_69) rfl ((if0 _ _).trans (feq (by decide : ¬ ((1 : Int32) = (0 : Int32)))).1) (XS.aload X18.here hx rfl (hb hby own_d4_72) rfl rfl q)) ?_
  obtain ⟨a19, st19⟩ := own_ldcA X18 hx hZ hown (own_h hw 105 rfl) RS0 (by decide) (g := (own_frL m x0 sa sb fc zz sv dd 74 [(.ref zz)])) rfl (hb hby own_d4_74)
  refine own_by (g' := (own_frL m x0 sa sb fc zz sv dd 76 [(.ref a19), (.ref zz)])) st19 ?_
  refine own_callS X18 hx hZ (y := own_y17) hown (own_h hw 41 rfl) (own_h hw 42 rfl) (own_h hw 43 rfl) (own_h hw 44 rfl) (by decide) (own_rnn l Z a0 hw [] zz a19 h0 n0 (Nat.le_trans Z0 (Keep.refl h0 [x0]).1) ) (by decide) (by decide) eh18 (g := (own_frL m x0 sa sb fc zz sv dd 76 [(.ref a19), (.ref zz)])) rfl (by rw [hml]; rfl) (argsL := [(.ref zz), (.ref a19)]) (rest := []) (lenOf own_pd__28Ljava_2flang_2fObject_3bLjava_2flang_2fString_3b_29Ljava_2flang_2fObject_3b rfl) rfl (W := 0) (by show 2 * 0 + _ ≤ _; exact Nat.le_of_eq rfl) (hb hby own_d4_76) rfl (by decide) (by decide) ?_
  rintro rv20 T20 L20 X20 ⟨rfl, Nq20, eh20⟩
  have N20 := Fr.app N18 Nq20
  refine own_g (own_frL m x0 sa sb fc zz sv dd 82 [(.ref zz)]) (fun _ q => XS.pop X20.here hx rfl (hb hby own_d4_79) rfl rfl (XS.aload X20.here hx rfl (hb hby own_d4_80) rfl rfl q)) ?_
  obtain ⟨a21, st21⟩ := own_ldcA X20 hx hZ hown (own_h hw 106 rfl) RS0 (by decide) (g := (own_frL m x0 sa sb fc zz sv dd 82 [(.ref zz)])) rfl (hb hby own_d4_82)
  refine own_by (g' := (own_frL m x0 sa sb fc zz sv dd 84 [(.ref a21), (.ref zz)])) st21 ?_
  refine own_callS X20 hx hZ (y := own_y17) hown (own_h hw 41 rfl) (own_h hw 42 rfl) (own_h hw 43 rfl) (own_h hw 44 rfl) (by decide) (own_rnn l Z a0 hw [] zz a21 h0 n0 (Nat.le_trans Z0 (Keep.refl h0 [x0]).1) ) (by decide) (by decide) eh20 (g := (own_frL m x0 sa sb fc zz sv dd 84 [(.ref a21), (.ref zz)])) rfl (by rw [hml]; rfl) (argsL := [(.ref zz), (.ref a21)]) (rest := []) (lenOf own_pd__28Ljava_2flang_2fObject_3bLjava_2flang_2fString_3b_29Ljava_2flang_2fObject_3b rfl) rfl (W := 0) (by show 2 * 0 + _ ≤ _; exact Nat.le_of_eq rfl) (hb hby own_d4_84) rfl (by decide) (by decide) ?_
  rintro rv22 T22 L22 X22 ⟨rfl, Nq22, eh22⟩
  have N22 := Fr.app N20 Nq22
  refine own_g (own_frL m x0 sa sb fc zz sv dd 90 [(.ref dd)]) (fun _ q => XS.pop X22.here hx rfl (hb hby own_d4_87) rfl rfl (XS.aload X22.here hx rfl (hb hby own_d4_88) rfl rfl q)) ?_
  obtain ⟨a23, st23⟩ := own_ldcA X22 hx hZ hown (own_h hw 107 rfl) RS0 (by decide) (g := (own_frL m x0 sa sb fc zz sv dd 90 [(.ref dd)])) rfl (hb hby own_d4_90)
  refine own_by (g' := (own_frL m x0 sa sb fc zz sv dd 92 [(.ref a23), (.ref dd)])) st23 ?_
  refine own_callS X22 hx hZ (y := own_y17) hown (own_h hw 41 rfl) (own_h hw 42 rfl) (own_h hw 43 rfl) (own_h hw 44 rfl) (by decide) (own_rnn l Z a0 hw [] dd a23 h0 n0 (Nat.le_trans Z0 (Keep.refl h0 [x0]).1) ) (by decide) (by decide) eh22 (g := (own_frL m x0 sa sb fc zz sv dd 92 [(.ref a23), (.ref dd)])) rfl (by rw [hml]; rfl) (argsL := [(.ref dd), (.ref a23)]) (rest := []) (lenOf own_pd__28Ljava_2flang_2fObject_3bLjava_2flang_2fString_3b_29Ljava_2flang_2fObject_3b rfl) rfl (W := 0) (by show 2 * 0 + _ ≤ _; exact Nat.le_of_eq rfl) (hb hby own_d4_92) rfl (by decide) (by decide) ?_
  rintro rv24 T24 L24 X24 ⟨rfl, Nq24, eh24⟩
  have N24 := Fr.app N22 Nq24
  refine own_g (own_frL m x0 sa sb fc zz sv dd 98 [(.ref zz)]) (fun _ q => XS.pop X24.here hx rfl (hb hby own_d4_95) rfl rfl (XS.aload X24.here hx rfl (hb hby own_d4_96) rfl rfl q)) ?_
  obtain ⟨a25, st25⟩ := own_ldcA X24 hx hZ hown (own_h hw 108 rfl) RS0 (by decide) (g := (own_frL m x0 sa sb fc zz sv dd 98 [(.ref zz)])) rfl (hb hby own_d4_98)
  refine own_by (g' := (own_frL m x0 sa sb fc zz sv dd 100 [(.ref a25), (.ref zz)])) st25 ?_
  refine own_callS X24 hx hZ (y := own_y17) hown (own_h hw 41 rfl) (own_h hw 42 rfl) (own_h hw 43 rfl) (own_h hw 44 rfl) (by decide) (own_rnn l Z a0 hw [] zz a25 h0 n0 (Nat.le_trans Z0 (Keep.refl h0 [x0]).1) ) (by decide) (by decide) eh24 (g := (own_frL m x0 sa sb fc zz sv dd 100 [(.ref a25), (.ref zz)])) rfl (by rw [hml]; rfl) (argsL := [(.ref zz), (.ref a25)]) (rest := []) (lenOf own_pd__28Ljava_2flang_2fObject_3bLjava_2flang_2fString_3b_29Ljava_2flang_2fObject_3b rfl) rfl (W := 0) (by show 2 * 0 + _ ≤ _; exact Nat.le_of_eq rfl) (hb hby own_d4_100) rfl (by decide) (by decide) ?_
  rintro rv26 T26 L26 X26 ⟨rfl, Nq26, eh26⟩
  have N26 := Fr.app N24 Nq26
  refine own_g (own_frL m x0 sa sb fc zz sv dd 106 [(.ref zz)]) (fun _ q => XS.pop X26.here hx rfl (hb hby own_d4_103) rfl rfl (XS.aload X26.here hx rfl (hb hby own_d4_104) rfl rfl q)) ?_
  obtain ⟨a27, st27⟩ := own_ldcA X26 hx hZ hown (own_h hw 109 rfl) RS0 (by decide) (g := (own_frL m x0 sa sb fc zz sv dd 106 [(.ref zz)])) rfl (hb hby own_d4_106)
  refine own_by (g' := (own_frL m x0 sa sb fc zz sv dd 108 [(.ref a27), (.ref zz)])) st27 ?_
  refine own_callS X26 hx hZ (y := own_y17) hown (own_h hw 41 rfl) (own_h hw 42 rfl) (own_h hw 43 rfl) (own_h hw 44 rfl) (by decide) (own_rnn l Z a0 hw [] zz a27 h0 n0 (Nat.le_trans Z0 (Keep.refl h0 [x0]).1) ) (by decide) (by decide) eh26 (g := (own_frL m x0 sa sb fc zz sv dd 108 [(.ref a27), (.ref zz)])) rfl (by rw [hml]; rfl) (argsL := [(.ref zz), (.ref a27)]) (rest := []) (lenOf own_pd__28Ljava_2flang_2fObject_3bLjava_2flang_2fString_3b_29Ljava_2flang_2fObject_3b rfl) rfl (W := 0) (by show 2 * 0 + _ ≤ _; exact Nat.le_of_eq rfl) (hb hby own_d4_108) rfl (by decide) (by decide) ?_
  rintro rv28 T28 L28 X28 ⟨rfl, Nq28, eh28⟩
  have N28 := Fr.app N26 Nq28
  refine own_g (own_frL m x0 sa sb fc zz sv dd 114 [(.ref dd)]) (fun _ q => XS.pop X28.here hx rfl (hb hby own_d4_111) rfl rfl (XS.aload X28.here hx rfl (hb hby own_d4_112) rfl rfl q)) ?_
  obtain ⟨a29, st29⟩ := own_ldcA X28 hx hZ hown (own_h hw 110 rfl) RS0 (by decide) (g := (own_frL m x0 sa sb fc zz sv dd 114 [(.ref dd)])) rfl (hb hby own_d4_114)
  refine own_by (g' := (own_frL m x0 sa sb fc zz sv dd 116 [(.ref a29), (.ref dd)])) st29 ?_
  refine own_callS X28 hx hZ (y := own_y17) hown (own_h hw 41 rfl) (own_h hw 42 rfl) (own_h hw 43 rfl) (own_h hw 44 rfl) (by decide) (own_rnn l Z a0 hw [] dd a29 h0 n0 (Nat.le_trans Z0 (Keep.refl h0 [x0]).1) ) (by decide) (by decide) eh28 (g := (own_frL m x0 sa sb fc zz sv dd 116 [(.ref a29), (.ref dd)])) rfl (by rw [hml]; rfl) (argsL := [(.ref dd), (.ref a29)]) (rest := []) (lenOf own_pd__28Ljava_2flang_2fObject_3bLjava_2flang_2fString_3b_29Ljava_2flang_2fObject_3b rfl) rfl (W := 0) (by show 2 * 0 + _ ≤ _; exact Nat.le_of_eq rfl) (hb hby own_d4_116) rfl (by decide) (by decide) ?_
  rintro rv30 T30 L30 X30 ⟨rfl, Nq30, eh30⟩
  have N30 := Fr.app N28 Nq30
  refine own_g (own_frL m x0 sa sb fc zz sv dd 122 [(.ref sa), (.ref x0)]) (fun _ q => XS.pop X30.here hx rfl (hb hby own_d4_119) rfl rfl (XS.aloadN X30.here hx rfl (hb hby own_d4_120) rfl rfl (XS.aloadN X30.here hx rfl (hb hby own_d4_121) rfl rfl q))) ?_
  obtain ⟨vo31, Fo31⟩ := own_someF E_x U_x (Or.inr (own_h hw 60 rfl)) (own_h hw 18 rfl)
  obtain ⟨T32, h32, X32, e32, W32, st32⟩ := putF X30 hx hZ hown (host := "") (Or.inl (own_h hw 59 rfl)) Via.refl eh30 Fo31 E_x (Or.inr ⟨(own_h hw 60 rfl), rfl, hnm⟩) (own_h hw 18 rfl) (ty := (.object "java/lang/String")) (by decide) (rfl) (rfl) (g := (own_frL m x0 sa sb fc zz sv dd 122 [(.ref sa), (.ref x0)])) rfl rfl (hb hby own_d4_122)
  have N32 := Fr.snoc X32 N30 g_x
  refine own_by (g' := (own_frL m x0 sa sb fc zz sv dd 125 [])) st32 ?_
  refine own_g (own_frL m x0 sa sb fc zz sv dd 127 [(.ref sb), (.ref x0)]) (fun _ q => XS.aloadN X32.here hx rfl (hb hby own_d4_125) rfl rfl (XS.aloadN X32.here hx rfl (hb hby own_d4_126) rfl rfl q)) ?_
  have e33_x0 := (E_x.wr W32)
  have x35_x0 := (Unt.wr W32 U_x)
  obtain ⟨vo34, Fo34⟩ := own_someF e33_x0 x35_x0 (Or.inr (own_h hw 62 rfl)) (own_h hw 18 rfl)
  obtain ⟨T36, h36, X36, e36, W36, st36⟩ := putF X32 hx hZ hown (host := "") (Or.inl (own_h hw 61 rfl)) Via.refl e32 Fo34 e33_x0 (Or.inr ⟨(own_h hw 62 rfl), rfl, hnm⟩) (own_h hw 18 rfl) (ty := (.object "java/lang/String")) (by decide) (rfl) (rfl) (g := (own_frL m x0 sa sb fc zz sv dd 127 [(.ref sb), (.ref x0)])) rfl rfl (hb hby own_d4_127)
  have N36 := Fr.snoc X36 N32 g_x
  refine own_by (g' := (own_frL m x0 sa sb fc zz sv dd 130 [])) st36 ?_
  refine own_g (own_frL m x0 sa sb fc zz sv dd 132 [(.ref fc), (.ref x0)]) (fun _ q => XS.aloadN X36.here hx rfl (hb hby own_d4_130) rfl rfl (XS.aloadN X36.here hx rfl (hb hby own_d4_131) rfl rfl q)) ?_
  have e37_x0 := (e33_x0.wr W36)
  have x39_x0 := (Unt.wr W36 x35_x0)
  obtain ⟨vo38, Fo38⟩ := own_someF e37_x0 x39_x0 (Or.inr (own_h hw 64 rfl)) (own_h hw 18 rfl)
  obtain ⟨T40, h40, X40, e40, W40, st40⟩ := putF X36 hx hZ hown (host := "") (Or.inl (own_h hw 63 rfl)) Via.refl e36 Fo38 e37_x0 (Or.inr ⟨(own_h hw 64 rfl), rfl, hnm⟩) (own_h hw 18 rfl) (ty := (.object "com/example/bahikhata/bahikhata/model/Facility")) (by decide) (rfl) (rfl) (g := (own_frL m x0 sa sb fc zz sv dd 132 [(.ref fc), (.ref x0)])) rfl rfl (hb hby own_d4_132)
  have Fw40 := Fo38.same W40
  have N40 := Fr.snoc X40 N36 g_x
  refine own_by (g' := (own_frL m x0 sa sb fc zz sv dd 135 [])) st40 ?_
  refine own_g (own_frL m x0 sa sb fc zz sv dd 138 [(.ref zz), (.ref x0)]) (fun _ q => XS.aloadN X40.here hx rfl (hb hby own_d4_135) rfl rfl (XS.aload X40.here hx rfl (hb hby own_d4_136) rfl rfl q)) ?_
  have e41_x0 := (e37_x0.wr W40)
  have x43_x0 := (Unt.wr W40 x39_x0)
  obtain ⟨vo42, Fo42⟩ := own_someF e41_x0 x43_x0 (Or.inr (own_h hw 66 rfl)) (own_h hw 18 rfl)
  obtain ⟨T44, h44, X44, e44, W44, st44⟩ := putF X40 hx hZ hown (host := "") (Or.inl (own_h hw 65 rfl)) Via.refl e40 Fo42 e41_x0 (Or.inr ⟨(own_h hw 66 rfl), rfl, hnm⟩) (own_h hw 18 rfl) (ty := (.object "java/math/BigDecimal")) (by decide) (rfl) (rfl) (g := (own_frL m x0 sa sb fc zz sv dd 138 [(.ref zz), (.ref x0)])) rfl rfl (hb hby own_d4_138)
  have N44 := Fr.snoc X44 N40 g_x
  refine own_by (g' := (own_frL m x0 sa sb fc zz sv dd 141 [])) st44 ?_
  refine own_g (own_frL m x0 sa sb fc zz sv dd 144 [sv, (.ref x0)]) (fun _ q => XS.aloadN X44.here hx rfl (hb hby own_d4_141) rfl rfl (XS.aload X44.here hx rfl (hb hby own_d4_142) rfl hsv q)) ?_
  have e45_x0 := (e41_x0.wr W44)
  have x47_x0 := (Unt.wr W44 x43_x0)
  obtain ⟨vo46, Fo46⟩ := own_someF e45_x0 x47_x0 (Or.inr (own_h hw 68 rfl)) (own_h hw 18 rfl)
  obtain ⟨T48, h48, X48, e48, W48, st48⟩ := putF X44 hx hZ hown (host := "") (Or.inl (own_h hw 67 rfl)) Via.refl e44 Fo46 e45_x0 (Or.inr ⟨(own_h hw 68 rfl), rfl, hnm⟩) (own_h hw 18 rfl) (ty := (.object "java/time/LocalDate")) (by decide) (own_narR rfl) (own_fitsR rfl hsv) (g := (own_frL m x0 sa sb fc zz sv dd 144 [sv, (.ref x0)])) rfl rfl (hb hby own_d4_144)
  have Fw48 := Fo46.same W48
  have N48 := Fr.snoc X48 N44 g_x
  refine own_by (g' := (own_frL m x0 sa sb fc zz sv dd 147 [])) st48 ?_
  refine own_g (own_frL m x0 sa sb fc zz sv dd 150 [.null, (.ref x0)]) (fun _ q => XS.aloadN X48.here hx rfl (hb hby own_d4_147) rfl rfl (XS.aload X48.here hx rfl (hb hby own_d4_148) rfl rfl q)) ?_
  have e49_x0 := (e45_x0.wr W48)
  have x51_x0 := (Unt.wr W48 x47_x0)
  obtain ⟨vo50, Fo50⟩ := own_someF e49_x0 x51_x0 (Or.inr (own_h hw 70 rfl)) (own_h hw 18 rfl)
  obtain ⟨T52, h52, X52, e52, W52, st52⟩ := putF X48 hx hZ hown (host := "") (Or.inl (own_h hw 69 rfl)) Via.refl e48 Fo50 e49_x0 (Or.inr ⟨(own_h hw 70 rfl), rfl, hnm⟩) (own_h hw 18 rfl) (ty := (.object "java/lang/String")) (by decide) (rfl) (rfl) (g := (own_frL m x0 sa sb fc zz sv dd 150 [.null, (.ref x0)])) rfl rfl (hb hby own_d4_150)
  have N52 := Fr.snoc X52 N48 g_x
  refine own_by (g' := (own_frL m x0 sa sb fc zz sv dd 153 [])) st52 ?_
  refine own_g (own_frL m x0 sa sb fc zz sv dd 156 [.null, (.ref x0)]) (fun _ q => XS.aloadN X52.here hx rfl (hb hby own_d4_153) rfl rfl (XS.aload X52.here hx rfl (hb hby own_d4_154) rfl rfl q)) ?_
  have e53_x0 := (e49_x0.wr W52)
  have x55_x0 := (Unt.wr W52 x51_x0)
  obtain ⟨vo54, Fo54⟩ := own_someF e53_x0 x55_x0 (Or.inr (own_h hw 72 rfl)) (own_h hw 18 rfl)
  obtain ⟨T56, h56, X56, e56, W56, st56⟩ := putF X52 hx hZ hown (host := "") (Or.inl (own_h hw 71 rfl)) Via.refl e52 Fo54 e53_x0 (Or.inr ⟨(own_h hw 72 rfl), rfl, hnm⟩) (own_h hw 18 rfl) (ty := (.object "java/time/LocalDate")) (by decide) (rfl) (rfl) (g := (own_frL m x0 sa sb fc zz sv dd 156 [.null, (.ref x0)])) rfl rfl (hb hby own_d4_156)
  have N56 := Fr.snoc X56 N52 g_x
  refine own_by (g' := (own_frL m x0 sa sb fc zz sv dd 159 [])) st56 ?_
  refine own_g (own_frL m x0 sa sb fc zz sv dd 162 [(.ref zz), (.ref x0)]) (fun _ q => XS.aloadN X56.here hx rfl (hb hby own_d4_159) rfl rfl (XS.aload X56.here hx rfl (hb hby own_d4_160) rfl rfl q)) ?_
  have e57_x0 := (e53_x0.wr W56)
  have x59_x0 := (Unt.wr W56 x55_x0)
  obtain ⟨vo58, Fo58⟩ := own_someF e57_x0 x59_x0 (Or.inr (own_h hw 74 rfl)) (own_h hw 18 rfl)
  obtain ⟨T60, h60, X60, e60, W60, st60⟩ := putF X56 hx hZ hown (host := "") (Or.inl (own_h hw 73 rfl)) Via.refl e56 Fo58 e57_x0 (Or.inr ⟨(own_h hw 74 rfl), rfl, hnm⟩) (own_h hw 18 rfl) (ty := (.object "java/math/BigDecimal")) (by decide) (rfl) (rfl) (g := (own_frL m x0 sa sb fc zz sv dd 162 [(.ref zz), (.ref x0)])) rfl rfl (hb hby own_d4_162)
  have N60 := Fr.snoc X60 N56 g_x
  refine own_by (g' := (own_frL m x0 sa sb fc zz sv dd 165 [])) st60 ?_
  refine own_g (own_frL m x0 sa sb fc zz sv dd 168 [(.ref zz), (.ref x0)]) (fun _ q => XS.aloadN X60.here hx rfl (hb hby own_d4_165) rfl rfl (XS.aload X60.here hx rfl (hb hby own_d4_166) rfl rfl q)) ?_
  have e61_x0 := (e57_x0.wr W60)
  have x63_x0 := (Unt.wr W60 x59_x0)
  obtain ⟨vo62, Fo62⟩ := own_someF e61_x0 x63_x0 (Or.inr (own_h hw 76 rfl)) (own_h hw 18 rfl)
  obtain ⟨T64, h64, X64, e64, W64, st64⟩ := putF X60 hx hZ hown (host := "") (Or.inl (own_h hw 75 rfl)) Via.refl e60 Fo62 e61_x0 (Or.inr ⟨(own_h hw 76 rfl), rfl, hnm⟩) (own_h hw 18 rfl) (ty := (.object "java/math/BigDecimal")) (by decide) (rfl) (rfl) (g := (own_frL m x0 sa sb fc zz sv dd 168 [(.ref zz), (.ref x0)])) rfl rfl (hb hby own_d4_168)
  have N64 := Fr.snoc X64 N60 g_x
  refine own_by (g' := (own_frL m x0 sa sb fc zz sv dd 171 [])) st64 ?_
  refine own_g (own_frL m x0 sa sb fc zz sv dd 174 [(.int 0), (.ref x0)]) (fun _ q => XS.aloadN X64.here hx rfl (hb hby own_d4_171) rfl rfl (XS.iload X64.here hx rfl (hb hby own_d4_172) rfl q)) ?_
  have e65_x0 := (e61_x0.wr W64)
  have x67_x0 := (Unt.wr W64 x63_x0)
  obtain ⟨vo66, Fo66⟩ := own_someF e65_x0 x67_x0 (Or.inr (own_h hw 78 rfl)) (own_h hw 18 rfl)
  obtain ⟨T68, h68, X68, e68, W68, st68⟩ := putFN X64 hx hZ hown (own_h hw 77 rfl) Via.refl e64 Fo66 e65_x0 (Or.inr ⟨(own_h hw 78 rfl), rfl, hnm⟩) (own_h hw 18 rfl) (ty := .boolean) (v' := (.int 0)) (by decide) rfl (by decide) (g := (own_frL m x0 sa sb fc zz sv dd 174 [(.int 0), (.ref x0)])) rfl rfl (hb hby own_d4_174)
  have N68 := Fr.snoc X68 N64 g_x
  refine own_by (g' := (own_frL m x0 sa sb fc zz sv dd 177 [])) st68 ?_
  refine own_g (own_frL m x0 sa sb fc zz sv dd 180 [(.int 0), (.ref x0)]) (fun _ q => XS.aloadN X68.here hx rfl (hb hby own_d4_177) rfl rfl (XS.iload X68.here hx rfl (hb hby own_d4_178) rfl q)) ?_
  have e69_x0 := (e65_x0.wr W68)
  have x71_x0 := (Unt.wr W68 x67_x0)
  obtain ⟨vo70, Fo70⟩ := own_someF e69_x0 x71_x0 (Or.inr (own_h hw 80 rfl)) (own_h hw 18 rfl)
  obtain ⟨T72, h72, X72, e72, W72, st72⟩ := putFN X68 hx hZ hown (own_h hw 79 rfl) Via.refl e68 Fo70 e69_x0 (Or.inr ⟨(own_h hw 80 rfl), rfl, hnm⟩) (own_h hw 18 rfl) (ty := .boolean) (v' := (.int 0)) (by decide) rfl (by decide) (g := (own_frL m x0 sa sb fc zz sv dd 180 [(.int 0), (.ref x0)])) rfl rfl (hb hby own_d4_180)
  have N72 := Fr.snoc X72 N68 g_x
  refine own_by (g' := (own_frL m x0 sa sb fc zz sv dd 183 [])) st72 ?_
  refine own_g (own_frL m x0 sa sb fc zz sv dd 186 [(.int 0), (.ref x0)]) (fun _ q => XS.aloadN X72.here hx rfl (hb hby own_d4_183) rfl rfl (XS.iload X72.here hx rfl (hb hby own_d4_184) rfl q)) ?_
  have e73_x0 := (e69_x0.wr W72)
  have x75_x0 := (Unt.wr W72 x71_x0)
  obtain ⟨vo74, Fo74⟩ := own_someF e73_x0 x75_x0 (Or.inr (own_h hw 82 rfl)) (own_h hw 18 rfl)
  obtain ⟨T76, h76, X76, e76, W76, st76⟩ := putFN X72 hx hZ hown (own_h hw 81 rfl) Via.refl e72 Fo74 e73_x0 (Or.inr ⟨(own_h hw 82 rfl), rfl, hnm⟩) (own_h hw 18 rfl) (ty := .boolean) (v' := (.int 0)) (by decide) rfl (by decide) (g := (own_frL m x0 sa sb fc zz sv dd 186 [(.int 0), (.ref x0)])) rfl rfl (hb hby own_d4_186)
  have N76 := Fr.snoc X76 N72 g_x
  refine own_by (g' := (own_frL m x0 sa sb fc zz sv dd 189 [])) st76 ?_
  refine own_g (own_frL m x0 sa sb fc zz sv dd 192 [(.ref zz), (.ref x0)]) (fun _ q => XS.aloadN X76.here hx rfl (hb hby own_d4_189) rfl rfl (XS.aload X76.here hx rfl (hb hby own_d4_190) rfl rfl q)) ?_
  have e77_x0 := (e73_x0.wr W76)
  have x79_x0 := (Unt.wr W76 x75_x0)
  obtain ⟨vo78, Fo78⟩ := own_someF e77_x0 x79_x0 (Or.inr (own_h hw 84 rfl)) (own_h hw 18 rfl)
  obtain ⟨T80, h80, X80, e80, W80, st80⟩ := putF X76 hx hZ hown (host := "") (Or.inl (own_h hw 83 rfl)) Via.refl e76 Fo78 e77_x0 (Or.inr ⟨(own_h hw 84 rfl), rfl, hnm⟩) (own_h hw 18 rfl) (ty := (.object "java/math/BigDecimal")) (by decide) (rfl) (rfl) (g := (own_frL m x0 sa sb fc zz sv dd 192 [(.ref zz), (.ref x0)])) rfl rfl (hb hby own_d4_192)
  have N80 := Fr.snoc X80 N76 g_x
  refine own_by (g' := (own_frL m x0 sa sb fc zz sv dd 195 [])) st80 ?_
  refine own_g (own_frL m x0 sa sb fc zz sv dd 198 [(.ref zz), (.ref x0)]) (fun _ q => XS.aloadN X80.here hx rfl (hb hby own_d4_195) rfl rfl (XS.aload X80.here hx rfl (hb hby own_d4_196) rfl rfl q)) ?_
  have e81_x0 := (e77_x0.wr W80)
  have x83_x0 := (Unt.wr W80 x79_x0)
  obtain ⟨vo82, Fo82⟩ := own_someF e81_x0 x83_x0 (Or.inr (own_h hw 86 rfl)) (own_h hw 18 rfl)
  obtain ⟨T84, h84, X84, e84, W84, st84⟩ := putF X80 hx hZ hown (host := "") (Or.inl (own_h hw 85 rfl)) Via.refl e80 Fo82 e81_x0 (Or.inr ⟨(own_h hw 86 rfl), rfl, hnm⟩) (own_h hw 18 rfl) (ty := (.object "java/math/BigDecimal")) (by decide) (rfl) (rfl) (g := (own_frL m x0 sa sb fc zz sv dd 198 [(.ref zz), (.ref x0)])) rfl rfl (hb hby own_d4_198)
  have N84 := Fr.snoc X84 N80 g_x
  refine own_by (g' := (own_frL m x0 sa sb fc zz sv dd 201 [])) st84 ?_
  refine own_g (own_frL m x0 sa sb fc zz sv dd 204 [(.ref zz), (.ref x0)]) (fun _ q => XS.aloadN X84.here hx rfl (hb hby own_d4_201) rfl rfl (XS.aload X84.here hx rfl (hb hby own_d4_202) rfl rfl q)) ?_
  have e85_x0 := (e81_x0.wr W84)
  have x87_x0 := (Unt.wr W84 x83_x0)
  obtain ⟨vo86, Fo86⟩ := own_someF e85_x0 x87_x0 (Or.inr (own_h hw 88 rfl)) (own_h hw 18 rfl)
  obtain ⟨T88, h88, X88, e88, W88, st88⟩ := putF X84 hx hZ hown (host := "") (Or.inl (own_h hw 87 rfl)) Via.refl e84 Fo86 e85_x0 (Or.inr ⟨(own_h hw 88 rfl), rfl, hnm⟩) (own_h hw 18 rfl) (ty := (.object "java/math/BigDecimal")) (by decide) (rfl) (rfl) (g := (own_frL m x0 sa sb fc zz sv dd 204 [(.ref zz), (.ref x0)])) rfl rfl (hb hby own_d4_204)
  have N88 := Fr.snoc X88 N84 g_x
  refine own_by (g' := (own_frL m x0 sa sb fc zz sv dd 207 [])) st88 ?_
  refine own_g (own_frL m x0 sa sb fc zz sv dd 210 [(.ref zz), (.ref x0)]) (fun _ q => XS.aloadN X88.here hx rfl (hb hby own_d4_207) rfl rfl (XS.aload X88.here hx rfl (hb hby own_d4_208) rfl rfl q)) ?_
  have e89_x0 := (e85_x0.wr W88)
  have x91_x0 := (Unt.wr W88 x87_x0)
  obtain ⟨vo90, Fo90⟩ := own_someF e89_x0 x91_x0 (Or.inr (own_h hw 90 rfl)) (own_h hw 18 rfl)
  obtain ⟨T92, h92, X92, e92, W92, st92⟩ := putF X88 hx hZ hown (host := "") (Or.inl (own_h hw 89 rfl)) Via.refl e88 Fo90 e89_x0 (Or.inr ⟨(own_h hw 90 rfl), rfl, hnm⟩) (own_h hw 18 rfl) (ty := (.object "java/math/BigDecimal")) (by decide) (rfl) (rfl) (g := (own_frL m x0 sa sb fc zz sv dd 210 [(.ref zz), (.ref x0)])) rfl rfl (hb hby own_d4_210)
  have N92 := Fr.snoc X92 N88 g_x
  refine own_by (g' := (own_frL m x0 sa sb fc zz sv dd 213 [])) st92 ?_
  refine own_g (own_frL m x0 sa sb fc zz sv dd 216 [.null, (.ref x0)]) (fun _ q => XS.aloadN X92.here hx rfl (hb hby own_d4_213) rfl rfl (XS.aload X92.here hx rfl (hb hby own_d4_214) rfl rfl q)) ?_
  have e93_x0 := (e89_x0.wr W92)
  have x95_x0 := (Unt.wr W92 x91_x0)
  obtain ⟨vo94, Fo94⟩ := own_someF e93_x0 x95_x0 (Or.inr (own_h hw 92 rfl)) (own_h hw 18 rfl)
  obtain ⟨T96, h96, X96, e96, W96, st96⟩ := putF X92 hx hZ hown (host := "") (Or.inl (own_h hw 91 rfl)) Via.refl e92 Fo94 e93_x0 (Or.inr ⟨(own_h hw 92 rfl), rfl, hnm⟩) (own_h hw 18 rfl) (ty := (.object "java/time/LocalDate")) (by decide) (rfl) (rfl) (g := (own_frL m x0 sa sb fc zz sv dd 216 [.null, (.ref x0)])) rfl rfl (hb hby own_d4_216)
  have N96 := Fr.snoc X96 N92 g_x
  refine own_by (g' := (own_frL m x0 sa sb fc zz sv dd 219 [])) st96 ?_
  refine own_g (own_frL m x0 sa sb fc zz sv dd 222 [(.ref dd), (.ref x0)]) (fun _ q => XS.aloadN X96.here hx rfl (hb hby own_d4_219) rfl rfl (XS.aload X96.here hx rfl (hb hby own_d4_220) rfl rfl q)) ?_
  have e97_x0 := (e93_x0.wr W96)
  have x99_x0 := (Unt.wr W96 x95_x0)
  obtain ⟨vo98, Fo98⟩ := own_someF e97_x0 x99_x0 (Or.inr (own_h hw 94 rfl)) (own_h hw 18 rfl)
  obtain ⟨T100, h100, X100, e100, W100, st100⟩ := putF X96 hx hZ hown (host := "") (Or.inl (own_h hw 93 rfl)) Via.refl e96 Fo98 e97_x0 (Or.inr ⟨(own_h hw 94 rfl), rfl, hnm⟩) (own_h hw 18 rfl) (ty := (.object "java/time/LocalDate")) (by decide) (rfl) (rfl) (g := (own_frL m x0 sa sb fc zz sv dd 222 [(.ref dd), (.ref x0)])) rfl rfl (hb hby own_d4_222)
  have N100 := Fr.snoc X100 N96 g_x
  refine own_by (g' := (own_frL m x0 sa sb fc zz sv dd 225 [])) st100 ?_
  refine own_g (own_frL m x0 sa sb fc zz sv dd 228 [(.ref zz), (.ref x0)]) (fun _ q => XS.aloadN X100.here hx rfl (hb hby own_d4_225) rfl rfl (XS.aload X100.here hx rfl (hb hby own_d4_226) rfl rfl q)) ?_
  have e101_x0 := (e97_x0.wr W100)
  have x103_x0 := (Unt.wr W100 x99_x0)
  obtain ⟨vo102, Fo102⟩ := own_someF e101_x0 x103_x0 (Or.inr (own_h hw 96 rfl)) (own_h hw 18 rfl)
  obtain ⟨T104, h104, X104, e104, W104, st104⟩ := putF X100 hx hZ hown (host := "") (Or.inl (own_h hw 95 rfl)) Via.refl e100 Fo102 e101_x0 (Or.inr ⟨(own_h hw 96 rfl), rfl, hnm⟩) (own_h hw 18 rfl) (ty := (.object "java/math/BigDecimal")) (by decide) (rfl) (rfl) (g := (own_frL m x0 sa sb fc zz sv dd 228 [(.ref zz), (.ref x0)])) rfl rfl (hb hby own_d4_228)
  have N104 := Fr.snoc X104 N100 g_x
  refine own_by (g' := (own_frL m x0 sa sb fc zz sv dd 231 [])) st104 ?_
  refine own_g (own_frL m x0 sa sb fc zz sv dd 234 [(.ref zz), (.ref x0)]) (fun _ q => XS.aloadN X104.here hx rfl (hb hby own_d4_231) rfl rfl (XS.aload X104.here hx rfl (hb hby own_d4_232) rfl rfl q)) ?_
  have e105_x0 := (e101_x0.wr W104)
  have x107_x0 := (Unt.wr W104 x103_x0)
  obtain ⟨vo106, Fo106⟩ := own_someF e105_x0 x107_x0 (Or.inr (own_h hw 98 rfl)) (own_h hw 18 rfl)
  obtain ⟨T108, h108, X108, e108, W108, st108⟩ := putF X104 hx hZ hown (host := "") (Or.inl (own_h hw 97 rfl)) Via.refl e104 Fo106 e105_x0 (Or.inr ⟨(own_h hw 98 rfl), rfl, hnm⟩) (own_h hw 18 rfl) (ty := (.object "java/math/BigDecimal")) (by decide) (rfl) (rfl) (g := (own_frL m x0 sa sb fc zz sv dd 234 [(.ref zz), (.ref x0)])) rfl rfl (hb hby own_d4_234)
  have N108 := Fr.snoc X108 N104 g_x
  refine own_by (g' := (own_frL m x0 sa sb fc zz sv dd 237 [])) st108 ?_
  refine own_g (own_frL m x0 sa sb fc zz sv dd 240 [(.ref dd), (.ref x0)]) (fun _ q => XS.aloadN X108.here hx rfl (hb hby own_d4_237) rfl rfl (XS.aload X108.here hx rfl (hb hby own_d4_238) rfl rfl q)) ?_
  have e109_x0 := (e105_x0.wr W108)
  have x111_x0 := (Unt.wr W108 x107_x0)
  obtain ⟨vo110, Fo110⟩ := own_someF e109_x0 x111_x0 (Or.inr (own_h hw 100 rfl)) (own_h hw 18 rfl)
  obtain ⟨T112, h112, X112, e112, W112, st112⟩ := putF X108 hx hZ hown (host := "") (Or.inl (own_h hw 99 rfl)) Via.refl e108 Fo110 e109_x0 (Or.inr ⟨(own_h hw 100 rfl), rfl, hnm⟩) (own_h hw 18 rfl) (ty := (.object "java/time/LocalDate")) (by decide) (rfl) (rfl) (g := (own_frL m x0 sa sb fc zz sv dd 240 [(.ref dd), (.ref x0)])) rfl rfl (hb hby own_d4_240)
  have N112 := Fr.snoc X112 N108 g_x
  refine own_by (g' := (own_frL m x0 sa sb fc zz sv dd 243 [])) st112 ?_
  have k113_ := ((((((((((((((((((((((Keep.refl h0 [x0]).wr W32 (Or.inl (List.mem_of_getElem? (i := 0) rfl))).wr W36 (Or.inl (List.mem_of_getElem? (i := 0) rfl))).wr W40 (Or.inl (List.mem_of_getElem? (i := 0) rfl))).wr W44 (Or.inl (List.mem_of_getElem? (i := 0) rfl))).wr W48 (Or.inl (List.mem_of_getElem? (i := 0) rfl))).wr W52 (Or.inl (List.mem_of_getElem? (i := 0) rfl))).wr W56 (Or.inl (List.mem_of_getElem? (i := 0) rfl))).wr W60 (Or.inl (List.mem_of_getElem? (i := 0) rfl))).wr W64 (Or.inl (List.mem_of_getElem? (i := 0) rfl))).wr W68 (Or.inl (List.mem_of_getElem? (i := 0) rfl))).wr W72 (Or.inl (List.mem_of_getElem? (i := 0) rfl))).wr W76 (Or.inl (List.mem_of_getElem? (i := 0) rfl))).wr W80 (Or.inl (List.mem_of_getElem? (i := 0) rfl))).wr W84 (Or.inl (List.mem_of_getElem? (i := 0) rfl))).wr W88 (Or.inl (List.mem_of_getElem? (i := 0) rfl))).wr W92 (Or.inl (List.mem_of_getElem? (i := 0) rfl))).wr W96 (Or.inl (List.mem_of_getElem? (i := 0) rfl))).wr W100 (Or.inl (List.mem_of_getElem? (i := 0) rfl))).wr W104 (Or.inl (List.mem_of_getElem? (i := 0) rfl))).wr W108 (Or.inl (List.mem_of_getElem? (i := 0) rfl))).wr W112 (Or.inl (List.mem_of_getElem? (i := 0) rfl)))
  have e114_x0 := (e109_x0.wr W112)
  have f115_x0 := ((((((((((((((((Fw48.other W52 (Or.inr (slot_ne (Or.inr (own_h hw 68 rfl)) (Or.inr (own_h hw 70 rfl)) (by decide) (t := (.object "java/time/LocalDate")) (t' := (.object "java/lang/String")) (by decide) (by decide)))).other W56 (Or.inr (slot_ne (Or.inr (own_h hw 68 rfl)) (Or.inr (own_h hw 72 rfl)) (by decide) (t := (.object "java/time/LocalDate")) (t' := (.object "java/time/LocalDate")) (by decide) (by decide)))).other W60 (Or.inr (slot_ne (Or.inr (own_h hw 68 rfl)) (Or.inr (own_h hw 74 rfl)) (by decide) (t := (.object "java/time/LocalDate")) (t' := (.object "java/math/BigDecimal")) (by decide) (by decide)))).other W64 (Or.inr (slot_ne (Or.inr (own_h hw 68 rfl)) (Or.inr (own_h hw 76 rfl)) (by decide) (t := (.object "java/time/LocalDate")) (t' := (.object "java/math/BigDecimal")) (by decide) (by decide)))).other W68 (Or.inr (slot_ne (Or.inr (own_h hw 68 rfl)) (Or.inr (own_h hw 78 rfl)) (by decide) (t := (.object "java/time/LocalDate")) (t' := .boolean) (by decide) (by decide)))).other W72 (Or.inr (slot_ne (Or.inr (own_h hw 68 rfl)) (Or.inr (own_h hw 80 rfl)) (by decide) (t := (.object "java/time/LocalDate")) (t' := .boolean) (by decide) (by decide)))).other W76 (Or.inr (slot_ne (Or.inr (own_h hw 68 rfl)) (Or.inr (own_h hw 82 rfl)) (by decide) (t := (.object "java/time/LocalDate")) (t' := .boolean) (by decide) (by decide)))).other W80 (Or.inr (slot_ne (Or.inr (own_h hw 68 rfl)) (Or.inr (own_h hw 84 rfl)) (by decide) (t := (.object "java/time/LocalDate")) (t' := (.object "java/math/BigDecimal")) (by decide) (by decide)))).other W84 (Or.inr (slot_ne (Or.inr (own_h hw 68 rfl)) (Or.inr (own_h hw 86 rfl)) (by decide) (t := (.object "java/time/LocalDate")) (t' := (.object "java/math/BigDecimal")) (by decide) (by decide)))).other W88 (Or.inr (slot_ne (Or.inr (own_h hw 68 rfl)) (Or.inr (own_h hw 88 rfl)) (by decide) (t := (.object "java/time/LocalDate")) (t' := (.object "java/math/BigDecimal")) (by decide) (by decide)))).other W92 (Or.inr (slot_ne (Or.inr (own_h hw 68 rfl)) (Or.inr (own_h hw 90 rfl)) (by decide) (t := (.object "java/time/LocalDate")) (t' := (.object "java/math/BigDecimal")) (by decide) (by decide)))).other W96 (Or.inr (slot_ne (Or.inr (own_h hw 68 rfl)) (Or.inr (own_h hw 92 rfl)) (by decide) (t := (.object "java/time/LocalDate")) (t' := (.object "java/time/LocalDate")) (by decide) (by decide)))).other W100 (Or.inr (slot_ne (Or.inr (own_h hw 68 rfl)) (Or.inr (own_h hw 94 rfl)) (by decide) (t := (.object "java/time/LocalDate")) (t' := (.object "java/time/LocalDate")) (by decide) (by decide)))).other W104 (Or.inr (slot_ne (Or.inr (own_h hw 68 rfl)) (Or.inr (own_h hw 96 rfl)) (by decide) (t := (.object "java/time/LocalDate")) (t' := (.object "java/math/BigDecimal")) (by decide) (by decide)))).other W108 (Or.inr (slot_ne (Or.inr (own_h hw 68 rfl)) (Or.inr (own_h hw 98 rfl)) (by decide) (t := (.object "java/time/LocalDate")) (t' := (.object "java/math/BigDecimal")) (by decide) (by decide)))).other W112 (Or.inr (slot_ne (Or.inr (own_h hw 68 rfl)) (Or.inr (own_h hw 100 rfl)) (by decide) (t := (.object "java/time/LocalDate")) (t' := (.object "java/time/LocalDate")) (by decide) (by decide))))
  have f116_x0 := ((((((((((((((((((Fw40.other W44 (Or.inr (slot_ne (Or.inr (own_h hw 64 rfl)) (Or.inr (own_h hw 66 rfl)) (by decide) (t := (.object "com/example/bahikhata/bahikhata/model/Facility")) (t' := (.object "java/math/BigDecimal")) (by decide) (by decide)))).other W48 (Or.inr (slot_ne (Or.inr (own_h hw 64 rfl)) (Or.inr (own_h hw 68 rfl)) (by decide) (t := (.object "com/example/bahikhata/bahikhata/model/Facility")) (t' := (.object "java/time/LocalDate")) (by decide) (by decide)))).other W52 (Or.inr (slot_ne (Or.inr (own_h hw 64 rfl)) (Or.inr (own_h hw 70 rfl)) (by decide) (t := (.object "com/example/bahikhata/bahikhata/model/Facility")) (t' := (.object "java/lang/String")) (by decide) (by decide)))).other W56 (Or.inr (slot_ne (Or.inr (own_h hw 64 rfl)) (Or.inr (own_h hw 72 rfl)) (by decide) (t := (.object "com/example/bahikhata/bahikhata/model/Facility")) (t' := (.object "java/time/LocalDate")) (by decide) (by decide)))).other W60 (Or.inr (slot_ne (Or.inr (own_h hw 64 rfl)) (Or.inr (own_h hw 74 rfl)) (by decide) (t := (.object "com/example/bahikhata/bahikhata/model/Facility")) (t' := (.object "java/math/BigDecimal")) (by decide) (by decide)))).other W64 (Or.inr (slot_ne (Or.inr (own_h hw 64 rfl)) (Or.inr (own_h hw 76 rfl)) (by decide) (t := (.object "com/example/bahikhata/bahikhata/model/Facility")) (t' := (.object "java/math/BigDecimal")) (by decide) (by decide)))).other W68 (Or.inr (slot_ne (Or.inr (own_h hw 64 rfl)) (Or.inr (own_h hw 78 rfl)) (by decide) (t := (.object "com/example/bahikhata/bahikhata/model/Facility")) (t' := .boolean) (by decide) (by decide)))).other W72 (Or.inr (slot_ne (Or.inr (own_h hw 64 rfl)) (Or.inr (own_h hw 80 rfl)) (by decide) (t := (.object "com/example/bahikhata/bahikhata/model/Facility")) (t' := .boolean) (by decide) (by decide)))).other W76 (Or.inr (slot_ne (Or.inr (own_h hw 64 rfl)) (Or.inr (own_h hw 82 rfl)) (by decide) (t := (.object "com/example/bahikhata/bahikhata/model/Facility")) (t' := .boolean) (by decide) (by decide)))).other W80 (Or.inr (slot_ne (Or.inr (own_h hw 64 rfl)) (Or.inr (own_h hw 84 rfl)) (by decide) (t := (.object "com/example/bahikhata/bahikhata/model/Facility")) (t' := (.object "java/math/BigDecimal")) (by decide) (by decide)))).other W84 (Or.inr (slot_ne (Or.inr (own_h hw 64 rfl)) (Or.inr (own_h hw 86 rfl)) (by decide) (t := (.object "com/example/bahikhata/bahikhata/model/Facility")) (t' := (.object "java/math/BigDecimal")) (by decide) (by decide)))).other W88 (Or.inr (slot_ne (Or.inr (own_h hw 64 rfl)) (Or.inr (own_h hw 88 rfl)) (by decide) (t := (.object "com/example/bahikhata/bahikhata/model/Facility")) (t' := (.object "java/math/BigDecimal")) (by decide) (by decide)))).other W92 (Or.inr (slot_ne (Or.inr (own_h hw 64 rfl)) (Or.inr (own_h hw 90 rfl)) (by decide) (t := (.object "com/example/bahikhata/bahikhata/model/Facility")) (t' := (.object "java/math/BigDecimal")) (by decide) (by decide)))).other W96 (Or.inr (slot_ne (Or.inr (own_h hw 64 rfl)) (Or.inr (own_h hw 92 rfl)) (by decide) (t := (.object "com/example/bahikhata/bahikhata/model/Facility")) (t' := (.object "java/time/LocalDate")) (by decide) (by decide)))).other W100 (Or.inr (slot_ne (Or.inr (own_h hw 64 rfl)) (Or.inr (own_h hw 94 rfl)) (by decide) (t := (.object "com/example/bahikhata/bahikhata/model/Facility")) (t' := (.object "java/time/LocalDate")) (by decide) (by decide)))).other W104 (Or.inr (slot_ne (Or.inr (own_h hw 64 rfl)) (Or.inr (own_h hw 96 rfl)) (by decide) (t := (.object "com/example/bahikhata/bahikhata/model/Facility")) (t' := (.object "java/math/BigDecimal")) (by decide) (by decide)))).other W108 (Or.inr (slot_ne (Or.inr (own_h hw 64 rfl)) (Or.inr (own_h hw 98 rfl)) (by decide) (t := (.object "com/example/bahikhata/bahikhata/model/Facility")) (t' := (.object "java/math/BigDecimal")) (by decide) (by decide)))).other W112 (Or.inr (slot_ne (Or.inr (own_h hw 64 rfl)) (Or.inr (own_h hw 100 rfl)) (by decide) (t := (.object "com/example/bahikhata/bahikhata/model/Facility")) (t' := (.object "java/time/LocalDate")) (by decide) (by decide))))
  have hk117_ := (Nat.le_trans (Nat.le_trans (Nat.le_trans (Nat.le_trans (Nat.le_trans (Nat.le_trans (Nat.le_trans (Nat.le_trans (Nat.le_trans (Nat.le_trans (Nat.le_trans (Nat.le_trans (Nat.le_trans (Nat.le_trans (Nat.le_trans (Nat.le_trans (Nat.le_trans (Nat.le_trans (Nat.le_trans (Nat.le_trans (Nat.le_trans hk0 (Keep.of_wr W32).1) (Keep.of_wr W36).1) (Keep.of_wr W40).1) (Keep.of_wr W44).1) (Keep.of_wr W48).1) (Keep.of_wr W52).1) (Keep.of_wr W56).1) (Keep.of_wr W60).1) (Keep.of_wr W64).1) (Keep.of_wr W68).1) (Keep.of_wr W72).1) (Keep.of_wr W76).1) (Keep.of_wr W80).1) (Keep.of_wr W84).1) (Keep.of_wr W88).1) (Keep.of_wr W92).1) (Keep.of_wr W96).1) (Keep.of_wr W100).1) (Keep.of_wr W104).1) (Keep.of_wr W108).1) (Keep.of_wr W112).1)
  exact own_endJ X112 hS (by rw [e112]; exact hk117_) hZ (own_Rs.sub RS0 (by decide)) (v := none) (fun _ => rfl) hlk (fun hr => X112.returnOut hx Bd.returns (hb hby own_d4_243) hr) (by rw [e112]; exact ⟨rfl, N112, k113_, e114_x0, f115_x0, f116_x0⟩) (by decide) (by decide)
def own_fc (f0 f1 f2 f3 : Addr) (k : Int32) : Addr := if k = (0 : Int32) then f0 else if k = (1 : Int32) then f1 else if k = (2 : Int32) then f2 else f3
def own_od (x : Int32) : Int32 := if ((x >>> ((2 : Int32) &&& 31)) &&& (1 : Int32)) = (0 : Int32) then 0 else 1
def own_sv (ep : Addr) (x : Int32) : Value := if own_od x = (0 : Int32) then .null else .ref ep
theorem own_svR (ep : Addr) (x : Int32) : (own_sv ep x).isRef = true := by unfold own_sv; split <;> rfl
def own_rn (x : Int32) : Prop := (x &&& (3 : Int32)) = 1 ∨ (x &&& (3 : Int32)) = 2
def own_sm (o : Int32) : Prop := o = 0 ∨ o = 1 ∨ o = 2 ∨ o = 3
def own_fl : Value → Int32
  | .null => 0
  | _ => 64
def own_nb (o : Int32) (v : Value) : Int32 := ((o ||| own_fl v).toInt8.toInt32).toInt8.toInt32
def own_bit (z : Int32) : Int32 := if (z &&& (64 : Int32)) = (0 : Int32) then 0 else 1
theorem own_fin {o x : Int32} {ep : Addr} (ho : own_sm o) : own_bit (own_nb o (own_sv ep x)) = own_od x := by
  unfold own_sv
  by_cases h : own_od x = 0
  · rw [if_pos h, h]
    rcases ho with rfl | rfl | rfl | rfl <;> decide
  · have h1 : own_od x = 1 := by unfold own_od at h ⊢; split at h <;> simp_all
    have e : own_fl (Value.ref ep) = 64 := rfl
    rw [if_neg h, h1]
    unfold own_nb
    rw [e]
    rcases ho with rfl | rfl | rfl | rfl <;> decide
theorem own_stp {i z : Int32} (h0 : 0 ≤ i.toInt) (h1 : i < z) : 0 ≤ (i + (1 : Int32)).toInt ∧ (i + (1 : Int32)).toInt = i.toInt + 1 := by
  have h2 := Int32.lt_iff_toInt_lt.mp h1
  have a := c_iadd i 1
  have b := rng32 (i + 1)
  have b2 := rng32 z
  have e1 : (1 : Int32).toInt = 1 := by decide
  omega
theorem own_nlt0 {i : Int32} (h0 : 0 ≤ i.toInt) : ¬ i < (0 : Int32) := fun q => by
  have h2 := Int32.lt_iff_toInt_lt.mp q
  have e0 : (0 : Int32).toInt = 0 := by decide
  omega
theorem own_pickR {Z : State} (ep : Addr) (zr : Addr) (f0 : Addr) (f1 : Addr) (f2 : Addr) (f3 : Addr) (x : Int32) (E_f0 : Exa Z Z.heap f0 "com/example/bahikhata/bahikhata/model/Facility") (R_f0 : Fld Z Z.heap f0 "com/example/bahikhata/bahikhata/model/Facility" "runningAccount" "Z" (.int 0)) (O_f0 : Fld Z Z.heap f0 "java/lang/Enum" "ordinal" "I" (.int 0)) (E_f1 : Exa Z Z.heap f1 "com/example/bahikhata/bahikhata/model/Facility") (R_f1 : Fld Z Z.heap f1 "com/example/bahikhata/bahikhata/model/Facility" "runningAccount" "Z" (.int 1)) (O_f1 : Fld Z Z.heap f1 "java/lang/Enum" "ordinal" "I" (.int 1)) (E_f2 : Exa Z Z.heap f2 "com/example/bahikhata/bahikhata/model/Facility") (R_f2 : Fld Z Z.heap f2 "com/example/bahikhata/bahikhata/model/Facility" "runningAccount" "Z" (.int 1)) (O_f2 : Fld Z Z.heap f2 "java/lang/Enum" "ordinal" "I" (.int 2)) (E_f3 : Exa Z Z.heap f3 "com/example/bahikhata/bahikhata/model/Facility") (R_f3 : Fld Z Z.heap f3 "com/example/bahikhata/bahikhata/model/Facility" "runningAccount" "Z" (.int 0)) (O_f3 : Fld Z Z.heap f3 "java/lang/Enum" "ordinal" "I" (.int 3)) (hk : own_rn x) : ∃ (fc : Addr) (o : Int32), own_fc f0 f1 f2 f3 (x &&& (3 : Int32)) = fc ∧ Exa Z Z.heap fc "com/example/bahikhata/bahikhata/model/Facility" ∧ Fld Z Z.heap fc "com/example/bahikhata/bahikhata/model/Facility" "runningAccount" "Z" (.int 1) ∧ Fld Z Z.heap fc "java/lang/Enum" "ordinal" "I" (.int o) ∧ own_sm o := by
  unfold own_rn at hk
  unfold own_fc own_sm
  by_cases h0 : (x &&& (3 : Int32)) = 0
  · rw [if_pos h0]
    rw [h0] at hk; exact absurd hk (by decide)
  rw [if_neg h0]
  by_cases h1 : (x &&& (3 : Int32)) = 1
  · rw [if_pos h1]
    exact ⟨f1, (1 : Int32), rfl, E_f1, R_f1, O_f1, by decide⟩
  rw [if_neg h1]
  by_cases h2 : (x &&& (3 : Int32)) = 2
  · rw [if_pos h2]
    exact ⟨f2, (2 : Int32), rfl, E_f2, R_f2, O_f2, by decide⟩
  rw [if_neg h2]
  rcases hk with q | q
  · exact absurd q h1
  · exact absurd q h2
theorem own_pickN {Z : State} (ep : Addr) (zr : Addr) (f0 : Addr) (f1 : Addr) (f2 : Addr) (f3 : Addr) (x : Int32) (E_f0 : Exa Z Z.heap f0 "com/example/bahikhata/bahikhata/model/Facility") (R_f0 : Fld Z Z.heap f0 "com/example/bahikhata/bahikhata/model/Facility" "runningAccount" "Z" (.int 0)) (O_f0 : Fld Z Z.heap f0 "java/lang/Enum" "ordinal" "I" (.int 0)) (E_f1 : Exa Z Z.heap f1 "com/example/bahikhata/bahikhata/model/Facility") (R_f1 : Fld Z Z.heap f1 "com/example/bahikhata/bahikhata/model/Facility" "runningAccount" "Z" (.int 1)) (O_f1 : Fld Z Z.heap f1 "java/lang/Enum" "ordinal" "I" (.int 1)) (E_f2 : Exa Z Z.heap f2 "com/example/bahikhata/bahikhata/model/Facility") (R_f2 : Fld Z Z.heap f2 "com/example/bahikhata/bahikhata/model/Facility" "runningAccount" "Z" (.int 1)) (O_f2 : Fld Z Z.heap f2 "java/lang/Enum" "ordinal" "I" (.int 2)) (E_f3 : Exa Z Z.heap f3 "com/example/bahikhata/bahikhata/model/Facility") (R_f3 : Fld Z Z.heap f3 "com/example/bahikhata/bahikhata/model/Facility" "runningAccount" "Z" (.int 0)) (O_f3 : Fld Z Z.heap f3 "java/lang/Enum" "ordinal" "I" (.int 3)) (hk : ¬ own_rn x) : ∃ (fc : Addr) (o : Int32), own_fc f0 f1 f2 f3 (x &&& (3 : Int32)) = fc ∧ Exa Z Z.heap fc "com/example/bahikhata/bahikhata/model/Facility" ∧ Fld Z Z.heap fc "com/example/bahikhata/bahikhata/model/Facility" "runningAccount" "Z" (.int 0) ∧ Fld Z Z.heap fc "java/lang/Enum" "ordinal" "I" (.int o) ∧ own_sm o := by
  unfold own_rn at hk
  unfold own_fc own_sm
  by_cases h0 : (x &&& (3 : Int32)) = 0
  · rw [if_pos h0]
    exact ⟨f0, (0 : Int32), rfl, E_f0, R_f0, O_f0, by decide⟩
  rw [if_neg h0]
  by_cases h1 : (x &&& (3 : Int32)) = 1
  · rw [if_pos h1]
    exact absurd (Or.inl h1) hk
  rw [if_neg h1]
  by_cases h2 : (x &&& (3 : Int32)) = 2
  · rw [if_pos h2]
    exact absurd (Or.inr h2) hk
  rw [if_neg h2]
  exact ⟨f3, (3 : Int32), rfl, E_f3, R_f3, O_f3, by decide⟩
theorem own_d2_0 : decode method_2_code 0 = .ok (.iload_n 0, 1) := by decide +kernel
theorem own_d2_1 : decode method_2_code 1 = .ok (.ifCond .ne 7, 3) := by decide +kernel
theorem own_d2_4 : decode method_2_code 4 = .ok (.getstatic 7, 3) := by decide +kernel
theorem own_d2_7 : decode method_2_code 7 = .ok (.areturn, 1) := by decide +kernel
theorem own_d2_8 : decode method_2_code 8 = .ok (.iload_n 0, 1) := by decide +kernel
theorem own_d2_9 : decode method_2_code 9 = .ok (.iconst 1, 1) := by decide +kernel
theorem own_d2_10 : decode method_2_code 10 = .ok (.if_icmp .ne 7, 3) := by decide +kernel
theorem own_d2_13 : decode method_2_code 13 = .ok (.getstatic 13, 3) := by decide +kernel
theorem own_d2_16 : decode method_2_code 16 = .ok (.areturn, 1) := by decide +kernel
theorem own_d2_17 : decode method_2_code 17 = .ok (.iload_n 0, 1) := by decide +kernel
theorem own_d2_18 : decode method_2_code 18 = .ok (.iconst 2, 1) := by decide +kernel
theorem own_d2_19 : decode method_2_code 19 = .ok (.if_icmp .ne 7, 3) := by decide +kernel
theorem own_d2_22 : decode method_2_code 22 = .ok (.getstatic 16, 3) := by decide +kernel
theorem own_d2_25 : decode method_2_code 25 = .ok (.areturn, 1) := by decide +kernel
theorem own_d2_26 : decode method_2_code 26 = .ok (.getstatic 19, 3) := by decide +kernel
theorem own_d2_29 : decode method_2_code 29 = .ok (.areturn, 1) := by decide +kernel
theorem own_fa_ef (m : MethodId) (k : Int32) : entryFrame m #[(.int k)] 1 = mkF m 0 #[.val (.int k)] [] := by  first | (simp [entryFrame, mkF, argsToLocals, Value.category]; done) | rfl
def own_fa_Q (Z : State) (k : Int32) (ep : Addr) (zr : Addr) (f0 : Addr) (f1 : Addr) (f2 : Addr) (f3 : Addr) (h0 : Heap) (n0 : Nat) (v : Option Value) (h : Heap) (L : List Loc) : Prop := v = some (.ref (own_fc f0 f1 f2 f3 k)) ∧ Fr n0 L ∧ h = h0
theorem own_pn_com_example_bahikhata_bahikhata_io_BookIndexGivesOverdueSincePinLaw : plainName "com/example/bahikhata/bahikhata/io/BookIndexGivesOverdueSincePinLaw" = true := by first | (simp [plainName, overriddenIn]; done) | decide +kernel
set_option maxRecDepth 65536 in
set_option maxHeartbeats 40000000 in
theorem own_fa (l : Launch) (Z : State) (a0 : Array Value) (hw : ∀ d ∈ tables_1, d.before a0 Z = true) (ws : List Jvm.Cond) (k : Int32) (ep : Addr) (zr : Addr) (f0 : Addr) (f1 : Addr) (f2 : Addr) (f3 : Addr) (h0 : Heap) (n0 : Nat) (Z0 : n0 ≤ h0.size) (S_ep : own_A5 Z ep) (S_zr : own_A4 Z zr) (S_f0 : own_A3 Z f0) (E_f0 : Exa Z Z.heap f0 "com/example/bahikhata/bahikhata/model/Facility") (R_f0 : Fld Z Z.heap f0 "com/example/bahikhata/bahikhata/model/Facility" "runningAccount" "Z" (.int 0)) (O_f0 : Fld Z Z.heap f0 "java/lang/Enum" "ordinal" "I" (.int 0)) (S_f1 : own_A1 Z f1) (E_f1 : Exa Z Z.heap f1 "com/example/bahikhata/bahikhata/model/Facility") (R_f1 : Fld Z Z.heap f1 "com/example/bahikhata/bahikhata/model/Facility" "runningAccount" "Z" (.int 1)) (O_f1 : Fld Z Z.heap f1 "java/lang/Enum" "ordinal" "I" (.int 1)) (S_f2 : own_A2 Z f2) (E_f2 : Exa Z Z.heap f2 "com/example/bahikhata/bahikhata/model/Facility") (R_f2 : Fld Z Z.heap f2 "com/example/bahikhata/bahikhata/model/Facility" "runningAccount" "Z" (.int 1)) (O_f2 : Fld Z Z.heap f2 "java/lang/Enum" "ordinal" "I" (.int 2)) (S_f3 : own_A0 Z f3) (E_f3 : Exa Z Z.heap f3 "com/example/bahikhata/bahikhata/model/Facility") (R_f3 : Fld Z Z.heap f3 "com/example/bahikhata/bahikhata/model/Facility" "runningAccount" "Z" (.int 0)) (O_f3 : Fld Z Z.heap f3 "java/lang/Enum" "ordinal" "I" (.int 3)) (O0 : Old Z n0 h0) :
    MetFree l own_y3 (head1 (Jvm.Cond.code own_y3 method_2_code 1 (some (.object "com/example/bahikhata/bahikhata/model/Facility")) :: ws) (⟨0, 0, 0, 0⟩ : Room)) (fun aa U => aa = #[(.int k)] ∧ Z.Warmed39 U.vm ∧ U.heap = h0) (fun _ _ _ _ _ => True) (fun _ U o U' => ∃ v L, o = .returned v ∧ own_fa_Q Z k ep zr f0 f1 f2 f3 h0 n0 v U'.heap L ∧ FrameEnd U o U' L (⟨0, 0, 0, 0⟩ : Room).cells (⟨0, 0, 0, 0⟩ : Room).slots) := by
  refine MetFree.of_bodySF (plainFor_of_name own_pn_com_example_bahikhata_bahikhata_io_BookIndexGivesOverdueSincePinLaw) hisR ?_
  intro p e s m args below meth c s₁ Bd hml0 hP hK
  obtain ⟨rfl, hZ, hh⟩ := hP
  have hx := Bd.exec
  have hby := Bd.bytes
  have hml : c.maxLocals = 1 := hml0
  have hown : s.vm.findClass "com/example/bahikhata/bahikhata/io/BookIndexGivesOverdueSincePinLaw" = some m.cls := findClass_of_methodNamed Bd.named
  have hnm := (name_of_methodNamed Bd.named Bd.method).1
  have hlk := Bd.notSynchronized
  have X0 : Stand p l e (⟨0, 0, 0, 0⟩ : Room) s m #[(.int k)] below meth c s₁ [] 0 0 := Stand.of_body Bd
  have e0 : s₁.heap = h0 := by rw [← hh, Bd.state]; rfl
  have N0 := Fr.nil n0
  refine own_start (Q := own_fa_Q Z k ep zr f0 f1 f2 f3 h0 n0) (own_fa_ef m k) ?_
  refine own_g (mkF m 1 #[.val (.int k)] [(.int k)]) (fun _ q => XS.iloadN X0.here hx rfl (hb hby own_d2_0) rfl q) ?_
  by_cases hc1 : k = (0 : Int32)
  · refine own_g (mkF m 4 #[.val (.int k)] []) (fun _ q => XS.ifNo X0.here hx rfl (hb hby own_d2_1) rfl ((if0 _ _).trans (teq hc1).2) q) ?_
    obtain ⟨T2, X2, e2, st2⟩ := getS2 X0 hx hZ hown (host := "") (Or.inl (own_h hw 7 rfl)) Via.refl e0 (S_f0.ext O0.2) (g := (mkF m 4 #[.val (.int k)] [])) rfl (hb hby own_d2_4)
    refine own_by (g' := (mkF m 7 #[.val (.int k)] [(.ref f0)])) st2 ?_
    exact own_end X2 (v := some (.ref f0)) (fun h => by rw [Bd.returns] at h; cases h) hlk (fun hr => retOut X2 hx Bd.returns (own_narR rfl) (Or.inr (Or.inr (Or.inr (Or.inr ⟨rfl, rfl, rfl⟩)))) (hb hby own_d2_7) hr) (by rw [e2]; exact ⟨by rw [own_fc, if_pos hc1], N0, rfl⟩) (by decide) (by decide)
  · refine own_g (mkF m 10 #[.val (.int k)] [(.int 1), (.int k)]) (fun _ q => XS.ifYes X0.here hx rfl (pc0 := 1) (pc' := 8) rfl (hb hby own_d2_1) rfl ((if0 _ _).trans (feq hc1).2) (by decide) (by decide) (XS.iloadN X0.here hx rfl (hb hby own_d2_8) rfl (XS.iconst X0.here hx rfl (hb hby own_d2_9) q))) ?_
    by_cases hc3 : k = (1 : Int32)
    · refine own_g (mkF m 13 #[.val (.int k)] []) (fun _ q => XS.icmpNo X0.here hx rfl (hb hby own_d2_10) rfl (teq hc3).2 q) ?_
      obtain ⟨T4, X4, e4, st4⟩ := getS2 X0 hx hZ hown (host := "") (Or.inl (own_h hw 191 rfl)) Via.refl e0 (S_f1.ext O0.2) (g := (mkF m 13 #[.val (.int k)] [])) rfl (hb hby own_d2_13)
      refine own_by (g' := (mkF m 16 #[.val (.int k)] [(.ref f1)])) st4 ?_
      exact own_end X4 (v := some (.ref f1)) (fun h => by rw [Bd.returns] at h; cases h) hlk (fun hr => retOut X4 hx Bd.returns (own_narR rfl) (Or.inr (Or.inr (Or.inr (Or.inr ⟨rfl, rfl, rfl⟩)))) (hb hby own_d2_16) hr) (by rw [e4]; exact ⟨by rw [own_fc, if_neg hc1, if_pos hc3], N0, rfl⟩) (by decide) (by decide)
    · refine own_g (mkF m 19 #[.val (.int k)] [(.int 2), (.int k)]) (fun _ q => XS.icmpYes X0.here hx rfl (pc0 := 10) (pc' := 17) rfl (hb hby own_d2_10) rfl (feq hc3).2 (by decide) (by decide) (XS.iloadN X0.here hx rfl (hb hby own_d2_17) rfl (XS.iconst X0.here hx rfl (hb hby own_d2_18) q))) ?_
      by_cases hc5 : k = (2 : Int32)
      · refine own_g (mkF m 22 #[.val (.int k)] []) (fun _ q => XS.icmpNo X0.here hx rfl (hb hby own_d2_19) rfl (teq hc5).2 q) ?_
        obtain ⟨T6, X6, e6, st6⟩ := getS2 X0 hx hZ hown (host := "") (Or.inl (own_h hw 103 rfl)) Via.refl e0 (S_f2.ext O0.2) (g := (mkF m 22 #[.val (.int k)] [])) rfl (hb hby own_d2_22)
        refine own_by (g' := (mkF m 25 #[.val (.int k)] [(.ref f2)])) st6 ?_
        exact own_end X6 (v := some (.ref f2)) (fun h => by rw [Bd.returns] at h; cases h) hlk (fun hr => retOut X6 hx Bd.returns (own_narR rfl) (Or.inr (Or.inr (Or.inr (Or.inr ⟨rfl, rfl, rfl⟩)))) (hb hby own_d2_25) hr) (by rw [e6]; exact ⟨by rw [own_fc, if_neg hc1, if_neg hc3, if_pos hc5], N0, rfl⟩) (by decide) (by decide)
      · refine own_g (mkF m 26 #[.val (.int k)] []) (fun _ q => XS.icmpYes X0.here hx rfl (pc0 := 19) (pc' := 26) rfl (hb hby own_d2_19) rfl (feq hc5).2 (by decide) (by decide) q) ?_
        obtain ⟨T7, X7, e7, st7⟩ := getS2 X0 hx hZ hown (host := "") (Or.inl (own_h hw 101 rfl)) Via.refl e0 (S_f3.ext O0.2) (g := (mkF m 26 #[.val (.int k)] [])) rfl (hb hby own_d2_26)
        refine own_by (g' := (mkF m 29 #[.val (.int k)] [(.ref f3)])) st7 ?_
        exact own_end X7 (v := some (.ref f3)) (fun h => by rw [Bd.returns] at h; cases h) hlk (fun hr => retOut X7 hx Bd.returns (own_narR rfl) (Or.inr (Or.inr (Or.inr (Or.inr ⟨rfl, rfl, rfl⟩)))) (hb hby own_d2_29) hr) (by rw [e7]; exact ⟨by rw [own_fc, if_neg hc1, if_neg hc3, if_neg hc5], N0, rfl⟩) (by decide) (by decide)
theorem own_d3_0 : decode method_3_code 0 = .ok (.iload_n 0, 1) := by decide +kernel
theorem own_d3_1 : decode method_3_code 1 = .ok (.iconst 2, 1) := by decide +kernel
theorem own_d3_2 : decode method_3_code 2 = .ok (.ishr, 1) := by decide +kernel
theorem own_d3_3 : decode method_3_code 3 = .ok (.iconst 1, 1) := by decide +kernel
theorem own_d3_4 : decode method_3_code 4 = .ok (.iand, 1) := by decide +kernel
theorem own_d3_5 : decode method_3_code 5 = .ok (.ifCond .eq 7, 3) := by decide +kernel
theorem own_d3_12 : decode method_3_code 12 = .ok (.iconst 0, 1) := by decide +kernel
theorem own_d3_13 : decode method_3_code 13 = .ok (.ireturn, 1) := by decide +kernel
theorem own_d3_8 : decode method_3_code 8 = .ok (.iconst 1, 1) := by decide +kernel
theorem own_d3_9 : decode method_3_code 9 = .ok (.goto 4, 3) := by decide +kernel
theorem own_ov_ef (m : MethodId) (x : Int32) : entryFrame m #[(.int x)] 1 = mkF m 0 #[.val (.int x)] [] := by  first | (simp [entryFrame, mkF, argsToLocals, Value.category]; done) | rfl
def own_ov_Q (Z : State) (x : Int32) (h0 : Heap) (n0 : Nat) (v : Option Value) (h : Heap) (L : List Loc) : Prop := v = some (.int (own_od x)) ∧ Fr n0 L ∧ h = h0
set_option maxRecDepth 65536 in
set_option maxHeartbeats 40000000 in
theorem own_ov (l : Launch) (Z : State) (a0 : Array Value) (hw : ∀ d ∈ tables_1, d.before a0 Z = true) (ws : List Jvm.Cond) (x : Int32) (h0 : Heap) (n0 : Nat) (Z0 : n0 ≤ h0.size)  :
    MetFree l own_y5 (head1 (Jvm.Cond.code own_y5 method_3_code 1 (some .boolean) :: ws) (⟨0, 0, 0, 0⟩ : Room)) (fun aa U => aa = #[(.int x)] ∧ Z.Warmed39 U.vm ∧ U.heap = h0) (fun _ _ _ _ _ => True) (fun _ U o U' => ∃ v L, o = .returned v ∧ own_ov_Q Z x h0 n0 v U'.heap L ∧ FrameEnd U o U' L (⟨0, 0, 0, 0⟩ : Room).cells (⟨0, 0, 0, 0⟩ : Room).slots) := by
  refine MetFree.of_bodySF (plainFor_of_name own_pn_com_example_bahikhata_bahikhata_io_BookIndexGivesOverdueSincePinLaw) hisR ?_
  intro p e s m args below meth c s₁ Bd hml0 hP hK
  obtain ⟨rfl, hZ, hh⟩ := hP
  have hx := Bd.exec
  have hby := Bd.bytes
  have hml : c.maxLocals = 1 := hml0
  have hown : s.vm.findClass "com/example/bahikhata/bahikhata/io/BookIndexGivesOverdueSincePinLaw" = some m.cls := findClass_of_methodNamed Bd.named
  have hnm := (name_of_methodNamed Bd.named Bd.method).1
  have hlk := Bd.notSynchronized
  have X0 : Stand p l e (⟨0, 0, 0, 0⟩ : Room) s m #[(.int x)] below meth c s₁ [] 0 0 := Stand.of_body Bd
  have e0 : s₁.heap = h0 := by rw [← hh, Bd.state]; rfl
  have N0 := Fr.nil n0
  refine own_start (Q := own_ov_Q Z x h0 n0) (own_ov_ef m x) ?_
  refine own_g (mkF m 5 #[.val (.int x)] [(.int ((x >>> ((2 : Int32) &&& 31)) &&& (1 : Int32)))]) (fun _ q => XS.iloadN X0.here hx rfl (hb hby own_d3_0) rfl (XS.iconst X0.here hx rfl (hb hby own_d3_1) (XS.ishr X0.here hx rfl (hb hby own_d3_2) rfl (XS.iconst X0.here hx rfl (hb hby own_d3_3) (XS.iand X0.here hx rfl (hb hby own_d3_4) rfl q))))) ?_
  by_cases hc1 : ((x >>> ((2 : Int32) &&& 31)) &&& (1 : Int32)) = (0 : Int32)
  · refine own_g (mkF m 13 #[.val (.int x)] [(.int 0)]) (fun _ q => XS.ifYes X0.here hx rfl (pc0 := 5) (pc' := 12) rfl (hb hby own_d3_5) rfl ((if0 _ _).trans (teq hc1).1) (by decide) (by decide) (XS.iconst X0.here hx rfl (hb hby own_d3_12) q)) ?_
    exact own_end X0 (v := some (.int (nar .boolean (0 : Int32)))) (fun h => by rw [Bd.returns] at h; cases h) hlk (fun hr => retN X0 hx (t := .boolean) Bd.returns (by simp) (hb hby own_d3_13) hr) (by rw [e0]; exact ⟨by rw [own_od, if_pos hc1]; rfl, N0, rfl⟩) (by decide) (by decide)
  · refine own_g (mkF m 13 #[.val (.int x)] [(.int 1)]) (fun _ q => XS.ifNo X0.here hx rfl (hb hby own_d3_5) rfl ((if0 _ _).trans (feq hc1).1) (XS.iconst X0.here hx rfl (hb hby own_d3_8) (XS.goto X0.here hx rfl (pc0 := 9) (pc' := 13) rfl (hb hby own_d3_9) (by decide) (by decide) q))) ?_
    exact own_end X0 (v := some (.int (nar .boolean (1 : Int32)))) (fun h => by rw [Bd.returns] at h; cases h) hlk (fun hr => retN X0 hx (t := .boolean) Bd.returns (by simp) (hb hby own_d3_13) hr) (by rw [e0]; exact ⟨by rw [own_od, if_neg hc1]; rfl, N0, rfl⟩) (by decide) (by decide)
theorem own_d1_0 : decode method_4_code 0 = .ok (.iload_n 0, 1) := by decide +kernel
theorem own_d1_1 : decode method_4_code 1 = .ok (.iconst 3, 1) := by decide +kernel
theorem own_d1_2 : decode method_4_code 2 = .ok (.iand, 1) := by decide +kernel
theorem own_d1_3 : decode method_4_code 3 = .ok (.invokestatic 22, 3) := by decide +kernel
theorem own_pd__28I_29Lcom_2fexample_2fbahikhata_2fbahikhata_2fmodel_2fFacility_3b : parseMethodDescriptor "(I)Lcom/example/bahikhata/bahikhata/model/Facility;" = some ⟨[.int], some (.object "com/example/bahikhata/bahikhata/model/Facility")⟩ := by decide +kernel
theorem own_d1_6 : decode method_4_code 6 = .ok (.astore_n 1, 1) := by decide +kernel
theorem own_d1_7 : decode method_4_code 7 = .ok (.getstatic 28, 3) := by decide +kernel
theorem own_d1_10 : decode method_4_code 10 = .ok (.astore_n 2, 1) := by decide +kernel
theorem own_d1_11 : decode method_4_code 11 = .ok (.iload_n 0, 1) := by decide +kernel
theorem own_d1_12 : decode method_4_code 12 = .ok (.invokestatic 34, 3) := by decide +kernel
theorem own_pd__28I_29Z : parseMethodDescriptor "(I)Z" = some ⟨[.int], some .boolean⟩ := by decide +kernel
theorem own_d1_15 : decode method_4_code 15 = .ok (.ifCond .eq 7, 3) := by decide +kernel
theorem own_d1_22 : decode method_4_code 22 = .ok (.aconst_null, 1) := by decide +kernel
theorem own_d1_23 : decode method_4_code 23 = .ok (.astore_n 3, 1) := by decide +kernel
theorem own_d1_24 : decode method_4_code 24 = .ok (.getstatic 38, 3) := by decide +kernel
theorem own_d1_27 : decode method_4_code 27 = .ok (.astore 4, 2) := by decide +kernel
theorem own_d1_29 : decode method_4_code 29 = .ok (.new 44, 3) := by decide +kernel
theorem own_d1_32 : decode method_4_code 32 = .ok (.dup, 1) := by decide +kernel
theorem own_d1_33 : decode method_4_code 33 = .ok (.ldc 46, 2) := by decide +kernel
theorem own_d1_35 : decode method_4_code 35 = .ok (.ldc 48, 2) := by decide +kernel
theorem own_d1_37 : decode method_4_code 37 = .ok (.aload_n 1, 1) := by decide +kernel
theorem own_d1_38 : decode method_4_code 38 = .ok (.aload 4, 2) := by decide +kernel
theorem own_d1_40 : decode method_4_code 40 = .ok (.aload_n 3, 1) := by decide +kernel
theorem own_d1_41 : decode method_4_code 41 = .ok (.aconst_null, 1) := by decide +kernel
theorem own_d1_42 : decode method_4_code 42 = .ok (.aconst_null, 1) := by decide +kernel
theorem own_d1_43 : decode method_4_code 43 = .ok (.aload 4, 2) := by decide +kernel
theorem own_d1_45 : decode method_4_code 45 = .ok (.aload 4, 2) := by decide +kernel
theorem own_d1_47 : decode method_4_code 47 = .ok (.iconst 0, 1) := by decide +kernel
theorem own_d1_48 : decode method_4_code 48 = .ok (.iconst 0, 1) := by decide +kernel
theorem own_d1_49 : decode method_4_code 49 = .ok (.iconst 0, 1) := by decide +kernel
theorem own_d1_50 : decode method_4_code 50 = .ok (.aload 4, 2) := by decide +kernel
theorem own_d1_52 : decode method_4_code 52 = .ok (.aload 4, 2) := by decide +kernel
theorem own_d1_54 : decode method_4_code 54 = .ok (.aload 4, 2) := by decide +kernel
theorem own_d1_56 : decode method_4_code 56 = .ok (.aload 4, 2) := by decide +kernel
theorem own_d1_58 : decode method_4_code 58 = .ok (.aconst_null, 1) := by decide +kernel
theorem own_d1_59 : decode method_4_code 59 = .ok (.aload_n 2, 1) := by decide +kernel
theorem own_d1_60 : decode method_4_code 60 = .ok (.aload 4, 2) := by decide +kernel
theorem own_d1_62 : decode method_4_code 62 = .ok (.aload 4, 2) := by decide +kernel
theorem own_d1_64 : decode method_4_code 64 = .ok (.aload_n 2, 1) := by decide +kernel
theorem own_d1_65 : decode method_4_code 65 = .ok (.invokespecial 50, 3) := by decide +kernel
theorem own_pd__28Ljava_2flang_2fString_3bLjava_2flang_2fString_3bLcom_2fexample_2fbahikhata_2fbahikhata_2fmodel_2fFacility_3bLjava_2fmath_2fBigDecimal_3bLjava_2ftime_2fLocalDate_3bLjava_2flang_2fString_3bLjava_2ftime_2fLocalDate_3bLjava_2fmath_2fBigDecimal_3bLjava_2fmath_2fBigDecimal_3bZZZLjava_2fmath_2fBigDecimal_3bLjava_2fmath_2fBigDecimal_3bLjava_2fmath_2fBigDecimal_3bLjava_2fmath_2fBigDecimal_3bLjava_2ftime_2fLocalDate_3bLjava_2ftime_2fLocalDate_3bLjava_2fmath_2fBigDecimal_3bLjava_2fmath_2fBigDecimal_3bLjava_2ftime_2fLocalDate_3b_29V : parseMethodDescriptor "(Ljava/lang/String;Ljava/lang/String;Lcom/example/bahikhata/bahikhata/model/Facility;Ljava/math/BigDecimal;Ljava/time/LocalDate;Ljava/lang/String;Ljava/time/LocalDate;Ljava/math/BigDecimal;Ljava/math/BigDecimal;ZZZLjava/math/BigDecimal;Ljava/math/BigDecimal;Ljava/math/BigDecimal;Ljava/math/BigDecimal;Ljava/time/LocalDate;Ljava/time/LocalDate;Ljava/math/BigDecimal;Ljava/math/BigDecimal;Ljava/time/LocalDate;)V" = some ⟨[(.object "java/lang/String"), (.object "java/lang/String"), (.object "com/example/bahikhata/bahikhata/model/Facility"), (.object "java/math/BigDecimal"), (.object "java/time/LocalDate"), (.object "java/lang/String"), (.object "java/time/LocalDate"), (.object "java/math/BigDecimal"), (.object "java/math/BigDecimal"), .boolean, .boolean, .boolean, (.object "java/math/BigDecimal"), (.object "java/math/BigDecimal"), (.object "java/math/BigDecimal"), (.object "java/math/BigDecimal"), (.object "java/time/LocalDate"), (.object "java/time/LocalDate"), (.object "java/math/BigDecimal"), (.object "java/math/BigDecimal"), (.object "java/time/LocalDate")], none⟩ := by decide +kernel
theorem own_d1_68 : decode method_4_code 68 = .ok (.areturn, 1) := by decide +kernel
theorem own_d1_18 : decode method_4_code 18 = .ok (.aload_n 2, 1) := by decide +kernel
theorem own_d1_19 : decode method_4_code 19 = .ok (.goto 4, 3) := by decide +kernel
theorem own_loAn_ef (m : MethodId) (x : Int32) : entryFrame m #[(.int x)] 5 = mkF m 0 #[.val (.int x), .unset, .unset, .unset, .unset] [] := by  first | (simp [entryFrame, mkF, argsToLocals, Value.category]; done) | rfl
def own_loAn_Q (Z : State) (x : Int32) (ep : Addr) (zr : Addr) (f0 : Addr) (f1 : Addr) (f2 : Addr) (f3 : Addr) (h0 : Heap) (n0 : Nat) (v : Option Value) (h : Heap) (L : List Loc) : Prop := ∃ (t fc : Addr) (o : Int32), v = some (.ref t) ∧ Fr n0 L ∧ Keep h0 h [] ∧ h0.size ≤ t ∧ n0 ≤ t ∧ Exa Z h t "com/example/bahikhata/bahikhata/model/Loan" ∧ Fld Z h t "com/example/bahikhata/bahikhata/model/Loan" "overdueSince" "Ljava/time/LocalDate;" (own_sv ep x) ∧ Fld Z h t "com/example/bahikhata/bahikhata/model/Loan" "facility" "Lcom/example/bahikhata/bahikhata/model/Facility;" (.ref fc) ∧ Exa Z Z.heap fc "com/example/bahikhata/bahikhata/model/Facility" ∧ Fld Z Z.heap fc "java/lang/Enum" "ordinal" "I" (.int o) ∧ own_sm o
set_option maxRecDepth 65536 in
set_option maxHeartbeats 40000000 in
theorem own_loAn (l : Launch) (Z : State) (a0 : Array Value) (hw : ∀ d ∈ tables_1, d.before a0 Z = true) (ws : List Jvm.Cond) (x : Int32) (ep : Addr) (zr : Addr) (f0 : Addr) (f1 : Addr) (f2 : Addr) (f3 : Addr) (h0 : Heap) (n0 : Nat) (Z0 : n0 ≤ h0.size) (S_ep : own_A5 Z ep) (S_zr : own_A4 Z zr) (S_f0 : own_A3 Z f0) (E_f0 : Exa Z Z.heap f0 "com/example/bahikhata/bahikhata/model/Facility") (R_f0 : Fld Z Z.heap f0 "com/example/bahikhata/bahikhata/model/Facility" "runningAccount" "Z" (.int 0)) (O_f0 : Fld Z Z.heap f0 "java/lang/Enum" "ordinal" "I" (.int 0)) (S_f1 : own_A1 Z f1) (E_f1 : Exa Z Z.heap f1 "com/example/bahikhata/bahikhata/model/Facility") (R_f1 : Fld Z Z.heap f1 "com/example/bahikhata/bahikhata/model/Facility" "runningAccount" "Z" (.int 1)) (O_f1 : Fld Z Z.heap f1 "java/lang/Enum" "ordinal" "I" (.int 1)) (S_f2 : own_A2 Z f2) (E_f2 : Exa Z Z.heap f2 "com/example/bahikhata/bahikhata/model/Facility") (R_f2 : Fld Z Z.heap f2 "com/example/bahikhata/bahikhata/model/Facility" "runningAccount" "Z" (.int 1)) (O_f2 : Fld Z Z.heap f2 "java/lang/Enum" "ordinal" "I" (.int 2)) (S_f3 : own_A0 Z f3) (E_f3 : Exa Z Z.heap f3 "com/example/bahikhata/bahikhata/model/Facility") (R_f3 : Fld Z Z.heap f3 "com/example/bahikhata/bahikhata/model/Facility" "runningAccount" "Z" (.int 0)) (O_f3 : Fld Z Z.heap f3 "java/lang/Enum" "ordinal" "I" (.int 3)) (O0 : Old Z n0 h0) (hk : ¬ own_rn x) :
    MetFree l own_y4 (head1 (Jvm.Cond.code own_y4 method_4_code 5 (some (.object "com/example/bahikhata/bahikhata/model/Loan")) :: ws) (⟨3, 21, 481, 58⟩ : Room)) (fun aa U => aa = #[(.int x)] ∧ Z.Warmed39 U.vm ∧ U.heap = h0 ∧ own_Rs Z U.vm ([] : List (String × Nat))) (fun _ _ _ _ _ => True) (fun _ U o U' => ∃ v L, o = .returned v ∧ own_loAn_Q Z x ep zr f0 f1 f2 f3 h0 n0 v U'.heap L ∧ own_Rs Z U'.vm ([("com/example/bahikhata/bahikhata/io/BookIndexGivesOverdueSincePinLaw", 46), ("com/example/bahikhata/bahikhata/io/BookIndexGivesOverdueSincePinLaw", 48), ("com/example/bahikhata/bahikhata/model/Loan", 7), ("com/example/bahikhata/bahikhata/model/Loan", 15), ("com/example/bahikhata/bahikhata/model/Loan", 17), ("com/example/bahikhata/bahikhata/model/Loan", 19), ("com/example/bahikhata/bahikhata/model/Loan", 21), ("com/example/bahikhata/bahikhata/model/Loan", 23), ("com/example/bahikhata/bahikhata/model/Loan", 25), ("com/example/bahikhata/bahikhata/model/Loan", 27)] : List (String × Nat)) ∧ ReturnedEndW U o U' L (⟨3, 21, 481, 58⟩ : Room).cells (⟨3, 21, 481, 58⟩ : Room).slots) := by
  refine MetFree.of_bodySF (plainFor_of_name own_pn_com_example_bahikhata_bahikhata_io_BookIndexGivesOverdueSincePinLaw) hisR ?_
  intro p e s m args below meth c s₁ Bd hml0 hP hK
  obtain ⟨rfl, hZ, hh, RS0⟩ := hP
  have hx := Bd.exec
  have hby := Bd.bytes
  have hml : c.maxLocals = 5 := hml0
  have hown : s.vm.findClass "com/example/bahikhata/bahikhata/io/BookIndexGivesOverdueSincePinLaw" = some m.cls := findClass_of_methodNamed Bd.named
  have hnm := (name_of_methodNamed Bd.named Bd.method).1
  have hlk := Bd.notSynchronized
  have X0 : Stand p l e (⟨3, 21, 481, 58⟩ : Room) (s.setVm s.vm) m #[(.int x)] below meth c s₁ [] 0 0 := Stand.of_body Bd
  have e0 : s₁.heap = h0 := by rw [← hh, Bd.state]; rfl
  have N0 := Fr.nil n0
  have hS : s.Since s.vm 0 := (State.WarmedH.refl s).since 0
  have hk0 : 0 ≤ h0.size := Nat.zero_le _
  have wS := own_wS hw
  refine own_startJ (K' := ([("com/example/bahikhata/bahikhata/io/BookIndexGivesOverdueSincePinLaw", 46), ("com/example/bahikhata/bahikhata/io/BookIndexGivesOverdueSincePinLaw", 48), ("com/example/bahikhata/bahikhata/model/Loan", 7), ("com/example/bahikhata/bahikhata/model/Loan", 15), ("com/example/bahikhata/bahikhata/model/Loan", 17), ("com/example/bahikhata/bahikhata/model/Loan", 19), ("com/example/bahikhata/bahikhata/model/Loan", 21), ("com/example/bahikhata/bahikhata/model/Loan", 23), ("com/example/bahikhata/bahikhata/model/Loan", 25), ("com/example/bahikhata/bahikhata/model/Loan", 27)] : List (String × Nat))) (Q := own_loAn_Q Z x ep zr f0 f1 f2 f3 h0 n0) (own_loAn_ef m x) ?_
  refine own_g (mkF m 3 #[.val (.int x), .unset, .unset, .unset, .unset] [(.int (x &&& (3 : Int32)))]) (fun _ q => XS.iloadN X0.here hx rfl (hb hby own_d1_0) rfl (XS.iconst X0.here hx rfl (hb hby own_d1_1) (XS.iand X0.here hx rfl (hb hby own_d1_2) rfl q))) ?_
  refine own_callS X0 hx hZ (y := own_y3) hown (own_h hw 4 rfl) (own_h hw 5 rfl) (own_h hw 2 rfl) (own_h hw 6 rfl) (by decide) (own_fa l Z a0 hw [] (x &&& (3 : Int32)) ep zr f0 f1 f2 f3 h0 n0 Z0 S_ep S_zr S_f0 E_f0 R_f0 O_f0 S_f1 E_f1 R_f1 O_f1 S_f2 E_f2 R_f2 O_f2 S_f3 E_f3 R_f3 O_f3 O0) (by decide) (by decide) e0 (g := (mkF m 3 #[.val (.int x), .unset, .unset, .unset, .unset] [(.int (x &&& (3 : Int32)))])) rfl (by rw [hml]; rfl) (argsL := [(.int (x &&& (3 : Int32)))]) (rest := []) (lenOf own_pd__28I_29Lcom_2fexample_2fbahikhata_2fbahikhata_2fmodel_2fFacility_3b rfl) rfl (W := 0) (by show 2 * 0 + _ ≤ _; exact Nat.le_of_eq rfl) (hb hby own_d1_3) rfl (by decide) (by decide) ?_
  rintro rv1 T1 L1 X1 ⟨hv1, Nq1, eh1⟩
  have N1 := Fr.app N0 Nq1
  obtain ⟨fc, o, qf, E_f, R_f, O_f, ho⟩ := own_pickN ep zr f0 f1 f2 f3 x E_f0 R_f0 O_f0 E_f1 R_f1 O_f1 E_f2 R_f2 O_f2 E_f3 R_f3 O_f3 hk
  rw [qf] at hv1
  subst hv1
  show own_Fin p e below _ T1 (mkF m 6 #[.val (.int x), .unset, .unset, .unset, .unset] [(.ref fc)])
  have E_fc := E_f.ext O0.2
  have R_fc := R_f.ext O0.2
  refine own_g (mkF m 7 #[.val (.int x), .val (.ref fc), .unset, .unset, .unset] []) (fun _ q => XS.astoreN X1.here hx rfl (hb hby own_d1_6) rfl rfl (l' := #[.val (.int x), .val (.ref fc), .unset, .unset, .unset]) rfl q) ?_
  obtain ⟨T2, X2, e2, st2⟩ := getS2 X1 hx hZ hown (host := "") (Or.inl (own_h hw 10 rfl)) Via.refl eh1 (S_ep.ext O0.2) (g := (mkF m 7 #[.val (.int x), .val (.ref fc), .unset, .unset, .unset] [])) rfl (hb hby own_d1_7)
  refine own_by (g' := (mkF m 10 #[.val (.int x), .val (.ref fc), .unset, .unset, .unset] [(.ref ep)])) st2 ?_
  refine own_g (mkF m 12 #[.val (.int x), .val (.ref fc), .val (.ref ep), .unset, .unset] [(.int x)]) (fun _ q => XS.astoreN X2.here hx rfl (hb hby own_d1_10) rfl rfl (l' := #[.val (.int x), .val (.ref fc), .val (.ref ep), .unset, .unset]) rfl (XS.iloadN X2.here hx rfl (hb hby own_d1_11) rfl q)) ?_
  refine own_callS X2 hx hZ (y := own_y5) hown (own_h hw 12 rfl) (own_h hw 13 rfl) (own_h hw 2 rfl) (own_h hw 14 rfl) (by decide) (own_ov l Z a0 hw [] x h0 n0 Z0) (by decide) (by decide) e2 (g := (mkF m 12 #[.val (.int x), .val (.ref fc), .val (.ref ep), .unset, .unset] [(.int x)])) rfl (by rw [hml]; rfl) (argsL := [(.int x)]) (rest := []) (lenOf own_pd__28I_29Z rfl) rfl (W := 0) (by show 2 * 0 + _ ≤ _; exact Nat.le_of_eq rfl) (hb hby own_d1_12) rfl (by decide) (by decide) ?_
  rintro rv3 T3 L3 X3 ⟨rfl, Nq3, eh3⟩
  have N3 := Fr.app N1 Nq3
  show own_Fin p e below _ T3 (mkF m 15 #[.val (.int x), .val (.ref fc), .val (.ref ep), .unset, .unset] [(.int (own_od x))])
  by_cases hc4 : (own_od x) = (0 : Int32)
  · refine own_g (mkF m 24 #[.val (.int x), .val (.ref fc), .val (.ref ep), .val .null, .unset] []) (fun _ q => XS.ifYes X3.here hx rfl (pc0 := 15) (pc' := 22) rfl (hb hby own_d1_15) rfl ((if0 _ _).trans (teq hc4).1) (by decide) (by decide) (XS.aconstNull X3.here hx rfl (hb hby own_d1_22) (XS.astoreN X3.here hx rfl (hb hby own_d1_23) rfl rfl (l' := #[.val (.int x), .val (.ref fc), .val (.ref ep), .val .null, .unset]) rfl q))) ?_
    obtain ⟨T5, X5, e5, st5⟩ := getS2 X3 hx hZ hown (host := "") (Or.inl (own_h hw 15 rfl)) Via.refl eh3 (S_zr.ext O0.2) (g := (mkF m 24 #[.val (.int x), .val (.ref fc), .val (.ref ep), .val .null, .unset] [])) rfl (hb hby own_d1_24)
    refine own_by (g' := (mkF m 27 #[.val (.int x), .val (.ref fc), .val (.ref ep), .val .null, .unset] [(.ref zr)])) st5 ?_
    refine own_g (mkF m 29 #[.val (.int x), .val (.ref fc), .val (.ref ep), .val .null, .val (.ref zr)] []) (fun _ q => XS.astore X5.here hx rfl (hb hby own_d1_27) rfl rfl (l' := #[.val (.int x), .val (.ref fc), .val (.ref ep), .val .null, .val (.ref zr)]) rfl q) ?_
    obtain ⟨T6, h6, X6, e6, E6, A6, D6, U6, st6⟩ := newO X5 hx hZ hown (own_h hw 17 rfl) (own_h hw 18 rfl) (own_h hw 19 rfl) e5 (g := (mkF m 29 #[.val (.int x), .val (.ref fc), .val (.ref ep), .val .null, .val (.ref zr)] [])) rfl (hb hby own_d1_29) (by decide) (by decide)
    obtain ⟨b6, g6⟩ : ∃ z, z = h0.size := ⟨_, rfl⟩
    rw [← g6] at A6 D6 U6 st6
    have g_b6 : n0 ≤ b6 := Nat.le_trans Z0 (Nat.le_of_eq g6.symm)
    have sz_b6 : h0.size ≤ b6 := Nat.le_trans (Keep.refl h0 []).1 (Nat.le_of_eq g6.symm)
    have ne_fc_b6 : fc ≠ b6 := Nat.ne_of_lt (Nat.lt_of_lt_of_le E_fc.lt (Nat.le_of_eq g6.symm))
    refine own_by (g' := (mkF m 32 #[.val (.int x), .val (.ref fc), .val (.ref ep), .val .null, .val (.ref zr)] [(.ref b6)])) st6 ?_
    refine own_g (mkF m 33 #[.val (.int x), .val (.ref fc), .val (.ref ep), .val .null, .val (.ref zr)] [(.ref b6), (.ref b6)]) (fun _ q => XS.dup X6.here hx rfl (hb hby own_d1_32) rfl rfl q) ?_
    have hk8_ := (Nat.le_trans hk0 E6.1)
    obtain ⟨a7, T7, h7, j7, X7, e7, E7, hS, hk7, hZ, hown, RS7, st7⟩ := own_ldcJ X6 hx hZ hown (own_h hw 20 rfl) wS e6 hS hk8_ RS0 (g := (mkF m 33 #[.val (.int x), .val (.ref fc), .val (.ref ep), .val .null, .val (.ref zr)] [(.ref b6), (.ref b6)])) rfl (hb hby own_d1_33) (n := 4) (by decide) (by decide) (by decide) (by decide)
    refine own_by (g' := (mkF m 35 #[.val (.int x), .val (.ref fc), .val (.ref ep), .val .null, .val (.ref zr)] [(.ref a7), (.ref b6), (.ref b6)])) st7 ?_
    obtain ⟨a9, T9, h9, j9, X9, e9, E9, hS, hk9, hZ, hown, RS9, st9⟩ := own_ldcJ X7 hx hZ hown (own_h hw 28 rfl) wS e7 hS hk7 RS7 (g := (mkF m 35 #[.val (.int x), .val (.ref fc), .val (.ref ep), .val .null, .val (.ref zr)] [(.ref a7), (.ref b6), (.ref b6)])) rfl (hb hby own_d1_35) (n := 4) (by decide) (by decide) (by decide) (by decide)
    refine own_by (g' := (mkF m 37 #[.val (.int x), .val (.ref fc), .val (.ref ep), .val .null, .val (.ref zr)] [(.ref a9), (.ref a7), (.ref b6), (.ref b6)])) st9 ?_
    refine own_g (mkF m 48 #[.val (.int x), .val (.ref fc), .val (.ref ep), .val .null, .val (.ref zr)] [(.int 0), (.ref zr), (.ref zr), .null, .null, .null, (.ref zr), (.ref fc), (.ref a9), (.ref a7), (.ref b6), (.ref b6)]) (fun _ q => XS.aloadN X9.here hx rfl (hb hby own_d1_37) rfl rfl (XS.aload X9.here hx rfl (hb hby own_d1_38) rfl rfl (XS.aloadN X9.here hx rfl (hb hby own_d1_40) rfl rfl (XS.aconstNull X9.here hx rfl (hb hby own_d1_41) (XS.aconstNull X9.here hx rfl (hb hby own_d1_42) (XS.aload X9.here hx rfl (hb hby own_d1_43) rfl rfl (XS.aload X9.here hx rfl (hb hby own_d1_45) rfl rfl (XS.iconst X9.here hx rfl (hb hby own_d1_47) q)))))))) ?_
    refine own_g (mkF m 60 #[.val (.int x), .val (.ref fc), .val (.ref ep), .val .null, .val (.ref zr)] [(.ref ep), .null, (.ref zr), (.ref zr), (.ref zr), (.ref zr), (.int 0), (.int 0), (.int 0), (.ref zr), (.ref zr), .null, .null, .null, (.ref zr), (.ref fc), (.ref a9), (.ref a7), (.ref b6), (.ref b6)]) (fun _ q => XS.iconst X9.here hx rfl (hb hby own_d1_48) (XS.iconst X9.here hx rfl (hb hby own_d1_49) (XS.aload X9.here hx rfl (hb hby own_d1_50) rfl rfl (XS.aload X9.here hx rfl (hb hby own_d1_52) rfl rfl (XS.aload X9.here hx rfl (hb hby own_d1_54) rfl rfl (XS.aload X9.here hx rfl (hb hby own_d1_56) rfl rfl (XS.aconstNull X9.here hx rfl (hb hby own_d1_58) (XS.aloadN X9.here hx rfl (hb hby own_d1_59) rfl rfl q)))))))) ?_
    refine own_g (mkF m 65 #[.val (.int x), .val (.ref fc), .val (.ref ep), .val .null, .val (.ref zr)] [(.ref ep), (.ref zr), (.ref zr), (.ref ep), .null, (.ref zr), (.ref zr), (.ref zr), (.ref zr), (.int 0), (.int 0), (.int 0), (.ref zr), (.ref zr), .null, .null, .null, (.ref zr), (.ref fc), (.ref a9), (.ref a7), (.ref b6), (.ref b6)]) (fun _ q => XS.aload X9.here hx rfl (hb hby own_d1_60) rfl rfl (XS.aload X9.here hx rfl (hb hby own_d1_62) rfl rfl (XS.aloadN X9.here hx rfl (hb hby own_d1_64) rfl rfl q))) ?_
    have k10_ := ((((Keep.refl h0 []).ext E6).ext E7).ext E9)
    have e11_b6 := ((A6.ext E7).ext E9)
    have x12_b6 := (Unt.ext E9 (Unt.ext E7 U6))
    have e13_fc := (((E_fc.ext E6).ext E7).ext E9)
    have f14_fc := (((R_fc.ext E6).ext E7).ext E9)
    refine own_callIJ X9 hx hZ (y := own_y8) rfl hown (own_h hw 29 rfl) (own_h hw 30 rfl) (own_h hw 31 rfl) (own_h hw 19 rfl) (by decide) hS hk9 (own_Rs.sub RS9 (by decide)) (own_liAn l Z a0 hw [] b6 a7 a9 fc zr .null ep h9 n0 (Nat.le_trans Z0 k10_.1) rfl e11_b6 g_b6 x12_b6 e13_fc f14_fc ne_fc_b6) (by decide) (by decide) e9 (g := (mkF m 65 #[.val (.int x), .val (.ref fc), .val (.ref ep), .val .null, .val (.ref zr)] [(.ref ep), (.ref zr), (.ref zr), (.ref ep), .null, (.ref zr), (.ref zr), (.ref zr), (.ref zr), (.int 0), (.int 0), (.int 0), (.ref zr), (.ref zr), .null, .null, .null, (.ref zr), (.ref fc), (.ref a9), (.ref a7), (.ref b6), (.ref b6)])) rfl (by rw [hml]; rfl) (argsL := [(.ref a7), (.ref a9), (.ref fc), (.ref zr), .null, .null, .null, (.ref zr), (.ref zr), (.int 0), (.int 0), (.int 0), (.ref zr), (.ref zr), (.ref zr), (.ref zr), .null, (.ref ep), (.ref zr), (.ref zr), (.ref ep)]) (rest := [(.ref b6)]) (lenOf own_pd__28Ljava_2flang_2fString_3bLjava_2flang_2fString_3bLcom_2fexample_2fbahikhata_2fbahikhata_2fmodel_2fFacility_3bLjava_2fmath_2fBigDecimal_3bLjava_2ftime_2fLocalDate_3bLjava_2flang_2fString_3bLjava_2ftime_2fLocalDate_3bLjava_2fmath_2fBigDecimal_3bLjava_2fmath_2fBigDecimal_3bZZZLjava_2fmath_2fBigDecimal_3bLjava_2fmath_2fBigDecimal_3bLjava_2fmath_2fBigDecimal_3bLjava_2fmath_2fBigDecimal_3bLjava_2ftime_2fLocalDate_3bLjava_2ftime_2fLocalDate_3bLjava_2fmath_2fBigDecimal_3bLjava_2fmath_2fBigDecimal_3bLjava_2ftime_2fLocalDate_3b_29V rfl) rfl (W := 1) (by show 2 * 0 + _ ≤ _; exact Nat.le_of_eq rfl) (hb hby own_d1_65) rfl (by decide) (by decide) ?_
    rintro rv15 T15 L15 X15 hS hZ hown ⟨hV15, RQ15⟩ ⟨rfl, Nq15, Kq15, Eq15, Fo15, Ff15⟩
    have RS15 := (RS9.stays (s := s) hV15).app RQ15
    have N15 := Fr.app N3 Nq15
    show own_Fin p e below _ T15 (mkF m 68 #[.val (.int x), .val (.ref fc), .val (.ref ep), .val .null, .val (.ref zr)] [(.ref b6)])
    have k16_ := (k10_.trans Kq15 (allS (Or.inr sz_b6) all0))
    exact own_endJ X15 hS (by exact (Nat.le_refl _)) hZ (own_Rs.sub RS15 (by decide)) (v := some (.ref b6)) (fun h => by rw [Bd.returns] at h; cases h) hlk (fun hr => retOut X15 hx Bd.returns (own_narR rfl) (Or.inr (Or.inr (Or.inr (Or.inr ⟨rfl, rfl, rfl⟩)))) (hb hby own_d1_68) hr) (by exact ⟨b6, fc, o, rfl, N15, k16_, sz_b6, g_b6, Eq15, (by rw [own_sv, if_pos hc4]; exact Fo15), Ff15, E_f, O_f, ho⟩) (by decide) (by decide)
  · refine own_g (mkF m 24 #[.val (.int x), .val (.ref fc), .val (.ref ep), .val (.ref ep), .unset] []) (fun _ q => XS.ifNo X3.here hx rfl (hb hby own_d1_15) rfl ((if0 _ _).trans (feq hc4).1) (XS.aloadN X3.here hx rfl (hb hby own_d1_18) rfl rfl (XS.goto X3.here hx rfl (pc0 := 19) (pc' := 23) rfl (hb hby own_d1_19) (by decide) (by decide) (XS.astoreN X3.here hx rfl (hb hby own_d1_23) rfl rfl (l' := #[.val (.int x), .val (.ref fc), .val (.ref ep), .val (.ref ep), .unset]) rfl q)))) ?_
    obtain ⟨T17, X17, e17, st17⟩ := getS2 X3 hx hZ hown (host := "") (Or.inl (own_h hw 15 rfl)) Via.refl eh3 (S_zr.ext O0.2) (g := (mkF m 24 #[.val (.int x), .val (.ref fc), .val (.ref ep), .val (.ref ep), .unset] [])) rfl (hb hby own_d1_24)
    refine own_by (g' := (mkF m 27 #[.val (.int x), .val (.ref fc), .val (.ref ep), .val (.ref ep), .unset] [(.ref zr)])) st17 ?_
    refine own_g (mkF m 29 #[.val (.int x), .val (.ref fc), .val (.ref ep), .val (.ref ep), .val (.ref zr)] []) (fun _ q => XS.astore X17.here hx rfl (hb hby own_d1_27) rfl rfl (l' := #[.val (.int x), .val (.ref fc), .val (.ref ep), .val (.ref ep), .val (.ref zr)]) rfl q) ?_
    obtain ⟨T18, h18, X18, e18, E18, A18, D18, U18, st18⟩ := newO X17 hx hZ hown (own_h hw 17 rfl) (own_h hw 18 rfl) (own_h hw 19 rfl) e17 (g := (mkF m 29 #[.val (.int x), .val (.ref fc), .val (.ref ep), .val (.ref ep), .val (.ref zr)] [])) rfl (hb hby own_d1_29) (by decide) (by decide)
    obtain ⟨b18, g18⟩ : ∃ z, z = h0.size := ⟨_, rfl⟩
    rw [← g18] at A18 D18 U18 st18
    have g_b18 : n0 ≤ b18 := Nat.le_trans Z0 (Nat.le_of_eq g18.symm)
    have sz_b18 : h0.size ≤ b18 := Nat.le_trans (Keep.refl h0 []).1 (Nat.le_of_eq g18.symm)
    have ne_fc_b18 : fc ≠ b18 := Nat.ne_of_lt (Nat.lt_of_lt_of_le E_fc.lt (Nat.le_of_eq g18.symm))
    refine own_by (g' := (mkF m 32 #[.val (.int x), .val (.ref fc), .val (.ref ep), .val (.ref ep), .val (.ref zr)] [(.ref b18)])) st18 ?_
    refine own_g (mkF m 33 #[.val (.int x), .val (.ref fc), .val (.ref ep), .val (.ref ep), .val (.ref zr)] [(.ref b18), (.ref b18)]) (fun _ q => XS.dup X18.here hx rfl (hb hby own_d1_32) rfl rfl q) ?_
    have hk20_ := (Nat.le_trans hk0 E18.1)
    obtain ⟨a19, T19, h19, j19, X19, e19, E19, hS, hk19, hZ, hown, RS19, st19⟩ := own_ldcJ X18 hx hZ hown (own_h hw 20 rfl) wS e18 hS hk20_ RS0 (g := (mkF m 33 #[.val (.int x), .val (.ref fc), .val (.ref ep), .val (.ref ep), .val (.ref zr)] [(.ref b18), (.ref b18)])) rfl (hb hby own_d1_33) (n := 4) (by decide) (by decide) (by decide) (by decide)
    refine own_by (g' := (mkF m 35 #[.val (.int x), .val (.ref fc), .val (.ref ep), .val (.ref ep), .val (.ref zr)] [(.ref a19), (.ref b18), (.ref b18)])) st19 ?_
    obtain ⟨a21, T21, h21, j21, X21, e21, E21, hS, hk21, hZ, hown, RS21, st21⟩ := own_ldcJ X19 hx hZ hown (own_h hw 28 rfl) wS e19 hS hk19 RS19 (g := (mkF m 35 #[.val (.int x), .val (.ref fc), .val (.ref ep), .val (.ref ep), .val (.ref zr)] [(.ref a19), (.ref b18), (.ref b18)])) rfl (hb hby own_d1_35) (n := 4) (by decide) (by decide) (by decide) (by decide)
    refine own_by (g' := (mkF m 37 #[.val (.int x), .val (.ref fc), .val (.ref ep), .val (.ref ep), .val (.ref zr)] [(.ref a21), (.ref a19), (.ref b18), (.ref b18)])) st21 ?_
    refine own_g (mkF m 48 #[.val (.int x), .val (.ref fc), .val (.ref ep), .val (.ref ep), .val (.ref zr)] [(.int 0), (.ref zr), (.ref zr), .null, .null, (.ref ep), (.ref zr), (.ref fc), (.ref a21), (.ref a19), (.ref b18), (.ref b18)]) (fun _ q => XS.aloadN X21.here hx rfl (hb hby own_d1_37) rfl rfl (XS.aload X21.here hx rfl (hb hby own_d1_38) rfl rfl (XS.aloadN X21.here hx rfl (hb hby own_d1_40) rfl rfl (XS.aconstNull X21.here hx rfl (hb hby own_d1_41) (XS.aconstNull X21.here hx rfl (hb hby own_d1_42) (XS.aload X21.here hx rfl (hb hby own_d1_43) rfl rfl (XS.aload X21.here hx rfl (hb hby own_d1_45) rfl rfl (XS.iconst X21.here hx rfl (hb hby own_d1_47) q)))))))) ?_
    refine own_g (mkF m 60 #[.val (.int x), .val (.ref fc), .val (.ref ep), .val (.ref ep), .val (.ref zr)] [(.ref ep), .null, (.ref zr), (.ref zr), (.ref zr), (.ref zr), (.int 0), (.int 0), (.int 0), (.ref zr), (.ref zr), .null, .null, (.ref ep), (.ref zr), (.ref fc), (.ref a21), (.ref a19), (.ref b18), (.ref b18)]) (fun _ q => XS.iconst X21.here hx rfl (hb hby own_d1_48) (XS.iconst X21.here hx rfl (hb hby own_d1_49) (XS.aload X21.here hx rfl (hb hby own_d1_50) rfl rfl (XS.aload X21.here hx rfl (hb hby own_d1_52) rfl rfl (XS.aload X21.here hx rfl (hb hby own_d1_54) rfl rfl (XS.aload X21.here hx rfl (hb hby own_d1_56) rfl rfl (XS.aconstNull X21.here hx rfl (hb hby own_d1_58) (XS.aloadN X21.here hx rfl (hb hby own_d1_59) rfl rfl q)))))))) ?_
    refine own_g (mkF m 65 #[.val (.int x), .val (.ref fc), .val (.ref ep), .val (.ref ep), .val (.ref zr)] [(.ref ep), (.ref zr), (.ref zr), (.ref ep), .null, (.ref zr), (.ref zr), (.ref zr), (.ref zr), (.int 0), (.int 0), (.int 0), (.ref zr), (.ref zr), .null, .null, (.ref ep), (.ref zr), (.ref fc), (.ref a21), (.ref a19), (.ref b18), (.ref b18)]) (fun _ q => XS.aload X21.here hx rfl (hb hby own_d1_60) rfl rfl (XS.aload X21.here hx rfl (hb hby own_d1_62) rfl rfl (XS.aloadN X21.here hx rfl (hb hby own_d1_64) rfl rfl q))) ?_
    have k22_ := ((((Keep.refl h0 []).ext E18).ext E19).ext E21)
    have e23_b18 := ((A18.ext E19).ext E21)
    have x24_b18 := (Unt.ext E21 (Unt.ext E19 U18))
    have e25_fc := (((E_fc.ext E18).ext E19).ext E21)
    have f26_fc := (((R_fc.ext E18).ext E19).ext E21)
    refine own_callIJ X21 hx hZ (y := own_y8) rfl hown (own_h hw 29 rfl) (own_h hw 30 rfl) (own_h hw 31 rfl) (own_h hw 19 rfl) (by decide) hS hk21 (own_Rs.sub RS21 (by decide)) (own_liAn l Z a0 hw [] b18 a19 a21 fc zr (.ref ep) ep h21 n0 (Nat.le_trans Z0 k22_.1) rfl e23_b18 g_b18 x24_b18 e25_fc f26_fc ne_fc_b18) (by decide) (by decide) e21 (g := (mkF m 65 #[.val (.int x), .val (.ref fc), .val (.ref ep), .val (.ref ep), .val (.ref zr)] [(.ref ep), (.ref zr), (.ref zr), (.ref ep), .null, (.ref zr), (.ref zr), (.ref zr), (.ref zr), (.int 0), (.int 0), (.int 0), (.ref zr), (.ref zr), .null, .null, (.ref ep), (.ref zr), (.ref fc), (.ref a21), (.ref a19), (.ref b18), (.ref b18)])) rfl (by rw [hml]; rfl) (argsL := [(.ref a19), (.ref a21), (.ref fc), (.ref zr), (.ref ep), .null, .null, (.ref zr), (.ref zr), (.int 0), (.int 0), (.int 0), (.ref zr), (.ref zr), (.ref zr), (.ref zr), .null, (.ref ep), (.ref zr), (.ref zr), (.ref ep)]) (rest := [(.ref b18)]) (lenOf own_pd__28Ljava_2flang_2fString_3bLjava_2flang_2fString_3bLcom_2fexample_2fbahikhata_2fbahikhata_2fmodel_2fFacility_3bLjava_2fmath_2fBigDecimal_3bLjava_2ftime_2fLocalDate_3bLjava_2flang_2fString_3bLjava_2ftime_2fLocalDate_3bLjava_2fmath_2fBigDecimal_3bLjava_2fmath_2fBigDecimal_3bZZZLjava_2fmath_2fBigDecimal_3bLjava_2fmath_2fBigDecimal_3bLjava_2fmath_2fBigDecimal_3bLjava_2fmath_2fBigDecimal_3bLjava_2ftime_2fLocalDate_3bLjava_2ftime_2fLocalDate_3bLjava_2fmath_2fBigDecimal_3bLjava_2fmath_2fBigDecimal_3bLjava_2ftime_2fLocalDate_3b_29V rfl) rfl (W := 1) (by show 2 * 0 + _ ≤ _; exact Nat.le_of_eq rfl) (hb hby own_d1_65) rfl (by decide) (by decide) ?_
    rintro rv27 T27 L27 X27 hS hZ hown ⟨hV27, RQ27⟩ ⟨rfl, Nq27, Kq27, Eq27, Fo27, Ff27⟩
    have RS27 := (RS21.stays (s := s) hV27).app RQ27
    have N27 := Fr.app N3 Nq27
    show own_Fin p e below _ T27 (mkF m 68 #[.val (.int x), .val (.ref fc), .val (.ref ep), .val (.ref ep), .val (.ref zr)] [(.ref b18)])
    have k28_ := (k22_.trans Kq27 (allS (Or.inr sz_b18) all0))
    exact own_endJ X27 hS (by exact (Nat.le_refl _)) hZ (own_Rs.sub RS27 (by decide)) (v := some (.ref b18)) (fun h => by rw [Bd.returns] at h; cases h) hlk (fun hr => retOut X27 hx Bd.returns (own_narR rfl) (Or.inr (Or.inr (Or.inr (Or.inr ⟨rfl, rfl, rfl⟩)))) (hb hby own_d1_68) hr) (by exact ⟨b18, fc, o, rfl, N27, k28_, sz_b18, g_b18, Eq27, (by rw [own_sv, if_neg hc4]; exact Fo27), Ff27, E_f, O_f, ho⟩) (by decide) (by decide)
theorem own_loAr_ef (m : MethodId) (x : Int32) : entryFrame m #[(.int x)] 5 = mkF m 0 #[.val (.int x), .unset, .unset, .unset, .unset] [] := by  first | (simp [entryFrame, mkF, argsToLocals, Value.category]; done) | rfl
def own_loAr_Q (Z : State) (x : Int32) (ep : Addr) (zr : Addr) (f0 : Addr) (f1 : Addr) (f2 : Addr) (f3 : Addr) (h0 : Heap) (n0 : Nat) (v : Option Value) (h : Heap) (L : List Loc) : Prop := ∃ (t fc : Addr) (o : Int32), v = some (.ref t) ∧ Fr n0 L ∧ Keep h0 h [] ∧ h0.size ≤ t ∧ n0 ≤ t ∧ Exa Z h t "com/example/bahikhata/bahikhata/model/Loan" ∧ Fld Z h t "com/example/bahikhata/bahikhata/model/Loan" "overdueSince" "Ljava/time/LocalDate;" (own_sv ep x) ∧ Fld Z h t "com/example/bahikhata/bahikhata/model/Loan" "facility" "Lcom/example/bahikhata/bahikhata/model/Facility;" (.ref fc) ∧ Exa Z Z.heap fc "com/example/bahikhata/bahikhata/model/Facility" ∧ Fld Z Z.heap fc "java/lang/Enum" "ordinal" "I" (.int o) ∧ own_sm o
set_option maxRecDepth 65536 in
set_option maxHeartbeats 40000000 in
theorem own_loAr (l : Launch) (Z : State) (a0 : Array Value) (hw : ∀ d ∈ tables_1, d.before a0 Z = true) (ws : List Jvm.Cond) (x : Int32) (ep : Addr) (zr : Addr) (f0 : Addr) (f1 : Addr) (f2 : Addr) (f3 : Addr) (h0 : Heap) (n0 : Nat) (Z0 : n0 ≤ h0.size) (S_ep : own_A5 Z ep) (S_zr : own_A4 Z zr) (S_f0 : own_A3 Z f0) (E_f0 : Exa Z Z.heap f0 "com/example/bahikhata/bahikhata/model/Facility") (R_f0 : Fld Z Z.heap f0 "com/example/bahikhata/bahikhata/model/Facility" "runningAccount" "Z" (.int 0)) (O_f0 : Fld Z Z.heap f0 "java/lang/Enum" "ordinal" "I" (.int 0)) (S_f1 : own_A1 Z f1) (E_f1 : Exa Z Z.heap f1 "com/example/bahikhata/bahikhata/model/Facility") (R_f1 : Fld Z Z.heap f1 "com/example/bahikhata/bahikhata/model/Facility" "runningAccount" "Z" (.int 1)) (O_f1 : Fld Z Z.heap f1 "java/lang/Enum" "ordinal" "I" (.int 1)) (S_f2 : own_A2 Z f2) (E_f2 : Exa Z Z.heap f2 "com/example/bahikhata/bahikhata/model/Facility") (R_f2 : Fld Z Z.heap f2 "com/example/bahikhata/bahikhata/model/Facility" "runningAccount" "Z" (.int 1)) (O_f2 : Fld Z Z.heap f2 "java/lang/Enum" "ordinal" "I" (.int 2)) (S_f3 : own_A0 Z f3) (E_f3 : Exa Z Z.heap f3 "com/example/bahikhata/bahikhata/model/Facility") (R_f3 : Fld Z Z.heap f3 "com/example/bahikhata/bahikhata/model/Facility" "runningAccount" "Z" (.int 0)) (O_f3 : Fld Z Z.heap f3 "java/lang/Enum" "ordinal" "I" (.int 3)) (O0 : Old Z n0 h0) (hk : own_rn x) :
    MetFree l own_y4 (head1 (Jvm.Cond.code own_y4 method_4_code 5 (some (.object "com/example/bahikhata/bahikhata/model/Loan")) :: ws) (⟨3, 33, 789, 58⟩ : Room)) (fun aa U => aa = #[(.int x)] ∧ Z.Warmed39 U.vm ∧ U.heap = h0 ∧ own_Rs Z U.vm ([] : List (String × Nat))) (fun _ _ _ _ _ => True) (fun _ U o U' => ∃ v L, o = .returned v ∧ own_loAr_Q Z x ep zr f0 f1 f2 f3 h0 n0 v U'.heap L ∧ own_Rs Z U'.vm ([("com/example/bahikhata/bahikhata/io/BookIndexGivesOverdueSincePinLaw", 46), ("com/example/bahikhata/bahikhata/io/BookIndexGivesOverdueSincePinLaw", 48), ("com/example/bahikhata/bahikhata/model/Loan", 7), ("com/example/bahikhata/bahikhata/model/Loan", 15), ("com/example/bahikhata/bahikhata/model/Loan", 17), ("com/example/bahikhata/bahikhata/model/Loan", 19), ("com/example/bahikhata/bahikhata/model/Loan", 21), ("com/example/bahikhata/bahikhata/model/Loan", 23), ("com/example/bahikhata/bahikhata/model/Loan", 25), ("com/example/bahikhata/bahikhata/model/Loan", 27), ("com/example/bahikhata/bahikhata/model/Loan", 35), ("com/example/bahikhata/bahikhata/model/Loan", 37), ("com/example/bahikhata/bahikhata/model/Loan", 39), ("com/example/bahikhata/bahikhata/model/Loan", 41), ("com/example/bahikhata/bahikhata/model/Loan", 43), ("com/example/bahikhata/bahikhata/model/Loan", 45)] : List (String × Nat)) ∧ ReturnedEndW U o U' L (⟨3, 33, 789, 58⟩ : Room).cells (⟨3, 33, 789, 58⟩ : Room).slots) := by
  refine MetFree.of_bodySF (plainFor_of_name own_pn_com_example_bahikhata_bahikhata_io_BookIndexGivesOverdueSincePinLaw) hisR ?_
  intro p e s m args below meth c s₁ Bd hml0 hP hK
  obtain ⟨rfl, hZ, hh, RS0⟩ := hP
  have hx := Bd.exec
  have hby := Bd.bytes
  have hml : c.maxLocals = 5 := hml0
  have hown : s.vm.findClass "com/example/bahikhata/bahikhata/io/BookIndexGivesOverdueSincePinLaw" = some m.cls := findClass_of_methodNamed Bd.named
  have hnm := (name_of_methodNamed Bd.named Bd.method).1
  have hlk := Bd.notSynchronized
  have X0 : Stand p l e (⟨3, 33, 789, 58⟩ : Room) (s.setVm s.vm) m #[(.int x)] below meth c s₁ [] 0 0 := Stand.of_body Bd
  have e0 : s₁.heap = h0 := by rw [← hh, Bd.state]; rfl
  have N0 := Fr.nil n0
  have hS : s.Since s.vm 0 := (State.WarmedH.refl s).since 0
  have hk0 : 0 ≤ h0.size := Nat.zero_le _
  have wS := own_wS hw
  refine own_startJ (K' := ([("com/example/bahikhata/bahikhata/io/BookIndexGivesOverdueSincePinLaw", 46), ("com/example/bahikhata/bahikhata/io/BookIndexGivesOverdueSincePinLaw", 48), ("com/example/bahikhata/bahikhata/model/Loan", 7), ("com/example/bahikhata/bahikhata/model/Loan", 15), ("com/example/bahikhata/bahikhata/model/Loan", 17), ("com/example/bahikhata/bahikhata/model/Loan", 19), ("com/example/bahikhata/bahikhata/model/Loan", 21), ("com/example/bahikhata/bahikhata/model/Loan", 23), ("com/example/bahikhata/bahikhata/model/Loan", 25), ("com/example/bahikhata/bahikhata/model/Loan", 27), ("com/example/bahikhata/bahikhata/model/Loan", 35), ("com/example/bahikhata/bahikhata/model/Loan", 37), ("com/example/bahikhata/bahikhata/model/Loan", 39), ("com/example/bahikhata/bahikhata/model/Loan", 41), ("com/example/bahikhata/bahikhata/model/Loan", 43), ("com/example/bahikhata/bahikhata/model/Loan", 45)] : List (String × Nat))) (Q := own_loAr_Q Z x ep zr f0 f1 f2 f3 h0 n0) (own_loAr_ef m x) ?_
  refine own_g (mkF m 3 #[.val (.int x), .unset, .unset, .unset, .unset] [(.int (x &&& (3 : Int32)))]) (fun _ q => XS.iloadN X0.here hx rfl (hb hby own_d1_0) rfl (XS.iconst X0.here hx rfl (hb hby own_d1_1) (XS.iand X0.here hx rfl (hb hby own_d1_2) rfl q))) ?_
  refine own_callS X0 hx hZ (y := own_y3) hown (own_h hw 4 rfl) (own_h hw 5 rfl) (own_h hw 2 rfl) (own_h hw 6 rfl) (by decide) (own_fa l Z a0 hw [] (x &&& (3 : Int32)) ep zr f0 f1 f2 f3 h0 n0 Z0 S_ep S_zr S_f0 E_f0 R_f0 O_f0 S_f1 E_f1 R_f1 O_f1 S_f2 E_f2 R_f2 O_f2 S_f3 E_f3 R_f3 O_f3 O0) (by decide) (by decide) e0 (g := (mkF m 3 #[.val (.int x), .unset, .unset, .unset, .unset] [(.int (x &&& (3 : Int32)))])) rfl (by rw [hml]; rfl) (argsL := [(.int (x &&& (3 : Int32)))]) (rest := []) (lenOf own_pd__28I_29Lcom_2fexample_2fbahikhata_2fbahikhata_2fmodel_2fFacility_3b rfl) rfl (W := 0) (by show 2 * 0 + _ ≤ _; exact Nat.le_of_eq rfl) (hb hby own_d1_3) rfl (by decide) (by decide) ?_
  rintro rv1 T1 L1 X1 ⟨hv1, Nq1, eh1⟩
  have N1 := Fr.app N0 Nq1
  obtain ⟨fc, o, qf, E_f, R_f, O_f, ho⟩ := own_pickR ep zr f0 f1 f2 f3 x E_f0 R_f0 O_f0 E_f1 R_f1 O_f1 E_f2 R_f2 O_f2 E_f3 R_f3 O_f3 hk
  rw [qf] at hv1
  subst hv1
  show own_Fin p e below _ T1 (mkF m 6 #[.val (.int x), .unset, .unset, .unset, .unset] [(.ref fc)])
  have E_fc := E_f.ext O0.2
  have R_fc := R_f.ext O0.2
  refine own_g (mkF m 7 #[.val (.int x), .val (.ref fc), .unset, .unset, .unset] []) (fun _ q => XS.astoreN X1.here hx rfl (hb hby own_d1_6) rfl rfl (l' := #[.val (.int x), .val (.ref fc), .unset, .unset, .unset]) rfl q) ?_
  obtain ⟨T2, X2, e2, st2⟩ := getS2 X1 hx hZ hown (host := "") (Or.inl (own_h hw 10 rfl)) Via.refl eh1 (S_ep.ext O0.2) (g := (mkF m 7 #[.val (.int x), .val (.ref fc), .unset, .unset, .unset] [])) rfl (hb hby own_d1_7)
  refine own_by (g' := (mkF m 10 #[.val (.int x), .val (.ref fc), .unset, .unset, .unset] [(.ref ep)])) st2 ?_
  refine own_g (mkF m 12 #[.val (.int x), .val (.ref fc), .val (.ref ep), .unset, .unset] [(.int x)]) (fun _ q => XS.astoreN X2.here hx rfl (hb hby own_d1_10) rfl rfl (l' := #[.val (.int x), .val (.ref fc), .val (.ref ep), .unset, .unset]) rfl (XS.iloadN X2.here hx rfl (hb hby own_d1_11) rfl q)) ?_
  refine own_callS X2 hx hZ (y := own_y5) hown (own_h hw 12 rfl) (own_h hw 13 rfl) (own_h hw 2 rfl) (own_h hw 14 rfl) (by decide) (own_ov l Z a0 hw [] x h0 n0 Z0) (by decide) (by decide) e2 (g := (mkF m 12 #[.val (.int x), .val (.ref fc), .val (.ref ep), .unset, .unset] [(.int x)])) rfl (by rw [hml]; rfl) (argsL := [(.int x)]) (rest := []) (lenOf own_pd__28I_29Z rfl) rfl (W := 0) (by show 2 * 0 + _ ≤ _; exact Nat.le_of_eq rfl) (hb hby own_d1_12) rfl (by decide) (by decide) ?_
  rintro rv3 T3 L3 X3 ⟨rfl, Nq3, eh3⟩
  have N3 := Fr.app N1 Nq3
  show own_Fin p e below _ T3 (mkF m 15 #[.val (.int x), .val (.ref fc), .val (.ref ep), .unset, .unset] [(.int (own_od x))])
  by_cases hc4 : (own_od x) = (0 : Int32)
  · refine own_g (mkF m 24 #[.val (.int x), .val (.ref fc), .val (.ref ep), .val .null, .unset] []) (fun _ q => XS.ifYes X3.here hx rfl (pc0 := 15) (pc' := 22) rfl (hb hby own_d1_15) rfl ((if0 _ _).trans (teq hc4).1) (by decide) (by decide) (XS.aconstNull X3.here hx rfl (hb hby own_d1_22) (XS.astoreN X3.here hx rfl (hb hby own_d1_23) rfl rfl (l' := #[.val (.int x), .val (.ref fc), .val (.ref ep), .val .null, .unset]) rfl q))) ?_
    obtain ⟨T5, X5, e5, st5⟩ := getS2 X3 hx hZ hown (host := "") (Or.inl (own_h hw 15 rfl)) Via.refl eh3 (S_zr.ext O0.2) (g := (mkF m 24 #[.val (.int x), .val (.ref fc), .val (.ref ep), .val .null, .unset] [])) rfl (hb hby own_d1_24)
    refine own_by (g' := (mkF m 27 #[.val (.int x), .val (.ref fc), .val (.ref ep), .val .null, .unset] [(.ref zr)])) st5 ?_
    refine own_g (mkF m 29 #[.val (.int x), .val (.ref fc), .val (.ref ep), .val .null, .val (.ref zr)] []) (fun _ q => XS.astore X5.here hx rfl (hb hby own_d1_27) rfl rfl (l' := #[.val (.int x), .val (.ref fc), .val (.ref ep), .val .null, .val (.ref zr)]) rfl q) ?_
    obtain ⟨T6, h6, X6, e6, E6, A6, D6, U6, st6⟩ := newO X5 hx hZ hown (own_h hw 17 rfl) (own_h hw 18 rfl) (own_h hw 19 rfl) e5 (g := (mkF m 29 #[.val (.int x), .val (.ref fc), .val (.ref ep), .val .null, .val (.ref zr)] [])) rfl (hb hby own_d1_29) (by decide) (by decide)
    obtain ⟨b6, g6⟩ : ∃ z, z = h0.size := ⟨_, rfl⟩
    rw [← g6] at A6 D6 U6 st6
    have g_b6 : n0 ≤ b6 := Nat.le_trans Z0 (Nat.le_of_eq g6.symm)
    have sz_b6 : h0.size ≤ b6 := Nat.le_trans (Keep.refl h0 []).1 (Nat.le_of_eq g6.symm)
    have ne_fc_b6 : fc ≠ b6 := Nat.ne_of_lt (Nat.lt_of_lt_of_le E_fc.lt (Nat.le_of_eq g6.symm))
    refine own_by (g' := (mkF m 32 #[.val (.int x), .val (.ref fc), .val (.ref ep), .val .null, .val (.ref zr)] [(.ref b6)])) st6 ?_
    refine own_g (mkF m 33 #[.val (.int x), .val (.ref fc), .val (.ref ep), .val .null, .val (.ref zr)] [(.ref b6), (.ref b6)]) (fun _ q => XS.dup X6.here hx rfl (hb hby own_d1_32) rfl rfl q) ?_
    have hk8_ := (Nat.le_trans hk0 E6.1)
    obtain ⟨a7, T7, h7, j7, X7, e7, E7, hS, hk7, hZ, hown, RS7, st7⟩ := own_ldcJ X6 hx hZ hown (own_h hw 20 rfl) wS e6 hS hk8_ RS0 (g := (mkF m 33 #[.val (.int x), .val (.ref fc), .val (.ref ep), .val .null, .val (.ref zr)] [(.ref b6), (.ref b6)])) rfl (hb hby own_d1_33) (n := 4) (by decide) (by decide) (by decide) (by decide)
    refine own_by (g' := (mkF m 35 #[.val (.int x), .val (.ref fc), .val (.ref ep), .val .null, .val (.ref zr)] [(.ref a7), (.ref b6), (.ref b6)])) st7 ?_
    obtain ⟨a9, T9, h9, j9, X9, e9, E9, hS, hk9, hZ, hown, RS9, st9⟩ := own_ldcJ X7 hx hZ hown (own_h hw 28 rfl) wS e7 hS hk7 RS7 (g := (mkF m 35 #[.val (.int x), .val (.ref fc), .val (.ref ep), .val .null, .val (.ref zr)] [(.ref a7), (.ref b6), (.ref b6)])) rfl (hb hby own_d1_35) (n := 4) (by decide) (by decide) (by decide) (by decide)
    refine own_by (g' := (mkF m 37 #[.val (.int x), .val (.ref fc), .val (.ref ep), .val .null, .val (.ref zr)] [(.ref a9), (.ref a7), (.ref b6), (.ref b6)])) st9 ?_
    refine own_g (mkF m 48 #[.val (.int x), .val (.ref fc), .val (.ref ep), .val .null, .val (.ref zr)] [(.int 0), (.ref zr), (.ref zr), .null, .null, .null, (.ref zr), (.ref fc), (.ref a9), (.ref a7), (.ref b6), (.ref b6)]) (fun _ q => XS.aloadN X9.here hx rfl (hb hby own_d1_37) rfl rfl (XS.aload X9.here hx rfl (hb hby own_d1_38) rfl rfl (XS.aloadN X9.here hx rfl (hb hby own_d1_40) rfl rfl (XS.aconstNull X9.here hx rfl (hb hby own_d1_41) (XS.aconstNull X9.here hx rfl (hb hby own_d1_42) (XS.aload X9.here hx rfl (hb hby own_d1_43) rfl rfl (XS.aload X9.here hx rfl (hb hby own_d1_45) rfl rfl (XS.iconst X9.here hx rfl (hb hby own_d1_47) q)))))))) ?_
    refine own_g (mkF m 60 #[.val (.int x), .val (.ref fc), .val (.ref ep), .val .null, .val (.ref zr)] [(.ref ep), .null, (.ref zr), (.ref zr), (.ref zr), (.ref zr), (.int 0), (.int 0), (.int 0), (.ref zr), (.ref zr), .null, .null, .null, (.ref zr), (.ref fc), (.ref a9), (.ref a7), (.ref b6), (.ref b6)]) (fun _ q => XS.iconst X9.here hx rfl (hb hby own_d1_48) (XS.iconst X9.here hx rfl (hb hby own_d1_49) (XS.aload X9.here hx rfl (hb hby own_d1_50) rfl rfl (XS.aload X9.here hx rfl (hb hby own_d1_52) rfl rfl (XS.aload X9.here hx rfl (hb hby own_d1_54) rfl rfl (XS.aload X9.here hx rfl (hb hby own_d1_56) rfl rfl (XS.aconstNull X9.here hx rfl (hb hby own_d1_58) (XS.aloadN X9.here hx rfl (hb hby own_d1_59) rfl rfl q)))))))) ?_
    refine own_g (mkF m 65 #[.val (.int x), .val (.ref fc), .val (.ref ep), .val .null, .val (.ref zr)] [(.ref ep), (.ref zr), (.ref zr), (.ref ep), .null, (.ref zr), (.ref zr), (.ref zr), (.ref zr), (.int 0), (.int 0), (.int 0), (.ref zr), (.ref zr), .null, .null, .null, (.ref zr), (.ref fc), (.ref a9), (.ref a7), (.ref b6), (.ref b6)]) (fun _ q => XS.aload X9.here hx rfl (hb hby own_d1_60) rfl rfl (XS.aload X9.here hx rfl (hb hby own_d1_62) rfl rfl (XS.aloadN X9.here hx rfl (hb hby own_d1_64) rfl rfl q))) ?_
    have k10_ := ((((Keep.refl h0 []).ext E6).ext E7).ext E9)
    have e11_b6 := ((A6.ext E7).ext E9)
    have x12_b6 := (Unt.ext E9 (Unt.ext E7 U6))
    have e13_fc := (((E_fc.ext E6).ext E7).ext E9)
    have f14_fc := (((R_fc.ext E6).ext E7).ext E9)
    refine own_callIJ X9 hx hZ (y := own_y8) rfl hown (own_h hw 29 rfl) (own_h hw 30 rfl) (own_h hw 31 rfl) (own_h hw 19 rfl) (by decide) hS hk9 (own_Rs.sub RS9 (by decide)) (own_liAr l Z a0 hw [] b6 a7 a9 fc zr .null ep h9 n0 (Nat.le_trans Z0 k10_.1) rfl e11_b6 g_b6 x12_b6 e13_fc f14_fc ne_fc_b6) (by decide) (by decide) e9 (g := (mkF m 65 #[.val (.int x), .val (.ref fc), .val (.ref ep), .val .null, .val (.ref zr)] [(.ref ep), (.ref zr), (.ref zr), (.ref ep), .null, (.ref zr), (.ref zr), (.ref zr), (.ref zr), (.int 0), (.int 0), (.int 0), (.ref zr), (.ref zr), .null, .null, .null, (.ref zr), (.ref fc), (.ref a9), (.ref a7), (.ref b6), (.ref b6)])) rfl (by rw [hml]; rfl) (argsL := [(.ref a7), (.ref a9), (.ref fc), (.ref zr), .null, .null, .null, (.ref zr), (.ref zr), (.int 0), (.int 0), (.int 0), (.ref zr), (.ref zr), (.ref zr), (.ref zr), .null, (.ref ep), (.ref zr), (.ref zr), (.ref ep)]) (rest := [(.ref b6)]) (lenOf own_pd__28Ljava_2flang_2fString_3bLjava_2flang_2fString_3bLcom_2fexample_2fbahikhata_2fbahikhata_2fmodel_2fFacility_3bLjava_2fmath_2fBigDecimal_3bLjava_2ftime_2fLocalDate_3bLjava_2flang_2fString_3bLjava_2ftime_2fLocalDate_3bLjava_2fmath_2fBigDecimal_3bLjava_2fmath_2fBigDecimal_3bZZZLjava_2fmath_2fBigDecimal_3bLjava_2fmath_2fBigDecimal_3bLjava_2fmath_2fBigDecimal_3bLjava_2fmath_2fBigDecimal_3bLjava_2ftime_2fLocalDate_3bLjava_2ftime_2fLocalDate_3bLjava_2fmath_2fBigDecimal_3bLjava_2fmath_2fBigDecimal_3bLjava_2ftime_2fLocalDate_3b_29V rfl) rfl (W := 1) (by show 2 * 0 + _ ≤ _; exact Nat.le_of_eq rfl) (hb hby own_d1_65) rfl (by decide) (by decide) ?_
    rintro rv15 T15 L15 X15 hS hZ hown ⟨hV15, RQ15⟩ ⟨rfl, Nq15, Kq15, Eq15, Fo15, Ff15⟩
    have RS15 := (RS9.stays (s := s) hV15).app RQ15
    have N15 := Fr.app N3 Nq15
    show own_Fin p e below _ T15 (mkF m 68 #[.val (.int x), .val (.ref fc), .val (.ref ep), .val .null, .val (.ref zr)] [(.ref b6)])
    have k16_ := (k10_.trans Kq15 (allS (Or.inr sz_b6) all0))
    exact own_endJ X15 hS (by exact (Nat.le_refl _)) hZ (own_Rs.sub RS15 (by decide)) (v := some (.ref b6)) (fun h => by rw [Bd.returns] at h; cases h) hlk (fun hr => retOut X15 hx Bd.returns (own_narR rfl) (Or.inr (Or.inr (Or.inr (Or.inr ⟨rfl, rfl, rfl⟩)))) (hb hby own_d1_68) hr) (by exact ⟨b6, fc, o, rfl, N15, k16_, sz_b6, g_b6, Eq15, (by rw [own_sv, if_pos hc4]; exact Fo15), Ff15, E_f, O_f, ho⟩) (by decide) (by decide)
  · refine own_g (mkF m 24 #[.val (.int x), .val (.ref fc), .val (.ref ep), .val (.ref ep), .unset] []) (fun _ q => XS.ifNo X3.here hx rfl (hb hby own_d1_15) rfl ((if0 _ _).trans (feq hc4).1) (XS.aloadN X3.here hx rfl (hb hby own_d1_18) rfl rfl (XS.goto X3.here hx rfl (pc0 := 19) (pc' := 23) rfl (hb hby own_d1_19) (by decide) (by decide) (XS.astoreN X3.here hx rfl (hb hby own_d1_23) rfl rfl (l' := #[.val (.int x), .val (.ref fc), .val (.ref ep), .val (.ref ep), .unset]) rfl q)))) ?_
    obtain ⟨T17, X17, e17, st17⟩ := getS2 X3 hx hZ hown (host := "") (Or.inl (own_h hw 15 rfl)) Via.refl eh3 (S_zr.ext O0.2) (g := (mkF m 24 #[.val (.int x), .val (.ref fc), .val (.ref ep), .val (.ref ep), .unset] [])) rfl (hb hby own_d1_24)
    refine own_by (g' := (mkF m 27 #[.val (.int x), .val (.ref fc), .val (.ref ep), .val (.ref ep), .unset] [(.ref zr)])) st17 ?_
    refine own_g (mkF m 29 #[.val (.int x), .val (.ref fc), .val (.ref ep), .val (.ref ep), .val (.ref zr)] []) (fun _ q => XS.astore X17.here hx rfl (hb hby own_d1_27) rfl rfl (l' := #[.val (.int x), .val (.ref fc), .val (.ref ep), .val (.ref ep), .val (.ref zr)]) rfl q) ?_
    obtain ⟨T18, h18, X18, e18, E18, A18, D18, U18, st18⟩ := newO X17 hx hZ hown (own_h hw 17 rfl) (own_h hw 18 rfl) (own_h hw 19 rfl) e17 (g := (mkF m 29 #[.val (.int x), .val (.ref fc), .val (.ref ep), .val (.ref ep), .val (.ref zr)] [])) rfl (hb hby own_d1_29) (by decide) (by decide)
    obtain ⟨b18, g18⟩ : ∃ z, z = h0.size := ⟨_, rfl⟩
    rw [← g18] at A18 D18 U18 st18
    have g_b18 : n0 ≤ b18 := Nat.le_trans Z0 (Nat.le_of_eq g18.symm)
    have sz_b18 : h0.size ≤ b18 := Nat.le_trans (Keep.refl h0 []).1 (Nat.le_of_eq g18.symm)
    have ne_fc_b18 : fc ≠ b18 := Nat.ne_of_lt (Nat.lt_of_lt_of_le E_fc.lt (Nat.le_of_eq g18.symm))
    refine own_by (g' := (mkF m 32 #[.val (.int x), .val (.ref fc), .val (.ref ep), .val (.ref ep), .val (.ref zr)] [(.ref b18)])) st18 ?_
    refine own_g (mkF m 33 #[.val (.int x), .val (.ref fc), .val (.ref ep), .val (.ref ep), .val (.ref zr)] [(.ref b18), (.ref b18)]) (fun _ q => XS.dup X18.here hx rfl (hb hby own_d1_32) rfl rfl q) ?_
    have hk20_ := (Nat.le_trans hk0 E18.1)
    obtain ⟨a19, T19, h19, j19, X19, e19, E19, hS, hk19, hZ, hown, RS19, st19⟩ := own_ldcJ X18 hx hZ hown (own_h hw 20 rfl) wS e18 hS hk20_ RS0 (g := (mkF m 33 #[.val (.int x), .val (.ref fc), .val (.ref ep), .val (.ref ep), .val (.ref zr)] [(.ref b18), (.ref b18)])) rfl (hb hby own_d1_33) (n := 4) (by decide) (by decide) (by decide) (by decide)
    refine own_by (g' := (mkF m 35 #[.val (.int x), .val (.ref fc), .val (.ref ep), .val (.ref ep), .val (.ref zr)] [(.ref a19), (.ref b18), (.ref b18)])) st19 ?_
    obtain ⟨a21, T21, h21, j21, X21, e21, E21, hS, hk21, hZ, hown, RS21, st21⟩ := own_ldcJ X19 hx hZ hown (own_h hw 28 rfl) wS e19 hS hk19 RS19 (g := (mkF m 35 #[.val (.int x), .val (.ref fc), .val (.ref ep), .val (.ref ep), .val (.ref zr)] [(.ref a19), (.ref b18), (.ref b18)])) rfl (hb hby own_d1_35) (n := 4) (by decide) (by decide) (by decide) (by decide)
    refine own_by (g' := (mkF m 37 #[.val (.int x), .val (.ref fc), .val (.ref ep), .val (.ref ep), .val (.ref zr)] [(.ref a21), (.ref a19), (.ref b18), (.ref b18)])) st21 ?_
    refine own_g (mkF m 48 #[.val (.int x), .val (.ref fc), .val (.ref ep), .val (.ref ep), .val (.ref zr)] [(.int 0), (.ref zr), (.ref zr), .null, .null, (.ref ep), (.ref zr), (.ref fc), (.ref a21), (.ref a19), (.ref b18), (.ref b18)]) (fun _ q => XS.aloadN X21.here hx rfl (hb hby own_d1_37) rfl rfl (XS.aload X21.here hx rfl (hb hby own_d1_38) rfl rfl (XS.aloadN X21.here hx rfl (hb hby own_d1_40) rfl rfl (XS.aconstNull X21.here hx rfl (hb hby own_d1_41) (XS.aconstNull X21.here hx rfl (hb hby own_d1_42) (XS.aload X21.here hx rfl (hb hby own_d1_43) rfl rfl (XS.aload X21.here hx rfl (hb hby own_d1_45) rfl rfl (XS.iconst X21.here hx rfl (hb hby own_d1_47) q)))))))) ?_
    refine own_g (mkF m 60 #[.val (.int x), .val (.ref fc), .val (.ref ep), .val (.ref ep), .val (.ref zr)] [(.ref ep), .null, (.ref zr), (.ref zr), (.ref zr), (.ref zr), (.int 0), (.int 0), (.int 0), (.ref zr), (.ref zr), .null, .null, (.ref ep), (.ref zr), (.ref fc), (.ref a21), (.ref a19), (.ref b18), (.ref b18)]) (fun _ q => XS.iconst X21.here hx rfl (hb hby own_d1_48) (XS.iconst X21.here hx rfl (hb hby own_d1_49) (XS.aload X21.here hx rfl (hb hby own_d1_50) rfl rfl (XS.aload X21.here hx rfl (hb hby own_d1_52) rfl rfl (XS.aload X21.here hx rfl (hb hby own_d1_54) rfl rfl (XS.aload X21.here hx rfl (hb hby own_d1_56) rfl rfl (XS.aconstNull X21.here hx rfl (hb hby own_d1_58) (XS.aloadN X21.here hx rfl (hb hby own_d1_59) rfl rfl q)))))))) ?_
    refine own_g (mkF m 65 #[.val (.int x), .val (.ref fc), .val (.ref ep), .val (.ref ep), .val (.ref zr)] [(.ref ep), (.ref zr), (.ref zr), (.ref ep), .null, (.ref zr), (.ref zr), (.ref zr), (.ref zr), (.int 0), (.int 0), (.int 0), (.ref zr), (.ref zr), .null, .null, (.ref ep), (.ref zr), (.ref fc), (.ref a21), (.ref a19), (.ref b18), (.ref b18)]) (fun _ q => XS.aload X21.here hx rfl (hb hby own_d1_60) rfl rfl (XS.aload X21.here hx rfl (hb hby own_d1_62) rfl rfl (XS.aloadN X21.here hx rfl (hb hby own_d1_64) rfl rfl q))) ?_
    have k22_ := ((((Keep.refl h0 []).ext E18).ext E19).ext E21)
    have e23_b18 := ((A18.ext E19).ext E21)
    have x24_b18 := (Unt.ext E21 (Unt.ext E19 U18))
    have e25_fc := (((E_fc.ext E18).ext E19).ext E21)
    have f26_fc := (((R_fc.ext E18).ext E19).ext E21)
    refine own_callIJ X21 hx hZ (y := own_y8) rfl hown (own_h hw 29 rfl) (own_h hw 30 rfl) (own_h hw 31 rfl) (own_h hw 19 rfl) (by decide) hS hk21 (own_Rs.sub RS21 (by decide)) (own_liAr l Z a0 hw [] b18 a19 a21 fc zr (.ref ep) ep h21 n0 (Nat.le_trans Z0 k22_.1) rfl e23_b18 g_b18 x24_b18 e25_fc f26_fc ne_fc_b18) (by decide) (by decide) e21 (g := (mkF m 65 #[.val (.int x), .val (.ref fc), .val (.ref ep), .val (.ref ep), .val (.ref zr)] [(.ref ep), (.ref zr), (.ref zr), (.ref ep), .null, (.ref zr), (.ref zr), (.ref zr), (.ref zr), (.int 0), (.int 0), (.int 0), (.ref zr), (.ref zr), .null, .null, (.ref ep), (.ref zr), (.ref fc), (.ref a21), (.ref a19), (.ref b18), (.ref b18)])) rfl (by rw [hml]; rfl) (argsL := [(.ref a19), (.ref a21), (.ref fc), (.ref zr), (.ref ep), .null, .null, (.ref zr), (.ref zr), (.int 0), (.int 0), (.int 0), (.ref zr), (.ref zr), (.ref zr), (.ref zr), .null, (.ref ep), (.ref zr), (.ref zr), (.ref ep)]) (rest := [(.ref b18)]) (lenOf own_pd__28Ljava_2flang_2fString_3bLjava_2flang_2fString_3bLcom_2fexample_2fbahikhata_2fbahikhata_2fmodel_2fFacility_3bLjava_2fmath_2fBigDecimal_3bLjava_2ftime_2fLocalDate_3bLjava_2flang_2fString_3bLjava_2ftime_2fLocalDate_3bLjava_2fmath_2fBigDecimal_3bLjava_2fmath_2fBigDecimal_3bZZZLjava_2fmath_2fBigDecimal_3bLjava_2fmath_2fBigDecimal_3bLjava_2fmath_2fBigDecimal_3bLjava_2fmath_2fBigDecimal_3bLjava_2ftime_2fLocalDate_3bLjava_2ftime_2fLocalDate_3bLjava_2fmath_2fBigDecimal_3bLjava_2fmath_2fBigDecimal_3bLjava_2ftime_2fLocalDate_3b_29V rfl) rfl (W := 1) (by show 2 * 0 + _ ≤ _; exact Nat.le_of_eq rfl) (hb hby own_d1_65) rfl (by decide) (by decide) ?_
    rintro rv27 T27 L27 X27 hS hZ hown ⟨hV27, RQ27⟩ ⟨rfl, Nq27, Kq27, Eq27, Fo27, Ff27⟩
    have RS27 := (RS21.stays (s := s) hV27).app RQ27
    have N27 := Fr.app N3 Nq27
    show own_Fin p e below _ T27 (mkF m 68 #[.val (.int x), .val (.ref fc), .val (.ref ep), .val (.ref ep), .val (.ref zr)] [(.ref b18)])
    have k28_ := (k22_.trans Kq27 (allS (Or.inr sz_b18) all0))
    exact own_endJ X27 hS (by exact (Nat.le_refl _)) hZ (own_Rs.sub RS27 (by decide)) (v := some (.ref b18)) (fun h => by rw [Bd.returns] at h; cases h) hlk (fun hr => retOut X27 hx Bd.returns (own_narR rfl) (Or.inr (Or.inr (Or.inr (Or.inr ⟨rfl, rfl, rfl⟩)))) (hb hby own_d1_68) hr) (by exact ⟨b18, fc, o, rfl, N27, k28_, sz_b18, g_b18, Eq27, (by rw [own_sv, if_neg hc4]; exact Fo27), Ff27, E_f, O_f, ho⟩) (by decide) (by decide)
theorem own_loBn_ef (m : MethodId) (x : Int32) : entryFrame m #[(.int x)] 5 = mkF m 0 #[.val (.int x), .unset, .unset, .unset, .unset] [] := by  first | (simp [entryFrame, mkF, argsToLocals, Value.category]; done) | rfl
def own_loBn_Q (Z : State) (x : Int32) (ep : Addr) (zr : Addr) (f0 : Addr) (f1 : Addr) (f2 : Addr) (f3 : Addr) (h0 : Heap) (n0 : Nat) (v : Option Value) (h : Heap) (L : List Loc) : Prop := ∃ (t fc : Addr) (o : Int32), v = some (.ref t) ∧ Fr n0 L ∧ Keep h0 h [] ∧ h0.size ≤ t ∧ n0 ≤ t ∧ Exa Z h t "com/example/bahikhata/bahikhata/model/Loan" ∧ Fld Z h t "com/example/bahikhata/bahikhata/model/Loan" "overdueSince" "Ljava/time/LocalDate;" (own_sv ep x) ∧ Fld Z h t "com/example/bahikhata/bahikhata/model/Loan" "facility" "Lcom/example/bahikhata/bahikhata/model/Facility;" (.ref fc) ∧ Exa Z Z.heap fc "com/example/bahikhata/bahikhata/model/Facility" ∧ Fld Z Z.heap fc "java/lang/Enum" "ordinal" "I" (.int o) ∧ own_sm o
set_option maxRecDepth 65536 in
set_option maxHeartbeats 40000000 in
theorem own_loBn (l : Launch) (Z : State) (a0 : Array Value) (hw : ∀ d ∈ tables_1, d.before a0 Z = true) (ws : List Jvm.Cond) (x : Int32) (ep : Addr) (zr : Addr) (f0 : Addr) (f1 : Addr) (f2 : Addr) (f3 : Addr) (h0 : Heap) (n0 : Nat) (Z0 : n0 ≤ h0.size) (S_ep : own_A5 Z ep) (S_zr : own_A4 Z zr) (S_f0 : own_A3 Z f0) (E_f0 : Exa Z Z.heap f0 "com/example/bahikhata/bahikhata/model/Facility") (R_f0 : Fld Z Z.heap f0 "com/example/bahikhata/bahikhata/model/Facility" "runningAccount" "Z" (.int 0)) (O_f0 : Fld Z Z.heap f0 "java/lang/Enum" "ordinal" "I" (.int 0)) (S_f1 : own_A1 Z f1) (E_f1 : Exa Z Z.heap f1 "com/example/bahikhata/bahikhata/model/Facility") (R_f1 : Fld Z Z.heap f1 "com/example/bahikhata/bahikhata/model/Facility" "runningAccount" "Z" (.int 1)) (O_f1 : Fld Z Z.heap f1 "java/lang/Enum" "ordinal" "I" (.int 1)) (S_f2 : own_A2 Z f2) (E_f2 : Exa Z Z.heap f2 "com/example/bahikhata/bahikhata/model/Facility") (R_f2 : Fld Z Z.heap f2 "com/example/bahikhata/bahikhata/model/Facility" "runningAccount" "Z" (.int 1)) (O_f2 : Fld Z Z.heap f2 "java/lang/Enum" "ordinal" "I" (.int 2)) (S_f3 : own_A0 Z f3) (E_f3 : Exa Z Z.heap f3 "com/example/bahikhata/bahikhata/model/Facility") (R_f3 : Fld Z Z.heap f3 "com/example/bahikhata/bahikhata/model/Facility" "runningAccount" "Z" (.int 0)) (O_f3 : Fld Z Z.heap f3 "java/lang/Enum" "ordinal" "I" (.int 3)) (O0 : Old Z n0 h0) (hk : ¬ own_rn x) :
    MetFree l own_y4 (head1 (Jvm.Cond.code own_y4 method_4_code 5 (some (.object "com/example/bahikhata/bahikhata/model/Loan")) :: ws) (⟨3, 1, 21, 58⟩ : Room)) (fun aa U => aa = #[(.int x)] ∧ Z.Warmed39 U.vm ∧ U.heap = h0 ∧ own_Rs Z U.vm ([("com/example/bahikhata/bahikhata/io/BookIndexGivesOverdueSincePinLaw", 46), ("com/example/bahikhata/bahikhata/io/BookIndexGivesOverdueSincePinLaw", 48), ("com/example/bahikhata/bahikhata/model/Loan", 7), ("com/example/bahikhata/bahikhata/model/Loan", 15), ("com/example/bahikhata/bahikhata/model/Loan", 17), ("com/example/bahikhata/bahikhata/model/Loan", 19), ("com/example/bahikhata/bahikhata/model/Loan", 21), ("com/example/bahikhata/bahikhata/model/Loan", 23), ("com/example/bahikhata/bahikhata/model/Loan", 25), ("com/example/bahikhata/bahikhata/model/Loan", 27)] : List (String × Nat))) (fun _ _ _ _ _ => True) (fun _ U o U' => ∃ v L, o = .returned v ∧ own_loBn_Q Z x ep zr f0 f1 f2 f3 h0 n0 v U'.heap L ∧ own_Rs Z U'.vm ([("com/example/bahikhata/bahikhata/io/BookIndexGivesOverdueSincePinLaw", 46), ("com/example/bahikhata/bahikhata/io/BookIndexGivesOverdueSincePinLaw", 48), ("com/example/bahikhata/bahikhata/model/Loan", 7), ("com/example/bahikhata/bahikhata/model/Loan", 15), ("com/example/bahikhata/bahikhata/model/Loan", 17), ("com/example/bahikhata/bahikhata/model/Loan", 19), ("com/example/bahikhata/bahikhata/model/Loan", 21), ("com/example/bahikhata/bahikhata/model/Loan", 23), ("com/example/bahikhata/bahikhata/model/Loan", 25), ("com/example/bahikhata/bahikhata/model/Loan", 27)] : List (String × Nat)) ∧ ReturnedEndW U o U' L (⟨3, 1, 21, 58⟩ : Room).cells (⟨3, 1, 21, 58⟩ : Room).slots) := by
  refine MetFree.of_bodySF (plainFor_of_name own_pn_com_example_bahikhata_bahikhata_io_BookIndexGivesOverdueSincePinLaw) hisR ?_
  intro p e s m args below meth c s₁ Bd hml0 hP hK
  obtain ⟨rfl, hZ, hh, RS0⟩ := hP
  have hx := Bd.exec
  have hby := Bd.bytes
  have hml : c.maxLocals = 5 := hml0
  have hown : s.vm.findClass "com/example/bahikhata/bahikhata/io/BookIndexGivesOverdueSincePinLaw" = some m.cls := findClass_of_methodNamed Bd.named
  have hnm := (name_of_methodNamed Bd.named Bd.method).1
  have hlk := Bd.notSynchronized
  have X0 : Stand p l e (⟨3, 1, 21, 58⟩ : Room) (s.setVm s.vm) m #[(.int x)] below meth c s₁ [] 0 0 := Stand.of_body Bd
  have e0 : s₁.heap = h0 := by rw [← hh, Bd.state]; rfl
  have N0 := Fr.nil n0
  have hS : s.Since s.vm 0 := (State.WarmedH.refl s).since 0
  have hk0 : 0 ≤ h0.size := Nat.zero_le _
  have wS := own_wS hw
  refine own_startJ (K' := ([("com/example/bahikhata/bahikhata/io/BookIndexGivesOverdueSincePinLaw", 46), ("com/example/bahikhata/bahikhata/io/BookIndexGivesOverdueSincePinLaw", 48), ("com/example/bahikhata/bahikhata/model/Loan", 7), ("com/example/bahikhata/bahikhata/model/Loan", 15), ("com/example/bahikhata/bahikhata/model/Loan", 17), ("com/example/bahikhata/bahikhata/model/Loan", 19), ("com/example/bahikhata/bahikhata/model/Loan", 21), ("com/example/bahikhata/bahikhata/model/Loan", 23), ("com/example/bahikhata/bahikhata/model/Loan", 25), ("com/example/bahikhata/bahikhata/model/Loan", 27)] : List (String × Nat))) (Q := own_loBn_Q Z x ep zr f0 f1 f2 f3 h0 n0) (own_loBn_ef m x) ?_
  refine own_g (mkF m 3 #[.val (.int x), .unset, .unset, .unset, .unset] [(.int (x &&& (3 : Int32)))]) (fun _ q => XS.iloadN X0.here hx rfl (hb hby own_d1_0) rfl (XS.iconst X0.here hx rfl (hb hby own_d1_1) (XS.iand X0.here hx rfl (hb hby own_d1_2) rfl q))) ?_
  refine own_callS X0 hx hZ (y := own_y3) hown (own_h hw 4 rfl) (own_h hw 5 rfl) (own_h hw 2 rfl) (own_h hw 6 rfl) (by decide) (own_fa l Z a0 hw [] (x &&& (3 : Int32)) ep zr f0 f1 f2 f3 h0 n0 Z0 S_ep S_zr S_f0 E_f0 R_f0 O_f0 S_f1 E_f1 R_f1 O_f1 S_f2 E_f2 R_f2 O_f2 S_f3 E_f3 R_f3 O_f3 O0) (by decide) (by decide) e0 (g := (mkF m 3 #[.val (.int x), .unset, .unset, .unset, .unset] [(.int (x &&& (3 : Int32)))])) rfl (by rw [hml]; rfl) (argsL := [(.int (x &&& (3 : Int32)))]) (rest := []) (lenOf own_pd__28I_29Lcom_2fexample_2fbahikhata_2fbahikhata_2fmodel_2fFacility_3b rfl) rfl (W := 0) (by show 2 * 0 + _ ≤ _; exact Nat.le_of_eq rfl) (hb hby own_d1_3) rfl (by decide) (by decide) ?_
  rintro rv1 T1 L1 X1 ⟨hv1, Nq1, eh1⟩
  have N1 := Fr.app N0 Nq1
  obtain ⟨fc, o, qf, E_f, R_f, O_f, ho⟩ := own_pickN ep zr f0 f1 f2 f3 x E_f0 R_f0 O_f0 E_f1 R_f1 O_f1 E_f2 R_f2 O_f2 E_f3 R_f3 O_f3 hk
  rw [qf] at hv1
  subst hv1
  show own_Fin p e below _ T1 (mkF m 6 #[.val (.int x), .unset, .unset, .unset, .unset] [(.ref fc)])
  have E_fc := E_f.ext O0.2
  have R_fc := R_f.ext O0.2
  refine own_g (mkF m 7 #[.val (.int x), .val (.ref fc), .unset, .unset, .unset] []) (fun _ q => XS.astoreN X1.here hx rfl (hb hby own_d1_6) rfl rfl (l' := #[.val (.int x), .val (.ref fc), .unset, .unset, .unset]) rfl q) ?_
  obtain ⟨T2, X2, e2, st2⟩ := getS2 X1 hx hZ hown (host := "") (Or.inl (own_h hw 10 rfl)) Via.refl eh1 (S_ep.ext O0.2) (g := (mkF m 7 #[.val (.int x), .val (.ref fc), .unset, .unset, .unset] [])) rfl (hb hby own_d1_7)
  refine own_by (g' := (mkF m 10 #[.val (.int x), .val (.ref fc), .unset, .unset, .unset] [(.ref ep)])) st2 ?_
  refine own_g (mkF m 12 #[.val (.int x), .val (.ref fc), .val (.ref ep), .unset, .unset] [(.int x)]) (fun _ q => XS.astoreN X2.here hx rfl (hb hby own_d1_10) rfl rfl (l' := #[.val (.int x), .val (.ref fc), .val (.ref ep), .unset, .unset]) rfl (XS.iloadN X2.here hx rfl (hb hby own_d1_11) rfl q)) ?_
  refine own_callS X2 hx hZ (y := own_y5) hown (own_h hw 12 rfl) (own_h hw 13 rfl) (own_h hw 2 rfl) (own_h hw 14 rfl) (by decide) (own_ov l Z a0 hw [] x h0 n0 Z0) (by decide) (by decide) e2 (g := (mkF m 12 #[.val (.int x), .val (.ref fc), .val (.ref ep), .unset, .unset] [(.int x)])) rfl (by rw [hml]; rfl) (argsL := [(.int x)]) (rest := []) (lenOf own_pd__28I_29Z rfl) rfl (W := 0) (by show 2 * 0 + _ ≤ _; exact Nat.le_of_eq rfl) (hb hby own_d1_12) rfl (by decide) (by decide) ?_
  rintro rv3 T3 L3 X3 ⟨rfl, Nq3, eh3⟩
  have N3 := Fr.app N1 Nq3
  show own_Fin p e below _ T3 (mkF m 15 #[.val (.int x), .val (.ref fc), .val (.ref ep), .unset, .unset] [(.int (own_od x))])
  by_cases hc4 : (own_od x) = (0 : Int32)
  · refine own_g (mkF m 24 #[.val (.int x), .val (.ref fc), .val (.ref ep), .val .null, .unset] []) (fun _ q => XS.ifYes X3.here hx rfl (pc0 := 15) (pc' := 22) rfl (hb hby own_d1_15) rfl ((if0 _ _).trans (teq hc4).1) (by decide) (by decide) (XS.aconstNull X3.here hx rfl (hb hby own_d1_22) (XS.astoreN X3.here hx rfl (hb hby own_d1_23) rfl rfl (l' := #[.val (.int x), .val (.ref fc), .val (.ref ep), .val .null, .unset]) rfl q))) ?_
    obtain ⟨T5, X5, e5, st5⟩ := getS2 X3 hx hZ hown (host := "") (Or.inl (own_h hw 15 rfl)) Via.refl eh3 (S_zr.ext O0.2) (g := (mkF m 24 #[.val (.int x), .val (.ref fc), .val (.ref ep), .val .null, .unset] [])) rfl (hb hby own_d1_24)
    refine own_by (g' := (mkF m 27 #[.val (.int x), .val (.ref fc), .val (.ref ep), .val .null, .unset] [(.ref zr)])) st5 ?_
    refine own_g (mkF m 29 #[.val (.int x), .val (.ref fc), .val (.ref ep), .val .null, .val (.ref zr)] []) (fun _ q => XS.astore X5.here hx rfl (hb hby own_d1_27) rfl rfl (l' := #[.val (.int x), .val (.ref fc), .val (.ref ep), .val .null, .val (.ref zr)]) rfl q) ?_
    obtain ⟨T6, h6, X6, e6, E6, A6, D6, U6, st6⟩ := newO X5 hx hZ hown (own_h hw 17 rfl) (own_h hw 18 rfl) (own_h hw 19 rfl) e5 (g := (mkF m 29 #[.val (.int x), .val (.ref fc), .val (.ref ep), .val .null, .val (.ref zr)] [])) rfl (hb hby own_d1_29) (by decide) (by decide)
    obtain ⟨b6, g6⟩ : ∃ z, z = h0.size := ⟨_, rfl⟩
    rw [← g6] at A6 D6 U6 st6
    have g_b6 : n0 ≤ b6 := Nat.le_trans Z0 (Nat.le_of_eq g6.symm)
    have sz_b6 : h0.size ≤ b6 := Nat.le_trans (Keep.refl h0 []).1 (Nat.le_of_eq g6.symm)
    have ne_fc_b6 : fc ≠ b6 := Nat.ne_of_lt (Nat.lt_of_lt_of_le E_fc.lt (Nat.le_of_eq g6.symm))
    refine own_by (g' := (mkF m 32 #[.val (.int x), .val (.ref fc), .val (.ref ep), .val .null, .val (.ref zr)] [(.ref b6)])) st6 ?_
    refine own_g (mkF m 33 #[.val (.int x), .val (.ref fc), .val (.ref ep), .val .null, .val (.ref zr)] [(.ref b6), (.ref b6)]) (fun _ q => XS.dup X6.here hx rfl (hb hby own_d1_32) rfl rfl q) ?_
    obtain ⟨a7, st7⟩ := own_ldcA X6 hx hZ hown (own_h hw 20 rfl) RS0 (by decide) (g := (mkF m 33 #[.val (.int x), .val (.ref fc), .val (.ref ep), .val .null, .val (.ref zr)] [(.ref b6), (.ref b6)])) rfl (hb hby own_d1_33)
    refine own_by (g' := (mkF m 35 #[.val (.int x), .val (.ref fc), .val (.ref ep), .val .null, .val (.ref zr)] [(.ref a7), (.ref b6), (.ref b6)])) st7 ?_
    obtain ⟨a8, st8⟩ := own_ldcA X6 hx hZ hown (own_h hw 28 rfl) RS0 (by decide) (g := (mkF m 35 #[.val (.int x), .val (.ref fc), .val (.ref ep), .val .null, .val (.ref zr)] [(.ref a7), (.ref b6), (.ref b6)])) rfl (hb hby own_d1_35)
    refine own_by (g' := (mkF m 37 #[.val (.int x), .val (.ref fc), .val (.ref ep), .val .null, .val (.ref zr)] [(.ref a8), (.ref a7), (.ref b6), (.ref b6)])) st8 ?_
    refine own_g (mkF m 48 #[.val (.int x), .val (.ref fc), .val (.ref ep), .val .null, .val (.ref zr)] [(.int 0), (.ref zr), (.ref zr), .null, .null, .null, (.ref zr), (.ref fc), (.ref a8), (.ref a7), (.ref b6), (.ref b6)]) (fun _ q => XS.aloadN X6.here hx rfl (hb hby own_d1_37) rfl rfl (XS.aload X6.here hx rfl (hb hby own_d1_38) rfl rfl (XS.aloadN X6.here hx rfl (hb hby own_d1_40) rfl rfl (XS.aconstNull X6.here hx rfl (hb hby own_d1_41) (XS.aconstNull X6.here hx rfl (hb hby own_d1_42) (XS.aload X6.here hx rfl (hb hby own_d1_43) rfl rfl (XS.aload X6.here hx rfl (hb hby own_d1_45) rfl rfl (XS.iconst X6.here hx rfl (hb hby own_d1_47) q)))))))) ?_
    refine own_g (mkF m 60 #[.val (.int x), .val (.ref fc), .val (.ref ep), .val .null, .val (.ref zr)] [(.ref ep), .null, (.ref zr), (.ref zr), (.ref zr), (.ref zr), (.int 0), (.int 0), (.int 0), (.ref zr), (.ref zr), .null, .null, .null, (.ref zr), (.ref fc), (.ref a8), (.ref a7), (.ref b6), (.ref b6)]) (fun _ q => XS.iconst X6.here hx rfl (hb hby own_d1_48) (XS.iconst X6.here hx rfl (hb hby own_d1_49) (XS.aload X6.here hx rfl (hb hby own_d1_50) rfl rfl (XS.aload X6.here hx rfl (hb hby own_d1_52) rfl rfl (XS.aload X6.here hx rfl (hb hby own_d1_54) rfl rfl (XS.aload X6.here hx rfl (hb hby own_d1_56) rfl rfl (XS.aconstNull X6.here hx rfl (hb hby own_d1_58) (XS.aloadN X6.here hx rfl (hb hby own_d1_59) rfl rfl q)))))))) ?_
    refine own_g (mkF m 65 #[.val (.int x), .val (.ref fc), .val (.ref ep), .val .null, .val (.ref zr)] [(.ref ep), (.ref zr), (.ref zr), (.ref ep), .null, (.ref zr), (.ref zr), (.ref zr), (.ref zr), (.int 0), (.int 0), (.int 0), (.ref zr), (.ref zr), .null, .null, .null, (.ref zr), (.ref fc), (.ref a8), (.ref a7), (.ref b6), (.ref b6)]) (fun _ q => XS.aload X6.here hx rfl (hb hby own_d1_60) rfl rfl (XS.aload X6.here hx rfl (hb hby own_d1_62) rfl rfl (XS.aloadN X6.here hx rfl (hb hby own_d1_64) rfl rfl q))) ?_
    have k9_ := ((Keep.refl h0 []).ext E6)
    have e10_fc := (E_fc.ext E6)
    have f11_fc := (R_fc.ext E6)
    have hk13_ := (Nat.le_trans hk0 E6.1)
    refine own_callIJ X6 hx hZ (y := own_y8) rfl hown (own_h hw 29 rfl) (own_h hw 30 rfl) (own_h hw 31 rfl) (own_h hw 19 rfl) (by decide) hS hk13_ (own_Rs.sub RS0 (by decide)) (own_liBn l Z a0 hw [] b6 a7 a8 fc zr .null ep h6 n0 (Nat.le_trans Z0 k9_.1) rfl A6 g_b6 U6 e10_fc f11_fc ne_fc_b6) (by decide) (by decide) e6 (g := (mkF m 65 #[.val (.int x), .val (.ref fc), .val (.ref ep), .val .null, .val (.ref zr)] [(.ref ep), (.ref zr), (.ref zr), (.ref ep), .null, (.ref zr), (.ref zr), (.ref zr), (.ref zr), (.int 0), (.int 0), (.int 0), (.ref zr), (.ref zr), .null, .null, .null, (.ref zr), (.ref fc), (.ref a8), (.ref a7), (.ref b6), (.ref b6)])) rfl (by rw [hml]; rfl) (argsL := [(.ref a7), (.ref a8), (.ref fc), (.ref zr), .null, .null, .null, (.ref zr), (.ref zr), (.int 0), (.int 0), (.int 0), (.ref zr), (.ref zr), (.ref zr), (.ref zr), .null, (.ref ep), (.ref zr), (.ref zr), (.ref ep)]) (rest := [(.ref b6)]) (lenOf own_pd__28Ljava_2flang_2fString_3bLjava_2flang_2fString_3bLcom_2fexample_2fbahikhata_2fbahikhata_2fmodel_2fFacility_3bLjava_2fmath_2fBigDecimal_3bLjava_2ftime_2fLocalDate_3bLjava_2flang_2fString_3bLjava_2ftime_2fLocalDate_3bLjava_2fmath_2fBigDecimal_3bLjava_2fmath_2fBigDecimal_3bZZZLjava_2fmath_2fBigDecimal_3bLjava_2fmath_2fBigDecimal_3bLjava_2fmath_2fBigDecimal_3bLjava_2fmath_2fBigDecimal_3bLjava_2ftime_2fLocalDate_3bLjava_2ftime_2fLocalDate_3bLjava_2fmath_2fBigDecimal_3bLjava_2fmath_2fBigDecimal_3bLjava_2ftime_2fLocalDate_3b_29V rfl) rfl (W := 1) (by show 2 * 0 + _ ≤ _; exact Nat.le_of_eq rfl) (hb hby own_d1_65) rfl (by decide) (by decide) ?_
    rintro rv12 T12 L12 X12 hS hZ hown ⟨hV12, RQ12⟩ ⟨rfl, Nq12, Kq12, Eq12, Fo12, Ff12⟩
    have RS12 := (RS0.stays (s := s) hV12).app RQ12
    have N12 := Fr.app N3 Nq12
    show own_Fin p e below _ T12 (mkF m 68 #[.val (.int x), .val (.ref fc), .val (.ref ep), .val .null, .val (.ref zr)] [(.ref b6)])
    have k14_ := (k9_.trans Kq12 (allS (Or.inr sz_b6) all0))
    exact own_endJ X12 hS (by exact (Nat.le_refl _)) hZ (own_Rs.sub RS12 (by decide)) (v := some (.ref b6)) (fun h => by rw [Bd.returns] at h; cases h) hlk (fun hr => retOut X12 hx Bd.returns (own_narR rfl) (Or.inr (Or.inr (Or.inr (Or.inr ⟨rfl, rfl, rfl⟩)))) (hb hby own_d1_68) hr) (by exact ⟨b6, fc, o, rfl, N12, k14_, sz_b6, g_b6, Eq12, (by rw [own_sv, if_pos hc4]; exact Fo12), Ff12, E_f, O_f, ho⟩) (by decide) (by decide)
  · refine own_g (mkF m 24 #[.val (.int x), .val (.ref fc), .val (.ref ep), .val (.ref ep), .unset] []) (fun _ q => XS.ifNo X3.here hx rfl (hb hby own_d1_15) rfl ((if0 _ _).trans (feq hc4).1) (XS.aloadN X3.here hx rfl (hb hby own_d1_18) rfl rfl (XS.goto X3.here hx rfl (pc0 := 19) (pc' := 23) rfl (hb hby own_d1_19) (by decide) (by decide) (XS.astoreN X3.here hx rfl (hb hby own_d1_23) rfl rfl (l' := #[.val (.int x), .val (.ref fc), .val (.ref ep), .val (.ref ep), .unset]) rfl q)))) ?_
    obtain ⟨T15, X15, e15, st15⟩ := getS2 X3 hx hZ hown (host := "") (Or.inl (own_h hw 15 rfl)) Via.refl eh3 (S_zr.ext O0.2) (g := (mkF m 24 #[.val (.int x), .val (.ref fc), .val (.ref ep), .val (.ref ep), .unset] [])) rfl (hb hby own_d1_24)
    refine own_by (g' := (mkF m 27 #[.val (.int x), .val (.ref fc), .val (.ref ep), .val (.ref ep), .unset] [(.ref zr)])) st15 ?_
    refine own_g (mkF m 29 #[.val (.int x), .val (.ref fc), .val (.ref ep), .val (.ref ep), .val (.ref zr)] []) (fun _ q => XS.astore X15.here hx rfl (hb hby own_d1_27) rfl rfl (l' := #[.val (.int x), .val (.ref fc), .val (.ref ep), .val (.ref ep), .val (.ref zr)]) rfl q) ?_
    obtain ⟨T16, h16, X16, e16, E16, A16, D16, U16, st16⟩ := newO X15 hx hZ hown (own_h hw 17 rfl) (own_h hw 18 rfl) (own_h hw 19 rfl) e15 (g := (mkF m 29 #[.val (.int x), .val (.ref fc), .val (.ref ep), .val (.ref ep), .val (.ref zr)] [])) rfl (hb hby own_d1_29) (by decide) (by decide)
    obtain ⟨b16, g16⟩ : ∃ z, z = h0.size := ⟨_, rfl⟩
    rw [← g16] at A16 D16 U16 st16
    have g_b16 : n0 ≤ b16 := Nat.le_trans Z0 (Nat.le_of_eq g16.symm)
    have sz_b16 : h0.size ≤ b16 := Nat.le_trans (Keep.refl h0 []).1 (Nat.le_of_eq g16.symm)
    have ne_fc_b16 : fc ≠ b16 := Nat.ne_of_lt (Nat.lt_of_lt_of_le E_fc.lt (Nat.le_of_eq g16.symm))
    refine own_by (g' := (mkF m 32 #[.val (.int x), .val (.ref fc), .val (.ref ep), .val (.ref ep), .val (.ref zr)] [(.ref b16)])) st16 ?_
    refine own_g (mkF m 33 #[.val (.int x), .val (.ref fc), .val (.ref ep), .val (.ref ep), .val (.ref zr)] [(.ref b16), (.ref b16)]) (fun _ q => XS.dup X16.here hx rfl (hb hby own_d1_32) rfl rfl q) ?_
    obtain ⟨a17, st17⟩ := own_ldcA X16 hx hZ hown (own_h hw 20 rfl) RS0 (by decide) (g := (mkF m 33 #[.val (.int x), .val (.ref fc), .val (.ref ep), .val (.ref ep), .val (.ref zr)] [(.ref b16), (.ref b16)])) rfl (hb hby own_d1_33)
    refine own_by (g' := (mkF m 35 #[.val (.int x), .val (.ref fc), .val (.ref ep), .val (.ref ep), .val (.ref zr)] [(.ref a17), (.ref b16), (.ref b16)])) st17 ?_
    obtain ⟨a18, st18⟩ := own_ldcA X16 hx hZ hown (own_h hw 28 rfl) RS0 (by decide) (g := (mkF m 35 #[.val (.int x), .val (.ref fc), .val (.ref ep), .val (.ref ep), .val (.ref zr)] [(.ref a17), (.ref b16), (.ref b16)])) rfl (hb hby own_d1_35)
    refine own_by (g' := (mkF m 37 #[.val (.int x), .val (.ref fc), .val (.ref ep), .val (.ref ep), .val (.ref zr)] [(.ref a18), (.ref a17), (.ref b16), (.ref b16)])) st18 ?_
    refine own_g (mkF m 48 #[.val (.int x), .val (.ref fc), .val (.ref ep), .val (.ref ep), .val (.ref zr)] [(.int 0), (.ref zr), (.ref zr), .null, .null, (.ref ep), (.ref zr), (.ref fc), (.ref a18), (.ref a17), (.ref b16), (.ref b16)]) (fun _ q => XS.aloadN X16.here hx rfl (hb hby own_d1_37) rfl rfl (XS.aload X16.here hx rfl (hb hby own_d1_38) rfl rfl (XS.aloadN X16.here hx rfl (hb hby own_d1_40) rfl rfl (XS.aconstNull X16.here hx rfl (hb hby own_d1_41) (XS.aconstNull X16.here hx rfl (hb hby own_d1_42) (XS.aload X16.here hx rfl (hb hby own_d1_43) rfl rfl (XS.aload X16.here hx rfl (hb hby own_d1_45) rfl rfl (XS.iconst X16.here hx rfl (hb hby own_d1_47) q)))))))) ?_
    refine own_g (mkF m 60 #[.val (.int x), .val (.ref fc), .val (.ref ep), .val (.ref ep), .val (.ref zr)] [(.ref ep), .null, (.ref zr), (.ref zr), (.ref zr), (.ref zr), (.int 0), (.int 0), (.int 0), (.ref zr), (.ref zr), .null, .null, (.ref ep), (.ref zr), (.ref fc), (.ref a18), (.ref a17), (.ref b16), (.ref b16)]) (fun _ q => XS.iconst X16.here hx rfl (hb hby own_d1_48) (XS.iconst X16.here hx rfl (hb hby own_d1_49) (XS.aload X16.here hx rfl (hb hby own_d1_50) rfl rfl (XS.aload X16.here hx rfl (hb hby own_d1_52) rfl rfl (XS.aload X16.here hx rfl (hb hby own_d1_54) rfl rfl (XS.aload X16.here hx rfl (hb hby own_d1_56) rfl rfl (XS.aconstNull X16.here hx rfl (hb hby own_d1_58) (XS.aloadN X16.here hx rfl (hb hby own_d1_59) rfl rfl q)))))))) ?_
    refine own_g (mkF m 65 #[.val (.int x), .val (.ref fc), .val (.ref ep), .val (.ref ep), .val (.ref zr)] [(.ref ep), (.ref zr), (.ref zr), (.ref ep), .null, (.ref zr), (.ref zr), (.ref zr), (.ref zr), (.int 0), (.int 0), (.int 0), (.ref zr), (.ref zr), .null, .null, (.ref ep), (.ref zr), (.ref fc), (.ref a18), (.ref a17), (.ref b16), (.ref b16)]) (fun _ q => XS.aload X16.here hx rfl (hb hby own_d1_60) rfl rfl (XS.aload X16.here hx rfl (hb hby own_d1_62) rfl rfl (XS.aloadN X16.here hx rfl (hb hby own_d1_64) rfl rfl q))) ?_
    have k19_ := ((Keep.refl h0 []).ext E16)
    have e20_fc := (E_fc.ext E16)
    have f21_fc := (R_fc.ext E16)
    have hk23_ := (Nat.le_trans hk0 E16.1)
    refine own_callIJ X16 hx hZ (y := own_y8) rfl hown (own_h hw 29 rfl) (own_h hw 30 rfl) (own_h hw 31 rfl) (own_h hw 19 rfl) (by decide) hS hk23_ (own_Rs.sub RS0 (by decide)) (own_liBn l Z a0 hw [] b16 a17 a18 fc zr (.ref ep) ep h16 n0 (Nat.le_trans Z0 k19_.1) rfl A16 g_b16 U16 e20_fc f21_fc ne_fc_b16) (by decide) (by decide) e16 (g := (mkF m 65 #[.val (.int x), .val (.ref fc), .val (.ref ep), .val (.ref ep), .val (.ref zr)] [(.ref ep), (.ref zr), (.ref zr), (.ref ep), .null, (.ref zr), (.ref zr), (.ref zr), (.ref zr), (.int 0), (.int 0), (.int 0), (.ref zr), (.ref zr), .null, .null, (.ref ep), (.ref zr), (.ref fc), (.ref a18), (.ref a17), (.ref b16), (.ref b16)])) rfl (by rw [hml]; rfl) (argsL := [(.ref a17), (.ref a18), (.ref fc), (.ref zr), (.ref ep), .null, .null, (.ref zr), (.ref zr), (.int 0), (.int 0), (.int 0), (.ref zr), (.ref zr), (.ref zr), (.ref zr), .null, (.ref ep), (.ref zr), (.ref zr), (.ref ep)]) (rest := [(.ref b16)]) (lenOf own_pd__28Ljava_2flang_2fString_3bLjava_2flang_2fString_3bLcom_2fexample_2fbahikhata_2fbahikhata_2fmodel_2fFacility_3bLjava_2fmath_2fBigDecimal_3bLjava_2ftime_2fLocalDate_3bLjava_2flang_2fString_3bLjava_2ftime_2fLocalDate_3bLjava_2fmath_2fBigDecimal_3bLjava_2fmath_2fBigDecimal_3bZZZLjava_2fmath_2fBigDecimal_3bLjava_2fmath_2fBigDecimal_3bLjava_2fmath_2fBigDecimal_3bLjava_2fmath_2fBigDecimal_3bLjava_2ftime_2fLocalDate_3bLjava_2ftime_2fLocalDate_3bLjava_2fmath_2fBigDecimal_3bLjava_2fmath_2fBigDecimal_3bLjava_2ftime_2fLocalDate_3b_29V rfl) rfl (W := 1) (by show 2 * 0 + _ ≤ _; exact Nat.le_of_eq rfl) (hb hby own_d1_65) rfl (by decide) (by decide) ?_
    rintro rv22 T22 L22 X22 hS hZ hown ⟨hV22, RQ22⟩ ⟨rfl, Nq22, Kq22, Eq22, Fo22, Ff22⟩
    have RS22 := (RS0.stays (s := s) hV22).app RQ22
    have N22 := Fr.app N3 Nq22
    show own_Fin p e below _ T22 (mkF m 68 #[.val (.int x), .val (.ref fc), .val (.ref ep), .val (.ref ep), .val (.ref zr)] [(.ref b16)])
    have k24_ := (k19_.trans Kq22 (allS (Or.inr sz_b16) all0))
    exact own_endJ X22 hS (by exact (Nat.le_refl _)) hZ (own_Rs.sub RS22 (by decide)) (v := some (.ref b16)) (fun h => by rw [Bd.returns] at h; cases h) hlk (fun hr => retOut X22 hx Bd.returns (own_narR rfl) (Or.inr (Or.inr (Or.inr (Or.inr ⟨rfl, rfl, rfl⟩)))) (hb hby own_d1_68) hr) (by exact ⟨b16, fc, o, rfl, N22, k24_, sz_b16, g_b16, Eq22, (by rw [own_sv, if_neg hc4]; exact Fo22), Ff22, E_f, O_f, ho⟩) (by decide) (by decide)
theorem own_loBr_ef (m : MethodId) (x : Int32) : entryFrame m #[(.int x)] 5 = mkF m 0 #[.val (.int x), .unset, .unset, .unset, .unset] [] := by  first | (simp [entryFrame, mkF, argsToLocals, Value.category]; done) | rfl
def own_loBr_Q (Z : State) (x : Int32) (ep : Addr) (zr : Addr) (f0 : Addr) (f1 : Addr) (f2 : Addr) (f3 : Addr) (h0 : Heap) (n0 : Nat) (v : Option Value) (h : Heap) (L : List Loc) : Prop := ∃ (t fc : Addr) (o : Int32), v = some (.ref t) ∧ Fr n0 L ∧ Keep h0 h [] ∧ h0.size ≤ t ∧ n0 ≤ t ∧ Exa Z h t "com/example/bahikhata/bahikhata/model/Loan" ∧ Fld Z h t "com/example/bahikhata/bahikhata/model/Loan" "overdueSince" "Ljava/time/LocalDate;" (own_sv ep x) ∧ Fld Z h t "com/example/bahikhata/bahikhata/model/Loan" "facility" "Lcom/example/bahikhata/bahikhata/model/Facility;" (.ref fc) ∧ Exa Z Z.heap fc "com/example/bahikhata/bahikhata/model/Facility" ∧ Fld Z Z.heap fc "java/lang/Enum" "ordinal" "I" (.int o) ∧ own_sm o
set_option maxRecDepth 65536 in
set_option maxHeartbeats 40000000 in
theorem own_loBr (l : Launch) (Z : State) (a0 : Array Value) (hw : ∀ d ∈ tables_1, d.before a0 Z = true) (ws : List Jvm.Cond) (x : Int32) (ep : Addr) (zr : Addr) (f0 : Addr) (f1 : Addr) (f2 : Addr) (f3 : Addr) (h0 : Heap) (n0 : Nat) (Z0 : n0 ≤ h0.size) (S_ep : own_A5 Z ep) (S_zr : own_A4 Z zr) (S_f0 : own_A3 Z f0) (E_f0 : Exa Z Z.heap f0 "com/example/bahikhata/bahikhata/model/Facility") (R_f0 : Fld Z Z.heap f0 "com/example/bahikhata/bahikhata/model/Facility" "runningAccount" "Z" (.int 0)) (O_f0 : Fld Z Z.heap f0 "java/lang/Enum" "ordinal" "I" (.int 0)) (S_f1 : own_A1 Z f1) (E_f1 : Exa Z Z.heap f1 "com/example/bahikhata/bahikhata/model/Facility") (R_f1 : Fld Z Z.heap f1 "com/example/bahikhata/bahikhata/model/Facility" "runningAccount" "Z" (.int 1)) (O_f1 : Fld Z Z.heap f1 "java/lang/Enum" "ordinal" "I" (.int 1)) (S_f2 : own_A2 Z f2) (E_f2 : Exa Z Z.heap f2 "com/example/bahikhata/bahikhata/model/Facility") (R_f2 : Fld Z Z.heap f2 "com/example/bahikhata/bahikhata/model/Facility" "runningAccount" "Z" (.int 1)) (O_f2 : Fld Z Z.heap f2 "java/lang/Enum" "ordinal" "I" (.int 2)) (S_f3 : own_A0 Z f3) (E_f3 : Exa Z Z.heap f3 "com/example/bahikhata/bahikhata/model/Facility") (R_f3 : Fld Z Z.heap f3 "com/example/bahikhata/bahikhata/model/Facility" "runningAccount" "Z" (.int 0)) (O_f3 : Fld Z Z.heap f3 "java/lang/Enum" "ordinal" "I" (.int 3)) (O0 : Old Z n0 h0) (hk : own_rn x) :
    MetFree l own_y4 (head1 (Jvm.Cond.code own_y4 method_4_code 5 (some (.object "com/example/bahikhata/bahikhata/model/Loan")) :: ws) (⟨3, 13, 329, 58⟩ : Room)) (fun aa U => aa = #[(.int x)] ∧ Z.Warmed39 U.vm ∧ U.heap = h0 ∧ own_Rs Z U.vm ([("com/example/bahikhata/bahikhata/io/BookIndexGivesOverdueSincePinLaw", 46), ("com/example/bahikhata/bahikhata/io/BookIndexGivesOverdueSincePinLaw", 48), ("com/example/bahikhata/bahikhata/model/Loan", 7), ("com/example/bahikhata/bahikhata/model/Loan", 15), ("com/example/bahikhata/bahikhata/model/Loan", 17), ("com/example/bahikhata/bahikhata/model/Loan", 19), ("com/example/bahikhata/bahikhata/model/Loan", 21), ("com/example/bahikhata/bahikhata/model/Loan", 23), ("com/example/bahikhata/bahikhata/model/Loan", 25), ("com/example/bahikhata/bahikhata/model/Loan", 27)] : List (String × Nat))) (fun _ _ _ _ _ => True) (fun _ U o U' => ∃ v L, o = .returned v ∧ own_loBr_Q Z x ep zr f0 f1 f2 f3 h0 n0 v U'.heap L ∧ own_Rs Z U'.vm ([("com/example/bahikhata/bahikhata/io/BookIndexGivesOverdueSincePinLaw", 46), ("com/example/bahikhata/bahikhata/io/BookIndexGivesOverdueSincePinLaw", 48), ("com/example/bahikhata/bahikhata/model/Loan", 7), ("com/example/bahikhata/bahikhata/model/Loan", 15), ("com/example/bahikhata/bahikhata/model/Loan", 17), ("com/example/bahikhata/bahikhata/model/Loan", 19), ("com/example/bahikhata/bahikhata/model/Loan", 21), ("com/example/bahikhata/bahikhata/model/Loan", 23), ("com/example/bahikhata/bahikhata/model/Loan", 25), ("com/example/bahikhata/bahikhata/model/Loan", 27), ("com/example/bahikhata/bahikhata/model/Loan", 35), ("com/example/bahikhata/bahikhata/model/Loan", 37), ("com/example/bahikhata/bahikhata/model/Loan", 39), ("com/example/bahikhata/bahikhata/model/Loan", 41), ("com/example/bahikhata/bahikhata/model/Loan", 43), ("com/example/bahikhata/bahikhata/model/Loan", 45)] : List (String × Nat)) ∧ ReturnedEndW U o U' L (⟨3, 13, 329, 58⟩ : Room).cells (⟨3, 13, 329, 58⟩ : Room).slots) := by
  refine MetFree.of_bodySF (plainFor_of_name own_pn_com_example_bahikhata_bahikhata_io_BookIndexGivesOverdueSincePinLaw) hisR ?_
  intro p e s m args below meth c s₁ Bd hml0 hP hK
  obtain ⟨rfl, hZ, hh, RS0⟩ := hP
  have hx := Bd.exec
  have hby := Bd.bytes
  have hml : c.maxLocals = 5 := hml0
  have hown : s.vm.findClass "com/example/bahikhata/bahikhata/io/BookIndexGivesOverdueSincePinLaw" = some m.cls := findClass_of_methodNamed Bd.named
  have hnm := (name_of_methodNamed Bd.named Bd.method).1
  have hlk := Bd.notSynchronized
  have X0 : Stand p l e (⟨3, 13, 329, 58⟩ : Room) (s.setVm s.vm) m #[(.int x)] below meth c s₁ [] 0 0 := Stand.of_body Bd
  have e0 : s₁.heap = h0 := by rw [← hh, Bd.state]; rfl
  have N0 := Fr.nil n0
  have hS : s.Since s.vm 0 := (State.WarmedH.refl s).since 0
  have hk0 : 0 ≤ h0.size := Nat.zero_le _
  have wS := own_wS hw
  refine own_startJ (K' := ([("com/example/bahikhata/bahikhata/io/BookIndexGivesOverdueSincePinLaw", 46), ("com/example/bahikhata/bahikhata/io/BookIndexGivesOverdueSincePinLaw", 48), ("com/example/bahikhata/bahikhata/model/Loan", 7), ("com/example/bahikhata/bahikhata/model/Loan", 15), ("com/example/bahikhata/bahikhata/model/Loan", 17), ("com/example/bahikhata/bahikhata/model/Loan", 19), ("com/example/bahikhata/bahikhata/model/Loan", 21), ("com/example/bahikhata/bahikhata/model/Loan", 23), ("com/example/bahikhata/bahikhata/model/Loan", 25), ("com/example/bahikhata/bahikhata/model/Loan", 27), ("com/example/bahikhata/bahikhata/model/Loan", 35), ("com/example/bahikhata/bahikhata/model/Loan", 37), ("com/example/bahikhata/bahikhata/model/Loan", 39), ("com/example/bahikhata/bahikhata/model/Loan", 41), ("com/example/bahikhata/bahikhata/model/Loan", 43), ("com/example/bahikhata/bahikhata/model/Loan", 45)] : List (String × Nat))) (Q := own_loBr_Q Z x ep zr f0 f1 f2 f3 h0 n0) (own_loBr_ef m x) ?_
  refine own_g (mkF m 3 #[.val (.int x), .unset, .unset, .unset, .unset] [(.int (x &&& (3 : Int32)))]) (fun _ q => XS.iloadN X0.here hx rfl (hb hby own_d1_0) rfl (XS.iconst X0.here hx rfl (hb hby own_d1_1) (XS.iand X0.here hx rfl (hb hby own_d1_2) rfl q))) ?_
  refine own_callS X0 hx hZ (y := own_y3) hown (own_h hw 4 rfl) (own_h hw 5 rfl) (own_h hw 2 rfl) (own_h hw 6 rfl) (by decide) (own_fa l Z a0 hw [] (x &&& (3 : Int32)) ep zr f0 f1 f2 f3 h0 n0 Z0 S_ep S_zr S_f0 E_f0 R_f0 O_f0 S_f1 E_f1 R_f1 O_f1 S_f2 E_f2 R_f2 O_f2 S_f3 E_f3 R_f3 O_f3 O0) (by decide) (by decide) e0 (g := (mkF m 3 #[.val (.int x), .unset, .unset, .unset, .unset] [(.int (x &&& (3 : Int32)))])) rfl (by rw [hml]; rfl) (argsL := [(.int (x &&& (3 : Int32)))]) (rest := []) (lenOf own_pd__28I_29Lcom_2fexample_2fbahikhata_2fbahikhata_2fmodel_2fFacility_3b rfl) rfl (W := 0) (by show 2 * 0 + _ ≤ _; exact Nat.le_of_eq rfl) (hb hby own_d1_3) rfl (by decide) (by decide) ?_
  rintro rv1 T1 L1 X1 ⟨hv1, Nq1, eh1⟩
  have N1 := Fr.app N0 Nq1
  obtain ⟨fc, o, qf, E_f, R_f, O_f, ho⟩ := own_pickR ep zr f0 f1 f2 f3 x E_f0 R_f0 O_f0 E_f1 R_f1 O_f1 E_f2 R_f2 O_f2 E_f3 R_f3 O_f3 hk
  rw [qf] at hv1
  subst hv1
  show own_Fin p e below _ T1 (mkF m 6 #[.val (.int x), .unset, .unset, .unset, .unset] [(.ref fc)])
  have E_fc := E_f.ext O0.2
  have R_fc := R_f.ext O0.2
  refine own_g (mkF m 7 #[.val (.int x), .val (.ref fc), .unset, .unset, .unset] []) (fun _ q => XS.astoreN X1.here hx rfl (hb hby own_d1_6) rfl rfl (l' := #[.val (.int x), .val (.ref fc), .unset, .unset, .unset]) rfl q) ?_
  obtain ⟨T2, X2, e2, st2⟩ := getS2 X1 hx hZ hown (host := "") (Or.inl (own_h hw 10 rfl)) Via.refl eh1 (S_ep.ext O0.2) (g := (mkF m 7 #[.val (.int x), .val (.ref fc), .unset, .unset, .unset] [])) rfl (hb hby own_d1_7)
  refine own_by (g' := (mkF m 10 #[.val (.int x), .val (.ref fc), .unset, .unset, .unset] [(.ref ep)])) st2 ?_
  refine own_g (mkF m 12 #[.val (.int x), .val (.ref fc), .val (.ref ep), .unset, .unset] [(.int x)]) (fun _ q => XS.astoreN X2.here hx rfl (hb hby own_d1_10) rfl rfl (l' := #[.val (.int x), .val (.ref fc), .val (.ref ep), .unset, .unset]) rfl (XS.iloadN X2.here hx rfl (hb hby own_d1_11) rfl q)) ?_
  refine own_callS X2 hx hZ (y := own_y5) hown (own_h hw 12 rfl) (own_h hw 13 rfl) (own_h hw 2 rfl) (own_h hw 14 rfl) (by decide) (own_ov l Z a0 hw [] x h0 n0 Z0) (by decide) (by decide) e2 (g := (mkF m 12 #[.val (.int x), .val (.ref fc), .val (.ref ep), .unset, .unset] [(.int x)])) rfl (by rw [hml]; rfl) (argsL := [(.int x)]) (rest := []) (lenOf own_pd__28I_29Z rfl) rfl (W := 0) (by show 2 * 0 + _ ≤ _; exact Nat.le_of_eq rfl) (hb hby own_d1_12) rfl (by decide) (by decide) ?_
  rintro rv3 T3 L3 X3 ⟨rfl, Nq3, eh3⟩
  have N3 := Fr.app N1 Nq3
  show own_Fin p e below _ T3 (mkF m 15 #[.val (.int x), .val (.ref fc), .val (.ref ep), .unset, .unset] [(.int (own_od x))])
  by_cases hc4 : (own_od x) = (0 : Int32)
  · refine own_g (mkF m 24 #[.val (.int x), .val (.ref fc), .val (.ref ep), .val .null, .unset] []) (fun _ q => XS.ifYes X3.here hx rfl (pc0 := 15) (pc' := 22) rfl (hb hby own_d1_15) rfl ((if0 _ _).trans (teq hc4).1) (by decide) (by decide) (XS.aconstNull X3.here hx rfl (hb hby own_d1_22) (XS.astoreN X3.here hx rfl (hb hby own_d1_23) rfl rfl (l' := #[.val (.int x), .val (.ref fc), .val (.ref ep), .val .null, .unset]) rfl q))) ?_
    obtain ⟨T5, X5, e5, st5⟩ := getS2 X3 hx hZ hown (host := "") (Or.inl (own_h hw 15 rfl)) Via.refl eh3 (S_zr.ext O0.2) (g := (mkF m 24 #[.val (.int x), .val (.ref fc), .val (.ref ep), .val .null, .unset] [])) rfl (hb hby own_d1_24)
    refine own_by (g' := (mkF m 27 #[.val (.int x), .val (.ref fc), .val (.ref ep), .val .null, .unset] [(.ref zr)])) st5 ?_
    refine own_g (mkF m 29 #[.val (.int x), .val (.ref fc), .val (.ref ep), .val .null, .val (.ref zr)] []) (fun _ q => XS.astore X5.here hx rfl (hb hby own_d1_27) rfl rfl (l' := #[.val (.int x), .val (.ref fc), .val (.ref ep), .val .null, .val (.ref zr)]) rfl q) ?_
    obtain ⟨T6, h6, X6, e6, E6, A6, D6, U6, st6⟩ := newO X5 hx hZ hown (own_h hw 17 rfl) (own_h hw 18 rfl) (own_h hw 19 rfl) e5 (g := (mkF m 29 #[.val (.int x), .val (.ref fc), .val (.ref ep), .val .null, .val (.ref zr)] [])) rfl (hb hby own_d1_29) (by decide) (by decide)
    obtain ⟨b6, g6⟩ : ∃ z, z = h0.size := ⟨_, rfl⟩
    rw [← g6] at A6 D6 U6 st6
    have g_b6 : n0 ≤ b6 := Nat.le_trans Z0 (Nat.le_of_eq g6.symm)
    have sz_b6 : h0.size ≤ b6 := Nat.le_trans (Keep.refl h0 []).1 (Nat.le_of_eq g6.symm)
    have ne_fc_b6 : fc ≠ b6 := Nat.ne_of_lt (Nat.lt_of_lt_of_le E_fc.lt (Nat.le_of_eq g6.symm))
    refine own_by (g' := (mkF m 32 #[.val (.int x), .val (.ref fc), .val (.ref ep), .val .null, .val (.ref zr)] [(.ref b6)])) st6 ?_
    refine own_g (mkF m 33 #[.val (.int x), .val (.ref fc), .val (.ref ep), .val .null, .val (.ref zr)] [(.ref b6), (.ref b6)]) (fun _ q => XS.dup X6.here hx rfl (hb hby own_d1_32) rfl rfl q) ?_
    obtain ⟨a7, st7⟩ := own_ldcA X6 hx hZ hown (own_h hw 20 rfl) RS0 (by decide) (g := (mkF m 33 #[.val (.int x), .val (.ref fc), .val (.ref ep), .val .null, .val (.ref zr)] [(.ref b6), (.ref b6)])) rfl (hb hby own_d1_33)
    refine own_by (g' := (mkF m 35 #[.val (.int x), .val (.ref fc), .val (.ref ep), .val .null, .val (.ref zr)] [(.ref a7), (.ref b6), (.ref b6)])) st7 ?_
    obtain ⟨a8, st8⟩ := own_ldcA X6 hx hZ hown (own_h hw 28 rfl) RS0 (by decide) (g := (mkF m 35 #[.val (.int x), .val (.ref fc), .val (.ref ep), .val .null, .val (.ref zr)] [(.ref a7), (.ref b6), (.ref b6)])) rfl (hb hby own_d1_35)
    refine own_by (g' := (mkF m 37 #[.val (.int x), .val (.ref fc), .val (.ref ep), .val .null, .val (.ref zr)] [(.ref a8), (.ref a7), (.ref b6), (.ref b6)])) st8 ?_
    refine own_g (mkF m 48 #[.val (.int x), .val (.ref fc), .val (.ref ep), .val .null, .val (.ref zr)] [(.int 0), (.ref zr), (.ref zr), .null, .null, .null, (.ref zr), (.ref fc), (.ref a8), (.ref a7), (.ref b6), (.ref b6)]) (fun _ q => XS.aloadN X6.here hx rfl (hb hby own_d1_37) rfl rfl (XS.aload X6.here hx rfl (hb hby own_d1_38) rfl rfl (XS.aloadN X6.here hx rfl (hb hby own_d1_40) rfl rfl (XS.aconstNull X6.here hx rfl (hb hby own_d1_41) (XS.aconstNull X6.here hx rfl (hb hby own_d1_42) (XS.aload X6.here hx rfl (hb hby own_d1_43) rfl rfl (XS.aload X6.here hx rfl (hb hby own_d1_45) rfl rfl (XS.iconst X6.here hx rfl (hb hby own_d1_47) q)))))))) ?_
    refine own_g (mkF m 60 #[.val (.int x), .val (.ref fc), .val (.ref ep), .val .null, .val (.ref zr)] [(.ref ep), .null, (.ref zr), (.ref zr), (.ref zr), (.ref zr), (.int 0), (.int 0), (.int 0), (.ref zr), (.ref zr), .null, .null, .null, (.ref zr), (.ref fc), (.ref a8), (.ref a7), (.ref b6), (.ref b6)]) (fun _ q => XS.iconst X6.here hx rfl (hb hby own_d1_48) (XS.iconst X6.here hx rfl (hb hby own_d1_49) (XS.aload X6.here hx rfl (hb hby own_d1_50) rfl rfl (XS.aload X6.here hx rfl (hb hby own_d1_52) rfl rfl (XS.aload X6.here hx rfl (hb hby own_d1_54) rfl rfl (XS.aload X6.here hx rfl (hb hby own_d1_56) rfl rfl (XS.aconstNull X6.here hx rfl (hb hby own_d1_58) (XS.aloadN X6.here hx rfl (hb hby own_d1_59) rfl rfl q)))))))) ?_
    refine own_g (mkF m 65 #[.val (.int x), .val (.ref fc), .val (.ref ep), .val .null, .val (.ref zr)] [(.ref ep), (.ref zr), (.ref zr), (.ref ep), .null, (.ref zr), (.ref zr), (.ref zr), (.ref zr), (.int 0), (.int 0), (.int 0), (.ref zr), (.ref zr), .null, .null, .null, (.ref zr), (.ref fc), (.ref a8), (.ref a7), (.ref b6), (.ref b6)]) (fun _ q => XS.aload X6.here hx rfl (hb hby own_d1_60) rfl rfl (XS.aload X6.here hx rfl (hb hby own_d1_62) rfl rfl (XS.aloadN X6.here hx rfl (hb hby own_d1_64) rfl rfl q))) ?_
    have k9_ := ((Keep.refl h0 []).ext E6)
    have e10_fc := (E_fc.ext E6)
    have f11_fc := (R_fc.ext E6)
    have hk13_ := (Nat.le_trans hk0 E6.1)
    refine own_callIJ X6 hx hZ (y := own_y8) rfl hown (own_h hw 29 rfl) (own_h hw 30 rfl) (own_h hw 31 rfl) (own_h hw 19 rfl) (by decide) hS hk13_ (own_Rs.sub RS0 (by decide)) (own_liBr l Z a0 hw [] b6 a7 a8 fc zr .null ep h6 n0 (Nat.le_trans Z0 k9_.1) rfl A6 g_b6 U6 e10_fc f11_fc ne_fc_b6) (by decide) (by decide) e6 (g := (mkF m 65 #[.val (.int x), .val (.ref fc), .val (.ref ep), .val .null, .val (.ref zr)] [(.ref ep), (.ref zr), (.ref zr), (.ref ep), .null, (.ref zr), (.ref zr), (.ref zr), (.ref zr), (.int 0), (.int 0), (.int 0), (.ref zr), (.ref zr), .null, .null, .null, (.ref zr), (.ref fc), (.ref a8), (.ref a7), (.ref b6), (.ref b6)])) rfl (by rw [hml]; rfl) (argsL := [(.ref a7), (.ref a8), (.ref fc), (.ref zr), .null, .null, .null, (.ref zr), (.ref zr), (.int 0), (.int 0), (.int 0), (.ref zr), (.ref zr), (.ref zr), (.ref zr), .null, (.ref ep), (.ref zr), (.ref zr), (.ref ep)]) (rest := [(.ref b6)]) (lenOf own_pd__28Ljava_2flang_2fString_3bLjava_2flang_2fString_3bLcom_2fexample_2fbahikhata_2fbahikhata_2fmodel_2fFacility_3bLjava_2fmath_2fBigDecimal_3bLjava_2ftime_2fLocalDate_3bLjava_2flang_2fString_3bLjava_2ftime_2fLocalDate_3bLjava_2fmath_2fBigDecimal_3bLjava_2fmath_2fBigDecimal_3bZZZLjava_2fmath_2fBigDecimal_3bLjava_2fmath_2fBigDecimal_3bLjava_2fmath_2fBigDecimal_3bLjava_2fmath_2fBigDecimal_3bLjava_2ftime_2fLocalDate_3bLjava_2ftime_2fLocalDate_3bLjava_2fmath_2fBigDecimal_3bLjava_2fmath_2fBigDecimal_3bLjava_2ftime_2fLocalDate_3b_29V rfl) rfl (W := 1) (by show 2 * 0 + _ ≤ _; exact Nat.le_of_eq rfl) (hb hby own_d1_65) rfl (by decide) (by decide) ?_
    rintro rv12 T12 L12 X12 hS hZ hown ⟨hV12, RQ12⟩ ⟨rfl, Nq12, Kq12, Eq12, Fo12, Ff12⟩
    have RS12 := (RS0.stays (s := s) hV12).app RQ12
    have N12 := Fr.app N3 Nq12
    show own_Fin p e below _ T12 (mkF m 68 #[.val (.int x), .val (.ref fc), .val (.ref ep), .val .null, .val (.ref zr)] [(.ref b6)])
    have k14_ := (k9_.trans Kq12 (allS (Or.inr sz_b6) all0))
    exact own_endJ X12 hS (by exact (Nat.le_refl _)) hZ (own_Rs.sub RS12 (by decide)) (v := some (.ref b6)) (fun h => by rw [Bd.returns] at h; cases h) hlk (fun hr => retOut X12 hx Bd.returns (own_narR rfl) (Or.inr (Or.inr (Or.inr (Or.inr ⟨rfl, rfl, rfl⟩)))) (hb hby own_d1_68) hr) (by exact ⟨b6, fc, o, rfl, N12, k14_, sz_b6, g_b6, Eq12, (by rw [own_sv, if_pos hc4]; exact Fo12), Ff12, E_f, O_f, ho⟩) (by decide) (by decide)
  · refine own_g (mkF m 24 #[.val (.int x), .val (.ref fc), .val (.ref ep), .val (.ref ep), .unset] []) (fun _ q => XS.ifNo X3.here hx rfl (hb hby own_d1_15) rfl ((if0 _ _).trans (feq hc4).1) (XS.aloadN X3.here hx rfl (hb hby own_d1_18) rfl rfl (XS.goto X3.here hx rfl (pc0 := 19) (pc' := 23) rfl (hb hby own_d1_19) (by decide) (by decide) (XS.astoreN X3.here hx rfl (hb hby own_d1_23) rfl rfl (l' := #[.val (.int x), .val (.ref fc), .val (.ref ep), .val (.ref ep), .unset]) rfl q)))) ?_
    obtain ⟨T15, X15, e15, st15⟩ := getS2 X3 hx hZ hown (host := "") (Or.inl (own_h hw 15 rfl)) Via.refl eh3 (S_zr.ext O0.2) (g := (mkF m 24 #[.val (.int x), .val (.ref fc), .val (.ref ep), .val (.ref ep), .unset] [])) rfl (hb hby own_d1_24)
    refine own_by (g' := (mkF m 27 #[.val (.int x), .val (.ref fc), .val (.ref ep), .val (.ref ep), .unset] [(.ref zr)])) st15 ?_
    refine own_g (mkF m 29 #[.val (.int x), .val (.ref fc), .val (.ref ep), .val (.ref ep), .val (.ref zr)] []) (fun _ q => XS.astore X15.here hx rfl (hb hby own_d1_27) rfl rfl (l' := #[.val (.int x), .val (.ref fc), .val (.ref ep), .val (.ref ep), .val (.ref zr)]) rfl q) ?_
    obtain ⟨T16, h16, X16, e16, E16, A16, D16, U16, st16⟩ := newO X15 hx hZ hown (own_h hw 17 rfl) (own_h hw 18 rfl) (own_h hw 19 rfl) e15 (g := (mkF m 29 #[.val (.int x), .val (.ref fc), .val (.ref ep), .val (.ref ep), .val (.ref zr)] [])) rfl (hb hby own_d1_29) (by decide) (by decide)
    obtain ⟨b16, g16⟩ : ∃ z, z = h0.size := ⟨_, rfl⟩
    rw [← g16] at A16 D16 U16 st16
    have g_b16 : n0 ≤ b16 := Nat.le_trans Z0 (Nat.le_of_eq g16.symm)
    have sz_b16 : h0.size ≤ b16 := Nat.le_trans (Keep.refl h0 []).1 (Nat.le_of_eq g16.symm)
    have ne_fc_b16 : fc ≠ b16 := Nat.ne_of_lt (Nat.lt_of_lt_of_le E_fc.lt (Nat.le_of_eq g16.symm))
    refine own_by (g' := (mkF m 32 #[.val (.int x), .val (.ref fc), .val (.ref ep), .val (.ref ep), .val (.ref zr)] [(.ref b16)])) st16 ?_
    refine own_g (mkF m 33 #[.val (.int x), .val (.ref fc), .val (.ref ep), .val (.ref ep), .val (.ref zr)] [(.ref b16), (.ref b16)]) (fun _ q => XS.dup X16.here hx rfl (hb hby own_d1_32) rfl rfl q) ?_
    obtain ⟨a17, st17⟩ := own_ldcA X16 hx hZ hown (own_h hw 20 rfl) RS0 (by decide) (g := (mkF m 33 #[.val (.int x), .val (.ref fc), .val (.ref ep), .val (.ref ep), .val (.ref zr)] [(.ref b16), (.ref b16)])) rfl (hb hby own_d1_33)
    refine own_by (g' := (mkF m 35 #[.val (.int x), .val (.ref fc), .val (.ref ep), .val (.ref ep), .val (.ref zr)] [(.ref a17), (.ref b16), (.ref b16)])) st17 ?_
    obtain ⟨a18, st18⟩ := own_ldcA X16 hx hZ hown (own_h hw 28 rfl) RS0 (by decide) (g := (mkF m 35 #[.val (.int x), .val (.ref fc), .val (.ref ep), .val (.ref ep), .val (.ref zr)] [(.ref a17), (.ref b16), (.ref b16)])) rfl (hb hby own_d1_35)
    refine own_by (g' := (mkF m 37 #[.val (.int x), .val (.ref fc), .val (.ref ep), .val (.ref ep), .val (.ref zr)] [(.ref a18), (.ref a17), (.ref b16), (.ref b16)])) st18 ?_
    refine own_g (mkF m 48 #[.val (.int x), .val (.ref fc), .val (.ref ep), .val (.ref ep), .val (.ref zr)] [(.int 0), (.ref zr), (.ref zr), .null, .null, (.ref ep), (.ref zr), (.ref fc), (.ref a18), (.ref a17), (.ref b16), (.ref b16)]) (fun _ q => XS.aloadN X16.here hx rfl (hb hby own_d1_37) rfl rfl (XS.aload X16.here hx rfl (hb hby own_d1_38) rfl rfl (XS.aloadN X16.here hx rfl (hb hby own_d1_40) rfl rfl (XS.aconstNull X16.here hx rfl (hb hby own_d1_41) (XS.aconstNull X16.here hx rfl (hb hby own_d1_42) (XS.aload X16.here hx rfl (hb hby own_d1_43) rfl rfl (XS.aload X16.here hx rfl (hb hby own_d1_45) rfl rfl (XS.iconst X16.here hx rfl (hb hby own_d1_47) q)))))))) ?_
    refine own_g (mkF m 60 #[.val (.int x), .val (.ref fc), .val (.ref ep), .val (.ref ep), .val (.ref zr)] [(.ref ep), .null, (.ref zr), (.ref zr), (.ref zr), (.ref zr), (.int 0), (.int 0), (.int 0), (.ref zr), (.ref zr), .null, .null, (.ref ep), (.ref zr), (.ref fc), (.ref a18), (.ref a17), (.ref b16), (.ref b16)]) (fun _ q => XS.iconst X16.here hx rfl (hb hby own_d1_48) (XS.iconst X16.here hx rfl (hb hby own_d1_49) (XS.aload X16.here hx rfl (hb hby own_d1_50) rfl rfl (XS.aload X16.here hx rfl (hb hby own_d1_52) rfl rfl (XS.aload X16.here hx rfl (hb hby own_d1_54) rfl rfl (XS.aload X16.here hx rfl (hb hby own_d1_56) rfl rfl (XS.aconstNull X16.here hx rfl (hb hby own_d1_58) (XS.aloadN X16.here hx rfl (hb hby own_d1_59) rfl rfl q)))))))) ?_
    refine own_g (mkF m 65 #[.val (.int x), .val (.ref fc), .val (.ref ep), .val (.ref ep), .val (.ref zr)] [(.ref ep), (.ref zr), (.ref zr), (.ref ep), .null, (.ref zr), (.ref zr), (.ref zr), (.ref zr), (.int 0), (.int 0), (.int 0), (.ref zr), (.ref zr), .null, .null, (.ref ep), (.ref zr), (.ref fc), (.ref a18), (.ref a17), (.ref b16), (.ref b16)]) (fun _ q => XS.aload X16.here hx rfl (hb hby own_d1_60) rfl rfl (XS.aload X16.here hx rfl (hb hby own_d1_62) rfl rfl (XS.aloadN X16.here hx rfl (hb hby own_d1_64) rfl rfl q))) ?_
    have k19_ := ((Keep.refl h0 []).ext E16)
    have e20_fc := (E_fc.ext E16)
    have f21_fc := (R_fc.ext E16)
    have hk23_ := (Nat.le_trans hk0 E16.1)
    refine own_callIJ X16 hx hZ (y := own_y8) rfl hown (own_h hw 29 rfl) (own_h hw 30 rfl) (own_h hw 31 rfl) (own_h hw 19 rfl) (by decide) hS hk23_ (own_Rs.sub RS0 (by decide)) (own_liBr l Z a0 hw [] b16 a17 a18 fc zr (.ref ep) ep h16 n0 (Nat.le_trans Z0 k19_.1) rfl A16 g_b16 U16 e20_fc f21_fc ne_fc_b16) (by decide) (by decide) e16 (g := (mkF m 65 #[.val (.int x), .val (.ref fc), .val (.ref ep), .val (.ref ep), .val (.ref zr)] [(.ref ep), (.ref zr), (.ref zr), (.ref ep), .null, (.ref zr), (.ref zr), (.ref zr), (.ref zr), (.int 0), (.int 0), (.int 0), (.ref zr), (.ref zr), .null, .null, (.ref ep), (.ref zr), (.ref fc), (.ref a18), (.ref a17), (.ref b16), (.ref b16)])) rfl (by rw [hml]; rfl) (argsL := [(.ref a17), (.ref a18), (.ref fc), (.ref zr), (.ref ep), .null, .null, (.ref zr), (.ref zr), (.int 0), (.int 0), (.int 0), (.ref zr), (.ref zr), (.ref zr), (.ref zr), .null, (.ref ep), (.ref zr), (.ref zr), (.ref ep)]) (rest := [(.ref b16)]) (lenOf own_pd__28Ljava_2flang_2fString_3bLjava_2flang_2fString_3bLcom_2fexample_2fbahikhata_2fbahikhata_2fmodel_2fFacility_3bLjava_2fmath_2fBigDecimal_3bLjava_2ftime_2fLocalDate_3bLjava_2flang_2fString_3bLjava_2ftime_2fLocalDate_3bLjava_2fmath_2fBigDecimal_3bLjava_2fmath_2fBigDecimal_3bZZZLjava_2fmath_2fBigDecimal_3bLjava_2fmath_2fBigDecimal_3bLjava_2fmath_2fBigDecimal_3bLjava_2fmath_2fBigDecimal_3bLjava_2ftime_2fLocalDate_3bLjava_2ftime_2fLocalDate_3bLjava_2fmath_2fBigDecimal_3bLjava_2fmath_2fBigDecimal_3bLjava_2ftime_2fLocalDate_3b_29V rfl) rfl (W := 1) (by show 2 * 0 + _ ≤ _; exact Nat.le_of_eq rfl) (hb hby own_d1_65) rfl (by decide) (by decide) ?_
    rintro rv22 T22 L22 X22 hS hZ hown ⟨hV22, RQ22⟩ ⟨rfl, Nq22, Kq22, Eq22, Fo22, Ff22⟩
    have RS22 := (RS0.stays (s := s) hV22).app RQ22
    have N22 := Fr.app N3 Nq22
    show own_Fin p e below _ T22 (mkF m 68 #[.val (.int x), .val (.ref fc), .val (.ref ep), .val (.ref ep), .val (.ref zr)] [(.ref b16)])
    have k24_ := (k19_.trans Kq22 (allS (Or.inr sz_b16) all0))
    exact own_endJ X22 hS (by exact (Nat.le_refl _)) hZ (own_Rs.sub RS22 (by decide)) (v := some (.ref b16)) (fun h => by rw [Bd.returns] at h; cases h) hlk (fun hr => retOut X22 hx Bd.returns (own_narR rfl) (Or.inr (Or.inr (Or.inr (Or.inr ⟨rfl, rfl, rfl⟩)))) (hb hby own_d1_68) hr) (by exact ⟨b16, fc, o, rfl, N22, k24_, sz_b16, g_b16, Eq22, (by rw [own_sv, if_neg hc4]; exact Fo22), Ff22, E_f, O_f, ho⟩) (by decide) (by decide)
theorem own_loC_ef (m : MethodId) (x : Int32) : entryFrame m #[(.int x)] 5 = mkF m 0 #[.val (.int x), .unset, .unset, .unset, .unset] [] := by  first | (simp [entryFrame, mkF, argsToLocals, Value.category]; done) | rfl
def own_loC_Q (Z : State) (x : Int32) (ep : Addr) (zr : Addr) (f0 : Addr) (f1 : Addr) (f2 : Addr) (f3 : Addr) (h0 : Heap) (n0 : Nat) (v : Option Value) (h : Heap) (L : List Loc) : Prop := ∃ (t fc : Addr) (o : Int32), v = some (.ref t) ∧ Fr n0 L ∧ Keep h0 h [] ∧ h0.size ≤ t ∧ n0 ≤ t ∧ Exa Z h t "com/example/bahikhata/bahikhata/model/Loan" ∧ Fld Z h t "com/example/bahikhata/bahikhata/model/Loan" "overdueSince" "Ljava/time/LocalDate;" (own_sv ep x) ∧ Fld Z h t "com/example/bahikhata/bahikhata/model/Loan" "facility" "Lcom/example/bahikhata/bahikhata/model/Facility;" (.ref fc) ∧ Exa Z Z.heap fc "com/example/bahikhata/bahikhata/model/Facility" ∧ Fld Z Z.heap fc "java/lang/Enum" "ordinal" "I" (.int o) ∧ own_sm o
set_option maxRecDepth 65536 in
set_option maxHeartbeats 40000000 in
theorem own_loC (l : Launch) (Z : State) (a0 : Array Value) (hw : ∀ d ∈ tables_1, d.before a0 Z = true) (ws : List Jvm.Cond) (x : Int32) (ep : Addr) (zr : Addr) (f0 : Addr) (f1 : Addr) (f2 : Addr) (f3 : Addr) (h0 : Heap) (n0 : Nat) (Z0 : n0 ≤ h0.size) (S_ep : own_A5 Z ep) (S_zr : own_A4 Z zr) (S_f0 : own_A3 Z f0) (E_f0 : Exa Z Z.heap f0 "com/example/bahikhata/bahikhata/model/Facility") (R_f0 : Fld Z Z.heap f0 "com/example/bahikhata/bahikhata/model/Facility" "runningAccount" "Z" (.int 0)) (O_f0 : Fld Z Z.heap f0 "java/lang/Enum" "ordinal" "I" (.int 0)) (S_f1 : own_A1 Z f1) (E_f1 : Exa Z Z.heap f1 "com/example/bahikhata/bahikhata/model/Facility") (R_f1 : Fld Z Z.heap f1 "com/example/bahikhata/bahikhata/model/Facility" "runningAccount" "Z" (.int 1)) (O_f1 : Fld Z Z.heap f1 "java/lang/Enum" "ordinal" "I" (.int 1)) (S_f2 : own_A2 Z f2) (E_f2 : Exa Z Z.heap f2 "com/example/bahikhata/bahikhata/model/Facility") (R_f2 : Fld Z Z.heap f2 "com/example/bahikhata/bahikhata/model/Facility" "runningAccount" "Z" (.int 1)) (O_f2 : Fld Z Z.heap f2 "java/lang/Enum" "ordinal" "I" (.int 2)) (S_f3 : own_A0 Z f3) (E_f3 : Exa Z Z.heap f3 "com/example/bahikhata/bahikhata/model/Facility") (R_f3 : Fld Z Z.heap f3 "com/example/bahikhata/bahikhata/model/Facility" "runningAccount" "Z" (.int 0)) (O_f3 : Fld Z Z.heap f3 "java/lang/Enum" "ordinal" "I" (.int 3)) (O0 : Old Z n0 h0) :
    MetFree l own_y4 (head1 (Jvm.Cond.code own_y4 method_4_code 5 (some (.object "com/example/bahikhata/bahikhata/model/Loan")) :: ws) (⟨3, 1, 21, 58⟩ : Room)) (fun aa U => aa = #[(.int x)] ∧ Z.Warmed39 U.vm ∧ U.heap = h0 ∧ own_Rs Z U.vm ([("com/example/bahikhata/bahikhata/io/BookIndexGivesOverdueSincePinLaw", 46), ("com/example/bahikhata/bahikhata/io/BookIndexGivesOverdueSincePinLaw", 48), ("com/example/bahikhata/bahikhata/model/Loan", 7), ("com/example/bahikhata/bahikhata/model/Loan", 15), ("com/example/bahikhata/bahikhata/model/Loan", 17), ("com/example/bahikhata/bahikhata/model/Loan", 19), ("com/example/bahikhata/bahikhata/model/Loan", 21), ("com/example/bahikhata/bahikhata/model/Loan", 23), ("com/example/bahikhata/bahikhata/model/Loan", 25), ("com/example/bahikhata/bahikhata/model/Loan", 27), ("com/example/bahikhata/bahikhata/model/Loan", 35), ("com/example/bahikhata/bahikhata/model/Loan", 37), ("com/example/bahikhata/bahikhata/model/Loan", 39), ("com/example/bahikhata/bahikhata/model/Loan", 41), ("com/example/bahikhata/bahikhata/model/Loan", 43), ("com/example/bahikhata/bahikhata/model/Loan", 45)] : List (String × Nat))) (fun _ _ _ _ _ => True) (fun _ U o U' => ∃ v L, o = .returned v ∧ own_loC_Q Z x ep zr f0 f1 f2 f3 h0 n0 v U'.heap L ∧ own_Rs Z U'.vm ([("com/example/bahikhata/bahikhata/io/BookIndexGivesOverdueSincePinLaw", 46), ("com/example/bahikhata/bahikhata/io/BookIndexGivesOverdueSincePinLaw", 48), ("com/example/bahikhata/bahikhata/model/Loan", 7), ("com/example/bahikhata/bahikhata/model/Loan", 15), ("com/example/bahikhata/bahikhata/model/Loan", 17), ("com/example/bahikhata/bahikhata/model/Loan", 19), ("com/example/bahikhata/bahikhata/model/Loan", 21), ("com/example/bahikhata/bahikhata/model/Loan", 23), ("com/example/bahikhata/bahikhata/model/Loan", 25), ("com/example/bahikhata/bahikhata/model/Loan", 27), ("com/example/bahikhata/bahikhata/model/Loan", 35), ("com/example/bahikhata/bahikhata/model/Loan", 37), ("com/example/bahikhata/bahikhata/model/Loan", 39), ("com/example/bahikhata/bahikhata/model/Loan", 41), ("com/example/bahikhata/bahikhata/model/Loan", 43), ("com/example/bahikhata/bahikhata/model/Loan", 45)] : List (String × Nat)) ∧ ReturnedEndW U o U' L (⟨3, 1, 21, 58⟩ : Room).cells (⟨3, 1, 21, 58⟩ : Room).slots) := by
  refine MetFree.of_bodySF (plainFor_of_name own_pn_com_example_bahikhata_bahikhata_io_BookIndexGivesOverdueSincePinLaw) hisR ?_
  intro p e s m args below meth c s₁ Bd hml0 hP hK
  obtain ⟨rfl, hZ, hh, RS0⟩ := hP
  have hx := Bd.exec
  have hby := Bd.bytes
  have hml : c.maxLocals = 5 := hml0
  have hown : s.vm.findClass "com/example/bahikhata/bahikhata/io/BookIndexGivesOverdueSincePinLaw" = some m.cls := findClass_of_methodNamed Bd.named
  have hnm := (name_of_methodNamed Bd.named Bd.method).1
  have hlk := Bd.notSynchronized
  have X0 : Stand p l e (⟨3, 1, 21, 58⟩ : Room) (s.setVm s.vm) m #[(.int x)] below meth c s₁ [] 0 0 := Stand.of_body Bd
  have e0 : s₁.heap = h0 := by rw [← hh, Bd.state]; rfl
  have N0 := Fr.nil n0
  have hS : s.Since s.vm 0 := (State.WarmedH.refl s).since 0
  have hk0 : 0 ≤ h0.size := Nat.zero_le _
  have wS := own_wS hw
  refine own_startJ (K' := ([("com/example/bahikhata/bahikhata/io/BookIndexGivesOverdueSincePinLaw", 46), ("com/example/bahikhata/bahikhata/io/BookIndexGivesOverdueSincePinLaw", 48), ("com/example/bahikhata/bahikhata/model/Loan", 7), ("com/example/bahikhata/bahikhata/model/Loan", 15), ("com/example/bahikhata/bahikhata/model/Loan", 17), ("com/example/bahikhata/bahikhata/model/Loan", 19), ("com/example/bahikhata/bahikhata/model/Loan", 21), ("com/example/bahikhata/bahikhata/model/Loan", 23), ("com/example/bahikhata/bahikhata/model/Loan", 25), ("com/example/bahikhata/bahikhata/model/Loan", 27), ("com/example/bahikhata/bahikhata/model/Loan", 35), ("com/example/bahikhata/bahikhata/model/Loan", 37), ("com/example/bahikhata/bahikhata/model/Loan", 39), ("com/example/bahikhata/bahikhata/model/Loan", 41), ("com/example/bahikhata/bahikhata/model/Loan", 43), ("com/example/bahikhata/bahikhata/model/Loan", 45)] : List (String × Nat))) (Q := own_loC_Q Z x ep zr f0 f1 f2 f3 h0 n0) (own_loC_ef m x) ?_
  refine own_g (mkF m 3 #[.val (.int x), .unset, .unset, .unset, .unset] [(.int (x &&& (3 : Int32)))]) (fun _ q => XS.iloadN X0.here hx rfl (hb hby own_d1_0) rfl (XS.iconst X0.here hx rfl (hb hby own_d1_1) (XS.iand X0.here hx rfl (hb hby own_d1_2) rfl q))) ?_
  refine own_callS X0 hx hZ (y := own_y3) hown (own_h hw 4 rfl) (own_h hw 5 rfl) (own_h hw 2 rfl) (own_h hw 6 rfl) (by decide) (own_fa l Z a0 hw [] (x &&& (3 : Int32)) ep zr f0 f1 f2 f3 h0 n0 Z0 S_ep S_zr S_f0 E_f0 R_f0 O_f0 S_f1 E_f1 R_f1 O_f1 S_f2 E_f2 R_f2 O_f2 S_f3 E_f3 R_f3 O_f3 O0) (by decide) (by decide) e0 (g := (mkF m 3 #[.val (.int x), .unset, .unset, .unset, .unset] [(.int (x &&& (3 : Int32)))])) rfl (by rw [hml]; rfl) (argsL := [(.int (x &&& (3 : Int32)))]) (rest := []) (lenOf own_pd__28I_29Lcom_2fexample_2fbahikhata_2fbahikhata_2fmodel_2fFacility_3b rfl) rfl (W := 0) (by show 2 * 0 + _ ≤ _; exact Nat.le_of_eq rfl) (hb hby own_d1_3) rfl (by decide) (by decide) ?_
  rintro rv1 T1 L1 X1 ⟨hv1, Nq1, eh1⟩
  have N1 := Fr.app N0 Nq1
  by_cases hk : own_rn x
  · obtain ⟨fc, o, qf, E_f, R_f, O_f, ho⟩ := own_pickR ep zr f0 f1 f2 f3 x E_f0 R_f0 O_f0 E_f1 R_f1 O_f1 E_f2 R_f2 O_f2 E_f3 R_f3 O_f3 hk
    rw [qf] at hv1
    subst hv1
    show own_Fin p e below _ T1 (mkF m 6 #[.val (.int x), .unset, .unset, .unset, .unset] [(.ref fc)])
    have E_fc := E_f.ext O0.2
    have R_fc := R_f.ext O0.2
    refine own_g (mkF m 7 #[.val (.int x), .val (.ref fc), .unset, .unset, .unset] []) (fun _ q => XS.astoreN X1.here hx rfl (hb hby own_d1_6) rfl rfl (l' := #[.val (.int x), .val (.ref fc), .unset, .unset, .unset]) rfl q) ?_
    obtain ⟨T2, X2, e2, st2⟩ := getS2 X1 hx hZ hown (host := "") (Or.inl (own_h hw 10 rfl)) Via.refl eh1 (S_ep.ext O0.2) (g := (mkF m 7 #[.val (.int x), .val (.ref fc), .unset, .unset, .unset] [])) rfl (hb hby own_d1_7)
    refine own_by (g' := (mkF m 10 #[.val (.int x), .val (.ref fc), .unset, .unset, .unset] [(.ref ep)])) st2 ?_
    refine own_g (mkF m 12 #[.val (.int x), .val (.ref fc), .val (.ref ep), .unset, .unset] [(.int x)]) (fun _ q => XS.astoreN X2.here hx rfl (hb hby own_d1_10) rfl rfl (l' := #[.val (.int x), .val (.ref fc), .val (.ref ep), .unset, .unset]) rfl (XS.iloadN X2.here hx rfl (hb hby own_d1_11) rfl q)) ?_
    refine own_callS X2 hx hZ (y := own_y5) hown (own_h hw 12 rfl) (own_h hw 13 rfl) (own_h hw 2 rfl) (own_h hw 14 rfl) (by decide) (own_ov l Z a0 hw [] x h0 n0 Z0) (by decide) (by decide) e2 (g := (mkF m 12 #[.val (.int x), .val (.ref fc), .val (.ref ep), .unset, .unset] [(.int x)])) rfl (by rw [hml]; rfl) (argsL := [(.int x)]) (rest := []) (lenOf own_pd__28I_29Z rfl) rfl (W := 0) (by show 2 * 0 + _ ≤ _; exact Nat.le_of_eq rfl) (hb hby own_d1_12) rfl (by decide) (by decide) ?_
    rintro rv3 T3 L3 X3 ⟨rfl, Nq3, eh3⟩
    have N3 := Fr.app N1 Nq3
    show own_Fin p e below _ T3 (mkF m 15 #[.val (.int x), .val (.ref fc), .val (.ref ep), .unset, .unset] [(.int (own_od x))])
    by_cases hc4 : (own_od x) = (0 : Int32)
    · refine own_g (mkF m 24 #[.val (.int x), .val (.ref fc), .val (.ref ep), .val .null, .unset] []) (fun _ q => XS.ifYes X3.here hx rfl (pc0 := 15) (pc' := 22) rfl (hb hby own_d1_15) rfl ((if0 _ _).trans (teq hc4).1) (by decide) (by decide) (XS.aconstNull X3.here hx rfl (hb hby own_d1_22) (XS.astoreN X3.here hx rfl (hb hby own_d1_23) rfl rfl (l' := #[.val (.int x), .val (.ref fc), .val (.ref ep), .val .null, .unset]) rfl q))) ?_
      obtain ⟨T5, X5, e5, st5⟩ := getS2 X3 hx hZ hown (host := "") (Or.inl (own_h hw 15 rfl)) Via.refl eh3 (S_zr.ext O0.2) (g := (mkF m 24 #[.val (.int x), .val (.ref fc), .val (.ref ep), .val .null, .unset] [])) rfl (hb hby own_d1_24)
      refine own_by (g' := (mkF m 27 #[.val (.int x), .val (.ref fc), .val (.ref ep), .val .null, .unset] [(.ref zr)])) st5 ?_
      refine own_g (mkF m 29 #[.val (.int x), .val (.ref fc), .val (.ref ep), .val .null, .val (.ref zr)] []) (fun _ q => XS.astore X5.here hx rfl (hb hby own_d1_27) rfl rfl (l' := #[.val (.int x), .val (.ref fc), .val (.ref ep), .val .null, .val (.ref zr)]) rfl q) ?_
      obtain ⟨T6, h6, X6, e6, E6, A6, D6, U6, st6⟩ := newO X5 hx hZ hown (own_h hw 17 rfl) (own_h hw 18 rfl) (own_h hw 19 rfl) e5 (g := (mkF m 29 #[.val (.int x), .val (.ref fc), .val (.ref ep), .val .null, .val (.ref zr)] [])) rfl (hb hby own_d1_29) (by decide) (by decide)
      obtain ⟨b6, g6⟩ : ∃ z, z = h0.size := ⟨_, rfl⟩
      rw [← g6] at A6 D6 U6 st6
      have g_b6 : n0 ≤ b6 := Nat.le_trans Z0 (Nat.le_of_eq g6.symm)
      have sz_b6 : h0.size ≤ b6 := Nat.le_trans (Keep.refl h0 []).1 (Nat.le_of_eq g6.symm)
      have ne_fc_b6 : fc ≠ b6 := Nat.ne_of_lt (Nat.lt_of_lt_of_le E_fc.lt (Nat.le_of_eq g6.symm))
      refine own_by (g' := (mkF m 32 #[.val (.int x), .val (.ref fc), .val (.ref ep), .val .null, .val (.ref zr)] [(.ref b6)])) st6 ?_
      refine own_g (mkF m 33 #[.val (.int x), .val (.ref fc), .val (.ref ep), .val .null, .val (.ref zr)] [(.ref b6), (.ref b6)]) (fun _ q => XS.dup X6.here hx rfl (hb hby own_d1_32) rfl rfl q) ?_
      obtain ⟨a7, st7⟩ := own_ldcA X6 hx hZ hown (own_h hw 20 rfl) RS0 (by decide) (g := (mkF m 33 #[.val (.int x), .val (.ref fc), .val (.ref ep), .val .null, .val (.ref zr)] [(.ref b6), (.ref b6)])) rfl (hb hby own_d1_33)
      refine own_by (g' := (mkF m 35 #[.val (.int x), .val (.ref fc), .val (.ref ep), .val .null, .val (.ref zr)] [(.ref a7), (.ref b6), (.ref b6)])) st7 ?_
      obtain ⟨a8, st8⟩ := own_ldcA X6 hx hZ hown (own_h hw 28 rfl) RS0 (by decide) (g := (mkF m 35 #[.val (.int x), .val (.ref fc), .val (.ref ep), .val .null, .val (.ref zr)] [(.ref a7), (.ref b6), (.ref b6)])) rfl (hb hby own_d1_35)
      refine own_by (g' := (mkF m 37 #[.val (.int x), .val (.ref fc), .val (.ref ep), .val .null, .val (.ref zr)] [(.ref a8), (.ref a7), (.ref b6), (.ref b6)])) st8 ?_
      refine own_g (mkF m 48 #[.val (.int x), .val (.ref fc), .val (.ref ep), .val .null, .val (.ref zr)] [(.int 0), (.ref zr), (.ref zr), .null, .null, .null, (.ref zr), (.ref fc), (.ref a8), (.ref a7), (.ref b6), (.ref b6)]) (fun _ q => XS.aloadN X6.here hx rfl (hb hby own_d1_37) rfl rfl (XS.aload X6.here hx rfl (hb hby own_d1_38) rfl rfl (XS.aloadN X6.here hx rfl (hb hby own_d1_40) rfl rfl (XS.aconstNull X6.here hx rfl (hb hby own_d1_41) (XS.aconstNull X6.here hx rfl (hb hby own_d1_42) (XS.aload X6.here hx rfl (hb hby own_d1_43) rfl rfl (XS.aload X6.here hx rfl (hb hby own_d1_45) rfl rfl (XS.iconst X6.here hx rfl (hb hby own_d1_47) q)))))))) ?_
      refine own_g (mkF m 60 #[.val (.int x), .val (.ref fc), .val (.ref ep), .val .null, .val (.ref zr)] [(.ref ep), .null, (.ref zr), (.ref zr), (.ref zr), (.ref zr), (.int 0), (.int 0), (.int 0), (.ref zr), (.ref zr), .null, .null, .null, (.ref zr), (.ref fc), (.ref a8), (.ref a7), (.ref b6), (.ref b6)]) (fun _ q => XS.iconst X6.here hx rfl (hb hby own_d1_48) (XS.iconst X6.here hx rfl (hb hby own_d1_49) (XS.aload X6.here hx rfl (hb hby own_d1_50) rfl rfl (XS.aload X6.here hx rfl (hb hby own_d1_52) rfl rfl (XS.aload X6.here hx rfl (hb hby own_d1_54) rfl rfl (XS.aload X6.here hx rfl (hb hby own_d1_56) rfl rfl (XS.aconstNull X6.here hx rfl (hb hby own_d1_58) (XS.aloadN X6.here hx rfl (hb hby own_d1_59) rfl rfl q)))))))) ?_
      refine own_g (mkF m 65 #[.val (.int x), .val (.ref fc), .val (.ref ep), .val .null, .val (.ref zr)] [(.ref ep), (.ref zr), (.ref zr), (.ref ep), .null, (.ref zr), (.ref zr), (.ref zr), (.ref zr), (.int 0), (.int 0), (.int 0), (.ref zr), (.ref zr), .null, .null, .null, (.ref zr), (.ref fc), (.ref a8), (.ref a7), (.ref b6), (.ref b6)]) (fun _ q => XS.aload X6.here hx rfl (hb hby own_d1_60) rfl rfl (XS.aload X6.here hx rfl (hb hby own_d1_62) rfl rfl (XS.aloadN X6.here hx rfl (hb hby own_d1_64) rfl rfl q))) ?_
      have k9_ := ((Keep.refl h0 []).ext E6)
      have e10_fc := (E_fc.ext E6)
      have f11_fc := (R_fc.ext E6)
      have hk13_ := (Nat.le_trans hk0 E6.1)
      refine own_callIJ X6 hx hZ (y := own_y8) rfl hown (own_h hw 29 rfl) (own_h hw 30 rfl) (own_h hw 31 rfl) (own_h hw 19 rfl) (by decide) hS hk13_ (own_Rs.sub RS0 (by decide)) (own_liCr l Z a0 hw [] b6 a7 a8 fc zr .null ep h6 n0 (Nat.le_trans Z0 k9_.1) rfl A6 g_b6 U6 e10_fc f11_fc ne_fc_b6) (by decide) (by decide) e6 (g := (mkF m 65 #[.val (.int x), .val (.ref fc), .val (.ref ep), .val .null, .val (.ref zr)] [(.ref ep), (.ref zr), (.ref zr), (.ref ep), .null, (.ref zr), (.ref zr), (.ref zr), (.ref zr), (.int 0), (.int 0), (.int 0), (.ref zr), (.ref zr), .null, .null, .null, (.ref zr), (.ref fc), (.ref a8), (.ref a7), (.ref b6), (.ref b6)])) rfl (by rw [hml]; rfl) (argsL := [(.ref a7), (.ref a8), (.ref fc), (.ref zr), .null, .null, .null, (.ref zr), (.ref zr), (.int 0), (.int 0), (.int 0), (.ref zr), (.ref zr), (.ref zr), (.ref zr), .null, (.ref ep), (.ref zr), (.ref zr), (.ref ep)]) (rest := [(.ref b6)]) (lenOf own_pd__28Ljava_2flang_2fString_3bLjava_2flang_2fString_3bLcom_2fexample_2fbahikhata_2fbahikhata_2fmodel_2fFacility_3bLjava_2fmath_2fBigDecimal_3bLjava_2ftime_2fLocalDate_3bLjava_2flang_2fString_3bLjava_2ftime_2fLocalDate_3bLjava_2fmath_2fBigDecimal_3bLjava_2fmath_2fBigDecimal_3bZZZLjava_2fmath_2fBigDecimal_3bLjava_2fmath_2fBigDecimal_3bLjava_2fmath_2fBigDecimal_3bLjava_2fmath_2fBigDecimal_3bLjava_2ftime_2fLocalDate_3bLjava_2ftime_2fLocalDate_3bLjava_2fmath_2fBigDecimal_3bLjava_2fmath_2fBigDecimal_3bLjava_2ftime_2fLocalDate_3b_29V rfl) rfl (W := 1) (by show 2 * 0 + _ ≤ _; exact Nat.le_of_eq rfl) (hb hby own_d1_65) rfl (by decide) (by decide) ?_
      rintro rv12 T12 L12 X12 hS hZ hown ⟨hV12, RQ12⟩ ⟨rfl, Nq12, Kq12, Eq12, Fo12, Ff12⟩
      have RS12 := (RS0.stays (s := s) hV12).app RQ12
      have N12 := Fr.app N3 Nq12
      show own_Fin p e below _ T12 (mkF m 68 #[.val (.int x), .val (.ref fc), .val (.ref ep), .val .null, .val (.ref zr)] [(.ref b6)])
      have k14_ := (k9_.trans Kq12 (allS (Or.inr sz_b6) all0))
      exact own_endJ X12 hS (by exact (Nat.le_refl _)) hZ (own_Rs.sub RS12 (by decide)) (v := some (.ref b6)) (fun h => by rw [Bd.returns] at h; cases h) hlk (fun hr => retOut X12 hx Bd.returns (own_narR rfl) (Or.inr (Or.inr (Or.inr (Or.inr ⟨rfl, rfl, rfl⟩)))) (hb hby own_d1_68) hr) (by exact ⟨b6, fc, o, rfl, N12, k14_, sz_b6, g_b6, Eq12, (by rw [own_sv, if_pos hc4]; exact Fo12), Ff12, E_f, O_f, ho⟩) (by decide) (by decide)
    · refine own_g (mkF m 24 #[.val (.int x), .val (.ref fc), .val (.ref ep), .val (.ref ep), .unset] []) (fun _ q => XS.ifNo X3.here hx rfl (hb hby own_d1_15) rfl ((if0 _ _).trans (feq hc4).1) (XS.aloadN X3.here hx rfl (hb hby own_d1_18) rfl rfl (XS.goto X3.here hx rfl (pc0 := 19) (pc' := 23) rfl (hb hby own_d1_19) (by decide) (by decide) (XS.astoreN X3.here hx rfl (hb hby own_d1_23) rfl rfl (l' := #[.val (.int x), .val (.ref fc), .val (.ref ep), .val (.ref ep), .unset]) rfl q)))) ?_
      obtain ⟨T15, X15, e15, st15⟩ := getS2 X3 hx hZ hown (host := "") (Or.inl (own_h hw 15 rfl)) Via.refl eh3 (S_zr.ext O0.2) (g := (mkF m 24 #[.val (.int x), .val (.ref fc), .val (.ref ep), .val (.ref ep), .unset] [])) rfl (hb hby own_d1_24)
      refine own_by (g' := (mkF m 27 #[.val (.int x), .val (.ref fc), .val (.ref ep), .val (.ref ep), .unset] [(.ref zr)])) st15 ?_
      refine own_g (mkF m 29 #[.val (.int x), .val (.ref fc), .val (.ref ep), .val (.ref ep), .val (.ref zr)] []) (fun _ q => XS.astore X15.here hx rfl (hb hby own_d1_27) rfl rfl (l' := #[.val (.int x), .val (.ref fc), .val (.ref ep), .val (.ref ep), .val (.ref zr)]) rfl q) ?_
      obtain ⟨T16, h16, X16, e16, E16, A16, D16, U16, st16⟩ := newO X15 hx hZ hown (own_h hw 17 rfl) (own_h hw 18 rfl) (own_h hw 19 rfl) e15 (g := (mkF m 29 #[.val (.int x), .val (.ref fc), .val (.ref ep), .val (.ref ep), .val (.ref zr)] [])) rfl (hb hby own_d1_29) (by decide) (by decide)
      obtain ⟨b16, g16⟩ : ∃ z, z = h0.size := ⟨_, rfl⟩
      rw [← g16] at A16 D16 U16 st16
      have g_b16 : n0 ≤ b16 := Nat.le_trans Z0 (Nat.le_of_eq g16.symm)
      have sz_b16 : h0.size ≤ b16 := Nat.le_trans (Keep.refl h0 []).1 (Nat.le_of_eq g16.symm)
      have ne_fc_b16 : fc ≠ b16 := Nat.ne_of_lt (Nat.lt_of_lt_of_le E_fc.lt (Nat.le_of_eq g16.symm))
      refine own_by (g' := (mkF m 32 #[.val (.int x), .val (.ref fc), .val (.ref ep), .val (.ref ep), .val (.ref zr)] [(.ref b16)])) st16 ?_
      refine own_g (mkF m 33 #[.val (.int x), .val (.ref fc), .val (.ref ep), .val (.ref ep), .val (.ref zr)] [(.ref b16), (.ref b16)]) (fun _ q => XS.dup X16.here hx rfl (hb hby own_d1_32) rfl rfl q) ?_
      obtain ⟨a17, st17⟩ := own_ldcA X16 hx hZ hown (own_h hw 20 rfl) RS0 (by decide) (g := (mkF m 33 #[.val (.int x), .val (.ref fc), .val (.ref ep), .val (.ref ep), .val (.ref zr)] [(.ref b16), (.ref b16)])) rfl (hb hby own_d1_33)
      refine own_by (g' := (mkF m 35 #[.val (.int x), .val (.ref fc), .val (.ref ep), .val (.ref ep), .val (.ref zr)] [(.ref a17), (.ref b16), (.ref b16)])) st17 ?_
      obtain ⟨a18, st18⟩ := own_ldcA X16 hx hZ hown (own_h hw 28 rfl) RS0 (by decide) (g := (mkF m 35 #[.val (.int x), .val (.ref fc), .val (.ref ep), .val (.ref ep), .val (.ref zr)] [(.ref a17), (.ref b16), (.ref b16)])) rfl (hb hby own_d1_35)
      refine own_by (g' := (mkF m 37 #[.val (.int x), .val (.ref fc), .val (.ref ep), .val (.ref ep), .val (.ref zr)] [(.ref a18), (.ref a17), (.ref b16), (.ref b16)])) st18 ?_
      refine own_g (mkF m 48 #[.val (.int x), .val (.ref fc), .val (.ref ep), .val (.ref ep), .val (.ref zr)] [(.int 0), (.ref zr), (.ref zr), .null, .null, (.ref ep), (.ref zr), (.ref fc), (.ref a18), (.ref a17), (.ref b16), (.ref b16)]) (fun _ q => XS.aloadN X16.here hx rfl (hb hby own_d1_37) rfl rfl (XS.aload X16.here hx rfl (hb hby own_d1_38) rfl rfl (XS.aloadN X16.here hx rfl (hb hby own_d1_40) rfl rfl (XS.aconstNull X16.here hx rfl (hb hby own_d1_41) (XS.aconstNull X16.here hx rfl (hb hby own_d1_42) (XS.aload X16.here hx rfl (hb hby own_d1_43) rfl rfl (XS.aload X16.here hx rfl (hb hby own_d1_45) rfl rfl (XS.iconst X16.here hx rfl (hb hby own_d1_47) q)))))))) ?_
      refine own_g (mkF m 60 #[.val (.int x), .val (.ref fc), .val (.ref ep), .val (.ref ep), .val (.ref zr)] [(.ref ep), .null, (.ref zr), (.ref zr), (.ref zr), (.ref zr), (.int 0), (.int 0), (.int 0), (.ref zr), (.ref zr), .null, .null, (.ref ep), (.ref zr), (.ref fc), (.ref a18), (.ref a17), (.ref b16), (.ref b16)]) (fun _ q => XS.iconst X16.here hx rfl (hb hby own_d1_48) (XS.iconst X16.here hx rfl (hb hby own_d1_49) (XS.aload X16.here hx rfl (hb hby own_d1_50) rfl rfl (XS.aload X16.here hx rfl (hb hby own_d1_52) rfl rfl (XS.aload X16.here hx rfl (hb hby own_d1_54) rfl rfl (XS.aload X16.here hx rfl (hb hby own_d1_56) rfl rfl (XS.aconstNull X16.here hx rfl (hb hby own_d1_58) (XS.aloadN X16.here hx rfl (hb hby own_d1_59) rfl rfl q)))))))) ?_
      refine own_g (mkF m 65 #[.val (.int x), .val (.ref fc), .val (.ref ep), .val (.ref ep), .val (.ref zr)] [(.ref ep), (.ref zr), (.ref zr), (.ref ep), .null, (.ref zr), (.ref zr), (.ref zr), (.ref zr), (.int 0), (.int 0), (.int 0), (.ref zr), (.ref zr), .null, .null, (.ref ep), (.ref zr), (.ref fc), (.ref a18), (.ref a17), (.ref b16), (.ref b16)]) (fun _ q => XS.aload X16.here hx rfl (hb hby own_d1_60) rfl rfl (XS.aload X16.here hx rfl (hb hby own_d1_62) rfl rfl (XS.aloadN X16.here hx rfl (hb hby own_d1_64) rfl rfl q))) ?_
      have k19_ := ((Keep.refl h0 []).ext E16)
      have e20_fc := (E_fc.ext E16)
      have f21_fc := (R_fc.ext E16)
      have hk23_ := (Nat.le_trans hk0 E16.1)
      refine own_callIJ X16 hx hZ (y := own_y8) rfl hown (own_h hw 29 rfl) (own_h hw 30 rfl) (own_h hw 31 rfl) (own_h hw 19 rfl) (by decide) hS hk23_ (own_Rs.sub RS0 (by decide)) (own_liCr l Z a0 hw [] b16 a17 a18 fc zr (.ref ep) ep h16 n0 (Nat.le_trans Z0 k19_.1) rfl A16 g_b16 U16 e20_fc f21_fc ne_fc_b16) (by decide) (by decide) e16 (g := (mkF m 65 #[.val (.int x), .val (.ref fc), .val (.ref ep), .val (.ref ep), .val (.ref zr)] [(.ref ep), (.ref zr), (.ref zr), (.ref ep), .null, (.ref zr), (.ref zr), (.ref zr), (.ref zr), (.int 0), (.int 0), (.int 0), (.ref zr), (.ref zr), .null, .null, (.ref ep), (.ref zr), (.ref fc), (.ref a18), (.ref a17), (.ref b16), (.ref b16)])) rfl (by rw [hml]; rfl) (argsL := [(.ref a17), (.ref a18), (.ref fc), (.ref zr), (.ref ep), .null, .null, (.ref zr), (.ref zr), (.int 0), (.int 0), (.int 0), (.ref zr), (.ref zr), (.ref zr), (.ref zr), .null, (.ref ep), (.ref zr), (.ref zr), (.ref ep)]) (rest := [(.ref b16)]) (lenOf own_pd__28Ljava_2flang_2fString_3bLjava_2flang_2fString_3bLcom_2fexample_2fbahikhata_2fbahikhata_2fmodel_2fFacility_3bLjava_2fmath_2fBigDecimal_3bLjava_2ftime_2fLocalDate_3bLjava_2flang_2fString_3bLjava_2ftime_2fLocalDate_3bLjava_2fmath_2fBigDecimal_3bLjava_2fmath_2fBigDecimal_3bZZZLjava_2fmath_2fBigDecimal_3bLjava_2fmath_2fBigDecimal_3bLjava_2fmath_2fBigDecimal_3bLjava_2fmath_2fBigDecimal_3bLjava_2ftime_2fLocalDate_3bLjava_2ftime_2fLocalDate_3bLjava_2fmath_2fBigDecimal_3bLjava_2fmath_2fBigDecimal_3bLjava_2ftime_2fLocalDate_3b_29V rfl) rfl (W := 1) (by show 2 * 0 + _ ≤ _; exact Nat.le_of_eq rfl) (hb hby own_d1_65) rfl (by decide) (by decide) ?_
      rintro rv22 T22 L22 X22 hS hZ hown ⟨hV22, RQ22⟩ ⟨rfl, Nq22, Kq22, Eq22, Fo22, Ff22⟩
      have RS22 := (RS0.stays (s := s) hV22).app RQ22
      have N22 := Fr.app N3 Nq22
      show own_Fin p e below _ T22 (mkF m 68 #[.val (.int x), .val (.ref fc), .val (.ref ep), .val (.ref ep), .val (.ref zr)] [(.ref b16)])
      have k24_ := (k19_.trans Kq22 (allS (Or.inr sz_b16) all0))
      exact own_endJ X22 hS (by exact (Nat.le_refl _)) hZ (own_Rs.sub RS22 (by decide)) (v := some (.ref b16)) (fun h => by rw [Bd.returns] at h; cases h) hlk (fun hr => retOut X22 hx Bd.returns (own_narR rfl) (Or.inr (Or.inr (Or.inr (Or.inr ⟨rfl, rfl, rfl⟩)))) (hb hby own_d1_68) hr) (by exact ⟨b16, fc, o, rfl, N22, k24_, sz_b16, g_b16, Eq22, (by rw [own_sv, if_neg hc4]; exact Fo22), Ff22, E_f, O_f, ho⟩) (by decide) (by decide)
  · obtain ⟨fc, o, qf, E_f, R_f, O_f, ho⟩ := own_pickN ep zr f0 f1 f2 f3 x E_f0 R_f0 O_f0 E_f1 R_f1 O_f1 E_f2 R_f2 O_f2 E_f3 R_f3 O_f3 hk
    rw [qf] at hv1
    subst hv1
    show own_Fin p e below _ T1 (mkF m 6 #[.val (.int x), .unset, .unset, .unset, .unset] [(.ref fc)])
    have E_fc := E_f.ext O0.2
    have R_fc := R_f.ext O0.2
    refine own_g (mkF m 7 #[.val (.int x), .val (.ref fc), .unset, .unset, .unset] []) (fun _ q => XS.astoreN X1.here hx rfl (hb hby own_d1_6) rfl rfl (l' := #[.val (.int x), .val (.ref fc), .unset, .unset, .unset]) rfl q) ?_
    obtain ⟨T25, X25, e25, st25⟩ := getS2 X1 hx hZ hown (host := "") (Or.inl (own_h hw 10 rfl)) Via.refl eh1 (S_ep.ext O0.2) (g := (mkF m 7 #[.val (.int x), .val (.ref fc), .unset, .unset, .unset] [])) rfl (hb hby own_d1_7)
    refine own_by (g' := (mkF m 10 #[.val (.int x), .val (.ref fc), .unset, .unset, .unset] [(.ref ep)])) st25 ?_
    refine own_g (mkF m 12 #[.val (.int x), .val (.ref fc), .val (.ref ep), .unset, .unset] [(.int x)]) (fun _ q => XS.astoreN X25.here hx rfl (hb hby own_d1_10) rfl rfl (l' := #[.val (.int x), .val (.ref fc), .val (.ref ep), .unset, .unset]) rfl (XS.iloadN X25.here hx rfl (hb hby own_d1_11) rfl q)) ?_
    refine own_callS X25 hx hZ (y := own_y5) hown (own_h hw 12 rfl) (own_h hw 13 rfl) (own_h hw 2 rfl) (own_h hw 14 rfl) (by decide) (own_ov l Z a0 hw [] x h0 n0 Z0) (by decide) (by decide) e25 (g := (mkF m 12 #[.val (.int x), .val (.ref fc), .val (.ref ep), .unset, .unset] [(.int x)])) rfl (by rw [hml]; rfl) (argsL := [(.int x)]) (rest := []) (lenOf own_pd__28I_29Z rfl) rfl (W := 0) (by show 2 * 0 + _ ≤ _; exact Nat.le_of_eq rfl) (hb hby own_d1_12) rfl (by decide) (by decide) ?_
    rintro rv26 T26 L26 X26 ⟨rfl, Nq26, eh26⟩
    have N26 := Fr.app N1 Nq26
    show own_Fin p e below _ T26 (mkF m 15 #[.val (.int x), .val (.ref fc), .val (.ref ep), .unset, .unset] [(.int (own_od x))])
    by_cases hc27 : (own_od x) = (0 : Int32)
    · refine own_g (mkF m 24 #[.val (.int x), .val (.ref fc), .val (.ref ep), .val .null, .unset] []) (fun _ q => XS.ifYes X26.here hx rfl (pc0 := 15) (pc' := 22) rfl (hb hby own_d1_15) rfl ((if0 _ _).trans (teq hc27).1) (by decide) (by decide) (XS.aconstNull X26.here hx rfl (hb hby own_d1_22) (XS.astoreN X26.here hx rfl (hb hby own_d1_23) rfl rfl (l' := #[.val (.int x), .val (.ref fc), .val (.ref ep), .val .null, .unset]) rfl q))) ?_
      obtain ⟨T28, X28, e28, st28⟩ := getS2 X26 hx hZ hown (host := "") (Or.inl (own_h hw 15 rfl)) Via.refl eh26 (S_zr.ext O0.2) (g := (mkF m 24 #[.val (.int x), .val (.ref fc), .val (.ref ep), .val .null, .unset] [])) rfl (hb hby own_d1_24)
      refine own_by (g' := (mkF m 27 #[.val (.int x), .val (.ref fc), .val (.ref ep), .val .null, .unset] [(.ref zr)])) st28 ?_
      refine own_g (mkF m 29 #[.val (.int x), .val (.ref fc), .val (.ref ep), .val .null, .val (.ref zr)] []) (fun _ q => XS.astore X28.here hx rfl (hb hby own_d1_27) rfl rfl (l' := #[.val (.int x), .val (.ref fc), .val (.ref ep), .val .null, .val (.ref zr)]) rfl q) ?_
      obtain ⟨T29, h29, X29, e29, E29, A29, D29, U29, st29⟩ := newO X28 hx hZ hown (own_h hw 17 rfl) (own_h hw 18 rfl) (own_h hw 19 rfl) e28 (g := (mkF m 29 #[.val (.int x), .val (.ref fc), .val (.ref ep), .val .null, .val (.ref zr)] [])) rfl (hb hby own_d1_29) (by decide) (by decide)
      obtain ⟨b29, g29⟩ : ∃ z, z = h0.size := ⟨_, rfl⟩
      rw [← g29] at A29 D29 U29 st29
      have g_b29 : n0 ≤ b29 := Nat.le_trans Z0 (Nat.le_of_eq g29.symm)
      have sz_b29 : h0.size ≤ b29 := Nat.le_trans (Keep.refl h0 []).1 (Nat.le_of_eq g29.symm)
      have ne_fc_b29 : fc ≠ b29 := Nat.ne_of_lt (Nat.lt_of_lt_of_le E_fc.lt (Nat.le_of_eq g29.symm))
      refine own_by (g' := (mkF m 32 #[.val (.int x), .val (.ref fc), .val (.ref ep), .val .null, .val (.ref zr)] [(.ref b29)])) st29 ?_
      refine own_g (mkF m 33 #[.val (.int x), .val (.ref fc), .val (.ref ep), .val .null, .val (.ref zr)] [(.ref b29), (.ref b29)]) (fun _ q => XS.dup X29.here hx rfl (hb hby own_d1_32) rfl rfl q) ?_
      obtain ⟨a30, st30⟩ := own_ldcA X29 hx hZ hown (own_h hw 20 rfl) RS0 (by decide) (g := (mkF m 33 #[.val (.int x), .val (.ref fc), .val (.ref ep), .val .null, .val (.ref zr)] [(.ref b29), (.ref b29)])) rfl (hb hby own_d1_33)
      refine own_by (g' := (mkF m 35 #[.val (.int x), .val (.ref fc), .val (.ref ep), .val .null, .val (.ref zr)] [(.ref a30), (.ref b29), (.ref b29)])) st30 ?_
      obtain ⟨a31, st31⟩ := own_ldcA X29 hx hZ hown (own_h hw 28 rfl) RS0 (by decide) (g := (mkF m 35 #[.val (.int x), .val (.ref fc), .val (.ref ep), .val .null, .val (.ref zr)] [(.ref a30), (.ref b29), (.ref b29)])) rfl (hb hby own_d1_35)
      refine own_by (g' := (mkF m 37 #[.val (.int x), .val (.ref fc), .val (.ref ep), .val .null, .val (.ref zr)] [(.ref a31), (.ref a30), (.ref b29), (.ref b29)])) st31 ?_
      refine own_g (mkF m 48 #[.val (.int x), .val (.ref fc), .val (.ref ep), .val .null, .val (.ref zr)] [(.int 0), (.ref zr), (.ref zr), .null, .null, .null, (.ref zr), (.ref fc), (.ref a31), (.ref a30), (.ref b29), (.ref b29)]) (fun _ q => XS.aloadN X29.here hx rfl (hb hby own_d1_37) rfl rfl (XS.aload X29.here hx rfl (hb hby own_d1_38) rfl rfl (XS.aloadN X29.here hx rfl (hb hby own_d1_40) rfl rfl (XS.aconstNull X29.here hx rfl (hb hby own_d1_41) (XS.aconstNull X29.here hx rfl (hb hby own_d1_42) (XS.aload X29.here hx rfl (hb hby own_d1_43) rfl rfl (XS.aload X29.here hx rfl (hb hby own_d1_45) rfl rfl (XS.iconst X29.here hx rfl (hb hby own_d1_47) q)))))))) ?_
      refine own_g (mkF m 60 #[.val (.int x), .val (.ref fc), .val (.ref ep), .val .null, .val (.ref zr)] [(.ref ep), .null, (.ref zr), (.ref zr), (.ref zr), (.ref zr), (.int 0), (.int 0), (.int 0), (.ref zr), (.ref zr), .null, .null, .null, (.ref zr), (.ref fc), (.ref a31), (.ref a30), (.ref b29), (.ref b29)]) (fun _ q => XS.iconst X29.here hx rfl (hb hby own_d1_48) (XS.iconst X29.here hx rfl (hb hby own_d1_49) (XS.aload X29.here hx rfl (hb hby own_d1_50) rfl rfl (XS.aload X29.here hx rfl (hb hby own_d1_52) rfl rfl (XS.aload X29.here hx rfl (hb hby own_d1_54) rfl rfl (XS.aload X29.here hx rfl (hb hby own_d1_56) rfl rfl (XS.aconstNull X29.here hx rfl (hb hby own_d1_58) (XS.aloadN X29.here hx rfl (hb hby own_d1_59) rfl rfl q)))))))) ?_
      refine own_g (mkF m 65 #[.val (.int x), .val (.ref fc), .val (.ref ep), .val .null, .val (.ref zr)] [(.ref ep), (.ref zr), (.ref zr), (.ref ep), .null, (.ref zr), (.ref zr), (.ref zr), (.ref zr), (.int 0), (.int 0), (.int 0), (.ref zr), (.ref zr), .null, .null, .null, (.ref zr), (.ref fc), (.ref a31), (.ref a30), (.ref b29), (.ref b29)]) (fun _ q => XS.aload X29.here hx rfl (hb hby own_d1_60) rfl rfl (XS.aload X29.here hx rfl (hb hby own_d1_62) rfl rfl (XS.aloadN X29.here hx rfl (hb hby own_d1_64) rfl rfl q))) ?_
      have k32_ := ((Keep.refl h0 []).ext E29)
      have e33_fc := (E_fc.ext E29)
      have f34_fc := (R_fc.ext E29)
      have hk36_ := (Nat.le_trans hk0 E29.1)
      refine own_callIJ X29 hx hZ (y := own_y8) rfl hown (own_h hw 29 rfl) (own_h hw 30 rfl) (own_h hw 31 rfl) (own_h hw 19 rfl) (by decide) hS hk36_ (own_Rs.sub RS0 (by decide)) (own_liBn l Z a0 hw [] b29 a30 a31 fc zr .null ep h29 n0 (Nat.le_trans Z0 k32_.1) rfl A29 g_b29 U29 e33_fc f34_fc ne_fc_b29) (by decide) (by decide) e29 (g := (mkF m 65 #[.val (.int x), .val (.ref fc), .val (.ref ep), .val .null, .val (.ref zr)] [(.ref ep), (.ref zr), (.ref zr), (.ref ep), .null, (.ref zr), (.ref zr), (.ref zr), (.ref zr), (.int 0), (.int 0), (.int 0), (.ref zr), (.ref zr), .null, .null, .null, (.ref zr), (.ref fc), (.ref a31), (.ref a30), (.ref b29), (.ref b29)])) rfl (by rw [hml]; rfl) (argsL := [(.ref a30), (.ref a31), (.ref fc), (.ref zr), .null, .null, .null, (.ref zr), (.ref zr), (.int 0), (.int 0), (.int 0), (.ref zr), (.ref zr), (.ref zr), (.ref zr), .null, (.ref ep), (.ref zr), (.ref zr), (.ref ep)]) (rest := [(.ref b29)]) (lenOf own_pd__28Ljava_2flang_2fString_3bLjava_2flang_2fString_3bLcom_2fexample_2fbahikhata_2fbahikhata_2fmodel_2fFacility_3bLjava_2fmath_2fBigDecimal_3bLjava_2ftime_2fLocalDate_3bLjava_2flang_2fString_3bLjava_2ftime_2fLocalDate_3bLjava_2fmath_2fBigDecimal_3bLjava_2fmath_2fBigDecimal_3bZZZLjava_2fmath_2fBigDecimal_3bLjava_2fmath_2fBigDecimal_3bLjava_2fmath_2fBigDecimal_3bLjava_2fmath_2fBigDecimal_3bLjava_2ftime_2fLocalDate_3bLjava_2ftime_2fLocalDate_3bLjava_2fmath_2fBigDecimal_3bLjava_2fmath_2fBigDecimal_3bLjava_2ftime_2fLocalDate_3b_29V rfl) rfl (W := 1) (by show 2 * 0 + _ ≤ _; exact Nat.le_of_eq rfl) (hb hby own_d1_65) rfl (by decide) (by decide) ?_
      rintro rv35 T35 L35 X35 hS hZ hown ⟨hV35, RQ35⟩ ⟨rfl, Nq35, Kq35, Eq35, Fo35, Ff35⟩
      have RS35 := (RS0.stays (s := s) hV35).app RQ35
      have N35 := Fr.app N26 Nq35
      show own_Fin p e below _ T35 (mkF m 68 #[.val (.int x), .val (.ref fc), .val (.ref ep), .val .null, .val (.ref zr)] [(.ref b29)])
      have k37_ := (k32_.trans Kq35 (allS (Or.inr sz_b29) all0))
      exact own_endJ X35 hS (by exact (Nat.le_refl _)) hZ (own_Rs.sub RS35 (by decide)) (v := some (.ref b29)) (fun h => by rw [Bd.returns] at h; cases h) hlk (fun hr => retOut X35 hx Bd.returns (own_narR rfl) (Or.inr (Or.inr (Or.inr (Or.inr ⟨rfl, rfl, rfl⟩)))) (hb hby own_d1_68) hr) (by exact ⟨b29, fc, o, rfl, N35, k37_, sz_b29, g_b29, Eq35, (by rw [own_sv, if_pos hc27]; exact Fo35), Ff35, E_f, O_f, ho⟩) (by decide) (by decide)
    · refine own_g (mkF m 24 #[.val (.int x), .val (.ref fc), .val (.ref ep), .val (.ref ep), .unset] []) (fun _ q => XS.ifNo X26.here hx rfl (hb hby own_d1_15) rfl ((if0 _ _).trans (feq hc27).1) (XS.aloadN X26.here hx rfl (hb hby own_d1_18) rfl rfl (XS.goto X26.here hx rfl (pc0 := 19) (pc' := 23) rfl (hb hby own_d1_19) (by decide) (by decide) (XS.astoreN X26.here hx rfl (hb hby own_d1_23) rfl rfl (l' := #[.val (.int x), .val (.ref fc), .val (.ref ep), .val (.ref ep), .unset]) rfl q)))) ?_
      obtain ⟨T38, X38, e38, st38⟩ := getS2 X26 hx hZ hown (host := "") (Or.inl (own_h hw 15 rfl)) Via.refl eh26 (S_zr.ext O0.2) (g := (mkF m 24 #[.val (.int x), .val (.ref fc), .val (.ref ep), .val (.ref ep), .unset] [])) rfl (hb hby own_d1_24)
      refine own_by (g' := (mkF m 27 #[.val (.int x), .val (.ref fc), .val (.ref ep), .val (.ref ep), .unset] [(.ref zr)])) st38 ?_
      refine own_g (mkF m 29 #[.val (.int x), .val (.ref fc), .val (.ref ep), .val (.ref ep), .val (.ref zr)] []) (fun _ q => XS.astore X38.here hx rfl (hb hby own_d1_27) rfl rfl (l' := #[.val (.int x), .val (.ref fc), .val (.ref ep), .val (.ref ep), .val (.ref zr)]) rfl q) ?_
      obtain ⟨T39, h39, X39, e39, E39, A39, D39, U39, st39⟩ := newO X38 hx hZ hown (own_h hw 17 rfl) (own_h hw 18 rfl) (own_h hw 19 rfl) e38 (g := (mkF m 29 #[.val (.int x), .val (.ref fc), .val (.ref ep), .val (.ref ep), .val (.ref zr)] [])) rfl (hb hby own_d1_29) (by decide) (by decide)
      obtain ⟨b39, g39⟩ : ∃ z, z = h0.size := ⟨_, rfl⟩
      rw [← g39] at A39 D39 U39 st39
      have g_b39 : n0 ≤ b39 := Nat.le_trans Z0 (Nat.le_of_eq g39.symm)
      have sz_b39 : h0.size ≤ b39 := Nat.le_trans (Keep.refl h0 []).1 (Nat.le_of_eq g39.symm)
      have ne_fc_b39 : fc ≠ b39 := Nat.ne_of_lt (Nat.lt_of_lt_of_le E_fc.lt (Nat.le_of_eq g39.symm))
      refine own_by (g' := (mkF m 32 #[.val (.int x), .val (.ref fc), .val (.ref ep), .val (.ref ep), .val (.ref zr)] [(.ref b39)])) st39 ?_
      refine own_g (mkF m 33 #[.val (.int x), .val (.ref fc), .val (.ref ep), .val (.ref ep), .val (.ref zr)] [(.ref b39), (.ref b39)]) (fun _ q => XS.dup X39.here hx rfl (hb hby own_d1_32) rfl rfl q) ?_
      obtain ⟨a40, st40⟩ := own_ldcA X39 hx hZ hown (own_h hw 20 rfl) RS0 (by decide) (g := (mkF m 33 #[.val (.int x), .val (.ref fc), .val (.ref ep), .val (.ref ep), .val (.ref zr)] [(.ref b39), (.ref b39)])) rfl (hb hby own_d1_33)
      refine own_by (g' := (mkF m 35 #[.val (.int x), .val (.ref fc), .val (.ref ep), .val (.ref ep), .val (.ref zr)] [(.ref a40), (.ref b39), (.ref b39)])) st40 ?_
      obtain ⟨a41, st41⟩ := own_ldcA X39 hx hZ hown (own_h hw 28 rfl) RS0 (by decide) (g := (mkF m 35 #[.val (.int x), .val (.ref fc), .val (.ref ep), .val (.ref ep), .val (.ref zr)] [(.ref a40), (.ref b39), (.ref b39)])) rfl (hb hby own_d1_35)
      refine own_by (g' := (mkF m 37 #[.val (.int x), .val (.ref fc), .val (.ref ep), .val (.ref ep), .val (.ref zr)] [(.ref a41), (.ref a40), (.ref b39), (.ref b39)])) st41 ?_
      refine own_g (mkF m 48 #[.val (.int x), .val (.ref fc), .val (.ref ep), .val (.ref ep), .val (.ref zr)] [(.int 0), (.ref zr), (.ref zr), .null, .null, (.ref ep), (.ref zr), (.ref fc), (.ref a41), (.ref a40), (.ref b39), (.ref b39)]) (fun _ q => XS.aloadN X39.here hx rfl (hb hby own_d1_37) rfl rfl (XS.aload X39.here hx rfl (hb hby own_d1_38) rfl rfl (XS.aloadN X39.here hx rfl (hb hby own_d1_40) rfl rfl (XS.aconstNull X39.here hx rfl (hb hby own_d1_41) (XS.aconstNull X39.here hx rfl (hb hby own_d1_42) (XS.aload X39.here hx rfl (hb hby own_d1_43) rfl rfl (XS.aload X39.here hx rfl (hb hby own_d1_45) rfl rfl (XS.iconst X39.here hx rfl (hb hby own_d1_47) q)))))))) ?_
      refine own_g (mkF m 60 #[.val (.int x), .val (.ref fc), .val (.ref ep), .val (.ref ep), .val (.ref zr)] [(.ref ep), .null, (.ref zr), (.ref zr), (.ref zr), (.ref zr), (.int 0), (.int 0), (.int 0), (.ref zr), (.ref zr), .null, .null, (.ref ep), (.ref zr), (.ref fc), (.ref a41), (.ref a40), (.ref b39), (.ref b39)]) (fun _ q => XS.iconst X39.here hx rfl (hb hby own_d1_48) (XS.iconst X39.here hx rfl (hb hby own_d1_49) (XS.aload X39.here hx rfl (hb hby own_d1_50) rfl rfl (XS.aload X39.here hx rfl (hb hby own_d1_52) rfl rfl (XS.aload X39.here hx rfl (hb hby own_d1_54) rfl rfl (XS.aload X39.here hx rfl (hb hby own_d1_56) rfl rfl (XS.aconstNull X39.here hx rfl (hb hby own_d1_58) (XS.aloadN X39.here hx rfl (hb hby own_d1_59) rfl rfl q)))))))) ?_
      refine own_g (mkF m 65 #[.val (.int x), .val (.ref fc), .val (.ref ep), .val (.ref ep), .val (.ref zr)] [(.ref ep), (.ref zr), (.ref zr), (.ref ep), .null, (.ref zr), (.ref zr), (.ref zr), (.ref zr), (.int 0), (.int 0), (.int 0), (.ref zr), (.ref zr), .null, .null, (.ref ep), (.ref zr), (.ref fc), (.ref a41), (.ref a40), (.ref b39), (.ref b39)]) (fun _ q => XS.aload X39.here hx rfl (hb hby own_d1_60) rfl rfl (XS.aload X39.here hx rfl (hb hby own_d1_62) rfl rfl (XS.aloadN X39.here hx rfl (hb hby own_d1_64) rfl rfl q))) ?_
      have k42_ := ((Keep.refl h0 []).ext E39)
      have e43_fc := (E_fc.ext E39)
      have f44_fc := (R_fc.ext E39)
      have hk46_ := (Nat.le_trans hk0 E39.1)
      refine own_callIJ X39 hx hZ (y := own_y8) rfl hown (own_h hw 29 rfl) (own_h hw 30 rfl) (own_h hw 31 rfl) (own_h hw 19 rfl) (by decide) hS hk46_ (own_Rs.sub RS0 (by decide)) (own_liBn l Z a0 hw [] b39 a40 a41 fc zr (.ref ep) ep h39 n0 (Nat.le_trans Z0 k42_.1) rfl A39 g_b39 U39 e43_fc f44_fc ne_fc_b39) (by decide) (by decide) e39 (g := (mkF m 65 #[.val (.int x), .val (.ref fc), .val (.ref ep), .val (.ref ep), .val (.ref zr)] [(.ref ep), (.ref zr), (.ref zr), (.ref ep), .null, (.ref zr), (.ref zr), (.ref zr), (.ref zr), (.int 0), (.int 0), (.int 0), (.ref zr), (.ref zr), .null, .null, (.ref ep), (.ref zr), (.ref fc), (.ref a41), (.ref a40), (.ref b39), (.ref b39)])) rfl (by rw [hml]; rfl) (argsL := [(.ref a40), (.ref a41), (.ref fc), (.ref zr), (.ref ep), .null, .null, (.ref zr), (.ref zr), (.int 0), (.int 0), (.int 0), (.ref zr), (.ref zr), (.ref zr), (.ref zr), .null, (.ref ep), (.ref zr), (.ref zr), (.ref ep)]) (rest := [(.ref b39)]) (lenOf own_pd__28Ljava_2flang_2fString_3bLjava_2flang_2fString_3bLcom_2fexample_2fbahikhata_2fbahikhata_2fmodel_2fFacility_3bLjava_2fmath_2fBigDecimal_3bLjava_2ftime_2fLocalDate_3bLjava_2flang_2fString_3bLjava_2ftime_2fLocalDate_3bLjava_2fmath_2fBigDecimal_3bLjava_2fmath_2fBigDecimal_3bZZZLjava_2fmath_2fBigDecimal_3bLjava_2fmath_2fBigDecimal_3bLjava_2fmath_2fBigDecimal_3bLjava_2fmath_2fBigDecimal_3bLjava_2ftime_2fLocalDate_3bLjava_2ftime_2fLocalDate_3bLjava_2fmath_2fBigDecimal_3bLjava_2fmath_2fBigDecimal_3bLjava_2ftime_2fLocalDate_3b_29V rfl) rfl (W := 1) (by show 2 * 0 + _ ≤ _; exact Nat.le_of_eq rfl) (hb hby own_d1_65) rfl (by decide) (by decide) ?_
      rintro rv45 T45 L45 X45 hS hZ hown ⟨hV45, RQ45⟩ ⟨rfl, Nq45, Kq45, Eq45, Fo45, Ff45⟩
      have RS45 := (RS0.stays (s := s) hV45).app RQ45
      have N45 := Fr.app N26 Nq45
      show own_Fin p e below _ T45 (mkF m 68 #[.val (.int x), .val (.ref fc), .val (.ref ep), .val (.ref ep), .val (.ref zr)] [(.ref b39)])
      have k47_ := (k42_.trans Kq45 (allS (Or.inr sz_b39) all0))
      exact own_endJ X45 hS (by exact (Nat.le_refl _)) hZ (own_Rs.sub RS45 (by decide)) (v := some (.ref b39)) (fun h => by rw [Bd.returns] at h; cases h) hlk (fun hr => retOut X45 hx Bd.returns (own_narR rfl) (Or.inr (Or.inr (Or.inr (Or.inr ⟨rfl, rfl, rfl⟩)))) (hb hby own_d1_68) hr) (by exact ⟨b39, fc, o, rfl, N45, k47_, sz_b39, g_b39, Eq45, (by rw [own_sv, if_neg hc27]; exact Fo45), Ff45, E_f, O_f, ho⟩) (by decide) (by decide)
theorem own_d13_0 : decode jdk_65_method_101_code 0 = .ok (.iconst 0, 1) := by decide +kernel
theorem own_d13_1 : decode jdk_65_method_101_code 1 = .ok (.istore_n 3, 1) := by decide +kernel
theorem own_d13_2 : decode jdk_65_method_101_code 2 = .ok (.aload_n 0, 1) := by decide +kernel
theorem own_d13_3 : decode jdk_65_method_101_code 3 = .ok (.arraylength, 1) := by decide +kernel
theorem own_d13_4 : decode jdk_65_method_101_code 4 = .ok (.istore 4, 2) := by decide +kernel
theorem own_d13_6 : decode jdk_65_method_101_code 6 = .ok (.iload_n 3, 1) := by decide +kernel
theorem own_d13_7 : decode jdk_65_method_101_code 7 = .ok (.iload 4, 2) := by decide +kernel
theorem own_d13_9 : decode jdk_65_method_101_code 9 = .ok (.if_icmp .ge 13, 3) := by decide +kernel
theorem own_d13_22 : decode jdk_65_method_101_code 22 = .ok (.return_, 1) := by decide +kernel
theorem own_d13_12 : decode jdk_65_method_101_code 12 = .ok (.aload_n 0, 1) := by decide +kernel
theorem own_d13_13 : decode jdk_65_method_101_code 13 = .ok (.iload_n 3, 1) := by decide +kernel
theorem own_d13_14 : decode jdk_65_method_101_code 14 = .ok (.lload_n 1, 1) := by decide +kernel
theorem own_d13_15 : decode jdk_65_method_101_code 15 = .ok (.lastore, 1) := by decide +kernel
theorem own_d13_16 : decode jdk_65_method_101_code 16 = .ok (.iinc 3 1, 3) := by decide +kernel
theorem own_d13_19 : decode jdk_65_method_101_code 19 = .ok (.goto (-13), 3) := by decide +kernel
theorem own_fill_ef (m : MethodId) (a : Addr) (x0 : Int64) : entryFrame m #[(.ref a), (.long x0)] 5 = mkF m 0 #[.val (.ref a), .val (.long x0), .second, .unset, .unset] [] := by  first | (simp [entryFrame, mkF, argsToLocals, Value.category]; done) | rfl
def own_fill_Q (Z : State) (a : Addr) (x0 : Int64) (cl : Cell) (z : Int32) (h0 : Heap) (n0 : Nat) (v : Option Value) (h : Heap) (L : List Loc) : Prop := v = none ∧ Fr n0 L ∧ Keep h0 h [a]
theorem own_pn_java_util_Arrays : plainName "java/util/Arrays" = true := by first | (simp [plainName, overriddenIn]; done) | decide +kernel
set_option maxRecDepth 65536 in
set_option maxHeartbeats 40000000 in
theorem own_fill (l : Launch) (Z : State) (a0 : Array Value) (hw : ∀ d ∈ tables_1, d.before a0 Z = true) (ws : List Jvm.Cond) (a : Addr) (x0 : Int64) (cl₀ : Cell) (z : Int32) (h0 : Heap) (n0 : Nat) (Z0 : n0 ≤ h0.size) (Ar : Arr Z h0 a cl₀ .long) (Sz : cl₀.slots.size = z.toNatClampNeg) (Pz : ¬ z < 0) (ga : n0 ≤ a) :
    MetFree l (⟨"java/util/Arrays", "fill", "([JJ)V"⟩ : MethodName) (head1 (Jvm.Cond.code (⟨"java/util/Arrays", "fill", "([JJ)V"⟩ : MethodName) jdk_65_method_101_code 5 none :: ws) (⟨0, 0, 0, 0⟩ : Room)) (fun aa U => aa = #[(.ref a), (.long x0)] ∧ Z.Warmed39 U.vm ∧ U.heap = h0) (fun _ _ _ _ _ => True) (fun _ U o U' => ∃ v L, o = .returned v ∧ own_fill_Q Z a x0 cl₀ z h0 n0 v U'.heap L ∧ FrameEnd U o U' L (⟨0, 0, 0, 0⟩ : Room).cells (⟨0, 0, 0, 0⟩ : Room).slots) := by
  refine MetFree.of_bodySF (plainFor_of_name own_pn_java_util_Arrays) hisR ?_
  intro p e s m args below meth c s₁ Bd hml0 hP hK
  obtain ⟨rfl, hZ, hh⟩ := hP
  have hx := Bd.exec
  have hby := Bd.bytes
  have hml : c.maxLocals = 5 := hml0
  have hown : s.vm.findClass "java/util/Arrays" = some m.cls := findClass_of_methodNamed Bd.named
  have hnm := (name_of_methodNamed Bd.named Bd.method).1
  have hlk := Bd.notSynchronized
  have X0 : Stand p l e (⟨0, 0, 0, 0⟩ : Room) s m #[(.ref a), (.long x0)] below meth c s₁ [] 0 0 := Stand.of_body Bd
  have e0 : s₁.heap = h0 := by rw [← hh, Bd.state]; rfl
  have N0 := Fr.nil n0
  refine own_start (Q := own_fill_Q Z a x0 cl₀ z h0 n0) (own_fill_ef m a x0) ?_
  refine own_g (mkF m 3 #[.val (.ref a), .val (.long x0), .second, .val (.int 0), .unset] [(.ref a)]) (fun _ q => XS.iconst X0.here hx rfl (hb hby own_d13_0) (XS.istoreN X0.here hx rfl (hb hby own_d13_1) rfl (l' := #[.val (.ref a), .val (.long x0), .second, .val (.int 0), .unset]) rfl (XS.aloadN X0.here hx rfl (hb hby own_d13_2) rfl rfl q))) ?_
  refine own_by (g' := (mkF m 4 #[.val (.ref a), .val (.long x0), .second, .val (.int 0), .unset] [(.int z)])) (fun _ kq => X0.arraylength hx (by rw [e0]; exact Ar.1) (State.isArrayOf_alike hZ.alike Ar.2.1) (g := (mkF m 3 #[.val (.ref a), .val (.long x0), .second, .val (.int 0), .unset] [(.ref a)])) rfl rfl (hb hby own_d13_3) _ (by rw [len_of Sz Pz]; exact kq)) ?_
  refine own_g (mkF m 6 #[.val (.ref a), .val (.long x0), .second, .val (.int 0), .val (.int z)] []) (fun _ q => XS.istore X0.here hx rfl (hb hby own_d13_4) rfl (l' := #[.val (.ref a), .val (.long x0), .second, .val (.int 0), .val (.int z)]) rfl q) ?_
  suffices loop : ∀ (k : Nat) (T : State) (h : Heap) (cl : Cell) (i : Int32) (locs : List Loc), Stand p l e (⟨0, 0, 0, 0⟩ : Room) s m #[(.ref a), (.long x0)] below meth c T locs 0 0 → T.heap = h → Keep h0 h [a] → Arr Z h a cl .long → cl.slots.size = z.toNatClampNeg → 0 ≤ i.toInt → z.toInt - i.toInt = k → Fr n0 locs → own_Fin p e below (own_P s (own_fill_Q Z a x0 cl₀ z h0 n0) 0 0) T (mkF m 6 #[.val (.ref a), .val (.long x0), .second, .val (.int i), .val (.int z)] []) from
    loop z.toInt.toNat _ _ _ _ _ X0 e0 (Keep.refl h0 [a]) Ar Sz (by decide) (by have q : 0 ≤ z.toInt := (by have := Int32.not_lt.mp Pz; exact Int32.le_iff_toInt_le.mp this); have e0 : (0 : Int32).toInt = 0 := (by decide); omega) N0
  intro k
  induction k with
  | zero =>
    intro T h cl i locs X eT K Aq Sq hi hk N
    refine own_g (mkF m 22 #[.val (.ref a), .val (.long x0), .second, .val (.int i), .val (.int z)] []) (fun _ q => XS.iloadN X.here hx rfl (hb hby own_d13_6) rfl (XS.iload X.here hx rfl (hb hby own_d13_7) rfl (XS.icmpYes X.here hx rfl (pc0 := 9) (pc' := 22) rfl (hb hby own_d13_9) rfl (flt (fun q => by have := Int32.lt_iff_toInt_lt.mp q; omega)).2.1 (by decide) (by decide) q))) ?_
    exact own_end X (v := none) (fun _ => rfl) hlk (fun hr => X.returnOut hx Bd.returns (hb hby own_d13_22) hr) (by rw [eT]; exact ⟨rfl, N, K⟩) (by decide) (by decide)
  | succ k ih =>
    intro T h cl i locs X eT K Aq Sq hi hk N
    have hlt : i < z := Int32.lt_iff_toInt_lt.mpr (by omega)
    refine own_g (mkF m 15 #[.val (.ref a), .val (.long x0), .second, .val (.int i), .val (.int z)] [(.long x0), (.int i), (.ref a)]) (fun _ q => XS.iloadN X.here hx rfl (hb hby own_d13_6) rfl (XS.iload X.here hx rfl (hb hby own_d13_7) rfl (XS.icmpNo X.here hx rfl (hb hby own_d13_9) rfl (tlt hlt).2.1 (XS.aloadN X.here hx rfl (hb hby own_d13_12) rfl rfl (XS.iloadN X.here hx rfl (hb hby own_d13_13) rfl (XS.lloadN X.here hx rfl (hb hby own_d13_14) rfl q)))))) ?_
    have hin : ¬ (i < 0 ∨ cl.slots.size ≤ i.toNatClampNeg) := inb_of Sq ⟨own_nlt0 hi, hlt⟩
    obtain ⟨T1, h1, X1, e1, W1, st1⟩ := stJ X hx hZ eT Aq (j := i) hin (g := (mkF m 15 #[.val (.ref a), .val (.long x0), .second, .val (.int i), .val (.int z)] [(.long x0), (.int i), (.ref a)])) rfl rfl (hb hby own_d13_15)
    have Kq := K.wr W1 (Or.inl (List.mem_of_getElem? (i := 0) rfl))
    have Aq := Aq.same W1
    have N1 := Fr.snoc X1 N ga
    refine own_by (g' := (mkF m 16 #[.val (.ref a), .val (.long x0), .second, .val (.int i), .val (.int z)] [])) st1 ?_
    refine own_g (mkF m 6 #[.val (.ref a), .val (.long x0), .second, .val (.int (i + (1 : Int32))), .val (.int z)] []) (fun _ q => XS.iinc X1.here hx rfl (hb hby own_d13_16) rfl (l' := #[.val (.ref a), .val (.long x0), .second, .val (.int (i + (1 : Int32))), .val (.int z)]) rfl (XS.goto X1.here hx rfl (pc0 := 19) (pc' := 6) rfl (hb hby own_d13_19) (by decide) (by decide) q)) ?_
    exact ih _ _ _ _ _ X1 e1 Kq Aq (by rw [sz_set]; exact Sq) (own_stp hi hlt).1 (by have q := (own_stp hi hlt).2; omega) N1
theorem own_d12_0 : decode prog_80_method_10_code 0 = .ok (.iload_n 0, 1) := by decide +kernel
theorem own_d12_1 : decode prog_80_method_10_code 1 = .ok (.newarray .long, 2) := by decide +kernel
theorem own_d12_3 : decode prog_80_method_10_code 3 = .ok (.astore_n 1, 1) := by decide +kernel
theorem own_d12_4 : decode prog_80_method_10_code 4 = .ok (.aload_n 1, 1) := by decide +kernel
theorem own_d12_5 : decode prog_80_method_10_code 5 = .ok (.ldc2_w 36, 3) := by decide +kernel
theorem own_d12_8 : decode prog_80_method_10_code 8 = .ok (.invokestatic 66, 3) := by decide +kernel
theorem own_pd__28_5bJJ_29V : parseMethodDescriptor "([JJ)V" = some ⟨[(.array .long), .long], none⟩ := by decide +kernel
theorem own_d12_11 : decode prog_80_method_10_code 11 = .ok (.aload_n 1, 1) := by decide +kernel
theorem own_d12_12 : decode prog_80_method_10_code 12 = .ok (.areturn, 1) := by decide +kernel
theorem own_es_ef (m : MethodId)  : entryFrame m #[(.int 128)] 2 = mkF m 0 #[.val (.int 128), .unset] [] := by  first | (simp [entryFrame, mkF, argsToLocals, Value.category]; done) | rfl
def own_es_Q (Z : State)  (h0 : Heap) (n0 : Nat) (v : Option Value) (h : Heap) (L : List Loc) : Prop := ∃ t : Addr, v = some (.ref t) ∧ Fr n0 L ∧ Keep h0 h [] ∧ h0.size ≤ t ∧ n0 ≤ t
theorem own_pn_com_example_bahikhata_bahikhata_util_StringTable : plainName "com/example/bahikhata/bahikhata/util/StringTable" = true := by first | (simp [plainName, overriddenIn]; done) | decide +kernel
set_option maxRecDepth 65536 in
set_option maxHeartbeats 40000000 in
theorem own_es (l : Launch) (Z : State) (a0 : Array Value) (hw : ∀ d ∈ tables_1, d.before a0 Z = true) (ws : List Jvm.Cond)  (h0 : Heap) (n0 : Nat) (Z0 : n0 ≤ h0.size)  :
    MetFree l (⟨"com/example/bahikhata/bahikhata/util/StringTable", "emptySlots", "(I)[J"⟩ : MethodName) (head1 (Jvm.Cond.code (⟨"com/example/bahikhata/bahikhata/util/StringTable", "emptySlots", "(I)[J"⟩ : MethodName) prog_80_method_10_code 2 (some (.array .long)) :: ws) (⟨1, 1, 128, 16⟩ : Room)) (fun aa U => aa = #[(.int 128)] ∧ Z.Warmed39 U.vm ∧ U.heap = h0) (fun _ _ _ _ _ => True) (fun _ U o U' => ∃ v L, o = .returned v ∧ own_es_Q Z  h0 n0 v U'.heap L ∧ FrameEnd U o U' L (⟨1, 1, 128, 16⟩ : Room).cells (⟨1, 1, 128, 16⟩ : Room).slots) := by
  refine MetFree.of_bodySF (plainFor_of_name own_pn_com_example_bahikhata_bahikhata_util_StringTable) hisR ?_
  intro p e s m args below meth c s₁ Bd hml0 hP hK
  obtain ⟨rfl, hZ, hh⟩ := hP
  have hx := Bd.exec
  have hby := Bd.bytes
  have hml : c.maxLocals = 2 := hml0
  have hown : s.vm.findClass "com/example/bahikhata/bahikhata/util/StringTable" = some m.cls := findClass_of_methodNamed Bd.named
  have hnm := (name_of_methodNamed Bd.named Bd.method).1
  have hlk := Bd.notSynchronized
  have X0 : Stand p l e (⟨1, 1, 128, 16⟩ : Room) s m #[(.int 128)] below meth c s₁ [] 0 0 := Stand.of_body Bd
  have e0 : s₁.heap = h0 := by rw [← hh, Bd.state]; rfl
  have N0 := Fr.nil n0
  refine own_start (Q := own_es_Q Z  h0 n0) (own_es_ef m ) ?_
  refine own_g (mkF m 1 #[.val (.int 128), .unset] [(.int 128)]) (fun _ q => XS.iloadN X0.here hx rfl (hb hby own_d12_0) rfl q) ?_
  obtain ⟨T1, h1, k1, X1, e1, E1, A1, st1⟩ := newP X0 hx hZ (own_h hw 144 rfl) e0 (g := (mkF m 1 #[.val (.int 128), .unset] [(.int 128)])) rfl (hb hby own_d12_1) rfl (by decide) (cap := 128) (by decide) (by decide) (by decide) (by decide)
  obtain ⟨b1, g1⟩ : ∃ z, z = h0.size := ⟨_, rfl⟩
  rw [← g1] at A1 st1
  have g_b1 : n0 ≤ b1 := Nat.le_trans Z0 (Nat.le_of_eq g1.symm)
  have sz_b1 : h0.size ≤ b1 := Nat.le_trans (Keep.refl h0 []).1 (Nat.le_of_eq g1.symm)
  have V_b1 := Arv.new A1 (by decide)
  refine own_by (g' := (mkF m 3 #[.val (.int 128), .unset] [(.ref b1)])) st1 ?_
  refine own_g (mkF m 5 #[.val (.int 128), .val (.ref b1)] [(.ref b1)]) (fun _ q => XS.astoreN X1.here hx rfl (hb hby own_d12_3) rfl rfl (l' := #[.val (.int 128), .val (.ref b1)]) rfl (XS.aloadN X1.here hx rfl (hb hby own_d12_4) rfl rfl q)) ?_
  refine own_by (g' := (mkF m 8 #[.val (.int 128), .val (.ref b1)] [(.long (-1 : Int64)), (.ref b1)])) (fun _ kq => X1.ldc2Long hx hown (mvT hZ (own_h hw 145 rfl)) (g := (mkF m 5 #[.val (.int 128), .val (.ref b1)] [(.ref b1)])) rfl (hb hby own_d12_5) _ kq) ?_
  obtain ⟨clf, Arf, qf, Sf, Pf, Hf, Gf⟩ := id V_b1
  have k2_ := ((Keep.refl h0 []).ext E1)
  refine own_callS X1 hx hZ (y := (⟨"java/util/Arrays", "fill", "([JJ)V"⟩ : MethodName)) hown (own_h hw 146 rfl) (own_h hw 147 rfl) (own_h hw 148 rfl) (own_h hw 149 rfl) (by decide) (own_fill l Z a0 hw [] b1 (-1 : Int64) clf (128 : Int32) h1 n0 (Nat.le_trans Z0 k2_.1) Arf Sf Pf g_b1) (by decide) (by decide) e1 (g := (mkF m 8 #[.val (.int 128), .val (.ref b1)] [(.long (-1 : Int64)), (.ref b1)])) rfl (by rw [hml]; rfl) (argsL := [(.ref b1), (.long (-1 : Int64))]) (rest := []) (lenOf own_pd__28_5bJJ_29V rfl) rfl (W := 0) (by show 2 * 0 + _ ≤ _; exact Nat.le_of_eq rfl) (hb hby own_d12_8) rfl (by decide) (by decide) ?_
  rintro rv3 T3 L3 X3 ⟨rfl, Nq3, Kq3⟩
  have N3 := Fr.app N0 Nq3
  refine own_g (mkF m 12 #[.val (.int 128), .val (.ref b1)] [(.ref b1)]) (fun _ q => XS.aloadN X3.here hx rfl (hb hby own_d12_11) rfl rfl q) ?_
  have k4_ := (k2_.trans Kq3 (allS (Or.inr sz_b1) all0))
  exact own_end X3 (v := some (.ref b1)) (fun h => by rw [Bd.returns] at h; cases h) hlk (fun hr => retOut X3 hx Bd.returns (own_narR rfl) (Or.inr (Or.inr (Or.inr (Or.inr ⟨rfl, rfl, rfl⟩)))) (hb hby own_d12_12) hr) (⟨b1, rfl, N3, k4_, sz_b1, g_b1⟩) (by decide) (by decide)
theorem own_d11_0 : decode prog_79_method_1_code 0 = .ok (.aload_n 0, 1) := by decide +kernel
theorem own_d11_1 : decode prog_79_method_1_code 1 = .ok (.invokespecial 3, 3) := by decide +kernel
theorem own_d11_4 : decode prog_79_method_1_code 4 = .ok (.aload_n 0, 1) := by decide +kernel
theorem own_d11_5 : decode prog_79_method_1_code 5 = .ok (.sipush 1024, 3) := by decide +kernel
theorem own_d11_8 : decode prog_79_method_1_code 8 = .ok (.newarray .char, 2) := by decide +kernel
theorem own_d11_10 : decode prog_79_method_1_code 10 = .ok (.putfield 9, 3) := by decide +kernel
theorem own_d11_13 : decode prog_79_method_1_code 13 = .ok (.aload_n 0, 1) := by decide +kernel
theorem own_d11_14 : decode prog_79_method_1_code 14 = .ok (.bipush 64, 2) := by decide +kernel
theorem own_d11_16 : decode prog_79_method_1_code 16 = .ok (.newarray .int, 2) := by decide +kernel
theorem own_d11_18 : decode prog_79_method_1_code 18 = .ok (.putfield 15, 3) := by decide +kernel
theorem own_d11_21 : decode prog_79_method_1_code 21 = .ok (.return_, 1) := by decide +kernel
theorem own_sl_ef (m : MethodId) (x0 : Addr) : entryFrame m #[(.ref x0)] 1 = mkF m 0 #[.val (.ref x0)] [] := by  first | (simp [entryFrame, mkF, argsToLocals, Value.category]; done) | rfl
def own_sl_Q (Z : State) (x0 : Addr) (h0 : Heap) (n0 : Nat) (v : Option Value) (h : Heap) (L : List Loc) : Prop := v = none ∧ Fr n0 L ∧ Keep h0 h [x0]
theorem own_pn_com_example_bahikhata_bahikhata_util_StringList : plainName "com/example/bahikhata/bahikhata/util/StringList" = true := by first | (simp [plainName, overriddenIn]; done) | decide +kernel
set_option maxRecDepth 65536 in
set_option maxHeartbeats 40000000 in
theorem own_sl (l : Launch) (Z : State) (a0 : Array Value) (hw : ∀ d ∈ tables_1, d.before a0 Z = true) (ws : List Jvm.Cond) (x0 : Addr) (h0 : Heap) (n0 : Nat) (Z0 : n0 ≤ h0.size) (E_x : Exa Z h0 x0 "com/example/bahikhata/bahikhata/util/StringList") (g_x : n0 ≤ x0) (U_x : Unt h0 x0) :
    MetFree l (⟨"com/example/bahikhata/bahikhata/util/StringList", "<init>", "()V"⟩ : MethodName) (head1 (Jvm.Cond.code (⟨"com/example/bahikhata/bahikhata/util/StringList", "<init>", "()V"⟩ : MethodName) prog_79_method_1_code 1 none :: ws) (⟨1, 2, 1088, 12⟩ : Room)) (fun aa U => aa = #[(.ref x0)] ∧ Z.Warmed39 U.vm ∧ U.heap = h0) (fun _ _ _ _ _ => True) (fun _ U o U' => ∃ v L, o = .returned v ∧ own_sl_Q Z x0 h0 n0 v U'.heap L ∧ FrameEnd U o U' L (⟨1, 2, 1088, 12⟩ : Room).cells (⟨1, 2, 1088, 12⟩ : Room).slots) := by
  refine MetFree.of_bodySF (plainFor_of_name own_pn_com_example_bahikhata_bahikhata_util_StringList) hisR ?_
  intro p e s m args below meth c s₁ Bd hml0 hP hK
  obtain ⟨rfl, hZ, hh⟩ := hP
  have hx := Bd.exec
  have hby := Bd.bytes
  have hml : c.maxLocals = 1 := hml0
  have hown : s.vm.findClass "com/example/bahikhata/bahikhata/util/StringList" = some m.cls := findClass_of_methodNamed Bd.named
  have hnm := (name_of_methodNamed Bd.named Bd.method).1
  have hlk := Bd.notSynchronized
  have X0 : Stand p l e (⟨1, 2, 1088, 12⟩ : Room) s m #[(.ref x0)] below meth c s₁ [] 0 0 := Stand.of_body Bd
  have e0 : s₁.heap = h0 := by rw [← hh, Bd.state]; rfl
  have N0 := Fr.nil n0
  refine own_start (Q := own_sl_Q Z x0 h0 n0) (own_sl_ef m x0) ?_
  refine own_g (mkF m 1 #[.val (.ref x0)] [(.ref x0)]) (fun _ q => XS.aloadN X0.here hx rfl (hb hby own_d11_0) rfl rfl q) ?_
  obtain ⟨T1, X1, e1, st1⟩ := initO X0 hx hZ hown (own_h hw 132 rfl) (own_h hw 38 rfl) (own_h hw 39 rfl) e0 (g := (mkF m 1 #[.val (.ref x0)] [(.ref x0)])) rfl (by rw [hml]; rfl) rfl (hb hby own_d11_1) (by decide) (W := 0) (by show 2 * 0 + _ ≤ _; exact Nat.le_of_eq rfl) (by decide)
  refine own_by (g' := (mkF m 4 #[.val (.ref x0)] [])) st1 ?_
  refine own_g (mkF m 8 #[.val (.ref x0)] [(.int 1024), (.ref x0)]) (fun _ q => XS.aloadN X1.here hx rfl (hb hby own_d11_4) rfl rfl (XS.sipush X1.here hx rfl (hb hby own_d11_5) q)) ?_
  obtain ⟨T2, h2, k2, X2, e2, E2, A2, st2⟩ := newP X1 hx hZ (own_h hw 133 rfl) e1 (g := (mkF m 8 #[.val (.ref x0)] [(.int 1024), (.ref x0)])) rfl (hb hby own_d11_8) rfl (by decide) (cap := 1024) (by decide) (by decide) (by decide) (by decide)
  obtain ⟨b2, g2⟩ : ∃ z, z = h0.size := ⟨_, rfl⟩
  rw [← g2] at A2 st2
  have g_b2 : n0 ≤ b2 := Nat.le_trans (Nat.le_trans Z0 (Keep.refl h0 [x0]).1) (Nat.le_of_eq g2.symm)
  have sz_b2 : h0.size ≤ b2 := Nat.le_trans (Keep.refl h0 [x0]).1 (Nat.le_of_eq g2.symm)
  have ne_x0_b2 : x0 ≠ b2 := Nat.ne_of_lt (Nat.lt_of_lt_of_le E_x.lt (Nat.le_of_eq g2.symm))
  have V_b2 := Arv.new A2 (by decide)
  refine own_by (g' := (mkF m 10 #[.val (.ref x0)] [(.ref b2), (.ref x0)])) st2 ?_
  have e3_x0 := (E_x.ext E2)
  have x5_x0 := (Unt.ext E2 U_x)
  obtain ⟨vo4, Fo4⟩ := own_someF e3_x0 x5_x0 (Or.inl (own_h hw 135 rfl)) (own_h hw 127 rfl)
  obtain ⟨T6, h6, X6, e6, W6, st6⟩ := putF X2 hx hZ hown (host := "") (Or.inl (own_h hw 134 rfl)) Via.refl e2 Fo4 e3_x0 (Or.inl (own_h hw 135 rfl)) (own_h hw 127 rfl) (ty := (.array .char)) (by decide) (rfl) (rfl) (g := (mkF m 10 #[.val (.ref x0)] [(.ref b2), (.ref x0)])) rfl rfl (hb hby own_d11_10)
  have N6 := Fr.snoc X6 N0 g_x
  refine own_by (g' := (mkF m 13 #[.val (.ref x0)] [])) st6 ?_
  refine own_g (mkF m 16 #[.val (.ref x0)] [(.int 64), (.ref x0)]) (fun _ q => XS.aloadN X6.here hx rfl (hb hby own_d11_13) rfl rfl (XS.bipush X6.here hx rfl (hb hby own_d11_14) q)) ?_
  obtain ⟨T7, h7, k7, X7, e7, E7, A7, st7⟩ := newP X6 hx hZ (own_h hw 136 rfl) e6 (g := (mkF m 16 #[.val (.ref x0)] [(.int 64), (.ref x0)])) rfl (hb hby own_d11_16) rfl (by decide) (cap := 64) (by decide) (by decide) (by decide) (by decide)
  obtain ⟨b7, g7⟩ : ∃ z, z = h6.size := ⟨_, rfl⟩
  rw [← g7] at A7 st7
  have k8_ := (((Keep.refl h0 [x0]).ext E2).wr W6 (Or.inl (List.mem_of_getElem? (i := 0) rfl)))
  have g_b7 : n0 ≤ b7 := Nat.le_trans (Nat.le_trans Z0 k8_.1) (Nat.le_of_eq g7.symm)
  have sz_b7 : h0.size ≤ b7 := Nat.le_trans k8_.1 (Nat.le_of_eq g7.symm)
  have e9_x0 := (e3_x0.wr W6)
  have ne_x0_b7 : x0 ≠ b7 := Nat.ne_of_lt (Nat.lt_of_lt_of_le e9_x0.lt (Nat.le_of_eq g7.symm))
  have a10_b2 := (V_b2.other W6 (Ne.symm ne_x0_b2))
  have ne_b2_b7 : b2 ≠ b7 := Nat.ne_of_lt (Nat.lt_of_lt_of_le a10_b2.lt (Nat.le_of_eq g7.symm))
  have V_b7 := Arv.new A7 (by decide)
  refine own_by (g' := (mkF m 18 #[.val (.ref x0)] [(.ref b7), (.ref x0)])) st7 ?_
  have e11_x0 := (e9_x0.ext E7)
  have x13_x0 := (Unt.ext E7 (Unt.wr W6 x5_x0))
  obtain ⟨vo12, Fo12⟩ := own_someF e11_x0 x13_x0 (Or.inl (own_h hw 138 rfl)) (own_h hw 127 rfl)
  obtain ⟨T14, h14, X14, e14, W14, st14⟩ := putF X7 hx hZ hown (host := "") (Or.inl (own_h hw 137 rfl)) Via.refl e7 Fo12 e11_x0 (Or.inl (own_h hw 138 rfl)) (own_h hw 127 rfl) (ty := (.array .int)) (by decide) (rfl) (rfl) (g := (mkF m 18 #[.val (.ref x0)] [(.ref b7), (.ref x0)])) rfl rfl (hb hby own_d11_18)
  have N14 := Fr.snoc X14 N6 g_x
  refine own_by (g' := (mkF m 21 #[.val (.ref x0)] [])) st14 ?_
  have k15_ := ((k8_.ext E7).wr W14 (Or.inl (List.mem_of_getElem? (i := 0) rfl)))
  exact own_end X14 (v := none) (fun _ => rfl) hlk (fun hr => X14.returnOut hx Bd.returns (hb hby own_d11_21) hr) (by rw [e14]; exact ⟨rfl, N14, k15_⟩) (by decide) (by decide)
theorem own_d10_0 : decode prog_80_method_1_code 0 = .ok (.aload_n 0, 1) := by decide +kernel
theorem own_d10_1 : decode prog_80_method_1_code 1 = .ok (.invokespecial 1, 3) := by decide +kernel
theorem own_d10_4 : decode prog_80_method_1_code 4 = .ok (.aload_n 0, 1) := by decide +kernel
theorem own_d10_5 : decode prog_80_method_1_code 5 = .ok (.new 7, 3) := by decide +kernel
theorem own_d10_8 : decode prog_80_method_1_code 8 = .ok (.dup, 1) := by decide +kernel
theorem own_d10_9 : decode prog_80_method_1_code 9 = .ok (.invokespecial 9, 3) := by decide +kernel
theorem own_d10_12 : decode prog_80_method_1_code 12 = .ok (.putfield 10, 3) := by decide +kernel
theorem own_d10_15 : decode prog_80_method_1_code 15 = .ok (.aload_n 0, 1) := by decide +kernel
theorem own_d10_16 : decode prog_80_method_1_code 16 = .ok (.sipush 128, 3) := by decide +kernel
theorem own_d10_19 : decode prog_80_method_1_code 19 = .ok (.invokestatic 16, 3) := by decide +kernel
theorem own_pd__28I_29_5bJ : parseMethodDescriptor "(I)[J" = some ⟨[.int], some (.array .long)⟩ := by decide +kernel
theorem own_d10_22 : decode prog_80_method_1_code 22 = .ok (.putfield 20, 3) := by decide +kernel
theorem own_d10_25 : decode prog_80_method_1_code 25 = .ok (.return_, 1) := by decide +kernel
theorem own_st_ef (m : MethodId) (x0 : Addr) : entryFrame m #[(.ref x0)] 1 = mkF m 0 #[.val (.ref x0)] [] := by  first | (simp [entryFrame, mkF, argsToLocals, Value.category]; done) | rfl
def own_st_Q (Z : State) (x0 : Addr) (h0 : Heap) (n0 : Nat) (v : Option Value) (h : Heap) (L : List Loc) : Prop := v = none ∧ Fr n0 L ∧ Keep h0 h [x0]
set_option maxRecDepth 65536 in
set_option maxHeartbeats 40000000 in
theorem own_st (l : Launch) (Z : State) (a0 : Array Value) (hw : ∀ d ∈ tables_1, d.before a0 Z = true) (ws : List Jvm.Cond) (x0 : Addr) (h0 : Heap) (n0 : Nat) (Z0 : n0 ≤ h0.size) (E_x : Exa Z h0 x0 "com/example/bahikhata/bahikhata/util/StringTable") (g_x : n0 ≤ x0) (U_x : Unt h0 x0) :
    MetFree l (⟨"com/example/bahikhata/bahikhata/util/StringTable", "<init>", "()V"⟩ : MethodName) (head1 (Jvm.Cond.code (⟨"com/example/bahikhata/bahikhata/util/StringTable", "<init>", "()V"⟩ : MethodName) prog_80_method_1_code 1 none :: ws) (⟨2, 4, 1220, 30⟩ : Room)) (fun aa U => aa = #[(.ref x0)] ∧ Z.Warmed39 U.vm ∧ U.heap = h0) (fun _ _ _ _ _ => True) (fun _ U o U' => ∃ v L, o = .returned v ∧ own_st_Q Z x0 h0 n0 v U'.heap L ∧ FrameEnd U o U' L (⟨2, 4, 1220, 30⟩ : Room).cells (⟨2, 4, 1220, 30⟩ : Room).slots) := by
  refine MetFree.of_bodySF (plainFor_of_name own_pn_com_example_bahikhata_bahikhata_util_StringTable) hisR ?_
  intro p e s m args below meth c s₁ Bd hml0 hP hK
  obtain ⟨rfl, hZ, hh⟩ := hP
  have hx := Bd.exec
  have hby := Bd.bytes
  have hml : c.maxLocals = 1 := hml0
  have hown : s.vm.findClass "com/example/bahikhata/bahikhata/util/StringTable" = some m.cls := findClass_of_methodNamed Bd.named
  have hnm := (name_of_methodNamed Bd.named Bd.method).1
  have hlk := Bd.notSynchronized
  have X0 : Stand p l e (⟨2, 4, 1220, 30⟩ : Room) s m #[(.ref x0)] below meth c s₁ [] 0 0 := Stand.of_body Bd
  have e0 : s₁.heap = h0 := by rw [← hh, Bd.state]; rfl
  have N0 := Fr.nil n0
  refine own_start (Q := own_st_Q Z x0 h0 n0) (own_st_ef m x0) ?_
  refine own_g (mkF m 1 #[.val (.ref x0)] [(.ref x0)]) (fun _ q => XS.aloadN X0.here hx rfl (hb hby own_d10_0) rfl rfl q) ?_
  obtain ⟨T1, X1, e1, st1⟩ := initO X0 hx hZ hown (own_h hw 125 rfl) (own_h hw 38 rfl) (own_h hw 39 rfl) e0 (g := (mkF m 1 #[.val (.ref x0)] [(.ref x0)])) rfl (by rw [hml]; rfl) rfl (hb hby own_d10_1) (by decide) (W := 0) (by show 2 * 0 + _ ≤ _; exact Nat.le_of_eq rfl) (by decide)
  refine own_by (g' := (mkF m 4 #[.val (.ref x0)] [])) st1 ?_
  refine own_g (mkF m 5 #[.val (.ref x0)] [(.ref x0)]) (fun _ q => XS.aloadN X1.here hx rfl (hb hby own_d10_4) rfl rfl q) ?_
  obtain ⟨T2, h2, X2, e2, E2, A2, D2, U2, st2⟩ := newO X1 hx hZ hown (own_h hw 126 rfl) (own_h hw 127 rfl) (own_h hw 128 rfl) e1 (g := (mkF m 5 #[.val (.ref x0)] [(.ref x0)])) rfl (hb hby own_d10_5) (by decide) (by decide)
  obtain ⟨b2, g2⟩ : ∃ z, z = h0.size := ⟨_, rfl⟩
  rw [← g2] at A2 D2 U2 st2
  have g_b2 : n0 ≤ b2 := Nat.le_trans (Nat.le_trans Z0 (Keep.refl h0 [x0]).1) (Nat.le_of_eq g2.symm)
  have sz_b2 : h0.size ≤ b2 := Nat.le_trans (Keep.refl h0 [x0]).1 (Nat.le_of_eq g2.symm)
  have ne_x0_b2 : x0 ≠ b2 := Nat.ne_of_lt (Nat.lt_of_lt_of_le E_x.lt (Nat.le_of_eq g2.symm))
  refine own_by (g' := (mkF m 8 #[.val (.ref x0)] [(.ref b2), (.ref x0)])) st2 ?_
  refine own_g (mkF m 9 #[.val (.ref x0)] [(.ref b2), (.ref b2), (.ref x0)]) (fun _ q => XS.dup X2.here hx rfl (hb hby own_d10_8) rfl rfl q) ?_
  have k3_ := ((Keep.refl h0 [x0]).ext E2)
  refine own_callI X2 hx hZ (y := (⟨"com/example/bahikhata/bahikhata/util/StringList", "<init>", "()V"⟩ : MethodName)) rfl hown (own_h hw 129 rfl) (own_h hw 130 rfl) (own_h hw 131 rfl) (own_h hw 128 rfl) (by decide) (own_sl l Z a0 hw [] b2 h2 n0 (Nat.le_trans Z0 k3_.1) A2 g_b2 U2) (by decide) (by decide) e2 (g := (mkF m 9 #[.val (.ref x0)] [(.ref b2), (.ref b2), (.ref x0)])) rfl (by rw [hml]; rfl) (argsL := []) (rest := [(.ref b2), (.ref x0)]) (lenOf own_pd__28_29V rfl) rfl (W := 2) (by show 2 * 0 + _ ≤ _; exact Nat.le_of_eq rfl) (hb hby own_d10_9) rfl (by decide) (by decide) ?_
  rintro rv4 T4 L4 X4 ⟨rfl, Nq4, Kq4⟩
  have N4 := Fr.app N0 Nq4
  show own_Fin p e below _ T4 (mkF m 12 #[.val (.ref x0)] [(.ref b2), (.ref x0)])
  have e5_x0 := ((E_x.ext E2).keep Kq4)
  have x7_x0 := (Unt.keep Kq4 (ninS ne_x0_b2 nin0) (Unt.ext E2 U_x))
  obtain ⟨vo6, Fo6⟩ := own_someF e5_x0 x7_x0 (Or.inr (own_h hw 140 rfl)) (own_h hw 120 rfl)
  obtain ⟨T8, h8, X8, e8, W8, st8⟩ := putF X4 hx hZ hown (host := "") (Or.inl (own_h hw 139 rfl)) Via.refl rfl Fo6 e5_x0 (Or.inr ⟨(own_h hw 140 rfl), rfl, hnm⟩) (own_h hw 120 rfl) (ty := (.object "com/example/bahikhata/bahikhata/util/StringList")) (by decide) (rfl) (rfl) (g := (mkF m 12 #[.val (.ref x0)] [(.ref b2), (.ref x0)])) rfl rfl (hb hby own_d10_12)
  have N8 := Fr.snoc X8 N4 g_x
  refine own_by (g' := (mkF m 15 #[.val (.ref x0)] [])) st8 ?_
  refine own_g (mkF m 19 #[.val (.ref x0)] [(.int 128), (.ref x0)]) (fun _ q => XS.aloadN X8.here hx rfl (hb hby own_d10_15) rfl rfl (XS.sipush X8.here hx rfl (hb hby own_d10_16) q)) ?_
  have k9_ := ((k3_.trans Kq4 (allS (Or.inr sz_b2) all0)).wr W8 (Or.inl (List.mem_of_getElem? (i := 0) rfl)))
  have e10_x0 := (e5_x0.wr W8)
  have e11_b2 := ((A2.keep Kq4).wr W8)
  refine own_callS X8 hx hZ (y := (⟨"com/example/bahikhata/bahikhata/util/StringTable", "emptySlots", "(I)[J"⟩ : MethodName)) hown (own_h hw 141 rfl) (own_h hw 142 rfl) (own_h hw 121 rfl) (own_h hw 143 rfl) (by decide) (own_es l Z a0 hw [] h8 n0 (Nat.le_trans Z0 k9_.1)) (by decide) (by decide) e8 (g := (mkF m 19 #[.val (.ref x0)] [(.int 128), (.ref x0)])) rfl (by rw [hml]; rfl) (argsL := [(.int 128)]) (rest := [(.ref x0)]) (lenOf own_pd__28I_29_5bJ rfl) rfl (W := 1) (by show 2 * 0 + _ ≤ _; exact Nat.le_of_eq rfl) (hb hby own_d10_19) rfl (by decide) (by decide) ?_
  rintro rv12 T12 L12 X12 ⟨ts, rfl, Nq12, Kq12, sz12, g12⟩
  have N12 := Fr.app N8 Nq12
  show own_Fin p e below _ T12 (mkF m 22 #[.val (.ref x0)] [(.ref ts), (.ref x0)])
  have e13_x0 := (e10_x0.keep Kq12)
  have x15_x0 := (Unt.keep Kq12 nin0 (Unt.wr W8 x7_x0))
  obtain ⟨vo14, Fo14⟩ := own_someF e13_x0 x15_x0 (Or.inl (own_h hw 151 rfl)) (own_h hw 120 rfl)
  obtain ⟨T16, h16, X16, e16, W16, st16⟩ := putF X12 hx hZ hown (host := "") (Or.inl (own_h hw 150 rfl)) Via.refl rfl Fo14 e13_x0 (Or.inl (own_h hw 151 rfl)) (own_h hw 120 rfl) (ty := (.array .long)) (by decide) (rfl) (rfl) (g := (mkF m 22 #[.val (.ref x0)] [(.ref ts), (.ref x0)])) rfl rfl (hb hby own_d10_22)
  have N16 := Fr.snoc X16 N12 g_x
  refine own_by (g' := (mkF m 25 #[.val (.ref x0)] [])) st16 ?_
  have k17_ := ((k9_.trans Kq12 all0).wr W16 (Or.inl (List.mem_of_getElem? (i := 0) rfl)))
  exact own_end X16 (v := none) (fun _ => rfl) hlk (fun hr => X16.returnOut hx Bd.returns (hb hby own_d10_25) hr) (by rw [e16]; exact ⟨rfl, N16, k17_⟩) (by decide) (by decide)
theorem own_d9_0 : decode prog_5_method_1_code 0 = .ok (.aload_n 0, 1) := by decide +kernel
theorem own_d9_1 : decode prog_5_method_1_code 1 = .ok (.invokespecial 1, 3) := by decide +kernel
theorem own_d9_4 : decode prog_5_method_1_code 4 = .ok (.aload_n 0, 1) := by decide +kernel
theorem own_d9_5 : decode prog_5_method_1_code 5 = .ok (.new 7, 3) := by decide +kernel
theorem own_d9_8 : decode prog_5_method_1_code 8 = .ok (.dup, 1) := by decide +kernel
theorem own_d9_9 : decode prog_5_method_1_code 9 = .ok (.invokespecial 9, 3) := by decide +kernel
theorem own_d9_12 : decode prog_5_method_1_code 12 = .ok (.putfield 10, 3) := by decide +kernel
theorem own_d9_15 : decode prog_5_method_1_code 15 = .ok (.aload_n 0, 1) := by decide +kernel
theorem own_d9_16 : decode prog_5_method_1_code 16 = .ok (.bipush 16, 2) := by decide +kernel
theorem own_d9_18 : decode prog_5_method_1_code 18 = .ok (.newarray .int, 2) := by decide +kernel
theorem own_d9_20 : decode prog_5_method_1_code 20 = .ok (.putfield 16, 3) := by decide +kernel
theorem own_d9_23 : decode prog_5_method_1_code 23 = .ok (.aload_n 0, 1) := by decide +kernel
theorem own_d9_24 : decode prog_5_method_1_code 24 = .ok (.bipush 16, 2) := by decide +kernel
theorem own_d9_26 : decode prog_5_method_1_code 26 = .ok (.newarray .byte, 2) := by decide +kernel
theorem own_d9_28 : decode prog_5_method_1_code 28 = .ok (.putfield 20, 3) := by decide +kernel
theorem own_d9_31 : decode prog_5_method_1_code 31 = .ok (.aload_n 0, 1) := by decide +kernel
theorem own_d9_32 : decode prog_5_method_1_code 32 = .ok (.aload_n 1, 1) := by decide +kernel
theorem own_d9_33 : decode prog_5_method_1_code 33 = .ok (.putfield 24, 3) := by decide +kernel
theorem own_d9_36 : decode prog_5_method_1_code 36 = .ok (.return_, 1) := by decide +kernel
theorem own_bi_ef (m : MethodId) (x0 : Addr) (fl : Addr) : entryFrame m #[(.ref x0), (.ref fl)] 2 = mkF m 0 #[.val (.ref x0), .val (.ref fl)] [] := by  first | (simp [entryFrame, mkF, argsToLocals, Value.category]; done) | rfl
def own_bi_Q (Z : State) (x0 : Addr) (fl : Addr) (h0 : Heap) (n0 : Nat) (v : Option Value) (h : Heap) (L : List Loc) : Prop := v = none ∧ Fr n0 L ∧ Keep h0 h [x0] ∧ Exa Z h x0 "com/example/bahikhata/bahikhata/io/BookIndex" ∧ Fld Z h x0 "com/example/bahikhata/bahikhata/io/BookIndex" "noted" "I" (.int 0) ∧ ∃ (fb : Addr) (kb : ClassId), Fld Z h x0 "com/example/bahikhata/bahikhata/io/BookIndex" "facts" "[B" (.ref fb) ∧ h0.size ≤ fb ∧ n0 ≤ fb ∧ Arv Z h fb kb .byte (16 : Int32) [(.int 0), (.int 0), (.int 0), (.int 0), (.int 0), (.int 0), (.int 0), (.int 0), (.int 0), (.int 0), (.int 0), (.int 0), (.int 0), (.int 0), (.int 0), (.int 0)] (.int 0)
theorem own_pn_com_example_bahikhata_bahikhata_io_BookIndex : plainName "com/example/bahikhata/bahikhata/io/BookIndex" = true := by first | (simp [plainName, overriddenIn]; done) | decide +kernel
set_option maxRecDepth 65536 in
set_option maxHeartbeats 40000000 in
theorem own_bi (l : Launch) (Z : State) (a0 : Array Value) (hw : ∀ d ∈ tables_1, d.before a0 Z = true) (ws : List Jvm.Cond) (x0 : Addr) (fl : Addr) (h0 : Heap) (n0 : Nat) (Z0 : n0 ≤ h0.size) (E_x : Exa Z h0 x0 "com/example/bahikhata/bahikhata/io/BookIndex") (g_x : n0 ≤ x0) (U_x : Unt h0 x0) (N_x : Fld Z h0 x0 "com/example/bahikhata/bahikhata/io/BookIndex" "noted" "I" (.int 0)) :
    MetFree l own_y0 (head1 (Jvm.Cond.code own_y0 prog_5_method_1_code 2 none :: ws) (⟨3, 7, 1254, 44⟩ : Room)) (fun aa U => aa = #[(.ref x0), (.ref fl)] ∧ Z.Warmed39 U.vm ∧ U.heap = h0) (fun _ _ _ _ _ => True) (fun _ U o U' => ∃ v L, o = .returned v ∧ own_bi_Q Z x0 fl h0 n0 v U'.heap L ∧ FrameEnd U o U' L (⟨3, 7, 1254, 44⟩ : Room).cells (⟨3, 7, 1254, 44⟩ : Room).slots) := by
  refine MetFree.of_bodySF (plainFor_of_name own_pn_com_example_bahikhata_bahikhata_io_BookIndex) hisR ?_
  intro p e s m args below meth c s₁ Bd hml0 hP hK
  obtain ⟨rfl, hZ, hh⟩ := hP
  have hx := Bd.exec
  have hby := Bd.bytes
  have hml : c.maxLocals = 2 := hml0
  have hown : s.vm.findClass "com/example/bahikhata/bahikhata/io/BookIndex" = some m.cls := findClass_of_methodNamed Bd.named
  have hnm := (name_of_methodNamed Bd.named Bd.method).1
  have hlk := Bd.notSynchronized
  have X0 : Stand p l e (⟨3, 7, 1254, 44⟩ : Room) s m #[(.ref x0), (.ref fl)] below meth c s₁ [] 0 0 := Stand.of_body Bd
  have e0 : s₁.heap = h0 := by rw [← hh, Bd.state]; rfl
  have N0 := Fr.nil n0
  refine own_start (Q := own_bi_Q Z x0 fl h0 n0) (own_bi_ef m x0 fl) ?_
  refine own_g (mkF m 1 #[.val (.ref x0), .val (.ref fl)] [(.ref x0)]) (fun _ q => XS.aloadN X0.here hx rfl (hb hby own_d9_0) rfl rfl q) ?_
  obtain ⟨T1, X1, e1, st1⟩ := initO X0 hx hZ hown (own_h hw 118 rfl) (own_h hw 38 rfl) (own_h hw 39 rfl) e0 (g := (mkF m 1 #[.val (.ref x0), .val (.ref fl)] [(.ref x0)])) rfl (by rw [hml]; rfl) rfl (hb hby own_d9_1) (by decide) (W := 0) (by show 2 * 0 + _ ≤ _; exact Nat.le_of_eq rfl) (by decide)
  refine own_by (g' := (mkF m 4 #[.val (.ref x0), .val (.ref fl)] [])) st1 ?_
  refine own_g (mkF m 5 #[.val (.ref x0), .val (.ref fl)] [(.ref x0)]) (fun _ q => XS.aloadN X1.here hx rfl (hb hby own_d9_4) rfl rfl q) ?_
  obtain ⟨T2, h2, X2, e2, E2, A2, D2, U2, st2⟩ := newO X1 hx hZ hown (own_h hw 119 rfl) (own_h hw 120 rfl) (own_h hw 121 rfl) e1 (g := (mkF m 5 #[.val (.ref x0), .val (.ref fl)] [(.ref x0)])) rfl (hb hby own_d9_5) (by decide) (by decide)
  obtain ⟨b2, g2⟩ : ∃ z, z = h0.size := ⟨_, rfl⟩
  rw [← g2] at A2 D2 U2 st2
  have g_b2 : n0 ≤ b2 := Nat.le_trans (Nat.le_trans Z0 (Keep.refl h0 [x0]).1) (Nat.le_of_eq g2.symm)
  have sz_b2 : h0.size ≤ b2 := Nat.le_trans (Keep.refl h0 [x0]).1 (Nat.le_of_eq g2.symm)
  have ne_x0_b2 : x0 ≠ b2 := Nat.ne_of_lt (Nat.lt_of_lt_of_le E_x.lt (Nat.le_of_eq g2.symm))
  refine own_by (g' := (mkF m 8 #[.val (.ref x0), .val (.ref fl)] [(.ref b2), (.ref x0)])) st2 ?_
  refine own_g (mkF m 9 #[.val (.ref x0), .val (.ref fl)] [(.ref b2), (.ref b2), (.ref x0)]) (fun _ q => XS.dup X2.here hx rfl (hb hby own_d9_8) rfl rfl q) ?_
  have k3_ := ((Keep.refl h0 [x0]).ext E2)
  refine own_callI X2 hx hZ (y := (⟨"com/example/bahikhata/bahikhata/util/StringTable", "<init>", "()V"⟩ : MethodName)) rfl hown (own_h hw 122 rfl) (own_h hw 123 rfl) (own_h hw 124 rfl) (own_h hw 121 rfl) (by decide) (own_st l Z a0 hw [] b2 h2 n0 (Nat.le_trans Z0 k3_.1) A2 g_b2 U2) (by decide) (by decide) e2 (g := (mkF m 9 #[.val (.ref x0), .val (.ref fl)] [(.ref b2), (.ref b2), (.ref x0)])) rfl (by rw [hml]; rfl) (argsL := []) (rest := [(.ref b2), (.ref x0)]) (lenOf own_pd__28_29V rfl) rfl (W := 2) (by show 2 * 0 + _ ≤ _; exact Nat.le_of_eq rfl) (hb hby own_d9_9) rfl (by decide) (by decide) ?_
  rintro rv4 T4 L4 X4 ⟨rfl, Nq4, Kq4⟩
  have N4 := Fr.app N0 Nq4
  show own_Fin p e below _ T4 (mkF m 12 #[.val (.ref x0), .val (.ref fl)] [(.ref b2), (.ref x0)])
  have e5_x0 := ((E_x.ext E2).keep Kq4)
  have x7_x0 := (Unt.keep Kq4 (ninS ne_x0_b2 nin0) (Unt.ext E2 U_x))
  obtain ⟨vo6, Fo6⟩ := own_someF e5_x0 x7_x0 (Or.inr (own_h hw 153 rfl)) (own_h hw 112 rfl)
  obtain ⟨T8, h8, X8, e8, W8, st8⟩ := putF X4 hx hZ hown (host := "") (Or.inl (own_h hw 152 rfl)) Via.refl rfl Fo6 e5_x0 (Or.inr ⟨(own_h hw 153 rfl), rfl, hnm⟩) (own_h hw 112 rfl) (ty := (.object "com/example/bahikhata/bahikhata/util/StringTable")) (by decide) (rfl) (rfl) (g := (mkF m 12 #[.val (.ref x0), .val (.ref fl)] [(.ref b2), (.ref x0)])) rfl rfl (hb hby own_d9_12)
  have N8 := Fr.snoc X8 N4 g_x
  refine own_by (g' := (mkF m 15 #[.val (.ref x0), .val (.ref fl)] [])) st8 ?_
  refine own_g (mkF m 18 #[.val (.ref x0), .val (.ref fl)] [(.int 16), (.ref x0)]) (fun _ q => XS.aloadN X8.here hx rfl (hb hby own_d9_15) rfl rfl (XS.bipush X8.here hx rfl (hb hby own_d9_16) q)) ?_
  obtain ⟨T9, h9, k9, X9, e9, E9, A9, st9⟩ := newP X8 hx hZ (own_h hw 136 rfl) e8 (g := (mkF m 18 #[.val (.ref x0), .val (.ref fl)] [(.int 16), (.ref x0)])) rfl (hb hby own_d9_18) rfl (by decide) (cap := 16) (by decide) (by decide) (by decide) (by decide)
  obtain ⟨b9, g9⟩ : ∃ z, z = h8.size := ⟨_, rfl⟩
  rw [← g9] at A9 st9
  have k10_ := ((k3_.trans Kq4 (allS (Or.inr sz_b2) all0)).wr W8 (Or.inl (List.mem_of_getElem? (i := 0) rfl)))
  have g_b9 : n0 ≤ b9 := Nat.le_trans (Nat.le_trans Z0 k10_.1) (Nat.le_of_eq g9.symm)
  have sz_b9 : h0.size ≤ b9 := Nat.le_trans k10_.1 (Nat.le_of_eq g9.symm)
  have e11_x0 := (e5_x0.wr W8)
  have ne_x0_b9 : x0 ≠ b9 := Nat.ne_of_lt (Nat.lt_of_lt_of_le e11_x0.lt (Nat.le_of_eq g9.symm))
  have e12_b2 := ((A2.keep Kq4).wr W8)
  have ne_b2_b9 : b2 ≠ b9 := Nat.ne_of_lt (Nat.lt_of_lt_of_le e12_b2.lt (Nat.le_of_eq g9.symm))
  have V_b9 : Arv Z h9 b9 k9 .int (16 : Int32) [(.int 0), (.int 0), (.int 0), (.int 0), (.int 0), (.int 0), (.int 0), (.int 0), (.int 0), (.int 0), (.int 0), (.int 0), (.int 0), (.int 0), (.int 0), (.int 0)] (.int 0) := (Arv.new A9 (by decide)).pad (pad_rep [] (.int 0) 16)
  refine own_by (g' := (mkF m 20 #[.val (.ref x0), .val (.ref fl)] [(.ref b9), (.ref x0)])) st9 ?_
  have e13_x0 := (e11_x0.ext E9)
  have x15_x0 := (Unt.ext E9 (Unt.wr W8 x7_x0))
  obtain ⟨vo14, Fo14⟩ := own_someF e13_x0 x15_x0 (Or.inl (own_h hw 155 rfl)) (own_h hw 112 rfl)
  obtain ⟨T16, h16, X16, e16, W16, st16⟩ := putF X9 hx hZ hown (host := "") (Or.inl (own_h hw 154 rfl)) Via.refl e9 Fo14 e13_x0 (Or.inl (own_h hw 155 rfl)) (own_h hw 112 rfl) (ty := (.array .int)) (by decide) (rfl) (rfl) (g := (mkF m 20 #[.val (.ref x0), .val (.ref fl)] [(.ref b9), (.ref x0)])) rfl rfl (hb hby own_d9_20)
  have N16 := Fr.snoc X16 N8 g_x
  refine own_by (g' := (mkF m 23 #[.val (.ref x0), .val (.ref fl)] [])) st16 ?_
  refine own_g (mkF m 26 #[.val (.ref x0), .val (.ref fl)] [(.int 16), (.ref x0)]) (fun _ q => XS.aloadN X16.here hx rfl (hb hby own_d9_23) rfl rfl (XS.bipush X16.here hx rfl (hb hby own_d9_24) q)) ?_
  obtain ⟨T17, h17, k17, X17, e17, E17, A17, st17⟩ := newP X16 hx hZ (own_h hw 23 rfl) e16 (g := (mkF m 26 #[.val (.ref x0), .val (.ref fl)] [(.int 16), (.ref x0)])) rfl (hb hby own_d9_26) rfl (by decide) (cap := 16) (by decide) (by decide) (by decide) (by decide)
  obtain ⟨b17, g17⟩ : ∃ z, z = h16.size := ⟨_, rfl⟩
  rw [← g17] at A17 st17
  have k18_ := ((k10_.ext E9).wr W16 (Or.inl (List.mem_of_getElem? (i := 0) rfl)))
  have g_b17 : n0 ≤ b17 := Nat.le_trans (Nat.le_trans Z0 k18_.1) (Nat.le_of_eq g17.symm)
  have sz_b17 : h0.size ≤ b17 := Nat.le_trans k18_.1 (Nat.le_of_eq g17.symm)
  have e19_x0 := (e13_x0.wr W16)
  have ne_x0_b17 : x0 ≠ b17 := Nat.ne_of_lt (Nat.lt_of_lt_of_le e19_x0.lt (Nat.le_of_eq g17.symm))
  have e20_b2 := ((e12_b2.ext E9).wr W16)
  have ne_b2_b17 : b2 ≠ b17 := Nat.ne_of_lt (Nat.lt_of_lt_of_le e20_b2.lt (Nat.le_of_eq g17.symm))
  have a21_b9 := (V_b9.other W16 (Ne.symm ne_x0_b9))
  have ne_b9_b17 : b9 ≠ b17 := Nat.ne_of_lt (Nat.lt_of_lt_of_le a21_b9.lt (Nat.le_of_eq g17.symm))
  have V_b17 : Arv Z h17 b17 k17 .byte (16 : Int32) [(.int 0), (.int 0), (.int 0), (.int 0), (.int 0), (.int 0), (.int 0), (.int 0), (.int 0), (.int 0), (.int 0), (.int 0), (.int 0), (.int 0), (.int 0), (.int 0)] (.int 0) := (Arv.new A17 (by decide)).pad (pad_rep [] (.int 0) 16)
  refine own_by (g' := (mkF m 28 #[.val (.ref x0), .val (.ref fl)] [(.ref b17), (.ref x0)])) st17 ?_
  have e22_x0 := (e19_x0.ext E17)
  have x24_x0 := (Unt.ext E17 (Unt.wr W16 x15_x0))
  obtain ⟨vo23, Fo23⟩ := own_someF e22_x0 x24_x0 (Or.inl (own_h hw 157 rfl)) (own_h hw 112 rfl)
  obtain ⟨T25, h25, X25, e25, W25, st25⟩ := putF X17 hx hZ hown (host := "") (Or.inl (own_h hw 156 rfl)) Via.refl e17 Fo23 e22_x0 (Or.inl (own_h hw 157 rfl)) (own_h hw 112 rfl) (ty := (.array .byte)) (by decide) (rfl) (rfl) (g := (mkF m 28 #[.val (.ref x0), .val (.ref fl)] [(.ref b17), (.ref x0)])) rfl rfl (hb hby own_d9_28)
  have Fw25 := Fo23.same W25
  have N25 := Fr.snoc X25 N16 g_x
  refine own_by (g' := (mkF m 31 #[.val (.ref x0), .val (.ref fl)] [])) st25 ?_
  refine own_g (mkF m 33 #[.val (.ref x0), .val (.ref fl)] [(.ref fl), (.ref x0)]) (fun _ q => XS.aloadN X25.here hx rfl (hb hby own_d9_31) rfl rfl (XS.aloadN X25.here hx rfl (hb hby own_d9_32) rfl rfl q)) ?_
  have e26_x0 := (e22_x0.wr W25)
  have x28_x0 := (Unt.wr W25 x24_x0)
  obtain ⟨vo27, Fo27⟩ := own_someF e26_x0 x28_x0 (Or.inr (own_h hw 159 rfl)) (own_h hw 112 rfl)
  obtain ⟨T29, h29, X29, e29, W29, st29⟩ := putF X25 hx hZ hown (host := "") (Or.inl (own_h hw 158 rfl)) Via.refl e25 Fo27 e26_x0 (Or.inr ⟨(own_h hw 159 rfl), rfl, hnm⟩) (own_h hw 112 rfl) (ty := (.object "java/lang/String")) (by decide) (rfl) (rfl) (g := (mkF m 33 #[.val (.ref x0), .val (.ref fl)] [(.ref fl), (.ref x0)])) rfl rfl (hb hby own_d9_33)
  have N29 := Fr.snoc X29 N25 g_x
  refine own_by (g' := (mkF m 36 #[.val (.ref x0), .val (.ref fl)] [])) st29 ?_
  have k30_ := (((k18_.ext E17).wr W25 (Or.inl (List.mem_of_getElem? (i := 0) rfl))).wr W29 (Or.inl (List.mem_of_getElem? (i := 0) rfl)))
  have e31_x0 := (e26_x0.wr W29)
  have f32_x0 := ((((((((N_x.ext E2).keep Kq4 (ninS ne_x0_b2 nin0)).other W8 (Or.inr (slot_ne (Or.inl (own_h hw 166 rfl)) (Or.inr (own_h hw 153 rfl)) (by decide) (t := .int) (t' := (.object "com/example/bahikhata/bahikhata/util/StringTable")) (by decide) (by decide)))).ext E9).other W16 (Or.inr (slot_ne (Or.inl (own_h hw 166 rfl)) (Or.inl (own_h hw 155 rfl)) (by decide) (t := .int) (t' := (.array .int)) (by decide) (by decide)))).ext E17).other W25 (Or.inr (slot_ne (Or.inl (own_h hw 166 rfl)) (Or.inl (own_h hw 157 rfl)) (by decide) (t := .int) (t' := (.array .byte)) (by decide) (by decide)))).other W29 (Or.inr (slot_ne (Or.inl (own_h hw 166 rfl)) (Or.inr (own_h hw 159 rfl)) (by decide) (t := .int) (t' := (.object "java/lang/String")) (by decide) (by decide))))
  have f33_x0 := (Fw25.other W29 (Or.inr (slot_ne (Or.inl (own_h hw 157 rfl)) (Or.inr (own_h hw 159 rfl)) (by decide) (t := (.array .byte)) (t' := (.object "java/lang/String")) (by decide) (by decide))))
  have a34_b17 := ((V_b17.other W25 (Ne.symm ne_x0_b17)).other W29 (Ne.symm ne_x0_b17))
  exact own_end X29 (v := none) (fun _ => rfl) hlk (fun hr => X29.returnOut hx Bd.returns (hb hby own_d9_36) hr) (by rw [e29]; exact ⟨rfl, N29, k30_, e31_x0, f32_x0, b17, k17, f33_x0, sz_b17, g_b17, a34_b17⟩) (by decide) (by decide)
theorem own_d15_0 : decode prog_53_method_12_code 0 = .ok (.aload_n 0, 1) := by decide +kernel
theorem own_d15_1 : decode prog_53_method_12_code 1 = .ok (.getfield 60, 3) := by decide +kernel
theorem own_d15_4 : decode prog_53_method_12_code 4 = .ok (.areturn, 1) := by decide +kernel
theorem own_lod_ef (m : MethodId) (a : Addr) : entryFrame m #[(.ref a)] 1 = mkF m 0 #[.val (.ref a)] [] := by  first | (simp [entryFrame, mkF, argsToLocals, Value.category]; done) | rfl
def own_lod_Q (Z : State) (a : Addr) (sv : Value) (h0 : Heap) (n0 : Nat) (v : Option Value) (h : Heap) (L : List Loc) : Prop := v = some sv ∧ Fr n0 L ∧ h = h0
set_option maxRecDepth 65536 in
set_option maxHeartbeats 40000000 in
theorem own_lod (l : Launch) (Z : State) (a0 : Array Value) (hw : ∀ d ∈ tables_1, d.before a0 Z = true) (ws : List Jvm.Cond) (a : Addr) (sv : Value) (h0 : Heap) (n0 : Nat) (Z0 : n0 ≤ h0.size) (hsv : sv.isRef = true) (F_a : Fld Z h0 a "com/example/bahikhata/bahikhata/model/Loan" "overdueSince" "Ljava/time/LocalDate;" sv) :
    MetFree l own_y10 (head1 (Jvm.Cond.code own_y10 prog_53_method_12_code 1 (some (.object "java/time/LocalDate")) :: ws) (⟨0, 0, 0, 0⟩ : Room)) (fun aa U => aa = #[(.ref a)] ∧ Z.Warmed39 U.vm ∧ U.heap = h0) (fun _ _ _ _ _ => True) (fun _ U o U' => ∃ v L, o = .returned v ∧ own_lod_Q Z a sv h0 n0 v U'.heap L ∧ FrameEnd U o U' L (⟨0, 0, 0, 0⟩ : Room).cells (⟨0, 0, 0, 0⟩ : Room).slots) := by
  refine MetFree.of_bodySF (plainFor_of_name own_pn_com_example_bahikhata_bahikhata_model_Loan) hisR ?_
  intro p e s m args below meth c s₁ Bd hml0 hP hK
  obtain ⟨rfl, hZ, hh⟩ := hP
  have hx := Bd.exec
  have hby := Bd.bytes
  have hml : c.maxLocals = 1 := hml0
  have hown : s.vm.findClass "com/example/bahikhata/bahikhata/model/Loan" = some m.cls := findClass_of_methodNamed Bd.named
  have hnm := (name_of_methodNamed Bd.named Bd.method).1
  have hlk := Bd.notSynchronized
  have X0 : Stand p l e (⟨0, 0, 0, 0⟩ : Room) s m #[(.ref a)] below meth c s₁ [] 0 0 := Stand.of_body Bd
  have e0 : s₁.heap = h0 := by rw [← hh, Bd.state]; rfl
  have N0 := Fr.nil n0
  refine own_start (Q := own_lod_Q Z a sv h0 n0) (own_lod_ef m a) ?_
  refine own_g (mkF m 1 #[.val (.ref a)] [(.ref a)]) (fun _ q => XS.aloadN X0.here hx rfl (hb hby own_d15_0) rfl rfl q) ?_
  obtain ⟨T1, X1, e1, st1⟩ := getF X0 hx hZ hown (host := "") (Or.inl (own_h hw 67 rfl)) Via.refl e0 F_a (g := (mkF m 1 #[.val (.ref a)] [(.ref a)])) rfl rfl (hb hby own_d15_1)
  refine own_by (g' := (mkF m 4 #[.val (.ref a)] [sv])) st1 ?_
  exact own_end X1 (v := some sv) (fun h => by rw [Bd.returns] at h; cases h) hlk (fun hr => retOut X1 hx Bd.returns (own_narR rfl) (Or.inr (Or.inr (Or.inr (Or.inr ⟨rfl, rfl, hsv⟩)))) (hb hby own_d15_4) hr) (by rw [e1]; exact ⟨rfl, N0, rfl⟩) (by decide) (by decide)
theorem own_d16_0 : decode prog_53_method_10_code 0 = .ok (.aload_n 0, 1) := by decide +kernel
theorem own_d16_1 : decode prog_53_method_10_code 1 = .ok (.getfield 54, 3) := by decide +kernel
theorem own_d16_4 : decode prog_53_method_10_code 4 = .ok (.areturn, 1) := by decide +kernel
theorem own_lof_ef (m : MethodId) (a : Addr) : entryFrame m #[(.ref a)] 1 = mkF m 0 #[.val (.ref a)] [] := by  first | (simp [entryFrame, mkF, argsToLocals, Value.category]; done) | rfl
def own_lof_Q (Z : State) (a : Addr) (fc : Addr) (h0 : Heap) (n0 : Nat) (v : Option Value) (h : Heap) (L : List Loc) : Prop := v = some (.ref fc) ∧ Fr n0 L ∧ h = h0
set_option maxRecDepth 65536 in
set_option maxHeartbeats 40000000 in
theorem own_lof (l : Launch) (Z : State) (a0 : Array Value) (hw : ∀ d ∈ tables_1, d.before a0 Z = true) (ws : List Jvm.Cond) (a : Addr) (fc : Addr) (h0 : Heap) (n0 : Nat) (Z0 : n0 ≤ h0.size) (F_a : Fld Z h0 a "com/example/bahikhata/bahikhata/model/Loan" "facility" "Lcom/example/bahikhata/bahikhata/model/Facility;" (.ref fc)) :
    MetFree l own_y9 (head1 (Jvm.Cond.code own_y9 prog_53_method_10_code 1 (some (.object "com/example/bahikhata/bahikhata/model/Facility")) :: ws) (⟨0, 0, 0, 0⟩ : Room)) (fun aa U => aa = #[(.ref a)] ∧ Z.Warmed39 U.vm ∧ U.heap = h0) (fun _ _ _ _ _ => True) (fun _ U o U' => ∃ v L, o = .returned v ∧ own_lof_Q Z a fc h0 n0 v U'.heap L ∧ FrameEnd U o U' L (⟨0, 0, 0, 0⟩ : Room).cells (⟨0, 0, 0, 0⟩ : Room).slots) := by
  refine MetFree.of_bodySF (plainFor_of_name own_pn_com_example_bahikhata_bahikhata_model_Loan) hisR ?_
  intro p e s m args below meth c s₁ Bd hml0 hP hK
  obtain ⟨rfl, hZ, hh⟩ := hP
  have hx := Bd.exec
  have hby := Bd.bytes
  have hml : c.maxLocals = 1 := hml0
  have hown : s.vm.findClass "com/example/bahikhata/bahikhata/model/Loan" = some m.cls := findClass_of_methodNamed Bd.named
  have hnm := (name_of_methodNamed Bd.named Bd.method).1
  have hlk := Bd.notSynchronized
  have X0 : Stand p l e (⟨0, 0, 0, 0⟩ : Room) s m #[(.ref a)] below meth c s₁ [] 0 0 := Stand.of_body Bd
  have e0 : s₁.heap = h0 := by rw [← hh, Bd.state]; rfl
  have N0 := Fr.nil n0
  refine own_start (Q := own_lof_Q Z a fc h0 n0) (own_lof_ef m a) ?_
  refine own_g (mkF m 1 #[.val (.ref a)] [(.ref a)]) (fun _ q => XS.aloadN X0.here hx rfl (hb hby own_d16_0) rfl rfl q) ?_
  obtain ⟨T1, X1, e1, st1⟩ := getF X0 hx hZ hown (host := "") (Or.inl (own_h hw 63 rfl)) Via.refl e0 F_a (g := (mkF m 1 #[.val (.ref a)] [(.ref a)])) rfl rfl (hb hby own_d16_1)
  refine own_by (g' := (mkF m 4 #[.val (.ref a)] [(.ref fc)])) st1 ?_
  exact own_end X1 (v := some (.ref fc)) (fun h => by rw [Bd.returns] at h; cases h) hlk (fun hr => retOut X1 hx Bd.returns (own_narR rfl) (Or.inr (Or.inr (Or.inr (Or.inr ⟨rfl, rfl, rfl⟩)))) (hb hby own_d16_4) hr) (by rw [e1]; exact ⟨rfl, N0, rfl⟩) (by decide) (by decide)
theorem own_d17_0 : decode jdk_37_method_2_code 0 = .ok (.aload_n 0, 1) := by decide +kernel
theorem own_d17_1 : decode jdk_37_method_2_code 1 = .ok (.getfield 7, 3) := by decide +kernel
theorem own_d17_4 : decode jdk_37_method_2_code 4 = .ok (.ireturn, 1) := by decide +kernel
theorem own_ord_ef (m : MethodId) (a : Addr) : entryFrame m #[(.ref a)] 1 = mkF m 0 #[.val (.ref a)] [] := by  first | (simp [entryFrame, mkF, argsToLocals, Value.category]; done) | rfl
def own_ord_Q (Z : State) (a : Addr) (oo : Int32) (h0 : Heap) (n0 : Nat) (v : Option Value) (h : Heap) (L : List Loc) : Prop := v = some (.int oo) ∧ Fr n0 L ∧ h = h0
theorem own_pn_java_lang_Enum : plainName "java/lang/Enum" = true := by first | (simp [plainName, overriddenIn]; done) | decide +kernel
set_option maxRecDepth 65536 in
set_option maxHeartbeats 40000000 in
theorem own_ord (l : Launch) (Z : State) (a0 : Array Value) (hw : ∀ d ∈ tables_1, d.before a0 Z = true) (ws : List Jvm.Cond) (a : Addr) (oo : Int32) (h0 : Heap) (n0 : Nat) (Z0 : n0 ≤ h0.size) (F_a : Fld Z h0 a "java/lang/Enum" "ordinal" "I" (.int oo)) :
    MetFree l own_y14 (head1 (Jvm.Cond.code own_y14 jdk_37_method_2_code 1 (some .int) :: ws) (⟨0, 0, 0, 0⟩ : Room)) (fun aa U => aa = #[(.ref a)] ∧ Z.Warmed39 U.vm ∧ U.heap = h0) (fun _ _ _ _ _ => True) (fun _ U o U' => ∃ v L, o = .returned v ∧ own_ord_Q Z a oo h0 n0 v U'.heap L ∧ FrameEnd U o U' L (⟨0, 0, 0, 0⟩ : Room).cells (⟨0, 0, 0, 0⟩ : Room).slots) := by
  refine MetFree.of_bodySF (plainFor_of_name own_pn_java_lang_Enum) hisR ?_
  intro p e s m args below meth c s₁ Bd hml0 hP hK
  obtain ⟨rfl, hZ, hh⟩ := hP
  have hx := Bd.exec
  have hby := Bd.bytes
  have hml : c.maxLocals = 1 := hml0
  have hown : s.vm.findClass "java/lang/Enum" = some m.cls := findClass_of_methodNamed Bd.named
  have hnm := (name_of_methodNamed Bd.named Bd.method).1
  have hlk := Bd.notSynchronized
  have X0 : Stand p l e (⟨0, 0, 0, 0⟩ : Room) s m #[(.ref a)] below meth c s₁ [] 0 0 := Stand.of_body Bd
  have e0 : s₁.heap = h0 := by rw [← hh, Bd.state]; rfl
  have N0 := Fr.nil n0
  refine own_start (Q := own_ord_Q Z a oo h0 n0) (own_ord_ef m a) ?_
  refine own_g (mkF m 1 #[.val (.ref a)] [(.ref a)]) (fun _ q => XS.aloadN X0.here hx rfl (hb hby own_d17_0) rfl rfl q) ?_
  obtain ⟨T1, X1, e1, st1⟩ := getF X0 hx hZ hown (host := "") (Or.inl (own_h hw 184 rfl)) Via.refl e0 F_a (g := (mkF m 1 #[.val (.ref a)] [(.ref a)])) rfl rfl (hb hby own_d17_1)
  refine own_by (g' := (mkF m 4 #[.val (.ref a)] [(.int oo)])) st1 ?_
  exact own_end X1 (v := some (.int oo)) (fun h => by rw [Bd.returns] at h; cases h) hlk (fun hr => retOut X1 hx Bd.returns rfl (Or.inl ⟨rfl, Or.inl rfl, _, rfl⟩) (hb hby own_d17_4) hr) (by rw [e1]; exact ⟨rfl, N0, rfl⟩) (by decide) (by decide)
theorem own_d14_0 : decode prog_5_method_9_code 0 = .ok (.aload_n 0, 1) := by decide +kernel
theorem own_d14_1 : decode prog_5_method_9_code 1 = .ok (.getfield 31, 3) := by decide +kernel
theorem own_d14_4 : decode prog_5_method_9_code 4 = .ok (.aload_n 0, 1) := by decide +kernel
theorem own_d14_5 : decode prog_5_method_9_code 5 = .ok (.getfield 20, 3) := by decide +kernel
theorem own_d14_8 : decode prog_5_method_9_code 8 = .ok (.arraylength, 1) := by decide +kernel
theorem own_d14_9 : decode prog_5_method_9_code 9 = .ok (.if_icmp .ne 21, 3) := by decide +kernel
theorem own_d14_30 : decode prog_5_method_9_code 30 = .ok (.aload_n 1, 1) := by decide +kernel
theorem own_d14_31 : decode prog_5_method_9_code 31 = .ok (.invokevirtual 88, 3) := by decide +kernel
theorem own_pd__28_29Ljava_2ftime_2fLocalDate_3b : parseMethodDescriptor "()Ljava/time/LocalDate;" = some ⟨[], some (.object "java/time/LocalDate")⟩ := by decide +kernel
theorem own_d14_34 : decode prog_5_method_9_code 34 = .ok (.ifnonnull 7, 3) := by decide +kernel
theorem own_d14_37 : decode prog_5_method_9_code 37 = .ok (.iconst 0, 1) := by decide +kernel
theorem own_d14_38 : decode prog_5_method_9_code 38 = .ok (.goto 5, 3) := by decide +kernel
theorem own_d14_43 : decode prog_5_method_9_code 43 = .ok (.istore_n 2, 1) := by decide +kernel
theorem own_d14_44 : decode prog_5_method_9_code 44 = .ok (.aload_n 0, 1) := by decide +kernel
theorem own_d14_45 : decode prog_5_method_9_code 45 = .ok (.getfield 20, 3) := by decide +kernel
theorem own_d14_48 : decode prog_5_method_9_code 48 = .ok (.aload_n 0, 1) := by decide +kernel
theorem own_d14_49 : decode prog_5_method_9_code 49 = .ok (.getfield 31, 3) := by decide +kernel
theorem own_d14_52 : decode prog_5_method_9_code 52 = .ok (.aload_n 1, 1) := by decide +kernel
theorem own_d14_53 : decode prog_5_method_9_code 53 = .ok (.invokevirtual 92, 3) := by decide +kernel
theorem own_pd__28_29Lcom_2fexample_2fbahikhata_2fbahikhata_2fmodel_2fFacility_3b : parseMethodDescriptor "()Lcom/example/bahikhata/bahikhata/model/Facility;" = some ⟨[], some (.object "com/example/bahikhata/bahikhata/model/Facility")⟩ := by decide +kernel
theorem own_d14_56 : decode prog_5_method_9_code 56 = .ok (.invokevirtual 96, 3) := by decide +kernel
theorem own_pd__28_29I : parseMethodDescriptor "()I" = some ⟨[], some .int⟩ := by decide +kernel
theorem own_d14_59 : decode prog_5_method_9_code 59 = .ok (.iload_n 2, 1) := by decide +kernel
theorem own_d14_60 : decode prog_5_method_9_code 60 = .ok (.ior, 1) := by decide +kernel
theorem own_d14_61 : decode prog_5_method_9_code 61 = .ok (.i2b, 1) := by decide +kernel
theorem own_d14_62 : decode prog_5_method_9_code 62 = .ok (.bastore, 1) := by decide +kernel
theorem own_d14_63 : decode prog_5_method_9_code 63 = .ok (.aload_n 0, 1) := by decide +kernel
theorem own_d14_64 : decode prog_5_method_9_code 64 = .ok (.dup, 1) := by decide +kernel
theorem own_d14_65 : decode prog_5_method_9_code 65 = .ok (.getfield 31, 3) := by decide +kernel
theorem own_d14_68 : decode prog_5_method_9_code 68 = .ok (.iconst 1, 1) := by decide +kernel
theorem own_d14_69 : decode prog_5_method_9_code 69 = .ok (.iadd, 1) := by decide +kernel
theorem own_d14_70 : decode prog_5_method_9_code 70 = .ok (.putfield 31, 3) := by decide +kernel
theorem own_d14_73 : decode prog_5_method_9_code 73 = .ok (.return_, 1) := by decide +kernel
theorem own_d14_41 : decode prog_5_method_9_code 41 = .ok (.bipush 64, 2) := by decide +kernel
theorem own_note0_ef (m : MethodId) (x : Addr) (ln : Addr) : entryFrame m #[(.ref x), (.ref ln)] 3 = mkF m 0 #[.val (.ref x), .val (.ref ln), .unset] [] := by  first | (simp [entryFrame, mkF, argsToLocals, Value.category]; done) | rfl
def own_note0_Q (Z : State) (x : Addr) (ln : Addr) (fb : Addr) (kb : ClassId) (fc : Addr) (oo : Int32) (sv : Value) (h0 : Heap) (n0 : Nat) (v : Option Value) (h : Heap) (L : List Loc) : Prop := v = none ∧ Fr n0 L ∧ Keep h0 h [x, fb] ∧ Fld Z h x "com/example/bahikhata/bahikhata/io/BookIndex" "noted" "I" (.int 1) ∧ Fld Z h x "com/example/bahikhata/bahikhata/io/BookIndex" "facts" "[B" (.ref fb) ∧ Arv Z h fb kb .byte (16 : Int32) [(.int (own_nb oo sv)), (.int 0), (.int 0), (.int 0), (.int 0), (.int 0), (.int 0), (.int 0), (.int 0), (.int 0), (.int 0), (.int 0), (.int 0), (.int 0), (.int 0), (.int 0)] (.int 0)
set_option maxRecDepth 65536 in
set_option maxHeartbeats 40000000 in
theorem own_note0 (l : Launch) (Z : State) (a0 : Array Value) (hw : ∀ d ∈ tables_1, d.before a0 Z = true) (ws : List Jvm.Cond) (x : Addr) (ln : Addr) (fb : Addr) (kb : ClassId) (fc : Addr) (oo : Int32) (sv : Value) (h0 : Heap) (n0 : Nat) (Z0 : n0 ≤ h0.size) (hsv : sv.isRef = true) (E_x : Exa Z h0 x "com/example/bahikhata/bahikhata/io/BookIndex") (N_x : Fld Z h0 x "com/example/bahikhata/bahikhata/io/BookIndex" "noted" "I" (.int 0)) (B_x : Fld Z h0 x "com/example/bahikhata/bahikhata/io/BookIndex" "facts" "[B" (.ref fb)) (A_b : Arv Z h0 fb kb .byte (16 : Int32) [(.int 0), (.int 0), (.int 0), (.int 0), (.int 0), (.int 0), (.int 0), (.int 0), (.int 0), (.int 0), (.int 0), (.int 0), (.int 0), (.int 0), (.int 0), (.int 0)] (.int 0)) (E_l : Exa Z h0 ln "com/example/bahikhata/bahikhata/model/Loan") (F_o : Fld Z h0 ln "com/example/bahikhata/bahikhata/model/Loan" "overdueSince" "Ljava/time/LocalDate;" sv) (F_f : Fld Z h0 ln "com/example/bahikhata/bahikhata/model/Loan" "facility" "Lcom/example/bahikhata/bahikhata/model/Facility;" (.ref fc)) (E_f : Exa Z h0 fc "com/example/bahikhata/bahikhata/model/Facility") (O_f : Fld Z h0 fc "java/lang/Enum" "ordinal" "I" (.int oo)) (g_x : n0 ≤ x) (g_b : n0 ≤ fb) (n_xb : x ≠ fb) :
    MetFree l own_y2 (head1 (Jvm.Cond.code own_y2 prog_5_method_9_code 3 none :: ws) (⟨1, 0, 0, 14⟩ : Room)) (fun aa U => aa = #[(.ref x), (.ref ln)] ∧ Z.Warmed39 U.vm ∧ U.heap = h0) (fun _ _ _ _ _ => True) (fun _ U o U' => ∃ v L, o = .returned v ∧ own_note0_Q Z x ln fb kb fc oo sv h0 n0 v U'.heap L ∧ FrameEnd U o U' L (⟨1, 0, 0, 14⟩ : Room).cells (⟨1, 0, 0, 14⟩ : Room).slots) := by
  refine MetFree.of_bodySF (plainFor_of_name own_pn_com_example_bahikhata_bahikhata_io_BookIndex) hisR ?_
  intro p e s m args below meth c s₁ Bd hml0 hP hK
  obtain ⟨rfl, hZ, hh⟩ := hP
  have hx := Bd.exec
  have hby := Bd.bytes
  have hml : c.maxLocals = 3 := hml0
  have hown : s.vm.findClass "com/example/bahikhata/bahikhata/io/BookIndex" = some m.cls := findClass_of_methodNamed Bd.named
  have hnm := (name_of_methodNamed Bd.named Bd.method).1
  have hlk := Bd.notSynchronized
  have X0 : Stand p l e (⟨1, 0, 0, 14⟩ : Room) s m #[(.ref x), (.ref ln)] below meth c s₁ [] 0 0 := Stand.of_body Bd
  have e0 : s₁.heap = h0 := by rw [← hh, Bd.state]; rfl
  have N0 := Fr.nil n0
  refine own_start (Q := own_note0_Q Z x ln fb kb fc oo sv h0 n0) (own_note0_ef m x ln) ?_
  refine own_g (mkF m 1 #[.val (.ref x), .val (.ref ln), .unset] [(.ref x)]) (fun _ q => XS.aloadN X0.here hx rfl (hb hby own_d14_0) rfl rfl q) ?_
  obtain ⟨T1, X1, e1, st1⟩ := getF X0 hx hZ hown (host := "") (Or.inl (own_h hw 165 rfl)) Via.refl e0 N_x (g := (mkF m 1 #[.val (.ref x), .val (.ref ln), .unset] [(.ref x)])) rfl rfl (hb hby own_d14_1)
  refine own_by (g' := (mkF m 4 #[.val (.ref x), .val (.ref ln), .unset] [(.int 0)])) st1 ?_
  refine own_g (mkF m 5 #[.val (.ref x), .val (.ref ln), .unset] [(.ref x), (.int 0)]) (fun _ q => XS.aloadN X1.here hx rfl (hb hby own_d14_4) rfl rfl q) ?_
  obtain ⟨T2, X2, e2, st2⟩ := getF X1 hx hZ hown (host := "") (Or.inl (own_h hw 156 rfl)) Via.refl e1 B_x (g := (mkF m 5 #[.val (.ref x), .val (.ref ln), .unset] [(.ref x), (.int 0)])) rfl rfl (hb hby own_d14_5)
  refine own_by (g' := (mkF m 8 #[.val (.ref x), .val (.ref ln), .unset] [(.ref fb), (.int 0)])) st2 ?_
  obtain ⟨cl3, Ar3, q3, S3, P3, H3, G3⟩ := id A_b
  refine own_by (g' := (mkF m 9 #[.val (.ref x), .val (.ref ln), .unset] [(.int 16), (.int 0)])) (fun _ kq => X2.arraylength hx (by rw [e2]; exact Ar3.1) (State.isArrayOf_alike hZ.alike Ar3.2.1) (g := (mkF m 8 #[.val (.ref x), .val (.ref ln), .unset] [(.ref fb), (.int 0)])) rfl rfl (hb hby own_d14_8) _ (by rw [len_of S3 P3]; exact kq)) ?_
  refine own_g (mkF m 31 #[.val (.ref x), .val (.ref ln), .unset] [(.ref ln)]) (fun _ q => XS.icmpYes X2.here hx rfl (pc0 := 9) (pc' := 30) rfl (hb hby own_d14_9) rfl (feq (by decide : ¬ ((0 : Int32) = (16 : Int32)))).2 (by decide) (by decide) (XS.aloadN X2.here hx rfl (hb hby own_d14_30) rfl rfl q)) ?_
  refine own_callV X2 hx hZ (y := own_y10) (z := own_y10) hown (own_h hw 167 rfl) (own_h hw 168 rfl) (own_nf (own_h hw 170 rfl)) (own_h hw 170 rfl) (own_h hw 169 rfl) (own_h hw 171 rfl) (own_h hw 19 rfl) (by decide) E_l (own_lod l Z a0 hw [] ln sv h0 n0 (Nat.le_trans Z0 (Keep.refl h0 [x, fb]).1) hsv F_o) (by decide) (by decide) e2 (g := (mkF m 31 #[.val (.ref x), .val (.ref ln), .unset] [(.ref ln)])) rfl (by rw [hml]; rfl) (argsL := []) (rest := []) (lenOf own_pd__28_29Ljava_2ftime_2fLocalDate_3b rfl) rfl (W := 0) (by show 2 * 0 + _ ≤ _; exact Nat.le_of_eq rfl) (hb hby own_d14_31) rfl (by decide) (by decide) ?_
  rintro rv4 T4 L4 X4 ⟨rfl, Nq4, eh4⟩
  have N4 := Fr.app N0 Nq4
  show own_Fin p e below _ T4 (mkF m 34 #[.val (.ref x), .val (.ref ln), .unset] [sv])
  rcases ref_cases hsv with rfl | ⟨y5, rfl⟩
  · skip
    refine own_g (mkF m 45 #[.val (.ref x), .val (.ref ln), .val (.int 0)] [(.ref x)]) (fun _ q => XS.ifnonnullNo X4.here hx rfl (hb hby own_d14_34) rfl (XS.iconst X4.here hx rfl (hb hby own_d14_37) (XS.goto X4.here hx rfl (pc0 := 38) (pc' := 43) rfl (hb hby own_d14_38) (by decide) (by decide) (XS.istoreN X4.here hx rfl (hb hby own_d14_43) rfl (l' := #[.val (.ref x), .val (.ref ln), .val (.int 0)]) rfl (XS.aloadN X4.here hx rfl (hb hby own_d14_44) rfl rfl q))))) ?_
    obtain ⟨T6, X6, e6, st6⟩ := getF X4 hx hZ hown (host := "") (Or.inl (own_h hw 156 rfl)) Via.refl eh4 B_x (g := (mkF m 45 #[.val (.ref x), .val (.ref ln), .val (.int 0)] [(.ref x)])) rfl rfl (hb hby own_d14_45)
    refine own_by (g' := (mkF m 48 #[.val (.ref x), .val (.ref ln), .val (.int 0)] [(.ref fb)])) st6 ?_
    refine own_g (mkF m 49 #[.val (.ref x), .val (.ref ln), .val (.int 0)] [(.ref x), (.ref fb)]) (fun _ q => XS.aloadN X6.here hx rfl (hb hby own_d14_48) rfl rfl q) ?_
    obtain ⟨T7, X7, e7, st7⟩ := getF X6 hx hZ hown (host := "") (Or.inl (own_h hw 165 rfl)) Via.refl e6 N_x (g := (mkF m 49 #[.val (.ref x), .val (.ref ln), .val (.int 0)] [(.ref x), (.ref fb)])) rfl rfl (hb hby own_d14_49)
    refine own_by (g' := (mkF m 52 #[.val (.ref x), .val (.ref ln), .val (.int 0)] [(.int 0), (.ref fb)])) st7 ?_
    refine own_g (mkF m 53 #[.val (.ref x), .val (.ref ln), .val (.int 0)] [(.ref ln), (.int 0), (.ref fb)]) (fun _ q => XS.aloadN X7.here hx rfl (hb hby own_d14_52) rfl rfl q) ?_
    refine own_callV X7 hx hZ (y := own_y9) (z := own_y9) hown (own_h hw 172 rfl) (own_h hw 173 rfl) (own_nf (own_h hw 175 rfl)) (own_h hw 175 rfl) (own_h hw 174 rfl) (own_h hw 176 rfl) (own_h hw 19 rfl) (by decide) E_l (own_lof l Z a0 hw [] ln fc h0 n0 (Nat.le_trans Z0 (Keep.refl h0 [x, fb]).1) F_f) (by decide) (by decide) e7 (g := (mkF m 53 #[.val (.ref x), .val (.ref ln), .val (.int 0)] [(.ref ln), (.int 0), (.ref fb)])) rfl (by rw [hml]; rfl) (argsL := []) (rest := [(.int 0), (.ref fb)]) (lenOf own_pd__28_29Lcom_2fexample_2fbahikhata_2fbahikhata_2fmodel_2fFacility_3b rfl) rfl (W := 2) (by show 2 * 0 + _ ≤ _; exact Nat.le_of_eq rfl) (hb hby own_d14_53) rfl (by decide) (by decide) ?_
    rintro rv8 T8 L8 X8 ⟨rfl, Nq8, eh8⟩
    have N8 := Fr.app N4 Nq8
    show own_Fin p e below _ T8 (mkF m 56 #[.val (.ref x), .val (.ref ln), .val (.int 0)] [(.ref fc), (.int 0), (.ref fb)])
    refine own_callU X8 hx hZ (y := own_y7) (z := own_y14) hown (own_h hw 177 rfl) (own_h hw 178 rfl) (own_h hw 179 rfl) (own_h hw 181 rfl) (own_h hw 180 rfl) (own_h hw 183 rfl) (own_h hw 182 rfl) (by decide) E_f (own_ord l Z a0 hw [] fc oo h0 n0 (Nat.le_trans Z0 (Keep.refl h0 [x, fb]).1) O_f) (by decide) (by decide) eh8 (g := (mkF m 56 #[.val (.ref x), .val (.ref ln), .val (.int 0)] [(.ref fc), (.int 0), (.ref fb)])) rfl (by rw [hml]; rfl) (argsL := []) (rest := [(.int 0), (.ref fb)]) (lenOf own_pd__28_29I rfl) rfl (W := 2) (by show 2 * 0 + _ ≤ _; exact Nat.le_of_eq rfl) (hb hby own_d14_56) rfl (by decide) (by decide) ?_
    rintro rv9 T9 L9 X9 ⟨rfl, Nq9, eh9⟩
    have N9 := Fr.app N8 Nq9
    refine own_g (mkF m 62 #[.val (.ref x), .val (.ref ln), .val (.int 0)] [(.int ((oo ||| (0 : Int32)).toInt8.toInt32)), (.int 0), (.ref fb)]) (fun _ q => XS.iloadN X9.here hx rfl (hb hby own_d14_59) rfl (XS.ior X9.here hx rfl (hb hby own_d14_60) rfl (XS.i2b X9.here hx rfl (hb hby own_d14_61) rfl q))) ?_
    obtain ⟨cl10, Ar10, q10, S10, P10, H10, G10⟩ := id A_b
    have hin10 : ¬ ((0 : Int32) < 0 ∨ cl10.slots.size ≤ ((0 : Int32)).toNatClampNeg) := inb_of S10 ⟨by decide, by decide⟩
    obtain ⟨T11, h11, X11, e11, W11, st11⟩ := stB X9 hx hZ eh9 Ar10 (j := (0 : Int32)) hin10 (g := (mkF m 62 #[.val (.ref x), .val (.ref ln), .val (.int 0)] [(.int ((oo ||| (0 : Int32)).toInt8.toInt32)), (.int 0), (.ref fb)])) rfl rfl (hb hby own_d14_62)
    have V11 : Arv Z h11 fb kb .byte (16 : Int32) [(.int (((oo ||| (0 : Int32)).toInt8.toInt32).toInt8.toInt32)), (.int 0), (.int 0), (.int 0), (.int 0), (.int 0), (.int 0), (.int 0), (.int 0), (.int 0), (.int 0), (.int 0), (.int 0), (.int 0), (.int 0), (.int 0)] (.int 0) := Arv.set Ar10 q10 S10 P10 H10 G10 (fits_nar_byte _) W11 0 rfl (Nat.le_of_ble_eq_true rfl)
    have N11 := Fr.snoc X11 N9 g_b
    refine own_by (g' := (mkF m 63 #[.val (.ref x), .val (.ref ln), .val (.int 0)] [])) st11 ?_
    refine own_g (mkF m 65 #[.val (.ref x), .val (.ref ln), .val (.int 0)] [(.ref x), (.ref x)]) (fun _ q => XS.aloadN X11.here hx rfl (hb hby own_d14_63) rfl rfl (XS.dup X11.here hx rfl (hb hby own_d14_64) rfl rfl q)) ?_
    have f12_x := (N_x.other W11 (Or.inl n_xb))
    obtain ⟨T13, X13, e13, st13⟩ := getF X11 hx hZ hown (host := "") (Or.inl (own_h hw 165 rfl)) Via.refl e11 f12_x (g := (mkF m 65 #[.val (.ref x), .val (.ref ln), .val (.int 0)] [(.ref x), (.ref x)])) rfl rfl (hb hby own_d14_65)
    refine own_by (g' := (mkF m 68 #[.val (.ref x), .val (.ref ln), .val (.int 0)] [(.int 0), (.ref x)])) st13 ?_
    refine own_g (mkF m 70 #[.val (.ref x), .val (.ref ln), .val (.int 0)] [(.int 1), (.ref x)]) (fun _ q => XS.iconst X13.here hx rfl (hb hby own_d14_68) (XS.iadd X13.here hx rfl (hb hby own_d14_69) rfl q)) ?_
    have e14_x := (E_x.wr W11)
    obtain ⟨T15, h15, X15, e15, W15, st15⟩ := putF X13 hx hZ hown (host := "") (Or.inl (own_h hw 165 rfl)) Via.refl e13 f12_x e14_x (Or.inl (own_h hw 166 rfl)) (own_h hw 112 rfl) (ty := .int) (by decide) (rfl) (rfl) (g := (mkF m 70 #[.val (.ref x), .val (.ref ln), .val (.int 0)] [(.int 1), (.ref x)])) rfl rfl (hb hby own_d14_70)
    have Fw15 := f12_x.same W15
    have N15 := Fr.snoc X15 N11 g_x
    refine own_by (g' := (mkF m 73 #[.val (.ref x), .val (.ref ln), .val (.int 0)] [])) st15 ?_
    have k16_ := (((Keep.refl h0 [x, fb]).wr W11 (Or.inl (List.mem_of_getElem? (i := 1) rfl))).wr W15 (Or.inl (List.mem_of_getElem? (i := 0) rfl)))
    have f17_x := ((B_x.other W11 (Or.inl n_xb)).other W15 (Or.inr (slot_ne (Or.inl (own_h hw 157 rfl)) (Or.inl (own_h hw 166 rfl)) (by decide) (t := (.array .byte)) (t' := .int) (by decide) (by decide))))
    have a18_fb := (V11.other W15 (Ne.symm n_xb))
    exact own_end X15 (v := none) (fun _ => rfl) hlk (fun hr => X15.returnOut hx Bd.returns (hb hby own_d14_73) hr) (by rw [e15]; exact ⟨rfl, N15, k16_, Fw15, f17_x, a18_fb⟩) (by decide) (by decide)
  · skip
    refine own_g (mkF m 45 #[.val (.ref x), .val (.ref ln), .val (.int 64)] [(.ref x)]) (fun _ q => XS.ifnonnullYes X4.here hx rfl (pc0 := 34) (pc' := 41) rfl (hb hby own_d14_34) rfl (by decide) (by decide) (XS.bipush X4.here hx rfl (hb hby own_d14_41) (XS.istoreN X4.here hx rfl (hb hby own_d14_43) rfl (l' := #[.val (.ref x), .val (.ref ln), .val (.int 64)]) rfl (XS.aloadN X4.here hx rfl (hb hby own_d14_44) rfl rfl q)))) ?_
    obtain ⟨T19, X19, e19, st19⟩ := getF X4 hx hZ hown (host := "") (Or.inl (own_h hw 156 rfl)) Via.refl eh4 B_x (g := (mkF m 45 #[.val (.ref x), .val (.ref ln), .val (.int 64)] [(.ref x)])) rfl rfl (hb hby own_d14_45)
    refine own_by (g' := (mkF m 48 #[.val (.ref x), .val (.ref ln), .val (.int 64)] [(.ref fb)])) st19 ?_
    refine own_g (mkF m 49 #[.val (.ref x), .val (.ref ln), .val (.int 64)] [(.ref x), (.ref fb)]) (fun _ q => XS.aloadN X19.here hx rfl (hb hby own_d14_48) rfl rfl q) ?_
    obtain ⟨T20, X20, e20, st20⟩ := getF X19 hx hZ hown (host := "") (Or.inl (own_h hw 165 rfl)) Via.refl e19 N_x (g := (mkF m 49 #[.val (.ref x), .val (.ref ln), .val (.int 64)] [(.ref x), (.ref fb)])) rfl rfl (hb hby own_d14_49)
    refine own_by (g' := (mkF m 52 #[.val (.ref x), .val (.ref ln), .val (.int 64)] [(.int 0), (.ref fb)])) st20 ?_
    refine own_g (mkF m 53 #[.val (.ref x), .val (.ref ln), .val (.int 64)] [(.ref ln), (.int 0), (.ref fb)]) (fun _ q => XS.aloadN X20.here hx rfl (hb hby own_d14_52) rfl rfl q) ?_
    refine own_callV X20 hx hZ (y := own_y9) (z := own_y9) hown (own_h hw 172 rfl) (own_h hw 173 rfl) (own_nf (own_h hw 175 rfl)) (own_h hw 175 rfl) (own_h hw 174 rfl) (own_h hw 176 rfl) (own_h hw 19 rfl) (by decide) E_l (own_lof l Z a0 hw [] ln fc h0 n0 (Nat.le_trans Z0 (Keep.refl h0 [x, fb]).1) F_f) (by decide) (by decide) e20 (g := (mkF m 53 #[.val (.ref x), .val (.ref ln), .val (.int 64)] [(.ref ln), (.int 0), (.ref fb)])) rfl (by rw [hml]; rfl) (argsL := []) (rest := [(.int 0), (.ref fb)]) (lenOf own_pd__28_29Lcom_2fexample_2fbahikhata_2fbahikhata_2fmodel_2fFacility_3b rfl) rfl (W := 2) (by show 2 * 0 + _ ≤ _; exact Nat.le_of_eq rfl) (hb hby own_d14_53) rfl (by decide) (by decide) ?_
    rintro rv21 T21 L21 X21 ⟨rfl, Nq21, eh21⟩
    have N21 := Fr.app N4 Nq21
    show own_Fin p e below _ T21 (mkF m 56 #[.val (.ref x), .val (.ref ln), .val (.int 64)] [(.ref fc), (.int 0), (.ref fb)])
    refine own_callU X21 hx hZ (y := own_y7) (z := own_y14) hown (own_h hw 177 rfl) (own_h hw 178 rfl) (own_h hw 179 rfl) (own_h hw 181 rfl) (own_h hw 180 rfl) (own_h hw 183 rfl) (own_h hw 182 rfl) (by decide) E_f (own_ord l Z a0 hw [] fc oo h0 n0 (Nat.le_trans Z0 (Keep.refl h0 [x, fb]).1) O_f) (by decide) (by decide) eh21 (g := (mkF m 56 #[.val (.ref x), .val (.ref ln), .val (.int 64)] [(.ref fc), (.int 0), (.ref fb)])) rfl (by rw [hml]; rfl) (argsL := []) (rest := [(.int 0), (.ref fb)]) (lenOf own_pd__28_29I rfl) rfl (W := 2) (by show 2 * 0 + _ ≤ _; exact Nat.le_of_eq rfl) (hb hby own_d14_56) rfl (by decide) (by decide) ?_
    rintro rv22 T22 L22 X22 ⟨rfl, Nq22, eh22⟩
    have N22 := Fr.app N21 Nq22
    refine own_g (mkF m 62 #[.val (.ref x), .val (.ref ln), .val (.int 64)] [(.int ((oo ||| (64 : Int32)).toInt8.toInt32)), (.int 0), (.ref fb)]) (fun _ q => XS.iloadN X22.here hx rfl (hb hby own_d14_59) rfl (XS.ior X22.here hx rfl (hb hby own_d14_60) rfl (XS.i2b X22.here hx rfl (hb hby own_d14_61) rfl q))) ?_
    obtain ⟨cl23, Ar23, q23, S23, P23, H23, G23⟩ := id A_b
    have hin23 : ¬ ((0 : Int32) < 0 ∨ cl23.slots.size ≤ ((0 : Int32)).toNatClampNeg) := inb_of S23 ⟨by decide, by decide⟩
    obtain ⟨T24, h24, X24, e24, W24, st24⟩ := stB X22 hx hZ eh22 Ar23 (j := (0 : Int32)) hin23 (g := (mkF m 62 #[.val (.ref x), .val (.ref ln), .val (.int 64)] [(.int ((oo ||| (64 : Int32)).toInt8.toInt32)), (.int 0), (.ref fb)])) rfl rfl (hb hby own_d14_62)
    have V24 : Arv Z h24 fb kb .byte (16 : Int32) [(.int (((oo ||| (64 : Int32)).toInt8.toInt32).toInt8.toInt32)), (.int 0), (.int 0), (.int 0), (.int 0), (.int 0), (.int 0), (.int 0), (.int 0), (.int 0), (.int 0), (.int 0), (.int 0), (.int 0), (.int 0), (.int 0)] (.int 0) := Arv.set Ar23 q23 S23 P23 H23 G23 (fits_nar_byte _) W24 0 rfl (Nat.le_of_ble_eq_true rfl)
    have N24 := Fr.snoc X24 N22 g_b
    refine own_by (g' := (mkF m 63 #[.val (.ref x), .val (.ref ln), .val (.int 64)] [])) st24 ?_
    refine own_g (mkF m 65 #[.val (.ref x), .val (.ref ln), .val (.int 64)] [(.ref x), (.ref x)]) (fun _ q => XS.aloadN X24.here hx rfl (hb hby own_d14_63) rfl rfl (XS.dup X24.here hx rfl (hb hby own_d14_64) rfl rfl q)) ?_
    have f25_x := (N_x.other W24 (Or.inl n_xb))
    obtain ⟨T26, X26, e26, st26⟩ := getF X24 hx hZ hown (host := "") (Or.inl (own_h hw 165 rfl)) Via.refl e24 f25_x (g := (mkF m 65 #[.val (.ref x), .val (.ref ln), .val (.int 64)] [(.ref x), (.ref x)])) rfl rfl (hb hby own_d14_65)
    refine own_by (g' := (mkF m 68 #[.val (.ref x), .val (.ref ln), .val (.int 64)] [(.int 0), (.ref x)])) st26 ?_
    refine own_g (mkF m 70 #[.val (.ref x), .val (.ref ln), .val (.int 64)] [(.int 1), (.ref x)]) (fun _ q => XS.iconst X26.here hx rfl (hb hby own_d14_68) (XS.iadd X26.here hx rfl (hb hby own_d14_69) rfl q)) ?_
    have e27_x := (E_x.wr W24)
    obtain ⟨T28, h28, X28, e28, W28, st28⟩ := putF X26 hx hZ hown (host := "") (Or.inl (own_h hw 165 rfl)) Via.refl e26 f25_x e27_x (Or.inl (own_h hw 166 rfl)) (own_h hw 112 rfl) (ty := .int) (by decide) (rfl) (rfl) (g := (mkF m 70 #[.val (.ref x), .val (.ref ln), .val (.int 64)] [(.int 1), (.ref x)])) rfl rfl (hb hby own_d14_70)
    have Fw28 := f25_x.same W28
    have N28 := Fr.snoc X28 N24 g_x
    refine own_by (g' := (mkF m 73 #[.val (.ref x), .val (.ref ln), .val (.int 64)] [])) st28 ?_
    have k29_ := (((Keep.refl h0 [x, fb]).wr W24 (Or.inl (List.mem_of_getElem? (i := 1) rfl))).wr W28 (Or.inl (List.mem_of_getElem? (i := 0) rfl)))
    have f30_x := ((B_x.other W24 (Or.inl n_xb)).other W28 (Or.inr (slot_ne (Or.inl (own_h hw 157 rfl)) (Or.inl (own_h hw 166 rfl)) (by decide) (t := (.array .byte)) (t' := .int) (by decide) (by decide))))
    have a31_fb := (V24.other W28 (Ne.symm n_xb))
    exact own_end X28 (v := none) (fun _ => rfl) hlk (fun hr => X28.returnOut hx Bd.returns (hb hby own_d14_73) hr) (by rw [e28]; exact ⟨rfl, N28, k29_, Fw28, f30_x, a31_fb⟩) (by decide) (by decide)
theorem own_note1_ef (m : MethodId) (x : Addr) (ln : Addr) : entryFrame m #[(.ref x), (.ref ln)] 3 = mkF m 0 #[.val (.ref x), .val (.ref ln), .unset] [] := by  first | (simp [entryFrame, mkF, argsToLocals, Value.category]; done) | rfl
def own_note1_Q (Z : State) (x : Addr) (ln : Addr) (fb : Addr) (kb : ClassId) (fc : Addr) (oo : Int32) (sv : Value) (v0 : Int32) (h0 : Heap) (n0 : Nat) (v : Option Value) (h : Heap) (L : List Loc) : Prop := v = none ∧ Fr n0 L ∧ Keep h0 h [x, fb] ∧ Fld Z h x "com/example/bahikhata/bahikhata/io/BookIndex" "noted" "I" (.int 2) ∧ Fld Z h x "com/example/bahikhata/bahikhata/io/BookIndex" "facts" "[B" (.ref fb) ∧ Arv Z h fb kb .byte (16 : Int32) [(.int v0), (.int (own_nb oo sv)), (.int 0), (.int 0), (.int 0), (.int 0), (.int 0), (.int 0), (.int 0), (.int 0), (.int 0), (.int 0), (.int 0), (.int 0), (.int 0), (.int 0)] (.int 0)
set_option maxRecDepth 65536 in
set_option maxHeartbeats 40000000 in
theorem own_note1 (l : Launch) (Z : State) (a0 : Array Value) (hw : ∀ d ∈ tables_1, d.before a0 Z = true) (ws : List Jvm.Cond) (x : Addr) (ln : Addr) (fb : Addr) (kb : ClassId) (fc : Addr) (oo : Int32) (sv : Value) (v0 : Int32) (h0 : Heap) (n0 : Nat) (Z0 : n0 ≤ h0.size) (hsv : sv.isRef = true) (E_x : Exa Z h0 x "com/example/bahikhata/bahikhata/io/BookIndex") (N_x : Fld Z h0 x "com/example/bahikhata/bahikhata/io/BookIndex" "noted" "I" (.int 1)) (B_x : Fld Z h0 x "com/example/bahikhata/bahikhata/io/BookIndex" "facts" "[B" (.ref fb)) (A_b : Arv Z h0 fb kb .byte (16 : Int32) [(.int v0), (.int 0), (.int 0), (.int 0), (.int 0), (.int 0), (.int 0), (.int 0), (.int 0), (.int 0), (.int 0), (.int 0), (.int 0), (.int 0), (.int 0), (.int 0)] (.int 0)) (E_l : Exa Z h0 ln "com/example/bahikhata/bahikhata/model/Loan") (F_o : Fld Z h0 ln "com/example/bahikhata/bahikhata/model/Loan" "overdueSince" "Ljava/time/LocalDate;" sv) (F_f : Fld Z h0 ln "com/example/bahikhata/bahikhata/model/Loan" "facility" "Lcom/example/bahikhata/bahikhata/model/Facility;" (.ref fc)) (E_f : Exa Z h0 fc "com/example/bahikhata/bahikhata/model/Facility") (O_f : Fld Z h0 fc "java/lang/Enum" "ordinal" "I" (.int oo)) (g_x : n0 ≤ x) (g_b : n0 ≤ fb) (n_xb : x ≠ fb) :
    MetFree l own_y2 (head1 (Jvm.Cond.code own_y2 prog_5_method_9_code 3 none :: ws) (⟨1, 0, 0, 14⟩ : Room)) (fun aa U => aa = #[(.ref x), (.ref ln)] ∧ Z.Warmed39 U.vm ∧ U.heap = h0) (fun _ _ _ _ _ => True) (fun _ U o U' => ∃ v L, o = .returned v ∧ own_note1_Q Z x ln fb kb fc oo sv v0 h0 n0 v U'.heap L ∧ FrameEnd U o U' L (⟨1, 0, 0, 14⟩ : Room).cells (⟨1, 0, 0, 14⟩ : Room).slots) := by
  refine MetFree.of_bodySF (plainFor_of_name own_pn_com_example_bahikhata_bahikhata_io_BookIndex) hisR ?_
  intro p e s m args below meth c s₁ Bd hml0 hP hK
  obtain ⟨rfl, hZ, hh⟩ := hP
  have hx := Bd.exec
  have hby := Bd.bytes
  have hml : c.maxLocals = 3 := hml0
  have hown : s.vm.findClass "com/example/bahikhata/bahikhata/io/BookIndex" = some m.cls := findClass_of_methodNamed Bd.named
  have hnm := (name_of_methodNamed Bd.named Bd.method).1
  have hlk := Bd.notSynchronized
  have X0 : Stand p l e (⟨1, 0, 0, 14⟩ : Room) s m #[(.ref x), (.ref ln)] below meth c s₁ [] 0 0 := Stand.of_body Bd
  have e0 : s₁.heap = h0 := by rw [← hh, Bd.state]; rfl
  have N0 := Fr.nil n0
  refine own_start (Q := own_note1_Q Z x ln fb kb fc oo sv v0 h0 n0) (own_note1_ef m x ln) ?_
  refine own_g (mkF m 1 #[.val (.ref x), .val (.ref ln), .unset] [(.ref x)]) (fun _ q => XS.aloadN X0.here hx rfl (hb hby own_d14_0) rfl rfl q) ?_
  obtain ⟨T1, X1, e1, st1⟩ := getF X0 hx hZ hown (host := "") (Or.inl (own_h hw 165 rfl)) Via.refl e0 N_x (g := (mkF m 1 #[.val (.ref x), .val (.ref ln), .unset] [(.ref x)])) rfl rfl (hb hby own_d14_1)
  refine own_by (g' := (mkF m 4 #[.val (.ref x), .val (.ref ln), .unset] [(.int 1)])) st1 ?_
  refine own_g (mkF m 5 #[.val (.ref x), .val (.ref ln), .unset] [(.ref x), (.int 1)]) (fun _ q => XS.aloadN X1.here hx rfl (hb hby own_d14_4) rfl rfl q) ?_
  obtain ⟨T2, X2, e2, st2⟩ := getF X1 hx hZ hown (host := "") (Or.inl (own_h hw 156 rfl)) Via.refl e1 B_x (g := (mkF m 5 #[.val (.ref x), .val (.ref ln), .unset] [(.ref x), (.int 1)])) rfl rfl (hb hby own_d14_5)
  refine own_by (g' := (mkF m 8 #[.val (.ref x), .val (.ref ln), .unset] [(.ref fb), (.int 1)])) st2 ?_
  obtain ⟨cl3, Ar3, q3, S3, P3, H3, G3⟩ := id A_b
  refine own_by (g' := (mkF m 9 #[.val (.ref x), .val (.ref ln), .unset] [(.int 16), (.int 1)])) (fun _ kq => X2.arraylength hx (by rw [e2]; exact Ar3.1) (State.isArrayOf_alike hZ.alike Ar3.2.1) (g := (mkF m 8 #[.val (.ref x), .val (.ref ln), .unset] [(.ref fb), (.int 1)])) rfl rfl (hb hby own_d14_8) _ (by rw [len_of S3 P3]; exact kq)) ?_
  refine own_g (mkF m 31 #[.val (.ref x), .val (.ref ln), .unset] [(.ref ln)]) (fun _ q => XS.icmpYes X2.here hx rfl (pc0 := 9) (pc' := 30) rfl (hb hby own_d14_9) rfl (feq (by decide : ¬ ((1 : Int32) = (16 : Int32)))).2 (by decide) (by decide) (XS.aloadN X2.here hx rfl (hb hby own_d14_30) rfl rfl q)) ?_
  refine own_callV X2 hx hZ (y := own_y10) (z := own_y10) hown (own_h hw 167 rfl) (own_h hw 168 rfl) (own_nf (own_h hw 170 rfl)) (own_h hw 170 rfl) (own_h hw 169 rfl) (own_h hw 171 rfl) (own_h hw 19 rfl) (by decide) E_l (own_lod l Z a0 hw [] ln sv h0 n0 (Nat.le_trans Z0 (Keep.refl h0 [x, fb]).1) hsv F_o) (by decide) (by decide) e2 (g := (mkF m 31 #[.val (.ref x), .val (.ref ln), .unset] [(.ref ln)])) rfl (by rw [hml]; rfl) (argsL := []) (rest := []) (lenOf own_pd__28_29Ljava_2ftime_2fLocalDate_3b rfl) rfl (W := 0) (by show 2 * 0 + _ ≤ _; exact Nat.le_of_eq rfl) (hb hby own_d14_31) rfl (by decide) (by decide) ?_
  rintro rv4 T4 L4 X4 ⟨rfl, Nq4, eh4⟩
  have N4 := Fr.app N0 Nq4
  show own_Fin p e below _ T4 (mkF m 34 #[.val (.ref x), .val (.ref ln), .unset] [sv])
  rcases ref_cases hsv with rfl | ⟨y5, rfl⟩
  · skip
    refine own_g (mkF m 45 #[.val (.ref x), .val (.ref ln), .val (.int 0)] [(.ref x)]) (fun _ q => XS.ifnonnullNo X4.here hx rfl (hb hby own_d14_34) rfl (XS.iconst X4.here hx rfl (hb hby own_d14_37) (XS.goto X4.here hx rfl (pc0 := 38) (pc' := 43) rfl (hb hby own_d14_38) (by decide) (by decide) (XS.istoreN X4.here hx rfl (hb hby own_d14_43) rfl (l' := #[.val (.ref x), .val (.ref ln), .val (.int 0)]) rfl (XS.aloadN X4.here hx rfl (hb hby own_d14_44) rfl rfl q))))) ?_
    obtain ⟨T6, X6, e6, st6⟩ := getF X4 hx hZ hown (host := "") (Or.inl (own_h hw 156 rfl)) Via.refl eh4 B_x (g := (mkF m 45 #[.val (.ref x), .val (.ref ln), .val (.int 0)] [(.ref x)])) rfl rfl (hb hby own_d14_45)
    refine own_by (g' := (mkF m 48 #[.val (.ref x), .val (.ref ln), .val (.int 0)] [(.ref fb)])) st6 ?_
    refine own_g (mkF m 49 #[.val (.ref x), .val (.ref ln), .val (.int 0)] [(.ref x), (.ref fb)]) (fun _ q => XS.aloadN X6.here hx rfl (hb hby own_d14_48) rfl rfl q) ?_
    obtain ⟨T7, X7, e7, st7⟩ := getF X6 hx hZ hown (host := "") (Or.inl (own_h hw 165 rfl)) Via.refl e6 N_x (g := (mkF m 49 #[.val (.ref x), .val (.ref ln), .val (.int 0)] [(.ref x), (.ref fb)])) rfl rfl (hb hby own_d14_49)
    refine own_by (g' := (mkF m 52 #[.val (.ref x), .val (.ref ln), .val (.int 0)] [(.int 1), (.ref fb)])) st7 ?_
    refine own_g (mkF m 53 #[.val (.ref x), .val (.ref ln), .val (.int 0)] [(.ref ln), (.int 1), (.ref fb)]) (fun _ q => XS.aloadN X7.here hx rfl (hb hby own_d14_52) rfl rfl q) ?_
    refine own_callV X7 hx hZ (y := own_y9) (z := own_y9) hown (own_h hw 172 rfl) (own_h hw 173 rfl) (own_nf (own_h hw 175 rfl)) (own_h hw 175 rfl) (own_h hw 174 rfl) (own_h hw 176 rfl) (own_h hw 19 rfl) (by decide) E_l (own_lof l Z a0 hw [] ln fc h0 n0 (Nat.le_trans Z0 (Keep.refl h0 [x, fb]).1) F_f) (by decide) (by decide) e7 (g := (mkF m 53 #[.val (.ref x), .val (.ref ln), .val (.int 0)] [(.ref ln), (.int 1), (.ref fb)])) rfl (by rw [hml]; rfl) (argsL := []) (rest := [(.int 1), (.ref fb)]) (lenOf own_pd__28_29Lcom_2fexample_2fbahikhata_2fbahikhata_2fmodel_2fFacility_3b rfl) rfl (W := 2) (by show 2 * 0 + _ ≤ _; exact Nat.le_of_eq rfl) (hb hby own_d14_53) rfl (by decide) (by decide) ?_
    rintro rv8 T8 L8 X8 ⟨rfl, Nq8, eh8⟩
    have N8 := Fr.app N4 Nq8
    show own_Fin p e below _ T8 (mkF m 56 #[.val (.ref x), .val (.ref ln), .val (.int 0)] [(.ref fc), (.int 1), (.ref fb)])
    refine own_callU X8 hx hZ (y := own_y7) (z := own_y14) hown (own_h hw 177 rfl) (own_h hw 178 rfl) (own_h hw 179 rfl) (own_h hw 181 rfl) (own_h hw 180 rfl) (own_h hw 183 rfl) (own_h hw 182 rfl) (by decide) E_f (own_ord l Z a0 hw [] fc oo h0 n0 (Nat.le_trans Z0 (Keep.refl h0 [x, fb]).1) O_f) (by decide) (by decide) eh8 (g := (mkF m 56 #[.val (.ref x), .val (.ref ln), .val (.int 0)] [(.ref fc), (.int 1), (.ref fb)])) rfl (by rw [hml]; rfl) (argsL := []) (rest := [(.int 1), (.ref fb)]) (lenOf own_pd__28_29I rfl) rfl (W := 2) (by show 2 * 0 + _ ≤ _; exact Nat.le_of_eq rfl) (hb hby own_d14_56) rfl (by decide) (by decide) ?_
    rintro rv9 T9 L9 X9 ⟨rfl, Nq9, eh9⟩
    have N9 := Fr.app N8 Nq9
    refine own_g (mkF m 62 #[.val (.ref x), .val (.ref ln), .val (.int 0)] [(.int ((oo ||| (0 : Int32)).toInt8.toInt32)), (.int 1), (.ref fb)]) (fun _ q => XS.iloadN X9.here hx rfl (hb hby own_d14_59) rfl (XS.ior X9.here hx rfl (hb hby own_d14_60) rfl (XS.i2b X9.here hx rfl (hb hby own_d14_61) rfl q))) ?_
    obtain ⟨cl10, Ar10, q10, S10, P10, H10, G10⟩ := id A_b
    have hin10 : ¬ ((1 : Int32) < 0 ∨ cl10.slots.size ≤ ((1 : Int32)).toNatClampNeg) := inb_of S10 ⟨by decide, by decide⟩
    obtain ⟨T11, h11, X11, e11, W11, st11⟩ := stB X9 hx hZ eh9 Ar10 (j := (1 : Int32)) hin10 (g := (mkF m 62 #[.val (.ref x), .val (.ref ln), .val (.int 0)] [(.int ((oo ||| (0 : Int32)).toInt8.toInt32)), (.int 1), (.ref fb)])) rfl rfl (hb hby own_d14_62)
    have V11 : Arv Z h11 fb kb .byte (16 : Int32) [(.int v0), (.int (((oo ||| (0 : Int32)).toInt8.toInt32).toInt8.toInt32)), (.int 0), (.int 0), (.int 0), (.int 0), (.int 0), (.int 0), (.int 0), (.int 0), (.int 0), (.int 0), (.int 0), (.int 0), (.int 0), (.int 0)] (.int 0) := Arv.set Ar10 q10 S10 P10 H10 G10 (fits_nar_byte _) W11 1 rfl (Nat.le_of_ble_eq_true rfl)
    have N11 := Fr.snoc X11 N9 g_b
    refine own_by (g' := (mkF m 63 #[.val (.ref x), .val (.ref ln), .val (.int 0)] [])) st11 ?_
    refine own_g (mkF m 65 #[.val (.ref x), .val (.ref ln), .val (.int 0)] [(.ref x), (.ref x)]) (fun _ q => XS.aloadN X11.here hx rfl (hb hby own_d14_63) rfl rfl (XS.dup X11.here hx rfl (hb hby own_d14_64) rfl rfl q)) ?_
    have f12_x := (N_x.other W11 (Or.inl n_xb))
    obtain ⟨T13, X13, e13, st13⟩ := getF X11 hx hZ hown (host := "") (Or.inl (own_h hw 165 rfl)) Via.refl e11 f12_x (g := (mkF m 65 #[.val (.ref x), .val (.ref ln), .val (.int 0)] [(.ref x), (.ref x)])) rfl rfl (hb hby own_d14_65)
    refine own_by (g' := (mkF m 68 #[.val (.ref x), .val (.ref ln), .val (.int 0)] [(.int 1), (.ref x)])) st13 ?_
    refine own_g (mkF m 70 #[.val (.ref x), .val (.ref ln), .val (.int 0)] [(.int 2), (.ref x)]) (fun _ q => XS.iconst X13.here hx rfl (hb hby own_d14_68) (XS.iadd X13.here hx rfl (hb hby own_d14_69) rfl q)) ?_
    have e14_x := (E_x.wr W11)
    obtain ⟨T15, h15, X15, e15, W15, st15⟩ := putF X13 hx hZ hown (host := "") (Or.inl (own_h hw 165 rfl)) Via.refl e13 f12_x e14_x (Or.inl (own_h hw 166 rfl)) (own_h hw 112 rfl) (ty := .int) (by decide) (rfl) (rfl) (g := (mkF m 70 #[.val (.ref x), .val (.ref ln), .val (.int 0)] [(.int 2), (.ref x)])) rfl rfl (hb hby own_d14_70)
    have Fw15 := f12_x.same W15
    have N15 := Fr.snoc X15 N11 g_x
    refine own_by (g' := (mkF m 73 #[.val (.ref x), .val (.ref ln), .val (.int 0)] [])) st15 ?_
    have k16_ := (((Keep.refl h0 [x, fb]).wr W11 (Or.inl (List.mem_of_getElem? (i := 1) rfl))).wr W15 (Or.inl (List.mem_of_getElem? (i := 0) rfl)))
    have f17_x := ((B_x.other W11 (Or.inl n_xb)).other W15 (Or.inr (slot_ne (Or.inl (own_h hw 157 rfl)) (Or.inl (own_h hw 166 rfl)) (by decide) (t := (.array .byte)) (t' := .int) (by decide) (by decide))))
    have a18_fb := (V11.other W15 (Ne.symm n_xb))
    exact own_end X15 (v := none) (fun _ => rfl) hlk (fun hr => X15.returnOut hx Bd.returns (hb hby own_d14_73) hr) (by rw [e15]; exact ⟨rfl, N15, k16_, Fw15, f17_x, a18_fb⟩) (by decide) (by decide)
  · skip
    refine own_g (mkF m 45 #[.val (.ref x), .val (.ref ln), .val (.int 64)] [(.ref x)]) (fun _ q => XS.ifnonnullYes X4.here hx rfl (pc0 := 34) (pc' := 41) rfl (hb hby own_d14_34) rfl (by decide) (by decide) (XS.bipush X4.here hx rfl (hb hby own_d14_41) (XS.istoreN X4.here hx rfl (hb hby own_d14_43) rfl (l' := #[.val (.ref x), .val (.ref ln), .val (.int 64)]) rfl (XS.aloadN X4.here hx rfl (hb hby own_d14_44) rfl rfl q)))) ?_
    obtain ⟨T19, X19, e19, st19⟩ := getF X4 hx hZ hown (host := "") (Or.inl (own_h hw 156 rfl)) Via.refl eh4 B_x (g := (mkF m 45 #[.val (.ref x), .val (.ref ln), .val (.int 64)] [(.ref x)])) rfl rfl (hb hby own_d14_45)
    refine own_by (g' := (mkF m 48 #[.val (.ref x), .val (.ref ln), .val (.int 64)] [(.ref fb)])) st19 ?_
    refine own_g (mkF m 49 #[.val (.ref x), .val (.ref ln), .val (.int 64)] [(.ref x), (.ref fb)]) (fun _ q => XS.aloadN X19.here hx rfl (hb hby own_d14_48) rfl rfl q) ?_
    obtain ⟨T20, X20, e20, st20⟩ := getF X19 hx hZ hown (host := "") (Or.inl (own_h hw 165 rfl)) Via.refl e19 N_x (g := (mkF m 49 #[.val (.ref x), .val (.ref ln), .val (.int 64)] [(.ref x), (.ref fb)])) rfl rfl (hb hby own_d14_49)
    refine own_by (g' := (mkF m 52 #[.val (.ref x), .val (.ref ln), .val (.int 64)] [(.int 1), (.ref fb)])) st20 ?_
    refine own_g (mkF m 53 #[.val (.ref x), .val (.ref ln), .val (.int 64)] [(.ref ln), (.int 1), (.ref fb)]) (fun _ q => XS.aloadN X20.here hx rfl (hb hby own_d14_52) rfl rfl q) ?_
    refine own_callV X20 hx hZ (y := own_y9) (z := own_y9) hown (own_h hw 172 rfl) (own_h hw 173 rfl) (own_nf (own_h hw 175 rfl)) (own_h hw 175 rfl) (own_h hw 174 rfl) (own_h hw 176 rfl) (own_h hw 19 rfl) (by decide) E_l (own_lof l Z a0 hw [] ln fc h0 n0 (Nat.le_trans Z0 (Keep.refl h0 [x, fb]).1) F_f) (by decide) (by decide) e20 (g := (mkF m 53 #[.val (.ref x), .val (.ref ln), .val (.int 64)] [(.ref ln), (.int 1), (.ref fb)])) rfl (by rw [hml]; rfl) (argsL := []) (rest := [(.int 1), (.ref fb)]) (lenOf own_pd__28_29Lcom_2fexample_2fbahikhata_2fbahikhata_2fmodel_2fFacility_3b rfl) rfl (W := 2) (by show 2 * 0 + _ ≤ _; exact Nat.le_of_eq rfl) (hb hby own_d14_53) rfl (by decide) (by decide) ?_
    rintro rv21 T21 L21 X21 ⟨rfl, Nq21, eh21⟩
    have N21 := Fr.app N4 Nq21
    show own_Fin p e below _ T21 (mkF m 56 #[.val (.ref x), .val (.ref ln), .val (.int 64)] [(.ref fc), (.int 1), (.ref fb)])
    refine own_callU X21 hx hZ (y := own_y7) (z := own_y14) hown (own_h hw 177 rfl) (own_h hw 178 rfl) (own_h hw 179 rfl) (own_h hw 181 rfl) (own_h hw 180 rfl) (own_h hw 183 rfl) (own_h hw 182 rfl) (by decide) E_f (own_ord l Z a0 hw [] fc oo h0 n0 (Nat.le_trans Z0 (Keep.refl h0 [x, fb]).1) O_f) (by decide) (by decide) eh21 (g := (mkF m 56 #[.val (.ref x), .val (.ref ln), .val (.int 64)] [(.ref fc), (.int 1), (.ref fb)])) rfl (by rw [hml]; rfl) (argsL := []) (rest := [(.int 1), (.ref fb)]) (lenOf own_pd__28_29I rfl) rfl (W := 2) (by show 2 * 0 + _ ≤ _; exact Nat.le_of_eq rfl) (hb hby own_d14_56) rfl (by decide) (by decide) ?_
    rintro rv22 T22 L22 X22 ⟨rfl, Nq22, eh22⟩
    have N22 := Fr.app N21 Nq22
    refine own_g (mkF m 62 #[.val (.ref x), .val (.ref ln), .val (.int 64)] [(.int ((oo ||| (64 : Int32)).toInt8.toInt32)), (.int 1), (.ref fb)]) (fun _ q => XS.iloadN X22.here hx rfl (hb hby own_d14_59) rfl (XS.ior X22.here hx rfl (hb hby own_d14_60) rfl (XS.i2b X22.here hx rfl (hb hby own_d14_61) rfl q))) ?_
    obtain ⟨cl23, Ar23, q23, S23, P23, H23, G23⟩ := id A_b
    have hin23 : ¬ ((1 : Int32) < 0 ∨ cl23.slots.size ≤ ((1 : Int32)).toNatClampNeg) := inb_of S23 ⟨by decide, by decide⟩
    obtain ⟨T24, h24, X24, e24, W24, st24⟩ := stB X22 hx hZ eh22 Ar23 (j := (1 : Int32)) hin23 (g := (mkF m 62 #[.val (.ref x), .val (.ref ln), .val (.int 64)] [(.int ((oo ||| (64 : Int32)).toInt8.toInt32)), (.int 1), (.ref fb)])) rfl rfl (hb hby own_d14_62)
    have V24 : Arv Z h24 fb kb .byte (16 : Int32) [(.int v0), (.int (((oo ||| (64 : Int32)).toInt8.toInt32).toInt8.toInt32)), (.int 0), (.int 0), (.int 0), (.int 0), (.int 0), (.int 0), (.int 0), (.int 0), (.int 0), (.int 0), (.int 0), (.int 0), (.int 0), (.int 0)] (.int 0) := Arv.set Ar23 q23 S23 P23 H23 G23 (fits_nar_byte _) W24 1 rfl (Nat.le_of_ble_eq_true rfl)
    have N24 := Fr.snoc X24 N22 g_b
    refine own_by (g' := (mkF m 63 #[.val (.ref x), .val (.ref ln), .val (.int 64)] [])) st24 ?_
    refine own_g (mkF m 65 #[.val (.ref x), .val (.ref ln), .val (.int 64)] [(.ref x), (.ref x)]) (fun _ q => XS.aloadN X24.here hx rfl (hb hby own_d14_63) rfl rfl (XS.dup X24.here hx rfl (hb hby own_d14_64) rfl rfl q)) ?_
    have f25_x := (N_x.other W24 (Or.inl n_xb))
    obtain ⟨T26, X26, e26, st26⟩ := getF X24 hx hZ hown (host := "") (Or.inl (own_h hw 165 rfl)) Via.refl e24 f25_x (g := (mkF m 65 #[.val (.ref x), .val (.ref ln), .val (.int 64)] [(.ref x), (.ref x)])) rfl rfl (hb hby own_d14_65)
    refine own_by (g' := (mkF m 68 #[.val (.ref x), .val (.ref ln), .val (.int 64)] [(.int 1), (.ref x)])) st26 ?_
    refine own_g (mkF m 70 #[.val (.ref x), .val (.ref ln), .val (.int 64)] [(.int 2), (.ref x)]) (fun _ q => XS.iconst X26.here hx rfl (hb hby own_d14_68) (XS.iadd X26.here hx rfl (hb hby own_d14_69) rfl q)) ?_
    have e27_x := (E_x.wr W24)
    obtain ⟨T28, h28, X28, e28, W28, st28⟩ := putF X26 hx hZ hown (host := "") (Or.inl (own_h hw 165 rfl)) Via.refl e26 f25_x e27_x (Or.inl (own_h hw 166 rfl)) (own_h hw 112 rfl) (ty := .int) (by decide) (rfl) (rfl) (g := (mkF m 70 #[.val (.ref x), .val (.ref ln), .val (.int 64)] [(.int 2), (.ref x)])) rfl rfl (hb hby own_d14_70)
    have Fw28 := f25_x.same W28
    have N28 := Fr.snoc X28 N24 g_x
    refine own_by (g' := (mkF m 73 #[.val (.ref x), .val (.ref ln), .val (.int 64)] [])) st28 ?_
    have k29_ := (((Keep.refl h0 [x, fb]).wr W24 (Or.inl (List.mem_of_getElem? (i := 1) rfl))).wr W28 (Or.inl (List.mem_of_getElem? (i := 0) rfl)))
    have f30_x := ((B_x.other W24 (Or.inl n_xb)).other W28 (Or.inr (slot_ne (Or.inl (own_h hw 157 rfl)) (Or.inl (own_h hw 166 rfl)) (by decide) (t := (.array .byte)) (t' := .int) (by decide) (by decide))))
    have a31_fb := (V24.other W28 (Ne.symm n_xb))
    exact own_end X28 (v := none) (fun _ => rfl) hlk (fun hr => X28.returnOut hx Bd.returns (hb hby own_d14_73) hr) (by rw [e28]; exact ⟨rfl, N28, k29_, Fw28, f30_x, a31_fb⟩) (by decide) (by decide)
theorem own_note2_ef (m : MethodId) (x : Addr) (ln : Addr) : entryFrame m #[(.ref x), (.ref ln)] 3 = mkF m 0 #[.val (.ref x), .val (.ref ln), .unset] [] := by  first | (simp [entryFrame, mkF, argsToLocals, Value.category]; done) | rfl
def own_note2_Q (Z : State) (x : Addr) (ln : Addr) (fb : Addr) (kb : ClassId) (fc : Addr) (oo : Int32) (sv : Value) (v0 : Int32) (v1 : Int32) (h0 : Heap) (n0 : Nat) (v : Option Value) (h : Heap) (L : List Loc) : Prop := v = none ∧ Fr n0 L ∧ Keep h0 h [x, fb] ∧ Fld Z h x "com/example/bahikhata/bahikhata/io/BookIndex" "noted" "I" (.int 3) ∧ Fld Z h x "com/example/bahikhata/bahikhata/io/BookIndex" "facts" "[B" (.ref fb) ∧ Arv Z h fb kb .byte (16 : Int32) [(.int v0), (.int v1), (.int (own_nb oo sv)), (.int 0), (.int 0), (.int 0), (.int 0), (.int 0), (.int 0), (.int 0), (.int 0), (.int 0), (.int 0), (.int 0), (.int 0), (.int 0)] (.int 0)
set_option maxRecDepth 65536 in
set_option maxHeartbeats 40000000 in
theorem own_note2 (l : Launch) (Z : State) (a0 : Array Value) (hw : ∀ d ∈ tables_1, d.before a0 Z = true) (ws : List Jvm.Cond) (x : Addr) (ln : Addr) (fb : Addr) (kb : ClassId) (fc : Addr) (oo : Int32) (sv : Value) (v0 : Int32) (v1 : Int32) (h0 : Heap) (n0 : Nat) (Z0 : n0 ≤ h0.size) (hsv : sv.isRef = true) (E_x : Exa Z h0 x "com/example/bahikhata/bahikhata/io/BookIndex") (N_x : Fld Z h0 x "com/example/bahikhata/bahikhata/io/BookIndex" "noted" "I" (.int 2)) (B_x : Fld Z h0 x "com/example/bahikhata/bahikhata/io/BookIndex" "facts" "[B" (.ref fb)) (A_b : Arv Z h0 fb kb .byte (16 : Int32) [(.int v0), (.int v1), (.int 0), (.int 0), (.int 0), (.int 0), (.int 0), (.int 0), (.int 0), (.int 0), (.int 0), (.int 0), (.int 0), (.int 0), (.int 0), (.int 0)] (.int 0)) (E_l : Exa Z h0 ln "com/example/bahikhata/bahikhata/model/Loan") (F_o : Fld Z h0 ln "com/example/bahikhata/bahikhata/model/Loan" "overdueSince" "Ljava/time/LocalDate;" sv) (F_f : Fld Z h0 ln "com/example/bahikhata/bahikhata/model/Loan" "facility" "Lcom/example/bahikhata/bahikhata/model/Facility;" (.ref fc)) (E_f : Exa Z h0 fc "com/example/bahikhata/bahikhata/model/Facility") (O_f : Fld Z h0 fc "java/lang/Enum" "ordinal" "I" (.int oo)) (g_x : n0 ≤ x) (g_b : n0 ≤ fb) (n_xb : x ≠ fb) :
    MetFree l own_y2 (head1 (Jvm.Cond.code own_y2 prog_5_method_9_code 3 none :: ws) (⟨1, 0, 0, 14⟩ : Room)) (fun aa U => aa = #[(.ref x), (.ref ln)] ∧ Z.Warmed39 U.vm ∧ U.heap = h0) (fun _ _ _ _ _ => True) (fun _ U o U' => ∃ v L, o = .returned v ∧ own_note2_Q Z x ln fb kb fc oo sv v0 v1 h0 n0 v U'.heap L ∧ FrameEnd U o U' L (⟨1, 0, 0, 14⟩ : Room).cells (⟨1, 0, 0, 14⟩ : Room).slots) := by
  refine MetFree.of_bodySF (plainFor_of_name own_pn_com_example_bahikhata_bahikhata_io_BookIndex) hisR ?_
  intro p e s m args below meth c s₁ Bd hml0 hP hK
  obtain ⟨rfl, hZ, hh⟩ := hP
  have hx := Bd.exec
  have hby := Bd.bytes
  have hml : c.maxLocals = 3 := hml0
  have hown : s.vm.findClass "com/example/bahikhata/bahikhata/io/BookIndex" = some m.cls := findClass_of_methodNamed Bd.named
  have hnm := (name_of_methodNamed Bd.named Bd.method).1
  have hlk := Bd.notSynchronized
  have X0 : Stand p l e (⟨1, 0, 0, 14⟩ : Room) s m #[(.ref x), (.ref ln)] below meth c s₁ [] 0 0 := Stand.of_body Bd
  have e0 : s₁.heap = h0 := by rw [← hh, Bd.state]; rfl
  have N0 := Fr.nil n0
  refine own_start (Q := own_note2_Q Z x ln fb kb fc oo sv v0 v1 h0 n0) (own_note2_ef m x ln) ?_
  refine own_g (mkF m 1 #[.val (.ref x), .val (.ref ln), .unset] [(.ref x)]) (fun _ q => XS.aloadN X0.here hx rfl (hb hby own_d14_0) rfl rfl q) ?_
  obtain ⟨T1, X1, e1, st1⟩ := getF X0 hx hZ hown (host := "") (Or.inl (own_h hw 165 rfl)) Via.refl e0 N_x (g := (mkF m 1 #[.val (.ref x), .val (.ref ln), .unset] [(.ref x)])) rfl rfl (hb hby own_d14_1)
  refine own_by (g' := (mkF m 4 #[.val (.ref x), .val (.ref ln), .unset] [(.int 2)])) st1 ?_
  refine own_g (mkF m 5 #[.val (.ref x), .val (.ref ln), .unset] [(.ref x), (.int 2)]) (fun _ q => XS.aloadN X1.here hx rfl (hb hby own_d14_4) rfl rfl q) ?_
  obtain ⟨T2, X2, e2, st2⟩ := getF X1 hx hZ hown (host := "") (Or.inl (own_h hw 156 rfl)) Via.refl e1 B_x (g := (mkF m 5 #[.val (.ref x), .val (.ref ln), .unset] [(.ref x), (.int 2)])) rfl rfl (hb hby own_d14_5)
  refine own_by (g' := (mkF m 8 #[.val (.ref x), .val (.ref ln), .unset] [(.ref fb), (.int 2)])) st2 ?_
  obtain ⟨cl3, Ar3, q3, S3, P3, H3, G3⟩ := id A_b
  refine own_by (g' := (mkF m 9 #[.val (.ref x), .val (.ref ln), .unset] [(.int 16), (.int 2)])) (fun _ kq => X2.arraylength hx (by rw [e2]; exact Ar3.1) (State.isArrayOf_alike hZ.alike Ar3.2.1) (g := (mkF m 8 #[.val (.ref x), .val (.ref ln), .unset] [(.ref fb), (.int 2)])) rfl rfl (hb hby own_d14_8) _ (by rw [len_of S3 P3]; exact kq)) ?_
  refine own_g (mkF m 31 #[.val (.ref x), .val (.ref ln), .unset] [(.ref ln)]) (fun _ q => XS.icmpYes X2.here hx rfl (pc0 := 9) (pc' := 30) rfl (hb hby own_d14_9) rfl (feq (by decide : ¬ ((2 : Int32) = (16 : Int32)))).2 (by decide) (by decide) (XS.aloadN X2.here hx rfl (hb hby own_d14_30) rfl rfl q)) ?_
  refine own_callV X2 hx hZ (y := own_y10) (z := own_y10) hown (own_h hw 167 rfl) (own_h hw 168 rfl) (own_nf (own_h hw 170 rfl)) (own_h hw 170 rfl) (own_h hw 169 rfl) (own_h hw 171 rfl) (own_h hw 19 rfl) (by decide) E_l (own_lod l Z a0 hw [] ln sv h0 n0 (Nat.le_trans Z0 (Keep.refl h0 [x, fb]).1) hsv F_o) (by decide) (by decide) e2 (g := (mkF m 31 #[.val (.ref x), .val (.ref ln), .unset] [(.ref ln)])) rfl (by rw [hml]; rfl) (argsL := []) (rest := []) (lenOf own_pd__28_29Ljava_2ftime_2fLocalDate_3b rfl) rfl (W := 0) (by show 2 * 0 + _ ≤ _; exact Nat.le_of_eq rfl) (hb hby own_d14_31) rfl (by decide) (by decide) ?_
  rintro rv4 T4 L4 X4 ⟨rfl, Nq4, eh4⟩
  have N4 := Fr.app N0 Nq4
  show own_Fin p e below _ T4 (mkF m 34 #[.val (.ref x), .val (.ref ln), .unset] [sv])
  rcases ref_cases hsv with rfl | ⟨y5, rfl⟩
  · skip
    refine own_g (mkF m 45 #[.val (.ref x), .val (.ref ln), .val (.int 0)] [(.ref x)]) (fun _ q => XS.ifnonnullNo X4.here hx rfl (hb hby own_d14_34) rfl (XS.iconst X4.here hx rfl (hb hby own_d14_37) (XS.goto X4.here hx rfl (pc0 := 38) (pc' := 43) rfl (hb hby own_d14_38) (by decide) (by decide) (XS.istoreN X4.here hx rfl (hb hby own_d14_43) rfl (l' := #[.val (.ref x), .val (.ref ln), .val (.int 0)]) rfl (XS.aloadN X4.here hx rfl (hb hby own_d14_44) rfl rfl q))))) ?_
    obtain ⟨T6, X6, e6, st6⟩ := getF X4 hx hZ hown (host := "") (Or.inl (own_h hw 156 rfl)) Via.refl eh4 B_x (g := (mkF m 45 #[.val (.ref x), .val (.ref ln), .val (.int 0)] [(.ref x)])) rfl rfl (hb hby own_d14_45)
    refine own_by (g' := (mkF m 48 #[.val (.ref x), .val (.ref ln), .val (.int 0)] [(.ref fb)])) st6 ?_
    refine own_g (mkF m 49 #[.val (.ref x), .val (.ref ln), .val (.int 0)] [(.ref x), (.ref fb)]) (fun _ q => XS.aloadN X6.here hx rfl (hb hby own_d14_48) rfl rfl q) ?_
    obtain ⟨T7, X7, e7, st7⟩ := getF X6 hx hZ hown (host := "") (Or.inl (own_h hw 165 rfl)) Via.refl e6 N_x (g := (mkF m 49 #[.val (.ref x), .val (.ref ln), .val (.int 0)] [(.ref x), (.ref fb)])) rfl rfl (hb hby own_d14_49)
    refine own_by (g' := (mkF m 52 #[.val (.ref x), .val (.ref ln), .val (.int 0)] [(.int 2), (.ref fb)])) st7 ?_
    refine own_g (mkF m 53 #[.val (.ref x), .val (.ref ln), .val (.int 0)] [(.ref ln), (.int 2), (.ref fb)]) (fun _ q => XS.aloadN X7.here hx rfl (hb hby own_d14_52) rfl rfl q) ?_
    refine own_callV X7 hx hZ (y := own_y9) (z := own_y9) hown (own_h hw 172 rfl) (own_h hw 173 rfl) (own_nf (own_h hw 175 rfl)) (own_h hw 175 rfl) (own_h hw 174 rfl) (own_h hw 176 rfl) (own_h hw 19 rfl) (by decide) E_l (own_lof l Z a0 hw [] ln fc h0 n0 (Nat.le_trans Z0 (Keep.refl h0 [x, fb]).1) F_f) (by decide) (by decide) e7 (g := (mkF m 53 #[.val (.ref x), .val (.ref ln), .val (.int 0)] [(.ref ln), (.int 2), (.ref fb)])) rfl (by rw [hml]; rfl) (argsL := []) (rest := [(.int 2), (.ref fb)]) (lenOf own_pd__28_29Lcom_2fexample_2fbahikhata_2fbahikhata_2fmodel_2fFacility_3b rfl) rfl (W := 2) (by show 2 * 0 + _ ≤ _; exact Nat.le_of_eq rfl) (hb hby own_d14_53) rfl (by decide) (by decide) ?_
    rintro rv8 T8 L8 X8 ⟨rfl, Nq8, eh8⟩
    have N8 := Fr.app N4 Nq8
    show own_Fin p e below _ T8 (mkF m 56 #[.val (.ref x), .val (.ref ln), .val (.int 0)] [(.ref fc), (.int 2), (.ref fb)])
    refine own_callU X8 hx hZ (y := own_y7) (z := own_y14) hown (own_h hw 177 rfl) (own_h hw 178 rfl) (own_h hw 179 rfl) (own_h hw 181 rfl) (own_h hw 180 rfl) (own_h hw 183 rfl) (own_h hw 182 rfl) (by decide) E_f (own_ord l Z a0 hw [] fc oo h0 n0 (Nat.le_trans Z0 (Keep.refl h0 [x, fb]).1) O_f) (by decide) (by decide) eh8 (g := (mkF m 56 #[.val (.ref x), .val (.ref ln), .val (.int 0)] [(.ref fc), (.int 2), (.ref fb)])) rfl (by rw [hml]; rfl) (argsL := []) (rest := [(.int 2), (.ref fb)]) (lenOf own_pd__28_29I rfl) rfl (W := 2) (by show 2 * 0 + _ ≤ _; exact Nat.le_of_eq rfl) (hb hby own_d14_56) rfl (by decide) (by decide) ?_
    rintro rv9 T9 L9 X9 ⟨rfl, Nq9, eh9⟩
    have N9 := Fr.app N8 Nq9
    refine own_g (mkF m 62 #[.val (.ref x), .val (.ref ln), .val (.int 0)] [(.int ((oo ||| (0 : Int32)).toInt8.toInt32)), (.int 2), (.ref fb)]) (fun _ q => XS.iloadN X9.here hx rfl (hb hby own_d14_59) rfl (XS.ior X9.here hx rfl (hb hby own_d14_60) rfl (XS.i2b X9.here hx rfl (hb hby own_d14_61) rfl q))) ?_
    obtain ⟨cl10, Ar10, q10, S10, P10, H10, G10⟩ := id A_b
    have hin10 : ¬ ((2 : Int32) < 0 ∨ cl10.slots.size ≤ ((2 : Int32)).toNatClampNeg) := inb_of S10 ⟨by decide, by decide⟩
    obtain ⟨T11, h11, X11, e11, W11, st11⟩ := stB X9 hx hZ eh9 Ar10 (j := (2 : Int32)) hin10 (g := (mkF m 62 #[.val (.ref x), .val (.ref ln), .val (.int 0)] [(.int ((oo ||| (0 : Int32)).toInt8.toInt32)), (.int 2), (.ref fb)])) rfl rfl (hb hby own_d14_62)
    have V11 : Arv Z h11 fb kb .byte (16 : Int32) [(.int v0), (.int v1), (.int (((oo ||| (0 : Int32)).toInt8.toInt32).toInt8.toInt32)), (.int 0), (.int 0), (.int 0), (.int 0), (.int 0), (.int 0), (.int 0), (.int 0), (.int 0), (.int 0), (.int 0), (.int 0), (.int 0)] (.int 0) := Arv.set Ar10 q10 S10 P10 H10 G10 (fits_nar_byte _) W11 2 rfl (Nat.le_of_ble_eq_true rfl)
    have N11 := Fr.snoc X11 N9 g_b
    refine own_by (g' := (mkF m 63 #[.val (.ref x), .val (.ref ln), .val (.int 0)] [])) st11 ?_
    refine own_g (mkF m 65 #[.val (.ref x), .val (.ref ln), .val (.int 0)] [(.ref x), (.ref x)]) (fun _ q => XS.aloadN X11.here hx rfl (hb hby own_d14_63) rfl rfl (XS.dup X11.here hx rfl (hb hby own_d14_64) rfl rfl q)) ?_
    have f12_x := (N_x.other W11 (Or.inl n_xb))
    obtain ⟨T13, X13, e13, st13⟩ := getF X11 hx hZ hown (host := "") (Or.inl (own_h hw 165 rfl)) Via.refl e11 f12_x (g := (mkF m 65 #[.val (.ref x), .val (.ref ln), .val (.int 0)] [(.ref x), (.ref x)])) rfl rfl (hb hby own_d14_65)
    refine own_by (g' := (mkF m 68 #[.val (.ref x), .val (.ref ln), .val (.int 0)] [(.int 2), (.ref x)])) st13 ?_
    refine own_g (mkF m 70 #[.val (.ref x), .val (.ref ln), .val (.int 0)] [(.int 3), (.ref x)]) (fun _ q => XS.iconst X13.here hx rfl (hb hby own_d14_68) (XS.iadd X13.here hx rfl (hb hby own_d14_69) rfl q)) ?_
    have e14_x := (E_x.wr W11)
    obtain ⟨T15, h15, X15, e15, W15, st15⟩ := putF X13 hx hZ hown (host := "") (Or.inl (own_h hw 165 rfl)) Via.refl e13 f12_x e14_x (Or.inl (own_h hw 166 rfl)) (own_h hw 112 rfl) (ty := .int) (by decide) (rfl) (rfl) (g := (mkF m 70 #[.val (.ref x), .val (.ref ln), .val (.int 0)] [(.int 3), (.ref x)])) rfl rfl (hb hby own_d14_70)
    have Fw15 := f12_x.same W15
    have N15 := Fr.snoc X15 N11 g_x
    refine own_by (g' := (mkF m 73 #[.val (.ref x), .val (.ref ln), .val (.int 0)] [])) st15 ?_
    have k16_ := (((Keep.refl h0 [x, fb]).wr W11 (Or.inl (List.mem_of_getElem? (i := 1) rfl))).wr W15 (Or.inl (List.mem_of_getElem? (i := 0) rfl)))
    have f17_x := ((B_x.other W11 (Or.inl n_xb)).other W15 (Or.inr (slot_ne (Or.inl (own_h hw 157 rfl)) (Or.inl (own_h hw 166 rfl)) (by decide) (t := (.array .byte)) (t' := .int) (by decide) (by decide))))
    have a18_fb := (V11.other W15 (Ne.symm n_xb))
    exact own_end X15 (v := none) (fun _ => rfl) hlk (fun hr => X15.returnOut hx Bd.returns (hb hby own_d14_73) hr) (by rw [e15]; exact ⟨rfl, N15, k16_, Fw15, f17_x, a18_fb⟩) (by decide) (by decide)
  · skip
    refine own_g (mkF m 45 #[.val (.ref x), .val (.ref ln), .val (.int 64)] [(.ref x)]) (fun _ q => XS.ifnonnullYes X4.here hx rfl (pc0 := 34) (pc' := 41) rfl (hb hby own_d14_34) rfl (by decide) (by decide) (XS.bipush X4.here hx rfl (hb hby own_d14_41) (XS.istoreN X4.here hx rfl (hb hby own_d14_43) rfl (l' := #[.val (.ref x), .val (.ref ln), .val (.int 64)]) rfl (XS.aloadN X4.here hx rfl (hb hby own_d14_44) rfl rfl q)))) ?_
    obtain ⟨T19, X19, e19, st19⟩ := getF X4 hx hZ hown (host := "") (Or.inl (own_h hw 156 rfl)) Via.refl eh4 B_x (g := (mkF m 45 #[.val (.ref x), .val (.ref ln), .val (.int 64)] [(.ref x)])) rfl rfl (hb hby own_d14_45)
    refine own_by (g' := (mkF m 48 #[.val (.ref x), .val (.ref ln), .val (.int 64)] [(.ref fb)])) st19 ?_
    refine own_g (mkF m 49 #[.val (.ref x), .val (.ref ln), .val (.int 64)] [(.ref x), (.ref fb)]) (fun _ q => XS.aloadN X19.here hx rfl (hb hby own_d14_48) rfl rfl q) ?_
    obtain ⟨T20, X20, e20, st20⟩ := getF X19 hx hZ hown (host := "") (Or.inl (own_h hw 165 rfl)) Via.refl e19 N_x (g := (mkF m 49 #[.val (.ref x), .val (.ref ln), .val (.int 64)] [(.ref x), (.ref fb)])) rfl rfl (hb hby own_d14_49)
    refine own_by (g' := (mkF m 52 #[.val (.ref x), .val (.ref ln), .val (.int 64)] [(.int 2), (.ref fb)])) st20 ?_
    refine own_g (mkF m 53 #[.val (.ref x), .val (.ref ln), .val (.int 64)] [(.ref ln), (.int 2), (.ref fb)]) (fun _ q => XS.aloadN X20.here hx rfl (hb hby own_d14_52) rfl rfl q) ?_
    refine own_callV X20 hx hZ (y := own_y9) (z := own_y9) hown (own_h hw 172 rfl) (own_h hw 173 rfl) (own_nf (own_h hw 175 rfl)) (own_h hw 175 rfl) (own_h hw 174 rfl) (own_h hw 176 rfl) (own_h hw 19 rfl) (by decide) E_l (own_lof l Z a0 hw [] ln fc h0 n0 (Nat.le_trans Z0 (Keep.refl h0 [x, fb]).1) F_f) (by decide) (by decide) e20 (g := (mkF m 53 #[.val (.ref x), .val (.ref ln), .val (.int 64)] [(.ref ln), (.int 2), (.ref fb)])) rfl (by rw [hml]; rfl) (argsL := []) (rest := [(.int 2), (.ref fb)]) (lenOf own_pd__28_29Lcom_2fexample_2fbahikhata_2fbahikhata_2fmodel_2fFacility_3b rfl) rfl (W := 2) (by show 2 * 0 + _ ≤ _; exact Nat.le_of_eq rfl) (hb hby own_d14_53) rfl (by decide) (by decide) ?_
    rintro rv21 T21 L21 X21 ⟨rfl, Nq21, eh21⟩
    have N21 := Fr.app N4 Nq21
    show own_Fin p e below _ T21 (mkF m 56 #[.val (.ref x), .val (.ref ln), .val (.int 64)] [(.ref fc), (.int 2), (.ref fb)])
    refine own_callU X21 hx hZ (y := own_y7) (z := own_y14) hown (own_h hw 177 rfl) (own_h hw 178 rfl) (own_h hw 179 rfl) (own_h hw 181 rfl) (own_h hw 180 rfl) (own_h hw 183 rfl) (own_h hw 182 rfl) (by decide) E_f (own_ord l Z a0 hw [] fc oo h0 n0 (Nat.le_trans Z0 (Keep.refl h0 [x, fb]).1) O_f) (by decide) (by decide) eh21 (g := (mkF m 56 #[.val (.ref x), .val (.ref ln), .val (.int 64)] [(.ref fc), (.int 2), (.ref fb)])) rfl (by rw [hml]; rfl) (argsL := []) (rest := [(.int 2), (.ref fb)]) (lenOf own_pd__28_29I rfl) rfl (W := 2) (by show 2 * 0 + _ ≤ _; exact Nat.le_of_eq rfl) (hb hby own_d14_56) rfl (by decide) (by decide) ?_
    rintro rv22 T22 L22 X22 ⟨rfl, Nq22, eh22⟩
    have N22 := Fr.app N21 Nq22
    refine own_g (mkF m 62 #[.val (.ref x), .val (.ref ln), .val (.int 64)] [(.int ((oo ||| (64 : Int32)).toInt8.toInt32)), (.int 2), (.ref fb)]) (fun _ q => XS.iloadN X22.here hx rfl (hb hby own_d14_59) rfl (XS.ior X22.here hx rfl (hb hby own_d14_60) rfl (XS.i2b X22.here hx rfl (hb hby own_d14_61) rfl q))) ?_
    obtain ⟨cl23, Ar23, q23, S23, P23, H23, G23⟩ := id A_b
    have hin23 : ¬ ((2 : Int32) < 0 ∨ cl23.slots.size ≤ ((2 : Int32)).toNatClampNeg) := inb_of S23 ⟨by decide, by decide⟩
    obtain ⟨T24, h24, X24, e24, W24, st24⟩ := stB X22 hx hZ eh22 Ar23 (j := (2 : Int32)) hin23 (g := (mkF m 62 #[.val (.ref x), .val (.ref ln), .val (.int 64)] [(.int ((oo ||| (64 : Int32)).toInt8.toInt32)), (.int 2), (.ref fb)])) rfl rfl (hb hby own_d14_62)
    have V24 : Arv Z h24 fb kb .byte (16 : Int32) [(.int v0), (.int v1), (.int (((oo ||| (64 : Int32)).toInt8.toInt32).toInt8.toInt32)), (.int 0), (.int 0), (.int 0), (.int 0), (.int 0), (.int 0), (.int 0), (.int 0), (.int 0), (.int 0), (.int 0), (.int 0), (.int 0)] (.int 0) := Arv.set Ar23 q23 S23 P23 H23 G23 (fits_nar_byte _) W24 2 rfl (Nat.le_of_ble_eq_true rfl)
    have N24 := Fr.snoc X24 N22 g_b
    refine own_by (g' := (mkF m 63 #[.val (.ref x), .val (.ref ln), .val (.int 64)] [])) st24 ?_
    refine own_g (mkF m 65 #[.val (.ref x), .val (.ref ln), .val (.int 64)] [(.ref x), (.ref x)]) (fun _ q => XS.aloadN X24.here hx rfl (hb hby own_d14_63) rfl rfl (XS.dup X24.here hx rfl (hb hby own_d14_64) rfl rfl q)) ?_
    have f25_x := (N_x.other W24 (Or.inl n_xb))
    obtain ⟨T26, X26, e26, st26⟩ := getF X24 hx hZ hown (host := "") (Or.inl (own_h hw 165 rfl)) Via.refl e24 f25_x (g := (mkF m 65 #[.val (.ref x), .val (.ref ln), .val (.int 64)] [(.ref x), (.ref x)])) rfl rfl (hb hby own_d14_65)
    refine own_by (g' := (mkF m 68 #[.val (.ref x), .val (.ref ln), .val (.int 64)] [(.int 2), (.ref x)])) st26 ?_
    refine own_g (mkF m 70 #[.val (.ref x), .val (.ref ln), .val (.int 64)] [(.int 3), (.ref x)]) (fun _ q => XS.iconst X26.here hx rfl (hb hby own_d14_68) (XS.iadd X26.here hx rfl (hb hby own_d14_69) rfl q)) ?_
    have e27_x := (E_x.wr W24)
    obtain ⟨T28, h28, X28, e28, W28, st28⟩ := putF X26 hx hZ hown (host := "") (Or.inl (own_h hw 165 rfl)) Via.refl e26 f25_x e27_x (Or.inl (own_h hw 166 rfl)) (own_h hw 112 rfl) (ty := .int) (by decide) (rfl) (rfl) (g := (mkF m 70 #[.val (.ref x), .val (.ref ln), .val (.int 64)] [(.int 3), (.ref x)])) rfl rfl (hb hby own_d14_70)
    have Fw28 := f25_x.same W28
    have N28 := Fr.snoc X28 N24 g_x
    refine own_by (g' := (mkF m 73 #[.val (.ref x), .val (.ref ln), .val (.int 64)] [])) st28 ?_
    have k29_ := (((Keep.refl h0 [x, fb]).wr W24 (Or.inl (List.mem_of_getElem? (i := 1) rfl))).wr W28 (Or.inl (List.mem_of_getElem? (i := 0) rfl)))
    have f30_x := ((B_x.other W24 (Or.inl n_xb)).other W28 (Or.inr (slot_ne (Or.inl (own_h hw 157 rfl)) (Or.inl (own_h hw 166 rfl)) (by decide) (t := (.array .byte)) (t' := .int) (by decide) (by decide))))
    have a31_fb := (V24.other W28 (Ne.symm n_xb))
    exact own_end X28 (v := none) (fun _ => rfl) hlk (fun hr => X28.returnOut hx Bd.returns (hb hby own_d14_73) hr) (by rw [e28]; exact ⟨rfl, N28, k29_, Fw28, f30_x, a31_fb⟩) (by decide) (by decide)
theorem own_d18_0 : decode prog_5_method_6_code 0 = .ok (.aload_n 0, 1) := by decide +kernel
theorem own_d18_1 : decode prog_5_method_6_code 1 = .ok (.getfield 20, 3) := by decide +kernel
theorem own_d18_4 : decode prog_5_method_6_code 4 = .ok (.iload_n 1, 1) := by decide +kernel
theorem own_d18_5 : decode prog_5_method_6_code 5 = .ok (.baload, 1) := by decide +kernel
theorem own_d18_6 : decode prog_5_method_6_code 6 = .ok (.bipush 64, 2) := by decide +kernel
theorem own_d18_8 : decode prog_5_method_6_code 8 = .ok (.iand, 1) := by decide +kernel
theorem own_d18_9 : decode prog_5_method_6_code 9 = .ok (.ifCond .eq 7, 3) := by decide +kernel
theorem own_d18_16 : decode prog_5_method_6_code 16 = .ok (.iconst 0, 1) := by decide +kernel
theorem own_d18_17 : decode prog_5_method_6_code 17 = .ok (.ireturn, 1) := by decide +kernel
theorem own_d18_12 : decode prog_5_method_6_code 12 = .ok (.iconst 1, 1) := by decide +kernel
theorem own_d18_13 : decode prog_5_method_6_code 13 = .ok (.goto 4, 3) := by decide +kernel
theorem own_gv0_ef (m : MethodId) (x : Addr) : entryFrame m #[(.ref x), (.int 0)] 2 = mkF m 0 #[.val (.ref x), .val (.int 0)] [] := by  first | (simp [entryFrame, mkF, argsToLocals, Value.category]; done) | rfl
def own_gv0_Q (Z : State) (x : Addr) (fb : Addr) (kb : ClassId) (v0 : Int32) (v1 : Int32) (v2 : Int32) (h0 : Heap) (n0 : Nat) (v : Option Value) (h : Heap) (L : List Loc) : Prop := v = some (.int (own_bit v0)) ∧ Fr n0 L ∧ h = h0
set_option maxRecDepth 65536 in
set_option maxHeartbeats 40000000 in
theorem own_gv0 (l : Launch) (Z : State) (a0 : Array Value) (hw : ∀ d ∈ tables_1, d.before a0 Z = true) (ws : List Jvm.Cond) (x : Addr) (fb : Addr) (kb : ClassId) (v0 : Int32) (v1 : Int32) (v2 : Int32) (h0 : Heap) (n0 : Nat) (Z0 : n0 ≤ h0.size) (B_x : Fld Z h0 x "com/example/bahikhata/bahikhata/io/BookIndex" "facts" "[B" (.ref fb)) (A_b : Arv Z h0 fb kb .byte (16 : Int32) [(.int v0), (.int v1), (.int v2), (.int 0), (.int 0), (.int 0), (.int 0), (.int 0), (.int 0), (.int 0), (.int 0), (.int 0), (.int 0), (.int 0), (.int 0), (.int 0)] (.int 0)) :
    MetFree l own_y1 (head1 (Jvm.Cond.code own_y1 prog_5_method_6_code 2 (some .boolean) :: ws) (⟨0, 0, 0, 0⟩ : Room)) (fun aa U => aa = #[(.ref x), (.int 0)] ∧ Z.Warmed39 U.vm ∧ U.heap = h0) (fun _ _ _ _ _ => True) (fun _ U o U' => ∃ v L, o = .returned v ∧ own_gv0_Q Z x fb kb v0 v1 v2 h0 n0 v U'.heap L ∧ FrameEnd U o U' L (⟨0, 0, 0, 0⟩ : Room).cells (⟨0, 0, 0, 0⟩ : Room).slots) := by
  refine MetFree.of_bodySF (plainFor_of_name own_pn_com_example_bahikhata_bahikhata_io_BookIndex) hisR ?_
  intro p e s m args below meth c s₁ Bd hml0 hP hK
  obtain ⟨rfl, hZ, hh⟩ := hP
  have hx := Bd.exec
  have hby := Bd.bytes
  have hml : c.maxLocals = 2 := hml0
  have hown : s.vm.findClass "com/example/bahikhata/bahikhata/io/BookIndex" = some m.cls := findClass_of_methodNamed Bd.named
  have hnm := (name_of_methodNamed Bd.named Bd.method).1
  have hlk := Bd.notSynchronized
  have X0 : Stand p l e (⟨0, 0, 0, 0⟩ : Room) s m #[(.ref x), (.int 0)] below meth c s₁ [] 0 0 := Stand.of_body Bd
  have e0 : s₁.heap = h0 := by rw [← hh, Bd.state]; rfl
  have N0 := Fr.nil n0
  refine own_start (Q := own_gv0_Q Z x fb kb v0 v1 v2 h0 n0) (own_gv0_ef m x) ?_
  refine own_g (mkF m 1 #[.val (.ref x), .val (.int 0)] [(.ref x)]) (fun _ q => XS.aloadN X0.here hx rfl (hb hby own_d18_0) rfl rfl q) ?_
  obtain ⟨T1, X1, e1, st1⟩ := getF X0 hx hZ hown (host := "") (Or.inl (own_h hw 156 rfl)) Via.refl e0 B_x (g := (mkF m 1 #[.val (.ref x), .val (.int 0)] [(.ref x)])) rfl rfl (hb hby own_d18_1)
  refine own_by (g' := (mkF m 4 #[.val (.ref x), .val (.int 0)] [(.ref fb)])) st1 ?_
  refine own_g (mkF m 5 #[.val (.ref x), .val (.int 0)] [(.int 0), (.ref fb)]) (fun _ q => XS.iloadN X1.here hx rfl (hb hby own_d18_4) rfl q) ?_
  obtain ⟨cl2, Ar2, q2, S2, P2, H2, G2⟩ := id A_b
  have hin2 : ¬ ((0 : Int32) < 0 ∨ cl2.slots.size ≤ ((0 : Int32)).toNatClampNeg) := inb_of S2 ⟨by decide, by decide⟩
  refine own_by (g' := (mkF m 6 #[.val (.ref x), .val (.int 0)] [(.int v0)])) (fun _ kq => X1.baloadBytes hx (j := (0 : Int32)) (v := (.int v0)) (by rw [e1]; exact Ar2.1) (State.isArrayOf_alike hZ.alike Ar2.2.1) Ar2.2.2 hin2 (H2.at hin2 rfl) (g := (mkF m 5 #[.val (.ref x), .val (.int 0)] [(.int 0), (.ref fb)])) rfl rfl (hb hby own_d18_5) _ kq) ?_
  refine own_g (mkF m 9 #[.val (.ref x), .val (.int 0)] [(.int (v0 &&& (64 : Int32)))]) (fun _ q => XS.bipush X1.here hx rfl (hb hby own_d18_6) (XS.iand X1.here hx rfl (hb hby own_d18_8) rfl q)) ?_
  by_cases hc3 : (v0 &&& (64 : Int32)) = (0 : Int32)
  · refine own_g (mkF m 17 #[.val (.ref x), .val (.int 0)] [(.int 0)]) (fun _ q => XS.ifYes X1.here hx rfl (pc0 := 9) (pc' := 16) rfl (hb hby own_d18_9) rfl ((if0 _ _).trans (teq hc3).1) (by decide) (by decide) (XS.iconst X1.here hx rfl (hb hby own_d18_16) q)) ?_
    exact own_end X1 (v := some (.int (nar .boolean (0 : Int32)))) (fun h => by rw [Bd.returns] at h; cases h) hlk (fun hr => retN X1 hx (t := .boolean) Bd.returns (by simp) (hb hby own_d18_17) hr) (by rw [e1]; exact ⟨by rw [own_bit, if_pos hc3]; rfl, N0, rfl⟩) (by decide) (by decide)
  · refine own_g (mkF m 17 #[.val (.ref x), .val (.int 0)] [(.int 1)]) (fun _ q => XS.ifNo X1.here hx rfl (hb hby own_d18_9) rfl ((if0 _ _).trans (feq hc3).1) (XS.iconst X1.here hx rfl (hb hby own_d18_12) (XS.goto X1.here hx rfl (pc0 := 13) (pc' := 17) rfl (hb hby own_d18_13) (by decide) (by decide) q))) ?_
    exact own_end X1 (v := some (.int (nar .boolean (1 : Int32)))) (fun h => by rw [Bd.returns] at h; cases h) hlk (fun hr => retN X1 hx (t := .boolean) Bd.returns (by simp) (hb hby own_d18_17) hr) (by rw [e1]; exact ⟨by rw [own_bit, if_neg hc3]; rfl, N0, rfl⟩) (by decide) (by decide)
theorem own_gv1_ef (m : MethodId) (x : Addr) : entryFrame m #[(.ref x), (.int 1)] 2 = mkF m 0 #[.val (.ref x), .val (.int 1)] [] := by  first | (simp [entryFrame, mkF, argsToLocals, Value.category]; done) | rfl
def own_gv1_Q (Z : State) (x : Addr) (fb : Addr) (kb : ClassId) (v0 : Int32) (v1 : Int32) (v2 : Int32) (h0 : Heap) (n0 : Nat) (v : Option Value) (h : Heap) (L : List Loc) : Prop := v = some (.int (own_bit v1)) ∧ Fr n0 L ∧ h = h0
set_option maxRecDepth 65536 in
set_option maxHeartbeats 40000000 in
theorem own_gv1 (l : Launch) (Z : State) (a0 : Array Value) (hw : ∀ d ∈ tables_1, d.before a0 Z = true) (ws : List Jvm.Cond) (x : Addr) (fb : Addr) (kb : ClassId) (v0 : Int32) (v1 : Int32) (v2 : Int32) (h0 : Heap) (n0 : Nat) (Z0 : n0 ≤ h0.size) (B_x : Fld Z h0 x "com/example/bahikhata/bahikhata/io/BookIndex" "facts" "[B" (.ref fb)) (A_b : Arv Z h0 fb kb .byte (16 : Int32) [(.int v0), (.int v1), (.int v2), (.int 0), (.int 0), (.int 0), (.int 0), (.int 0), (.int 0), (.int 0), (.int 0), (.int 0), (.int 0), (.int 0), (.int 0), (.int 0)] (.int 0)) :
    MetFree l own_y1 (head1 (Jvm.Cond.code own_y1 prog_5_method_6_code 2 (some .boolean) :: ws) (⟨0, 0, 0, 0⟩ : Room)) (fun aa U => aa = #[(.ref x), (.int 1)] ∧ Z.Warmed39 U.vm ∧ U.heap = h0) (fun _ _ _ _ _ => True) (fun _ U o U' => ∃ v L, o = .returned v ∧ own_gv1_Q Z x fb kb v0 v1 v2 h0 n0 v U'.heap L ∧ FrameEnd U o U' L (⟨0, 0, 0, 0⟩ : Room).cells (⟨0, 0, 0, 0⟩ : Room).slots) := by
  refine MetFree.of_bodySF (plainFor_of_name own_pn_com_example_bahikhata_bahikhata_io_BookIndex) hisR ?_
  intro p e s m args below meth c s₁ Bd hml0 hP hK
  obtain ⟨rfl, hZ, hh⟩ := hP
  have hx := Bd.exec
  have hby := Bd.bytes
  have hml : c.maxLocals = 2 := hml0
  have hown : s.vm.findClass "com/example/bahikhata/bahikhata/io/BookIndex" = some m.cls := findClass_of_methodNamed Bd.named
  have hnm := (name_of_methodNamed Bd.named Bd.method).1
  have hlk := Bd.notSynchronized
  have X0 : Stand p l e (⟨0, 0, 0, 0⟩ : Room) s m #[(.ref x), (.int 1)] below meth c s₁ [] 0 0 := Stand.of_body Bd
  have e0 : s₁.heap = h0 := by rw [← hh, Bd.state]; rfl
  have N0 := Fr.nil n0
  refine own_start (Q := own_gv1_Q Z x fb kb v0 v1 v2 h0 n0) (own_gv1_ef m x) ?_
  refine own_g (mkF m 1 #[.val (.ref x), .val (.int 1)] [(.ref x)]) (fun _ q => XS.aloadN X0.here hx rfl (hb hby own_d18_0) rfl rfl q) ?_
  obtain ⟨T1, X1, e1, st1⟩ := getF X0 hx hZ hown (host := "") (Or.inl (own_h hw 156 rfl)) Via.refl e0 B_x (g := (mkF m 1 #[.val (.ref x), .val (.int 1)] [(.ref x)])) rfl rfl (hb hby own_d18_1)
  refine own_by (g' := (mkF m 4 #[.val (.ref x), .val (.int 1)] [(.ref fb)])) st1 ?_
  refine own_g (mkF m 5 #[.val (.ref x), .val (.int 1)] [(.int 1), (.ref fb)]) (fun _ q => XS.iloadN X1.here hx rfl (hb hby own_d18_4) rfl q) ?_
  obtain ⟨cl2, Ar2, q2, S2, P2, H2, G2⟩ := id A_b
  have hin2 : ¬ ((1 : Int32) < 0 ∨ cl2.slots.size ≤ ((1 : Int32)).toNatClampNeg) := inb_of S2 ⟨by decide, by decide⟩
  refine own_by (g' := (mkF m 6 #[.val (.ref x), .val (.int 1)] [(.int v1)])) (fun _ kq => X1.baloadBytes hx (j := (1 : Int32)) (v := (.int v1)) (by rw [e1]; exact Ar2.1) (State.isArrayOf_alike hZ.alike Ar2.2.1) Ar2.2.2 hin2 (H2.at hin2 rfl) (g := (mkF m 5 #[.val (.ref x), .val (.int 1)] [(.int 1), (.ref fb)])) rfl rfl (hb hby own_d18_5) _ kq) ?_
  refine own_g (mkF m 9 #[.val (.ref x), .val (.int 1)] [(.int (v1 &&& (64 : Int32)))]) (fun _ q => XS.bipush X1.here hx rfl (hb hby own_d18_6) (XS.iand X1.here hx rfl (hb hby own_d18_8) rfl q)) ?_
  by_cases hc3 : (v1 &&& (64 : Int32)) = (0 : Int32)
  · refine own_g (mkF m 17 #[.val (.ref x), .val (.int 1)] [(.int 0)]) (fun _ q => XS.ifYes X1.here hx rfl (pc0 := 9) (pc' := 16) rfl (hb hby own_d18_9) rfl ((if0 _ _).trans (teq hc3).1) (by decide) (by decide) (XS.iconst X1.here hx rfl (hb hby own_d18_16) q)) ?_
    exact own_end X1 (v := some (.int (nar .boolean (0 : Int32)))) (fun h => by rw [Bd.returns] at h; cases h) hlk (fun hr => retN X1 hx (t := .boolean) Bd.returns (by simp) (hb hby own_d18_17) hr) (by rw [e1]; exact ⟨by rw [own_bit, if_pos hc3]; rfl, N0, rfl⟩) (by decide) (by decide)
  · refine own_g (mkF m 17 #[.val (.ref x), .val (.int 1)] [(.int 1)]) (fun _ q => XS.ifNo X1.here hx rfl (hb hby own_d18_9) rfl ((if0 _ _).trans (feq hc3).1) (XS.iconst X1.here hx rfl (hb hby own_d18_12) (XS.goto X1.here hx rfl (pc0 := 13) (pc' := 17) rfl (hb hby own_d18_13) (by decide) (by decide) q))) ?_
    exact own_end X1 (v := some (.int (nar .boolean (1 : Int32)))) (fun h => by rw [Bd.returns] at h; cases h) hlk (fun hr => retN X1 hx (t := .boolean) Bd.returns (by simp) (hb hby own_d18_17) hr) (by rw [e1]; exact ⟨by rw [own_bit, if_neg hc3]; rfl, N0, rfl⟩) (by decide) (by decide)
theorem own_gv2_ef (m : MethodId) (x : Addr) : entryFrame m #[(.ref x), (.int 2)] 2 = mkF m 0 #[.val (.ref x), .val (.int 2)] [] := by  first | (simp [entryFrame, mkF, argsToLocals, Value.category]; done) | rfl
def own_gv2_Q (Z : State) (x : Addr) (fb : Addr) (kb : ClassId) (v0 : Int32) (v1 : Int32) (v2 : Int32) (h0 : Heap) (n0 : Nat) (v : Option Value) (h : Heap) (L : List Loc) : Prop := v = some (.int (own_bit v2)) ∧ Fr n0 L ∧ h = h0
set_option maxRecDepth 65536 in
set_option maxHeartbeats 40000000 in
theorem own_gv2 (l : Launch) (Z : State) (a0 : Array Value) (hw : ∀ d ∈ tables_1, d.before a0 Z = true) (ws : List Jvm.Cond) (x : Addr) (fb : Addr) (kb : ClassId) (v0 : Int32) (v1 : Int32) (v2 : Int32) (h0 : Heap) (n0 : Nat) (Z0 : n0 ≤ h0.size) (B_x : Fld Z h0 x "com/example/bahikhata/bahikhata/io/BookIndex" "facts" "[B" (.ref fb)) (A_b : Arv Z h0 fb kb .byte (16 : Int32) [(.int v0), (.int v1), (.int v2), (.int 0), (.int 0), (.int 0), (.int 0), (.int 0), (.int 0), (.int 0), (.int 0), (.int 0), (.int 0), (.int 0), (.int 0), (.int 0)] (.int 0)) :
    MetFree l own_y1 (head1 (Jvm.Cond.code own_y1 prog_5_method_6_code 2 (some .boolean) :: ws) (⟨0, 0, 0, 0⟩ : Room)) (fun aa U => aa = #[(.ref x), (.int 2)] ∧ Z.Warmed39 U.vm ∧ U.heap = h0) (fun _ _ _ _ _ => True) (fun _ U o U' => ∃ v L, o = .returned v ∧ own_gv2_Q Z x fb kb v0 v1 v2 h0 n0 v U'.heap L ∧ FrameEnd U o U' L (⟨0, 0, 0, 0⟩ : Room).cells (⟨0, 0, 0, 0⟩ : Room).slots) := by
  refine MetFree.of_bodySF (plainFor_of_name own_pn_com_example_bahikhata_bahikhata_io_BookIndex) hisR ?_
  intro p e s m args below meth c s₁ Bd hml0 hP hK
  obtain ⟨rfl, hZ, hh⟩ := hP
  have hx := Bd.exec
  have hby := Bd.bytes
  have hml : c.maxLocals = 2 := hml0
  have hown : s.vm.findClass "com/example/bahikhata/bahikhata/io/BookIndex" = some m.cls := findClass_of_methodNamed Bd.named
  have hnm := (name_of_methodNamed Bd.named Bd.method).1
  have hlk := Bd.notSynchronized
  have X0 : Stand p l e (⟨0, 0, 0, 0⟩ : Room) s m #[(.ref x), (.int 2)] below meth c s₁ [] 0 0 := Stand.of_body Bd
  have e0 : s₁.heap = h0 := by rw [← hh, Bd.state]; rfl
  have N0 := Fr.nil n0
  refine own_start (Q := own_gv2_Q Z x fb kb v0 v1 v2 h0 n0) (own_gv2_ef m x) ?_
  refine own_g (mkF m 1 #[.val (.ref x), .val (.int 2)] [(.ref x)]) (fun _ q => XS.aloadN X0.here hx rfl (hb hby own_d18_0) rfl rfl q) ?_
  obtain ⟨T1, X1, e1, st1⟩ := getF X0 hx hZ hown (host := "") (Or.inl (own_h hw 156 rfl)) Via.refl e0 B_x (g := (mkF m 1 #[.val (.ref x), .val (.int 2)] [(.ref x)])) rfl rfl (hb hby own_d18_1)
  refine own_by (g' := (mkF m 4 #[.val (.ref x), .val (.int 2)] [(.ref fb)])) st1 ?_
  refine own_g (mkF m 5 #[.val (.ref x), .val (.int 2)] [(.int 2), (.ref fb)]) (fun _ q => XS.iloadN X1.here hx rfl (hb hby own_d18_4) rfl q) ?_
  obtain ⟨cl2, Ar2, q2, S2, P2, H2, G2⟩ := id A_b
  have hin2 : ¬ ((2 : Int32) < 0 ∨ cl2.slots.size ≤ ((2 : Int32)).toNatClampNeg) := inb_of S2 ⟨by decide, by decide⟩
  refine own_by (g' := (mkF m 6 #[.val (.ref x), .val (.int 2)] [(.int v2)])) (fun _ kq => X1.baloadBytes hx (j := (2 : Int32)) (v := (.int v2)) (by rw [e1]; exact Ar2.1) (State.isArrayOf_alike hZ.alike Ar2.2.1) Ar2.2.2 hin2 (H2.at hin2 rfl) (g := (mkF m 5 #[.val (.ref x), .val (.int 2)] [(.int 2), (.ref fb)])) rfl rfl (hb hby own_d18_5) _ kq) ?_
  refine own_g (mkF m 9 #[.val (.ref x), .val (.int 2)] [(.int (v2 &&& (64 : Int32)))]) (fun _ q => XS.bipush X1.here hx rfl (hb hby own_d18_6) (XS.iand X1.here hx rfl (hb hby own_d18_8) rfl q)) ?_
  by_cases hc3 : (v2 &&& (64 : Int32)) = (0 : Int32)
  · refine own_g (mkF m 17 #[.val (.ref x), .val (.int 2)] [(.int 0)]) (fun _ q => XS.ifYes X1.here hx rfl (pc0 := 9) (pc' := 16) rfl (hb hby own_d18_9) rfl ((if0 _ _).trans (teq hc3).1) (by decide) (by decide) (XS.iconst X1.here hx rfl (hb hby own_d18_16) q)) ?_
    exact own_end X1 (v := some (.int (nar .boolean (0 : Int32)))) (fun h => by rw [Bd.returns] at h; cases h) hlk (fun hr => retN X1 hx (t := .boolean) Bd.returns (by simp) (hb hby own_d18_17) hr) (by rw [e1]; exact ⟨by rw [own_bit, if_pos hc3]; rfl, N0, rfl⟩) (by decide) (by decide)
  · refine own_g (mkF m 17 #[.val (.ref x), .val (.int 2)] [(.int 1)]) (fun _ q => XS.ifNo X1.here hx rfl (hb hby own_d18_9) rfl ((if0 _ _).trans (feq hc3).1) (XS.iconst X1.here hx rfl (hb hby own_d18_12) (XS.goto X1.here hx rfl (pc0 := 13) (pc' := 17) rfl (hb hby own_d18_13) (by decide) (by decide) q))) ?_
    exact own_end X1 (v := some (.int (nar .boolean (1 : Int32)))) (fun h => by rw [Bd.returns] at h; cases h) hlk (fun hr => retN X1 hx (t := .boolean) Bd.returns (by simp) (hb hby own_d18_17) hr) (by rw [e1]; exact ⟨by rw [own_bit, if_neg hc3]; rfl, N0, rfl⟩) (by decide) (by decide)
theorem own_pd__28I_29Lcom_2fexample_2fbahikhata_2fbahikhata_2fmodel_2fLoan_3b : parseMethodDescriptor "(I)Lcom/example/bahikhata/bahikhata/model/Loan;" = some ⟨[.int], some (.object "com/example/bahikhata/bahikhata/model/Loan")⟩ := by decide +kernel
theorem own_pd__28Ljava_2flang_2fString_3b_29V : parseMethodDescriptor "(Ljava/lang/String;)V" = some ⟨[(.object "java/lang/String")], none⟩ := by decide +kernel
theorem own_pd__28Lcom_2fexample_2fbahikhata_2fbahikhata_2fmodel_2fLoan_3b_29V : parseMethodDescriptor "(Lcom/example/bahikhata/bahikhata/model/Loan;)V" = some ⟨[(.object "com/example/bahikhata/bahikhata/model/Loan")], none⟩ := by decide +kernel
theorem own_rm0_ef (m : MethodId) (p0 : Int32) (p1 : Int32) (p2 : Int32) : entryFrame m #[(.int p0), (.int p1), (.int p2)] maxLocals = mkF m 0 #[.val (.int p0), .val (.int p1), .val (.int p2), .unset, .unset, .unset, .unset, .unset, .unset, .unset] [] := by  first | (simp [entryFrame, mkF, argsToLocals, Value.category, maxLocals]; done) | rfl
def own_rm0_Q (Z : State) (p0 : Int32) (p1 : Int32) (p2 : Int32) (ep : Addr) (zr : Addr) (f0 : Addr) (f1 : Addr) (f2 : Addr) (f3 : Addr) (h0 : Heap) (n0 : Nat) (v : Option Value) (h : Heap) (L : List Loc) : Prop := v = some (.int 1) ∧ Fr n0 L
set_option maxRecDepth 65536 in
set_option maxHeartbeats 40000000 in
theorem own_rm0 (l : Launch) (Z : State) (a0 : Array Value) (hw : ∀ d ∈ tables_1, d.before a0 Z = true) (ws : List Jvm.Cond) (p0 : Int32) (p1 : Int32) (p2 : Int32) (ep : Addr) (zr : Addr) (f0 : Addr) (f1 : Addr) (f2 : Addr) (f3 : Addr) (h0 : Heap) (n0 : Nat) (Z0 : n0 ≤ h0.size) (S_ep : own_A5 Z ep) (S_zr : own_A4 Z zr) (S_f0 : own_A3 Z f0) (E_f0 : Exa Z Z.heap f0 "com/example/bahikhata/bahikhata/model/Facility") (R_f0 : Fld Z Z.heap f0 "com/example/bahikhata/bahikhata/model/Facility" "runningAccount" "Z" (.int 0)) (O_f0 : Fld Z Z.heap f0 "java/lang/Enum" "ordinal" "I" (.int 0)) (S_f1 : own_A1 Z f1) (E_f1 : Exa Z Z.heap f1 "com/example/bahikhata/bahikhata/model/Facility") (R_f1 : Fld Z Z.heap f1 "com/example/bahikhata/bahikhata/model/Facility" "runningAccount" "Z" (.int 1)) (O_f1 : Fld Z Z.heap f1 "java/lang/Enum" "ordinal" "I" (.int 1)) (S_f2 : own_A2 Z f2) (E_f2 : Exa Z Z.heap f2 "com/example/bahikhata/bahikhata/model/Facility") (R_f2 : Fld Z Z.heap f2 "com/example/bahikhata/bahikhata/model/Facility" "runningAccount" "Z" (.int 1)) (O_f2 : Fld Z Z.heap f2 "java/lang/Enum" "ordinal" "I" (.int 2)) (S_f3 : own_A0 Z f3) (E_f3 : Exa Z Z.heap f3 "com/example/bahikhata/bahikhata/model/Facility") (R_f3 : Fld Z Z.heap f3 "com/example/bahikhata/bahikhata/model/Facility" "runningAccount" "Z" (.int 0)) (O_f3 : Fld Z Z.heap f3 "java/lang/Enum" "ordinal" "I" (.int 3)) (O0 : Old Z n0 h0) :
    MetFree l x (head1 (Jvm.Cond.code x code maxLocals ret :: ws) room_1) (fun aa U => aa = #[(.int p0), (.int p1), (.int p2)] ∧ Z.Warmed39 U.vm ∧ U.heap = h0 ∧ own_Rs Z U.vm ([] : List (String × Nat))) (fun _ _ _ _ _ => True) (fun _ U o U' => ∃ v L, o = .returned v ∧ own_rm0_Q Z p0 p1 p2 ep zr f0 f1 f2 f3 h0 n0 v U'.heap L ∧ own_Rs Z U'.vm ([] : List (String × Nat)) ∧ ReturnedEndW U o U' L room_1.cells room_1.slots) := by
  refine MetFree.of_bodySF (plainFor_of_name own_pn_com_example_bahikhata_bahikhata_io_BookIndexGivesOverdueSincePinLaw) hisR ?_
  intro p e s m args below meth c s₁ Bd hml0 hP hK
  obtain ⟨rfl, hZ, hh, RS0⟩ := hP
  have hx := Bd.exec
  have hby := Bd.bytes
  have hml : c.maxLocals = 10 := hml0
  have hown : s.vm.findClass "com/example/bahikhata/bahikhata/io/BookIndexGivesOverdueSincePinLaw" = some m.cls := findClass_of_methodNamed Bd.named
  have hnm := (name_of_methodNamed Bd.named Bd.method).1
  have hlk := Bd.notSynchronized
  have X0 : Stand p l e room_1 (s.setVm s.vm) m #[(.int p0), (.int p1), (.int p2)] below meth c s₁ [] 0 0 := Stand.of_body Bd
  have e0 : s₁.heap = h0 := by rw [← hh, Bd.state]; rfl
  have N0 := Fr.nil n0
  have hS : s.Since s.vm 0 := (State.WarmedH.refl s).since 0
  have hk0 : 0 ≤ h0.size := Nat.zero_le _
  have wS := own_wS hw
  refine own_startJ (K' := ([] : List (String × Nat))) (Q := own_rm0_Q Z p0 p1 p2 ep zr f0 f1 f2 f3 h0 n0) (own_rm0_ef m p0 p1 p2) ?_
  refine own_g (mkF m 1 #[.val (.int p0), .val (.int p1), .val (.int p2), .unset, .unset, .unset, .unset, .unset, .unset, .unset] [(.int p0)]) (fun _ q => XS.iloadN X0.here hx rfl (hb hby at_0) rfl q) ?_
  by_cases hr0 : own_rn p0
  · skip
    refine own_callSJ X0 hx hZ (y := own_y4) hown (own_h hw 0 rfl) (own_h hw 1 rfl) (own_h hw 2 rfl) (own_h hw 3 rfl) (by decide) hS hk0 (own_Rs.sub RS0 (by decide)) (own_loAr l Z a0 hw [] p0 ep zr f0 f1 f2 f3 h0 n0 Z0 S_ep S_zr S_f0 E_f0 R_f0 O_f0 S_f1 E_f1 R_f1 O_f1 S_f2 E_f2 R_f2 O_f2 S_f3 E_f3 R_f3 O_f3 O0 hr0) (by decide) (by decide) e0 (g := (mkF m 1 #[.val (.int p0), .val (.int p1), .val (.int p2), .unset, .unset, .unset, .unset, .unset, .unset, .unset] [(.int p0)])) rfl (by rw [hml]; rfl) (argsL := [(.int p0)]) (rest := []) (lenOf own_pd__28I_29Lcom_2fexample_2fbahikhata_2fbahikhata_2fmodel_2fLoan_3b rfl) rfl (W := 0) (by show 2 * 0 + _ ≤ _; exact Nat.le_of_eq rfl) (hb hby at_1) rfl (by decide) (by decide) ?_
    rintro rv1 T1 L1 X1 hS hZ hown ⟨hV1, RQ1⟩ ⟨t0, fc0, o0, rfl, Nq1, Kq1, sz1, g1, Et1, Fo1, Ff1, Ef0, Of0, ho0⟩
    have RS1 := (RS0.stays (s := s) hV1).app RQ1
    have N1 := Fr.app N0 Nq1
    show own_Fin p e below _ T1 (mkF m 4 #[.val (.int p0), .val (.int p1), .val (.int p2), .unset, .unset, .unset, .unset, .unset, .unset, .unset] [(.ref t0)])
    have szz1 := Nat.le_trans (Keep.refl h0 []).1 sz1
    refine own_g (mkF m 6 #[.val (.int p0), .val (.int p1), .val (.int p2), .val (.ref t0), .unset, .unset, .unset, .unset, .unset, .unset] [(.int p1)]) (fun _ q => XS.astoreN X1.here hx rfl (hb hby at_4) rfl rfl (l' := #[.val (.int p0), .val (.int p1), .val (.int p2), .val (.ref t0), .unset, .unset, .unset, .unset, .unset, .unset]) rfl (XS.iloadN X1.here hx rfl (hb hby at_5) rfl q)) ?_
    have k2_ := ((Keep.refl h0 []).trans Kq1 all0)
    have o3_ := (O0.keep Kq1 all0)
    refine own_callSJ X1 hx hZ (y := own_y4) hown (own_h hw 0 rfl) (own_h hw 1 rfl) (own_h hw 2 rfl) (own_h hw 3 rfl) (by decide) hS (Nat.le_refl _) (own_Rs.sub RS1 (by decide)) (own_loC l Z a0 hw [] p1 ep zr f0 f1 f2 f3 T1.heap n0 (Nat.le_trans Z0 k2_.1) S_ep S_zr S_f0 E_f0 R_f0 O_f0 S_f1 E_f1 R_f1 O_f1 S_f2 E_f2 R_f2 O_f2 S_f3 E_f3 R_f3 O_f3 o3_ ) (by decide) (by decide) rfl (g := (mkF m 6 #[.val (.int p0), .val (.int p1), .val (.int p2), .val (.ref t0), .unset, .unset, .unset, .unset, .unset, .unset] [(.int p1)])) rfl (by rw [hml]; rfl) (argsL := [(.int p1)]) (rest := []) (lenOf own_pd__28I_29Lcom_2fexample_2fbahikhata_2fbahikhata_2fmodel_2fLoan_3b rfl) rfl (W := 0) (by show 2 * 0 + _ ≤ _; exact Nat.le_of_eq rfl) (hb hby at_6) rfl (by decide) (by decide) ?_
    rintro rv4 T4 L4 X4 hS hZ hown ⟨hV4, RQ4⟩ ⟨t1, fc1, o1, rfl, Nq4, Kq4, sz4, g4, Et4, Fo4, Ff4, Ef1, Of1, ho1⟩
    have RS4 := (RS1.stays (s := s) hV4).app RQ4
    have N4 := Fr.app N1 Nq4
    show own_Fin p e below _ T4 (mkF m 9 #[.val (.int p0), .val (.int p1), .val (.int p2), .val (.ref t0), .unset, .unset, .unset, .unset, .unset, .unset] [(.ref t1)])
    have ne_t0_t1 : t0 ≠ t1 := Nat.ne_of_lt (Nat.lt_of_lt_of_le Et1.lt sz4)
    have szz4 := Nat.le_trans k2_.1 sz4
    refine own_g (mkF m 12 #[.val (.int p0), .val (.int p1), .val (.int p2), .val (.ref t0), .val (.ref t1), .unset, .unset, .unset, .unset, .unset] [(.int p2)]) (fun _ q => XS.astore X4.here hx rfl (hb hby at_9) rfl rfl (l' := #[.val (.int p0), .val (.int p1), .val (.int p2), .val (.ref t0), .val (.ref t1), .unset, .unset, .unset, .unset, .unset]) rfl (XS.iloadN X4.here hx rfl (hb hby at_11) rfl q)) ?_
    have e5_t0 := (Et1.keep Kq4)
    have k6_ := (k2_.trans Kq4 all0)
    have o7_ := (o3_.keep Kq4 all0)
    refine own_callSJ X4 hx hZ (y := own_y4) hown (own_h hw 0 rfl) (own_h hw 1 rfl) (own_h hw 2 rfl) (own_h hw 3 rfl) (by decide) hS (Nat.le_refl _) (own_Rs.sub RS4 (by decide)) (own_loC l Z a0 hw [] p2 ep zr f0 f1 f2 f3 T4.heap n0 (Nat.le_trans Z0 k6_.1) S_ep S_zr S_f0 E_f0 R_f0 O_f0 S_f1 E_f1 R_f1 O_f1 S_f2 E_f2 R_f2 O_f2 S_f3 E_f3 R_f3 O_f3 o7_ ) (by decide) (by decide) rfl (g := (mkF m 12 #[.val (.int p0), .val (.int p1), .val (.int p2), .val (.ref t0), .val (.ref t1), .unset, .unset, .unset, .unset, .unset] [(.int p2)])) rfl (by rw [hml]; rfl) (argsL := [(.int p2)]) (rest := []) (lenOf own_pd__28I_29Lcom_2fexample_2fbahikhata_2fbahikhata_2fmodel_2fLoan_3b rfl) rfl (W := 0) (by show 2 * 0 + _ ≤ _; exact Nat.le_of_eq rfl) (hb hby at_12) rfl (by decide) (by decide) ?_
    rintro rv8 T8 L8 X8 hS hZ hown ⟨hV8, RQ8⟩ ⟨t2, fc2, o2, rfl, Nq8, Kq8, sz8, g8, Et8, Fo8, Ff8, Ef2, Of2, ho2⟩
    have RS8 := (RS4.stays (s := s) hV8).app RQ8
    have N8 := Fr.app N4 Nq8
    show own_Fin p e below _ T8 (mkF m 15 #[.val (.int p0), .val (.int p1), .val (.int p2), .val (.ref t0), .val (.ref t1), .unset, .unset, .unset, .unset, .unset] [(.ref t2)])
    have ne_t0_t2 : t0 ≠ t2 := Nat.ne_of_lt (Nat.lt_of_lt_of_le e5_t0.lt sz8)
    have ne_t1_t2 : t1 ≠ t2 := Nat.ne_of_lt (Nat.lt_of_lt_of_le Et4.lt sz8)
    have szz8 := Nat.le_trans k6_.1 sz8
    refine own_g (mkF m 17 #[.val (.int p0), .val (.int p1), .val (.int p2), .val (.ref t0), .val (.ref t1), .val (.ref t2), .unset, .unset, .unset, .unset] []) (fun _ q => XS.astore X8.here hx rfl (hb hby at_15) rfl rfl (l' := #[.val (.int p0), .val (.int p1), .val (.int p2), .val (.ref t0), .val (.ref t1), .val (.ref t2), .unset, .unset, .unset, .unset]) rfl q) ?_
    obtain ⟨T9, h9, X9, e9, E9, A9, D9, U9, st9⟩ := newO X8 hx hZ hown (own_h hw 111 rfl) (own_h hw 112 rfl) (own_h hw 113 rfl) rfl (g := (mkF m 17 #[.val (.int p0), .val (.int p1), .val (.int p2), .val (.ref t0), .val (.ref t1), .val (.ref t2), .unset, .unset, .unset, .unset] [])) rfl (hb hby at_17) (by decide) (by decide)
    obtain ⟨b9, g9⟩ : ∃ z, z = T8.heap.size := ⟨_, rfl⟩
    rw [← g9] at A9 D9 U9 st9
    have k10_ := (k6_.trans Kq8 all0)
    have g_b9 : n0 ≤ b9 := Nat.le_trans (Nat.le_trans Z0 k10_.1) (Nat.le_of_eq g9.symm)
    have sz_b9 : h0.size ≤ b9 := Nat.le_trans k10_.1 (Nat.le_of_eq g9.symm)
    have e11_t0 := (e5_t0.keep Kq8)
    have ne_t0_b9 : t0 ≠ b9 := Nat.ne_of_lt (Nat.lt_of_lt_of_le e11_t0.lt (Nat.le_of_eq g9.symm))
    have e12_t1 := (Et4.keep Kq8)
    have ne_t1_b9 : t1 ≠ b9 := Nat.ne_of_lt (Nat.lt_of_lt_of_le e12_t1.lt (Nat.le_of_eq g9.symm))
    have ne_t2_b9 : t2 ≠ b9 := Nat.ne_of_lt (Nat.lt_of_lt_of_le Et8.lt (Nat.le_of_eq g9.symm))
    have F_noted_b9 : Fld Z h9 b9 "com/example/bahikhata/bahikhata/io/BookIndex" "noted" "I" (.int 0) := D9 (Or.inl (own_h hw 166 rfl)) (ty := .int) (by decide)
    refine own_by (g' := (mkF m 20 #[.val (.int p0), .val (.int p1), .val (.int p2), .val (.ref t0), .val (.ref t1), .val (.ref t2), .unset, .unset, .unset, .unset] [(.ref b9)])) st9 ?_
    refine own_g (mkF m 21 #[.val (.int p0), .val (.int p1), .val (.int p2), .val (.ref t0), .val (.ref t1), .val (.ref t2), .unset, .unset, .unset, .unset] [(.ref b9), (.ref b9)]) (fun _ q => XS.dup X9.here hx rfl (hb hby at_20) rfl rfl q) ?_
    have hk14_ := (Nat.le_trans (Nat.le_refl _) E9.1)
    obtain ⟨a13, T13, h13, j13, X13, e13, E13, hS, hk13, hZ, hown, RS13, st13⟩ := own_ldcJ X9 hx hZ hown (own_h hw 114 rfl) wS e9 hS hk14_ RS8 (g := (mkF m 21 #[.val (.int p0), .val (.int p1), .val (.int p2), .val (.ref t0), .val (.ref t1), .val (.ref t2), .unset, .unset, .unset, .unset] [(.ref b9), (.ref b9)])) rfl (hb hby at_21) (n := 4) (by decide) (by decide) (by decide) (by decide)
    refine own_by (g' := (mkF m 23 #[.val (.int p0), .val (.int p1), .val (.int p2), .val (.ref t0), .val (.ref t1), .val (.ref t2), .unset, .unset, .unset, .unset] [(.ref a13), (.ref b9), (.ref b9)])) st13 ?_
    have e15_t0 := ((e11_t0.ext E9).ext E13)
    have e16_t1 := ((e12_t1.ext E9).ext E13)
    have e17_t2 := ((Et8.ext E9).ext E13)
    have e18_b9 := (A9.ext E13)
    have k19_ := ((k10_.ext E9).ext E13)
    have x20_b9 := (Unt.ext E13 U9)
    have f21_b9 := (F_noted_b9.ext E13)
    refine own_callI X13 hx hZ (y := own_y0) rfl hown (own_h hw 115 rfl) (own_h hw 116 rfl) (own_h hw 117 rfl) (own_h hw 113 rfl) (by decide) (own_bi l Z a0 hw [] b9 a13 h13 n0 (Nat.le_trans Z0 k19_.1) e18_b9 g_b9 x20_b9 f21_b9) (by decide) (by decide) e13 (g := (mkF m 23 #[.val (.int p0), .val (.int p1), .val (.int p2), .val (.ref t0), .val (.ref t1), .val (.ref t2), .unset, .unset, .unset, .unset] [(.ref a13), (.ref b9), (.ref b9)])) rfl (by rw [hml]; rfl) (argsL := [(.ref a13)]) (rest := [(.ref b9)]) (lenOf own_pd__28Ljava_2flang_2fString_3b_29V rfl) rfl (W := 1) (by show 2 * 0 + _ ≤ _; exact Nat.le_of_eq rfl) (hb hby at_23) rfl (by decide) (by decide) ?_
    rintro rv22 T22 L22 X22 ⟨rfl, Nq22, Kq22, Ex22, Fn22, fb, kb, Ff22, sz22, g22, Ab22⟩
    have N22 := Fr.app N8 Nq22
    show own_Fin p e below _ T22 (mkF m 26 #[.val (.int p0), .val (.int p1), .val (.int p2), .val (.ref t0), .val (.ref t1), .val (.ref t2), .unset, .unset, .unset, .unset] [(.ref b9)])
    have ne_t0_fb : t0 ≠ fb := Nat.ne_of_lt (Nat.lt_of_lt_of_le e15_t0.lt sz22)
    have ne_t1_fb : t1 ≠ fb := Nat.ne_of_lt (Nat.lt_of_lt_of_le e16_t1.lt sz22)
    have ne_t2_fb : t2 ≠ fb := Nat.ne_of_lt (Nat.lt_of_lt_of_le e17_t2.lt sz22)
    have ne_b9_fb : b9 ≠ fb := Nat.ne_of_lt (Nat.lt_of_lt_of_le e18_b9.lt sz22)
    have szz22 := Nat.le_trans k19_.1 sz22
    refine own_g (mkF m 31 #[.val (.int p0), .val (.int p1), .val (.int p2), .val (.ref t0), .val (.ref t1), .val (.ref t2), .val (.ref b9), .unset, .unset, .unset] [(.ref t0), (.ref b9)]) (fun _ q => XS.astore X22.here hx rfl (hb hby at_26) rfl rfl (l' := #[.val (.int p0), .val (.int p1), .val (.int p2), .val (.ref t0), .val (.ref t1), .val (.ref t2), .val (.ref b9), .unset, .unset, .unset]) rfl (XS.aload X22.here hx rfl (hb hby at_28) rfl rfl (XS.aloadN X22.here hx rfl (hb hby at_30) rfl rfl q))) ?_
    have o23_ := ((((o7_.keep Kq8 all0).ext E9).ext E13).keep Kq22 (allS g_b9 all0))
    have k24_ := (k19_.trans Kq22 (allS (Or.inr sz_b9) all0))
    have e25_t0 := (e15_t0.keep Kq22)
    have f26_t0 := (((((Fo1.keep Kq4 nin0).keep Kq8 nin0).ext E9).ext E13).keep Kq22 (ninS ne_t0_b9 nin0))
    have f27_t0 := (((((Ff1.keep Kq4 nin0).keep Kq8 nin0).ext E9).ext E13).keep Kq22 (ninS ne_t0_b9 nin0))
    refine own_callV X22 hx hZ (y := own_y2) (z := own_y2) hown (own_h hw 160 rfl) (own_h hw 161 rfl) (own_nf (own_h hw 163 rfl)) (own_h hw 163 rfl) (own_h hw 162 rfl) (own_h hw 164 rfl) (own_h hw 113 rfl) (by decide) Ex22 (own_note0 l Z a0 hw [] b9 t0 fb kb fc0 o0 (own_sv ep p0)  T22.heap n0 (Nat.le_trans Z0 k24_.1) (own_svR ep p0) Ex22 Fn22 Ff22 Ab22 e25_t0 f26_t0 f27_t0 (Ef0.ext o23_.2) (Of0.ext o23_.2) g_b9 g22 ne_b9_fb) (by decide) (by decide) rfl (g := (mkF m 31 #[.val (.int p0), .val (.int p1), .val (.int p2), .val (.ref t0), .val (.ref t1), .val (.ref t2), .val (.ref b9), .unset, .unset, .unset] [(.ref t0), (.ref b9)])) rfl (by rw [hml]; rfl) (argsL := [(.ref t0)]) (rest := []) (lenOf own_pd__28Lcom_2fexample_2fbahikhata_2fbahikhata_2fmodel_2fLoan_3b_29V rfl) rfl (W := 0) (by show 2 * 0 + _ ≤ _; exact Nat.le_of_eq rfl) (hb hby at_31) rfl (by decide) (by decide) ?_
    rintro rv28 T28 L28 X28 ⟨rfl, Nq28, Kq28, Fn28, Ff28, Ab28⟩
    have N28 := Fr.app N22 Nq28
    refine own_g (mkF m 38 #[.val (.int p0), .val (.int p1), .val (.int p2), .val (.ref t0), .val (.ref t1), .val (.ref t2), .val (.ref b9), .unset, .unset, .unset] [(.ref t1), (.ref b9)]) (fun _ q => XS.aload X28.here hx rfl (hb hby at_34) rfl rfl (XS.aload X28.here hx rfl (hb hby at_36) rfl rfl q)) ?_
    have o29_ := (o23_.keep Kq28 (allS g_b9 (allS g22 all0)))
    have k30_ := (k24_.trans Kq28 (allS (Or.inr sz_b9) (allS (Or.inr szz22) all0)))
    have e31_b9 := (Ex22.keep Kq28)
    have e32_t1 := ((e16_t1.keep Kq22).keep Kq28)
    have f33_t1 := (((((Fo4.keep Kq8 nin0).ext E9).ext E13).keep Kq22 (ninS ne_t1_b9 nin0)).keep Kq28 (ninS ne_t1_b9 (ninS ne_t1_fb nin0)))
    have f34_t1 := (((((Ff4.keep Kq8 nin0).ext E9).ext E13).keep Kq22 (ninS ne_t1_b9 nin0)).keep Kq28 (ninS ne_t1_b9 (ninS ne_t1_fb nin0)))
    refine own_callV X28 hx hZ (y := own_y2) (z := own_y2) hown (own_h hw 160 rfl) (own_h hw 161 rfl) (own_nf (own_h hw 163 rfl)) (own_h hw 163 rfl) (own_h hw 162 rfl) (own_h hw 164 rfl) (own_h hw 113 rfl) (by decide) e31_b9 (own_note1 l Z a0 hw [] b9 t1 fb kb fc1 o1 (own_sv ep p1) (own_nb o0 (own_sv ep p0)) T28.heap n0 (Nat.le_trans Z0 k30_.1) (own_svR ep p1) e31_b9 Fn28 Ff28 Ab28 e32_t1 f33_t1 f34_t1 (Ef1.ext o29_.2) (Of1.ext o29_.2) g_b9 g22 ne_b9_fb) (by decide) (by decide) rfl (g := (mkF m 38 #[.val (.int p0), .val (.int p1), .val (.int p2), .val (.ref t0), .val (.ref t1), .val (.ref t2), .val (.ref b9), .unset, .unset, .unset] [(.ref t1), (.ref b9)])) rfl (by rw [hml]; rfl) (argsL := [(.ref t1)]) (rest := []) (lenOf own_pd__28Lcom_2fexample_2fbahikhata_2fbahikhata_2fmodel_2fLoan_3b_29V rfl) rfl (W := 0) (by show 2 * 0 + _ ≤ _; exact Nat.le_of_eq rfl) (hb hby at_38) rfl (by decide) (by decide) ?_
    rintro rv35 T35 L35 X35 ⟨rfl, Nq35, Kq35, Fn35, Ff35, Ab35⟩
    have N35 := Fr.app N28 Nq35
    refine own_g (mkF m 45 #[.val (.int p0), .val (.int p1), .val (.int p2), .val (.ref t0), .val (.ref t1), .val (.ref t2), .val (.ref b9), .unset, .unset, .unset] [(.ref t2), (.ref b9)]) (fun _ q => XS.aload X35.here hx rfl (hb hby at_41) rfl rfl (XS.aload X35.here hx rfl (hb hby at_43) rfl rfl q)) ?_
    have o36_ := (o29_.keep Kq35 (allS g_b9 (allS g22 all0)))
    have k37_ := (k30_.trans Kq35 (allS (Or.inr sz_b9) (allS (Or.inr szz22) all0)))
    have e38_b9 := (e31_b9.keep Kq35)
    have e39_t2 := (((e17_t2.keep Kq22).keep Kq28).keep Kq35)
    have f40_t2 := (((((Fo8.ext E9).ext E13).keep Kq22 (ninS ne_t2_b9 nin0)).keep Kq28 (ninS ne_t2_b9 (ninS ne_t2_fb nin0))).keep Kq35 (ninS ne_t2_b9 (ninS ne_t2_fb nin0)))
    have f41_t2 := (((((Ff8.ext E9).ext E13).keep Kq22 (ninS ne_t2_b9 nin0)).keep Kq28 (ninS ne_t2_b9 (ninS ne_t2_fb nin0))).keep Kq35 (ninS ne_t2_b9 (ninS ne_t2_fb nin0)))
    refine own_callV X35 hx hZ (y := own_y2) (z := own_y2) hown (own_h hw 160 rfl) (own_h hw 161 rfl) (own_nf (own_h hw 163 rfl)) (own_h hw 163 rfl) (own_h hw 162 rfl) (own_h hw 164 rfl) (own_h hw 113 rfl) (by decide) e38_b9 (own_note2 l Z a0 hw [] b9 t2 fb kb fc2 o2 (own_sv ep p2) (own_nb o0 (own_sv ep p0)) (own_nb o1 (own_sv ep p1)) T35.heap n0 (Nat.le_trans Z0 k37_.1) (own_svR ep p2) e38_b9 Fn35 Ff35 Ab35 e39_t2 f40_t2 f41_t2 (Ef2.ext o36_.2) (Of2.ext o36_.2) g_b9 g22 ne_b9_fb) (by decide) (by decide) rfl (g := (mkF m 45 #[.val (.int p0), .val (.int p1), .val (.int p2), .val (.ref t0), .val (.ref t1), .val (.ref t2), .val (.ref b9), .unset, .unset, .unset] [(.ref t2), (.ref b9)])) rfl (by rw [hml]; rfl) (argsL := [(.ref t2)]) (rest := []) (lenOf own_pd__28Lcom_2fexample_2fbahikhata_2fbahikhata_2fmodel_2fLoan_3b_29V rfl) rfl (W := 0) (by show 2 * 0 + _ ≤ _; exact Nat.le_of_eq rfl) (hb hby at_45) rfl (by decide) (by decide) ?_
    rintro rv42 T42 L42 X42 ⟨rfl, Nq42, Kq42, Fn42, Ff42, Ab42⟩
    have N42 := Fr.app N35 Nq42
    refine own_g (mkF m 51 #[.val (.int p0), .val (.int p1), .val (.int p2), .val (.ref t0), .val (.ref t1), .val (.ref t2), .val (.ref b9), .unset, .unset, .unset] [(.int 0), (.ref b9)]) (fun _ q => XS.aload X42.here hx rfl (hb hby at_48) rfl rfl (XS.iconst X42.here hx rfl (hb hby at_50) q)) ?_
    have k43_ := (k37_.trans Kq42 (allS (Or.inr sz_b9) (allS (Or.inr szz22) all0)))
    have e44_b9 := (e38_b9.keep Kq42)
    refine own_callV X42 hx hZ (y := own_y1) (z := own_y1) hown (own_h hw 186 rfl) (own_h hw 187 rfl) (own_nf (own_h hw 189 rfl)) (own_h hw 189 rfl) (own_h hw 188 rfl) (own_h hw 190 rfl) (own_h hw 113 rfl) (by decide) e44_b9 (own_gv0 l Z a0 hw [] b9 fb kb (own_nb o0 (own_sv ep p0)) (own_nb o1 (own_sv ep p1)) (own_nb o2 (own_sv ep p2)) T42.heap n0 (Nat.le_trans Z0 k43_.1) Ff42 Ab42) (by decide) (by decide) rfl (g := (mkF m 51 #[.val (.int p0), .val (.int p1), .val (.int p2), .val (.ref t0), .val (.ref t1), .val (.ref t2), .val (.ref b9), .unset, .unset, .unset] [(.int 0), (.ref b9)])) rfl (by rw [hml]; rfl) (argsL := [(.int 0)]) (rest := []) (lenOf own_pd__28I_29Z rfl) rfl (W := 0) (by show 2 * 0 + _ ≤ _; exact Nat.le_of_eq rfl) (hb hby at_51) rfl (by decide) (by decide) ?_
    rintro rv45 T45 L45 X45 ⟨rfl, Nq45, eh45⟩
    have N45 := Fr.app N42 Nq45
    refine own_g (mkF m 59 #[.val (.int p0), .val (.int p1), .val (.int p2), .val (.ref t0), .val (.ref t1), .val (.ref t2), .val (.ref b9), .val (.int (own_bit (own_nb o0 (own_sv ep p0)))), .unset, .unset] [(.int 1), (.ref b9)]) (fun _ q => XS.istore X45.here hx rfl (hb hby at_54) rfl (l' := #[.val (.int p0), .val (.int p1), .val (.int p2), .val (.ref t0), .val (.ref t1), .val (.ref t2), .val (.ref b9), .val (.int (own_bit (own_nb o0 (own_sv ep p0)))), .unset, .unset]) rfl (XS.aload X45.here hx rfl (hb hby at_56) rfl rfl (XS.iconst X45.here hx rfl (hb hby at_58) q))) ?_
    refine own_callV X45 hx hZ (y := own_y1) (z := own_y1) hown (own_h hw 186 rfl) (own_h hw 187 rfl) (own_nf (own_h hw 189 rfl)) (own_h hw 189 rfl) (own_h hw 188 rfl) (own_h hw 190 rfl) (own_h hw 113 rfl) (by decide) e44_b9 (own_gv1 l Z a0 hw [] b9 fb kb (own_nb o0 (own_sv ep p0)) (own_nb o1 (own_sv ep p1)) (own_nb o2 (own_sv ep p2)) T42.heap n0 (Nat.le_trans Z0 k43_.1) Ff42 Ab42) (by decide) (by decide) eh45 (g := (mkF m 59 #[.val (.int p0), .val (.int p1), .val (.int p2), .val (.ref t0), .val (.ref t1), .val (.ref t2), .val (.ref b9), .val (.int (own_bit (own_nb o0 (own_sv ep p0)))), .unset, .unset] [(.int 1), (.ref b9)])) rfl (by rw [hml]; rfl) (argsL := [(.int 1)]) (rest := []) (lenOf own_pd__28I_29Z rfl) rfl (W := 0) (by show 2 * 0 + _ ≤ _; exact Nat.le_of_eq rfl) (hb hby at_59) rfl (by decide) (by decide) ?_
    rintro rv46 T46 L46 X46 ⟨rfl, Nq46, eh46⟩
    have N46 := Fr.app N45 Nq46
    refine own_g (mkF m 67 #[.val (.int p0), .val (.int p1), .val (.int p2), .val (.ref t0), .val (.ref t1), .val (.ref t2), .val (.ref b9), .val (.int (own_bit (own_nb o0 (own_sv ep p0)))), .val (.int (own_bit (own_nb o1 (own_sv ep p1)))), .unset] [(.int 2), (.ref b9)]) (fun _ q => XS.istore X46.here hx rfl (hb hby at_62) rfl (l' := #[.val (.int p0), .val (.int p1), .val (.int p2), .val (.ref t0), .val (.ref t1), .val (.ref t2), .val (.ref b9), .val (.int (own_bit (own_nb o0 (own_sv ep p0)))), .val (.int (own_bit (own_nb o1 (own_sv ep p1)))), .unset]) rfl (XS.aload X46.here hx rfl (hb hby at_64) rfl rfl (XS.iconst X46.here hx rfl (hb hby at_66) q))) ?_
    refine own_callV X46 hx hZ (y := own_y1) (z := own_y1) hown (own_h hw 186 rfl) (own_h hw 187 rfl) (own_nf (own_h hw 189 rfl)) (own_h hw 189 rfl) (own_h hw 188 rfl) (own_h hw 190 rfl) (own_h hw 113 rfl) (by decide) e44_b9 (own_gv2 l Z a0 hw [] b9 fb kb (own_nb o0 (own_sv ep p0)) (own_nb o1 (own_sv ep p1)) (own_nb o2 (own_sv ep p2)) T42.heap n0 (Nat.le_trans Z0 k43_.1) Ff42 Ab42) (by decide) (by decide) eh46 (g := (mkF m 67 #[.val (.int p0), .val (.int p1), .val (.int p2), .val (.ref t0), .val (.ref t1), .val (.ref t2), .val (.ref b9), .val (.int (own_bit (own_nb o0 (own_sv ep p0)))), .val (.int (own_bit (own_nb o1 (own_sv ep p1)))), .unset] [(.int 2), (.ref b9)])) rfl (by rw [hml]; rfl) (argsL := [(.int 2)]) (rest := []) (lenOf own_pd__28I_29Z rfl) rfl (W := 0) (by show 2 * 0 + _ ≤ _; exact Nat.le_of_eq rfl) (hb hby at_67) rfl (by decide) (by decide) ?_
    rintro rv47 T47 L47 X47 ⟨rfl, Nq47, eh47⟩
    have N47 := Fr.app N46 Nq47
    refine own_g (mkF m 75 #[.val (.int p0), .val (.int p1), .val (.int p2), .val (.ref t0), .val (.ref t1), .val (.ref t2), .val (.ref b9), .val (.int (own_bit (own_nb o0 (own_sv ep p0)))), .val (.int (own_bit (own_nb o1 (own_sv ep p1)))), .val (.int (own_bit (own_nb o2 (own_sv ep p2))))] [(.int p0), (.int (own_bit (own_nb o0 (own_sv ep p0))))]) (fun _ q => XS.istore X47.here hx rfl (hb hby at_70) rfl (l' := #[.val (.int p0), .val (.int p1), .val (.int p2), .val (.ref t0), .val (.ref t1), .val (.ref t2), .val (.ref b9), .val (.int (own_bit (own_nb o0 (own_sv ep p0)))), .val (.int (own_bit (own_nb o1 (own_sv ep p1)))), .val (.int (own_bit (own_nb o2 (own_sv ep p2))))]) rfl (XS.iload X47.here hx rfl (hb hby at_72) rfl (XS.iloadN X47.here hx rfl (hb hby at_74) rfl q))) ?_
    refine own_callS X47 hx hZ (y := own_y5) hown (own_h hw 12 rfl) (own_h hw 13 rfl) (own_h hw 2 rfl) (own_h hw 14 rfl) (by decide) (own_ov l Z a0 hw [] p0 T42.heap n0 (Nat.le_trans Z0 k43_.1)) (by decide) (by decide) eh47 (g := (mkF m 75 #[.val (.int p0), .val (.int p1), .val (.int p2), .val (.ref t0), .val (.ref t1), .val (.ref t2), .val (.ref b9), .val (.int (own_bit (own_nb o0 (own_sv ep p0)))), .val (.int (own_bit (own_nb o1 (own_sv ep p1)))), .val (.int (own_bit (own_nb o2 (own_sv ep p2))))] [(.int p0), (.int (own_bit (own_nb o0 (own_sv ep p0))))])) rfl (by rw [hml]; rfl) (argsL := [(.int p0)]) (rest := [(.int (own_bit (own_nb o0 (own_sv ep p0))))]) (lenOf own_pd__28I_29Z rfl) rfl (W := 1) (by show 2 * 0 + _ ≤ _; exact Nat.le_of_eq rfl) (hb hby at_75) rfl (by decide) (by decide) ?_
    rintro rv48 T48 L48 X48 ⟨rfl, Nq48, eh48⟩
    have N48 := Fr.app N47 Nq48
    refine own_g (mkF m 84 #[.val (.int p0), .val (.int p1), .val (.int p2), .val (.ref t0), .val (.ref t1), .val (.ref t2), .val (.ref b9), .val (.int (own_bit (own_nb o0 (own_sv ep p0)))), .val (.int (own_bit (own_nb o1 (own_sv ep p1)))), .val (.int (own_bit (own_nb o2 (own_sv ep p2))))] [(.int p1), (.int (own_bit (own_nb o1 (own_sv ep p1))))]) (fun _ q => XS.icmpNo X48.here hx rfl (hb hby at_78) rfl (teq (own_fin ho0)).2 (XS.iload X48.here hx rfl (hb hby at_81) rfl (XS.iloadN X48.here hx rfl (hb hby at_83) rfl q))) ?_
    refine own_callS X48 hx hZ (y := own_y5) hown (own_h hw 12 rfl) (own_h hw 13 rfl) (own_h hw 2 rfl) (own_h hw 14 rfl) (by decide) (own_ov l Z a0 hw [] p1 T42.heap n0 (Nat.le_trans Z0 k43_.1)) (by decide) (by decide) eh48 (g := (mkF m 84 #[.val (.int p0), .val (.int p1), .val (.int p2), .val (.ref t0), .val (.ref t1), .val (.ref t2), .val (.ref b9), .val (.int (own_bit (own_nb o0 (own_sv ep p0)))), .val (.int (own_bit (own_nb o1 (own_sv ep p1)))), .val (.int (own_bit (own_nb o2 (own_sv ep p2))))] [(.int p1), (.int (own_bit (own_nb o1 (own_sv ep p1))))])) rfl (by rw [hml]; rfl) (argsL := [(.int p1)]) (rest := [(.int (own_bit (own_nb o1 (own_sv ep p1))))]) (lenOf own_pd__28I_29Z rfl) rfl (W := 1) (by show 2 * 0 + _ ≤ _; exact Nat.le_of_eq rfl) (hb hby at_84) rfl (by decide) (by decide) ?_
    rintro rv49 T49 L49 X49 ⟨rfl, Nq49, eh49⟩
    have N49 := Fr.app N48 Nq49
    refine own_g (mkF m 93 #[.val (.int p0), .val (.int p1), .val (.int p2), .val (.ref t0), .val (.ref t1), .val (.ref t2), .val (.ref b9), .val (.int (own_bit (own_nb o0 (own_sv ep p0)))), .val (.int (own_bit (own_nb o1 (own_sv ep p1)))), .val (.int (own_bit (own_nb o2 (own_sv ep p2))))] [(.int p2), (.int (own_bit (own_nb o2 (own_sv ep p2))))]) (fun _ q => XS.icmpNo X49.here hx rfl (hb hby at_87) rfl (teq (own_fin ho1)).2 (XS.iload X49.here hx rfl (hb hby at_90) rfl (XS.iloadN X49.here hx rfl (hb hby at_92) rfl q))) ?_
    refine own_callS X49 hx hZ (y := own_y5) hown (own_h hw 12 rfl) (own_h hw 13 rfl) (own_h hw 2 rfl) (own_h hw 14 rfl) (by decide) (own_ov l Z a0 hw [] p2 T42.heap n0 (Nat.le_trans Z0 k43_.1)) (by decide) (by decide) eh49 (g := (mkF m 93 #[.val (.int p0), .val (.int p1), .val (.int p2), .val (.ref t0), .val (.ref t1), .val (.ref t2), .val (.ref b9), .val (.int (own_bit (own_nb o0 (own_sv ep p0)))), .val (.int (own_bit (own_nb o1 (own_sv ep p1)))), .val (.int (own_bit (own_nb o2 (own_sv ep p2))))] [(.int p2), (.int (own_bit (own_nb o2 (own_sv ep p2))))])) rfl (by rw [hml]; rfl) (argsL := [(.int p2)]) (rest := [(.int (own_bit (own_nb o2 (own_sv ep p2))))]) (lenOf own_pd__28I_29Z rfl) rfl (W := 1) (by show 2 * 0 + _ ≤ _; exact Nat.le_of_eq rfl) (hb hby at_93) rfl (by decide) (by decide) ?_
    rintro rv50 T50 L50 X50 ⟨rfl, Nq50, eh50⟩
    have N50 := Fr.app N49 Nq50
    refine own_g (mkF m 104 #[.val (.int p0), .val (.int p1), .val (.int p2), .val (.ref t0), .val (.ref t1), .val (.ref t2), .val (.ref b9), .val (.int (own_bit (own_nb o0 (own_sv ep p0)))), .val (.int (own_bit (own_nb o1 (own_sv ep p1)))), .val (.int (own_bit (own_nb o2 (own_sv ep p2))))] [(.int 1)]) (fun _ q => XS.icmpNo X50.here hx rfl (hb hby at_96) rfl (teq (own_fin ho2)).2 (XS.iconst X50.here hx rfl (hb hby at_99) (XS.goto X50.here hx rfl (pc0 := 100) (pc' := 104) rfl (hb hby at_100) (by decide) (by decide) q))) ?_
    have hk51_ := (Nat.le_trans (Nat.le_trans (Nat.le_trans (Nat.le_trans hk13 Kq22.1) Kq28.1) Kq35.1) Kq42.1)
    exact own_endJ X50 hS (by rw [eh50]; exact hk51_) hZ (own_Rs.sub RS13 (by decide)) (v := some (.int (nar .boolean (1 : Int32)))) (fun h => by rw [Bd.returns] at h; cases h) hlk (fun hr => retN X50 hx (t := .boolean) Bd.returns (by simp) (hb hby at_104) hr) (by rw [eh50]; exact ⟨rfl, N50⟩) (by decide) (by decide)
  · skip
    refine own_callSJ X0 hx hZ (y := own_y4) hown (own_h hw 0 rfl) (own_h hw 1 rfl) (own_h hw 2 rfl) (own_h hw 3 rfl) (by decide) hS hk0 (own_Rs.sub RS0 (by decide)) (own_loAn l Z a0 hw [] p0 ep zr f0 f1 f2 f3 h0 n0 Z0 S_ep S_zr S_f0 E_f0 R_f0 O_f0 S_f1 E_f1 R_f1 O_f1 S_f2 E_f2 R_f2 O_f2 S_f3 E_f3 R_f3 O_f3 O0 hr0) (by decide) (by decide) e0 (g := (mkF m 1 #[.val (.int p0), .val (.int p1), .val (.int p2), .unset, .unset, .unset, .unset, .unset, .unset, .unset] [(.int p0)])) rfl (by rw [hml]; rfl) (argsL := [(.int p0)]) (rest := []) (lenOf own_pd__28I_29Lcom_2fexample_2fbahikhata_2fbahikhata_2fmodel_2fLoan_3b rfl) rfl (W := 0) (by show 2 * 0 + _ ≤ _; exact Nat.le_of_eq rfl) (hb hby at_1) rfl (by decide) (by decide) ?_
    rintro rv52 T52 L52 X52 hS hZ hown ⟨hV52, RQ52⟩ ⟨t0, fc0, o0, rfl, Nq52, Kq52, sz52, g52, Et52, Fo52, Ff52, Ef0, Of0, ho0⟩
    have RS52 := (RS0.stays (s := s) hV52).app RQ52
    have N52 := Fr.app N0 Nq52
    show own_Fin p e below _ T52 (mkF m 4 #[.val (.int p0), .val (.int p1), .val (.int p2), .unset, .unset, .unset, .unset, .unset, .unset, .unset] [(.ref t0)])
    have szz52 := Nat.le_trans (Keep.refl h0 []).1 sz52
    refine own_g (mkF m 6 #[.val (.int p0), .val (.int p1), .val (.int p2), .val (.ref t0), .unset, .unset, .unset, .unset, .unset, .unset] [(.int p1)]) (fun _ q => XS.astoreN X52.here hx rfl (hb hby at_4) rfl rfl (l' := #[.val (.int p0), .val (.int p1), .val (.int p2), .val (.ref t0), .unset, .unset, .unset, .unset, .unset, .unset]) rfl (XS.iloadN X52.here hx rfl (hb hby at_5) rfl q)) ?_
    by_cases hr1 : own_rn p1
    · skip
      have k53_ := ((Keep.refl h0 []).trans Kq52 all0)
      have o54_ := (O0.keep Kq52 all0)
      refine own_callSJ X52 hx hZ (y := own_y4) hown (own_h hw 0 rfl) (own_h hw 1 rfl) (own_h hw 2 rfl) (own_h hw 3 rfl) (by decide) hS (Nat.le_refl _) (own_Rs.sub RS52 (by decide)) (own_loBr l Z a0 hw [] p1 ep zr f0 f1 f2 f3 T52.heap n0 (Nat.le_trans Z0 k53_.1) S_ep S_zr S_f0 E_f0 R_f0 O_f0 S_f1 E_f1 R_f1 O_f1 S_f2 E_f2 R_f2 O_f2 S_f3 E_f3 R_f3 O_f3 o54_ hr1) (by decide) (by decide) rfl (g := (mkF m 6 #[.val (.int p0), .val (.int p1), .val (.int p2), .val (.ref t0), .unset, .unset, .unset, .unset, .unset, .unset] [(.int p1)])) rfl (by rw [hml]; rfl) (argsL := [(.int p1)]) (rest := []) (lenOf own_pd__28I_29Lcom_2fexample_2fbahikhata_2fbahikhata_2fmodel_2fLoan_3b rfl) rfl (W := 0) (by show 2 * 0 + _ ≤ _; exact Nat.le_of_eq rfl) (hb hby at_6) rfl (by decide) (by decide) ?_
      rintro rv55 T55 L55 X55 hS hZ hown ⟨hV55, RQ55⟩ ⟨t1, fc1, o1, rfl, Nq55, Kq55, sz55, g55, Et55, Fo55, Ff55, Ef1, Of1, ho1⟩
      have RS55 := (RS52.stays (s := s) hV55).app RQ55
      have N55 := Fr.app N52 Nq55
      show own_Fin p e below _ T55 (mkF m 9 #[.val (.int p0), .val (.int p1), .val (.int p2), .val (.ref t0), .unset, .unset, .unset, .unset, .unset, .unset] [(.ref t1)])
      have ne_t0_t1 : t0 ≠ t1 := Nat.ne_of_lt (Nat.lt_of_lt_of_le Et52.lt sz55)
      have szz55 := Nat.le_trans k53_.1 sz55
      refine own_g (mkF m 12 #[.val (.int p0), .val (.int p1), .val (.int p2), .val (.ref t0), .val (.ref t1), .unset, .unset, .unset, .unset, .unset] [(.int p2)]) (fun _ q => XS.astore X55.here hx rfl (hb hby at_9) rfl rfl (l' := #[.val (.int p0), .val (.int p1), .val (.int p2), .val (.ref t0), .val (.ref t1), .unset, .unset, .unset, .unset, .unset]) rfl (XS.iloadN X55.here hx rfl (hb hby at_11) rfl q)) ?_
      have e56_t0 := (Et52.keep Kq55)
      have k57_ := (k53_.trans Kq55 all0)
      have o58_ := (o54_.keep Kq55 all0)
      refine own_callSJ X55 hx hZ (y := own_y4) hown (own_h hw 0 rfl) (own_h hw 1 rfl) (own_h hw 2 rfl) (own_h hw 3 rfl) (by decide) hS (Nat.le_refl _) (own_Rs.sub RS55 (by decide)) (own_loC l Z a0 hw [] p2 ep zr f0 f1 f2 f3 T55.heap n0 (Nat.le_trans Z0 k57_.1) S_ep S_zr S_f0 E_f0 R_f0 O_f0 S_f1 E_f1 R_f1 O_f1 S_f2 E_f2 R_f2 O_f2 S_f3 E_f3 R_f3 O_f3 o58_ ) (by decide) (by decide) rfl (g := (mkF m 12 #[.val (.int p0), .val (.int p1), .val (.int p2), .val (.ref t0), .val (.ref t1), .unset, .unset, .unset, .unset, .unset] [(.int p2)])) rfl (by rw [hml]; rfl) (argsL := [(.int p2)]) (rest := []) (lenOf own_pd__28I_29Lcom_2fexample_2fbahikhata_2fbahikhata_2fmodel_2fLoan_3b rfl) rfl (W := 0) (by show 2 * 0 + _ ≤ _; exact Nat.le_of_eq rfl) (hb hby at_12) rfl (by decide) (by decide) ?_
      rintro rv59 T59 L59 X59 hS hZ hown ⟨hV59, RQ59⟩ ⟨t2, fc2, o2, rfl, Nq59, Kq59, sz59, g59, Et59, Fo59, Ff59, Ef2, Of2, ho2⟩
      have RS59 := (RS55.stays (s := s) hV59).app RQ59
      have N59 := Fr.app N55 Nq59
      show own_Fin p e below _ T59 (mkF m 15 #[.val (.int p0), .val (.int p1), .val (.int p2), .val (.ref t0), .val (.ref t1), .unset, .unset, .unset, .unset, .unset] [(.ref t2)])
      have ne_t0_t2 : t0 ≠ t2 := Nat.ne_of_lt (Nat.lt_of_lt_of_le e56_t0.lt sz59)
      have ne_t1_t2 : t1 ≠ t2 := Nat.ne_of_lt (Nat.lt_of_lt_of_le Et55.lt sz59)
      have szz59 := Nat.le_trans k57_.1 sz59
      refine own_g (mkF m 17 #[.val (.int p0), .val (.int p1), .val (.int p2), .val (.ref t0), .val (.ref t1), .val (.ref t2), .unset, .unset, .unset, .unset] []) (fun _ q => XS.astore X59.here hx rfl (hb hby at_15) rfl rfl (l' := #[.val (.int p0), .val (.int p1), .val (.int p2), .val (.ref t0), .val (.ref t1), .val (.ref t2), .unset, .unset, .unset, .unset]) rfl q) ?_
      obtain ⟨T60, h60, X60, e60, E60, A60, D60, U60, st60⟩ := newO X59 hx hZ hown (own_h hw 111 rfl) (own_h hw 112 rfl) (own_h hw 113 rfl) rfl (g := (mkF m 17 #[.val (.int p0), .val (.int p1), .val (.int p2), .val (.ref t0), .val (.ref t1), .val (.ref t2), .unset, .unset, .unset, .unset] [])) rfl (hb hby at_17) (by decide) (by decide)
      obtain ⟨b60, g60⟩ : ∃ z, z = T59.heap.size := ⟨_, rfl⟩
      rw [← g60] at A60 D60 U60 st60
      have k61_ := (k57_.trans Kq59 all0)
      have g_b60 : n0 ≤ b60 := Nat.le_trans (Nat.le_trans Z0 k61_.1) (Nat.le_of_eq g60.symm)
      have sz_b60 : h0.size ≤ b60 := Nat.le_trans k61_.1 (Nat.le_of_eq g60.symm)
      have e62_t0 := (e56_t0.keep Kq59)
      have ne_t0_b60 : t0 ≠ b60 := Nat.ne_of_lt (Nat.lt_of_lt_of_le e62_t0.lt (Nat.le_of_eq g60.symm))
      have e63_t1 := (Et55.keep Kq59)
      have ne_t1_b60 : t1 ≠ b60 := Nat.ne_of_lt (Nat.lt_of_lt_of_le e63_t1.lt (Nat.le_of_eq g60.symm))
      have ne_t2_b60 : t2 ≠ b60 := Nat.ne_of_lt (Nat.lt_of_lt_of_le Et59.lt (Nat.le_of_eq g60.symm))
      have F_noted_b60 : Fld Z h60 b60 "com/example/bahikhata/bahikhata/io/BookIndex" "noted" "I" (.int 0) := D60 (Or.inl (own_h hw 166 rfl)) (ty := .int) (by decide)
      refine own_by (g' := (mkF m 20 #[.val (.int p0), .val (.int p1), .val (.int p2), .val (.ref t0), .val (.ref t1), .val (.ref t2), .unset, .unset, .unset, .unset] [(.ref b60)])) st60 ?_
      refine own_g (mkF m 21 #[.val (.int p0), .val (.int p1), .val (.int p2), .val (.ref t0), .val (.ref t1), .val (.ref t2), .unset, .unset, .unset, .unset] [(.ref b60), (.ref b60)]) (fun _ q => XS.dup X60.here hx rfl (hb hby at_20) rfl rfl q) ?_
      have hk65_ := (Nat.le_trans (Nat.le_refl _) E60.1)
      obtain ⟨a64, T64, h64, j64, X64, e64, E64, hS, hk64, hZ, hown, RS64, st64⟩ := own_ldcJ X60 hx hZ hown (own_h hw 114 rfl) wS e60 hS hk65_ RS59 (g := (mkF m 21 #[.val (.int p0), .val (.int p1), .val (.int p2), .val (.ref t0), .val (.ref t1), .val (.ref t2), .unset, .unset, .unset, .unset] [(.ref b60), (.ref b60)])) rfl (hb hby at_21) (n := 4) (by decide) (by decide) (by decide) (by decide)
      refine own_by (g' := (mkF m 23 #[.val (.int p0), .val (.int p1), .val (.int p2), .val (.ref t0), .val (.ref t1), .val (.ref t2), .unset, .unset, .unset, .unset] [(.ref a64), (.ref b60), (.ref b60)])) st64 ?_
      have e66_t0 := ((e62_t0.ext E60).ext E64)
      have e67_t1 := ((e63_t1.ext E60).ext E64)
      have e68_t2 := ((Et59.ext E60).ext E64)
      have e69_b60 := (A60.ext E64)
      have k70_ := ((k61_.ext E60).ext E64)
      have x71_b60 := (Unt.ext E64 U60)
      have f72_b60 := (F_noted_b60.ext E64)
      refine own_callI X64 hx hZ (y := own_y0) rfl hown (own_h hw 115 rfl) (own_h hw 116 rfl) (own_h hw 117 rfl) (own_h hw 113 rfl) (by decide) (own_bi l Z a0 hw [] b60 a64 h64 n0 (Nat.le_trans Z0 k70_.1) e69_b60 g_b60 x71_b60 f72_b60) (by decide) (by decide) e64 (g := (mkF m 23 #[.val (.int p0), .val (.int p1), .val (.int p2), .val (.ref t0), .val (.ref t1), .val (.ref t2), .unset, .unset, .unset, .unset] [(.ref a64), (.ref b60), (.ref b60)])) rfl (by rw [hml]; rfl) (argsL := [(.ref a64)]) (rest := [(.ref b60)]) (lenOf own_pd__28Ljava_2flang_2fString_3b_29V rfl) rfl (W := 1) (by show 2 * 0 + _ ≤ _; exact Nat.le_of_eq rfl) (hb hby at_23) rfl (by decide) (by decide) ?_
      rintro rv73 T73 L73 X73 ⟨rfl, Nq73, Kq73, Ex73, Fn73, fb, kb, Ff73, sz73, g73, Ab73⟩
      have N73 := Fr.app N59 Nq73
      show own_Fin p e below _ T73 (mkF m 26 #[.val (.int p0), .val (.int p1), .val (.int p2), .val (.ref t0), .val (.ref t1), .val (.ref t2), .unset, .unset, .unset, .unset] [(.ref b60)])
      have ne_t0_fb : t0 ≠ fb := Nat.ne_of_lt (Nat.lt_of_lt_of_le e66_t0.lt sz73)
      have ne_t1_fb : t1 ≠ fb := Nat.ne_of_lt (Nat.lt_of_lt_of_le e67_t1.lt sz73)
      have ne_t2_fb : t2 ≠ fb := Nat.ne_of_lt (Nat.lt_of_lt_of_le e68_t2.lt sz73)
      have ne_b60_fb : b60 ≠ fb := Nat.ne_of_lt (Nat.lt_of_lt_of_le e69_b60.lt sz73)
      have szz73 := Nat.le_trans k70_.1 sz73
      refine own_g (mkF m 31 #[.val (.int p0), .val (.int p1), .val (.int p2), .val (.ref t0), .val (.ref t1), .val (.ref t2), .val (.ref b60), .unset, .unset, .unset] [(.ref t0), (.ref b60)]) (fun _ q => XS.astore X73.here hx rfl (hb hby at_26) rfl rfl (l' := #[.val (.int p0), .val (.int p1), .val (.int p2), .val (.ref t0), .val (.ref t1), .val (.ref t2), .val (.ref b60), .unset, .unset, .unset]) rfl (XS.aload X73.here hx rfl (hb hby at_28) rfl rfl (XS.aloadN X73.here hx rfl (hb hby at_30) rfl rfl q))) ?_
      have o74_ := ((((o58_.keep Kq59 all0).ext E60).ext E64).keep Kq73 (allS g_b60 all0))
      have k75_ := (k70_.trans Kq73 (allS (Or.inr sz_b60) all0))
      have e76_t0 := (e66_t0.keep Kq73)
      have f77_t0 := (((((Fo52.keep Kq55 nin0).keep Kq59 nin0).ext E60).ext E64).keep Kq73 (ninS ne_t0_b60 nin0))
      have f78_t0 := (((((Ff52.keep Kq55 nin0).keep Kq59 nin0).ext E60).ext E64).keep Kq73 (ninS ne_t0_b60 nin0))
      refine own_callV X73 hx hZ (y := own_y2) (z := own_y2) hown (own_h hw 160 rfl) (own_h hw 161 rfl) (own_nf (own_h hw 163 rfl)) (own_h hw 163 rfl) (own_h hw 162 rfl) (own_h hw 164 rfl) (own_h hw 113 rfl) (by decide) Ex73 (own_note0 l Z a0 hw [] b60 t0 fb kb fc0 o0 (own_sv ep p0)  T73.heap n0 (Nat.le_trans Z0 k75_.1) (own_svR ep p0) Ex73 Fn73 Ff73 Ab73 e76_t0 f77_t0 f78_t0 (Ef0.ext o74_.2) (Of0.ext o74_.2) g_b60 g73 ne_b60_fb) (by decide) (by decide) rfl (g := (mkF m 31 #[.val (.int p0), .val (.int p1), .val (.int p2), .val (.ref t0), .val (.ref t1), .val (.ref t2), .val (.ref b60), .unset, .unset, .unset] [(.ref t0), (.ref b60)])) rfl (by rw [hml]; rfl) (argsL := [(.ref t0)]) (rest := []) (lenOf own_pd__28Lcom_2fexample_2fbahikhata_2fbahikhata_2fmodel_2fLoan_3b_29V rfl) rfl (W := 0) (by show 2 * 0 + _ ≤ _; exact Nat.le_of_eq rfl) (hb hby at_31) rfl (by decide) (by decide) ?_
      rintro rv79 T79 L79 X79 ⟨rfl, Nq79, Kq79, Fn79, Ff79, Ab79⟩
      have N79 := Fr.app N73 Nq79
      refine own_g (mkF m 38 #[.val (.int p0), .val (.int p1), .val (.int p2), .val (.ref t0), .val (.ref t1), .val (.ref t2), .val (.ref b60), .unset, .unset, .unset] [(.ref t1), (.ref b60)]) (fun _ q => XS.aload X79.here hx rfl (hb hby at_34) rfl rfl (XS.aload X79.here hx rfl (hb hby at_36) rfl rfl q)) ?_
      have o80_ := (o74_.keep Kq79 (allS g_b60 (allS g73 all0)))
      have k81_ := (k75_.trans Kq79 (allS (Or.inr sz_b60) (allS (Or.inr szz73) all0)))
      have e82_b60 := (Ex73.keep Kq79)
      have e83_t1 := ((e67_t1.keep Kq73).keep Kq79)
      have f84_t1 := (((((Fo55.keep Kq59 nin0).ext E60).ext E64).keep Kq73 (ninS ne_t1_b60 nin0)).keep Kq79 (ninS ne_t1_b60 (ninS ne_t1_fb nin0)))
      have f85_t1 := (((((Ff55.keep Kq59 nin0).ext E60).ext E64).keep Kq73 (ninS ne_t1_b60 nin0)).keep Kq79 (ninS ne_t1_b60 (ninS ne_t1_fb nin0)))
      refine own_callV X79 hx hZ (y := own_y2) (z := own_y2) hown (own_h hw 160 rfl) (own_h hw 161 rfl) (own_nf (own_h hw 163 rfl)) (own_h hw 163 rfl) (own_h hw 162 rfl) (own_h hw 164 rfl) (own_h hw 113 rfl) (by decide) e82_b60 (own_note1 l Z a0 hw [] b60 t1 fb kb fc1 o1 (own_sv ep p1) (own_nb o0 (own_sv ep p0)) T79.heap n0 (Nat.le_trans Z0 k81_.1) (own_svR ep p1) e82_b60 Fn79 Ff79 Ab79 e83_t1 f84_t1 f85_t1 (Ef1.ext o80_.2) (Of1.ext o80_.2) g_b60 g73 ne_b60_fb) (by decide) (by decide) rfl (g := (mkF m 38 #[.val (.int p0), .val (.int p1), .val (.int p2), .val (.ref t0), .val (.ref t1), .val (.ref t2), .val (.ref b60), .unset, .unset, .unset] [(.ref t1), (.ref b60)])) rfl (by rw [hml]; rfl) (argsL := [(.ref t1)]) (rest := []) (lenOf own_pd__28Lcom_2fexample_2fbahikhata_2fbahikhata_2fmodel_2fLoan_3b_29V rfl) rfl (W := 0) (by show 2 * 0 + _ ≤ _; exact Nat.le_of_eq rfl) (hb hby at_38) rfl (by decide) (by decide) ?_
      rintro rv86 T86 L86 X86 ⟨rfl, Nq86, Kq86, Fn86, Ff86, Ab86⟩
      have N86 := Fr.app N79 Nq86
      refine own_g (mkF m 45 #[.val (.int p0), .val (.int p1), .val (.int p2), .val (.ref t0), .val (.ref t1), .val (.ref t2), .val (.ref b60), .unset, .unset, .unset] [(.ref t2), (.ref b60)]) (fun _ q => XS.aload X86.here hx rfl (hb hby at_41) rfl rfl (XS.aload X86.here hx rfl (hb hby at_43) rfl rfl q)) ?_
      have o87_ := (o80_.keep Kq86 (allS g_b60 (allS g73 all0)))
      have k88_ := (k81_.trans Kq86 (allS (Or.inr sz_b60) (allS (Or.inr szz73) all0)))
      have e89_b60 := (e82_b60.keep Kq86)
      have e90_t2 := (((e68_t2.keep Kq73).keep Kq79).keep Kq86)
      have f91_t2 := (((((Fo59.ext E60).ext E64).keep Kq73 (ninS ne_t2_b60 nin0)).keep Kq79 (ninS ne_t2_b60 (ninS ne_t2_fb nin0))).keep Kq86 (ninS ne_t2_b60 (ninS ne_t2_fb nin0)))
      have f92_t2 := (((((Ff59.ext E60).ext E64).keep Kq73 (ninS ne_t2_b60 nin0)).keep Kq79 (ninS ne_t2_b60 (ninS ne_t2_fb nin0))).keep Kq86 (ninS ne_t2_b60 (ninS ne_t2_fb nin0)))
      refine own_callV X86 hx hZ (y := own_y2) (z := own_y2) hown (own_h hw 160 rfl) (own_h hw 161 rfl) (own_nf (own_h hw 163 rfl)) (own_h hw 163 rfl) (own_h hw 162 rfl) (own_h hw 164 rfl) (own_h hw 113 rfl) (by decide) e89_b60 (own_note2 l Z a0 hw [] b60 t2 fb kb fc2 o2 (own_sv ep p2) (own_nb o0 (own_sv ep p0)) (own_nb o1 (own_sv ep p1)) T86.heap n0 (Nat.le_trans Z0 k88_.1) (own_svR ep p2) e89_b60 Fn86 Ff86 Ab86 e90_t2 f91_t2 f92_t2 (Ef2.ext o87_.2) (Of2.ext o87_.2) g_b60 g73 ne_b60_fb) (by decide) (by decide) rfl (g := (mkF m 45 #[.val (.int p0), .val (.int p1), .val (.int p2), .val (.ref t0), .val (.ref t1), .val (.ref t2), .val (.ref b60), .unset, .unset, .unset] [(.ref t2), (.ref b60)])) rfl (by rw [hml]; rfl) (argsL := [(.ref t2)]) (rest := []) (lenOf own_pd__28Lcom_2fexample_2fbahikhata_2fbahikhata_2fmodel_2fLoan_3b_29V rfl) rfl (W := 0) (by show 2 * 0 + _ ≤ _; exact Nat.le_of_eq rfl) (hb hby at_45) rfl (by decide) (by decide) ?_
      rintro rv93 T93 L93 X93 ⟨rfl, Nq93, Kq93, Fn93, Ff93, Ab93⟩
      have N93 := Fr.app N86 Nq93
      refine own_g (mkF m 51 #[.val (.int p0), .val (.int p1), .val (.int p2), .val (.ref t0), .val (.ref t1), .val (.ref t2), .val (.ref b60), .unset, .unset, .unset] [(.int 0), (.ref b60)]) (fun _ q => XS.aload X93.here hx rfl (hb hby at_48) rfl rfl (XS.iconst X93.here hx rfl (hb hby at_50) q)) ?_
      have k94_ := (k88_.trans Kq93 (allS (Or.inr sz_b60) (allS (Or.inr szz73) all0)))
      have e95_b60 := (e89_b60.keep Kq93)
      refine own_callV X93 hx hZ (y := own_y1) (z := own_y1) hown (own_h hw 186 rfl) (own_h hw 187 rfl) (own_nf (own_h hw 189 rfl)) (own_h hw 189 rfl) (own_h hw 188 rfl) (own_h hw 190 rfl) (own_h hw 113 rfl) (by decide) e95_b60 (own_gv0 l Z a0 hw [] b60 fb kb (own_nb o0 (own_sv ep p0)) (own_nb o1 (own_sv ep p1)) (own_nb o2 (own_sv ep p2)) T93.heap n0 (Nat.le_trans Z0 k94_.1) Ff93 Ab93) (by decide) (by decide) rfl (g := (mkF m 51 #[.val (.int p0), .val (.int p1), .val (.int p2), .val (.ref t0), .val (.ref t1), .val (.ref t2), .val (.ref b60), .unset, .unset, .unset] [(.int 0), (.ref b60)])) rfl (by rw [hml]; rfl) (argsL := [(.int 0)]) (rest := []) (lenOf own_pd__28I_29Z rfl) rfl (W := 0) (by show 2 * 0 + _ ≤ _; exact Nat.le_of_eq rfl) (hb hby at_51) rfl (by decide) (by decide) ?_
      rintro rv96 T96 L96 X96 ⟨rfl, Nq96, eh96⟩
      have N96 := Fr.app N93 Nq96
      refine own_g (mkF m 59 #[.val (.int p0), .val (.int p1), .val (.int p2), .val (.ref t0), .val (.ref t1), .val (.ref t2), .val (.ref b60), .val (.int (own_bit (own_nb o0 (own_sv ep p0)))), .unset, .unset] [(.int 1), (.ref b60)]) (fun _ q => XS.istore X96.here hx rfl (hb hby at_54) rfl (l' := #[.val (.int p0), .val (.int p1), .val (.int p2), .val (.ref t0), .val (.ref t1), .val (.ref t2), .val (.ref b60), .val (.int (own_bit (own_nb o0 (own_sv ep p0)))), .unset, .unset]) rfl (XS.aload X96.here hx rfl (hb hby at_56) rfl rfl (XS.iconst X96.here hx rfl (hb hby at_58) q))) ?_
      refine own_callV X96 hx hZ (y := own_y1) (z := own_y1) hown (own_h hw 186 rfl) (own_h hw 187 rfl) (own_nf (own_h hw 189 rfl)) (own_h hw 189 rfl) (own_h hw 188 rfl) (own_h hw 190 rfl) (own_h hw 113 rfl) (by decide) e95_b60 (own_gv1 l Z a0 hw [] b60 fb kb (own_nb o0 (own_sv ep p0)) (own_nb o1 (own_sv ep p1)) (own_nb o2 (own_sv ep p2)) T93.heap n0 (Nat.le_trans Z0 k94_.1) Ff93 Ab93) (by decide) (by decide) eh96 (g := (mkF m 59 #[.val (.int p0), .val (.int p1), .val (.int p2), .val (.ref t0), .val (.ref t1), .val (.ref t2), .val (.ref b60), .val (.int (own_bit (own_nb o0 (own_sv ep p0)))), .unset, .unset] [(.int 1), (.ref b60)])) rfl (by rw [hml]; rfl) (argsL := [(.int 1)]) (rest := []) (lenOf own_pd__28I_29Z rfl) rfl (W := 0) (by show 2 * 0 + _ ≤ _; exact Nat.le_of_eq rfl) (hb hby at_59) rfl (by decide) (by decide) ?_
      rintro rv97 T97 L97 X97 ⟨rfl, Nq97, eh97⟩
      have N97 := Fr.app N96 Nq97
      refine own_g (mkF m 67 #[.val (.int p0), .val (.int p1), .val (.int p2), .val (.ref t0), .val (.ref t1), .val (.ref t2), .val (.ref b60), .val (.int (own_bit (own_nb o0 (own_sv ep p0)))), .val (.int (own_bit (own_nb o1 (own_sv ep p1)))), .unset] [(.int 2), (.ref b60)]) (fun _ q => XS.istore X97.here hx rfl (hb hby at_62) rfl (l' := #[.val (.int p0), .val (.int p1), .val (.int p2), .val (.ref t0), .val (.ref t1), .val (.ref t2), .val (.ref b60), .val (.int (own_bit (own_nb o0 (own_sv ep p0)))), .val (.int (own_bit (own_nb o1 (own_sv ep p1)))), .unset]) rfl (XS.aload X97.here hx rfl (hb hby at_64) rfl rfl (XS.iconst X97.here hx rfl (hb hby at_66) q))) ?_
      refine own_callV X97 hx hZ (y := own_y1) (z := own_y1) hown (own_h hw 186 rfl) (own_h hw 187 rfl) (own_nf (own_h hw 189 rfl)) (own_h hw 189 rfl) (own_h hw 188 rfl) (own_h hw 190 rfl) (own_h hw 113 rfl) (by decide) e95_b60 (own_gv2 l Z a0 hw [] b60 fb kb (own_nb o0 (own_sv ep p0)) (own_nb o1 (own_sv ep p1)) (own_nb o2 (own_sv ep p2)) T93.heap n0 (Nat.le_trans Z0 k94_.1) Ff93 Ab93) (by decide) (by decide) eh97 (g := (mkF m 67 #[.val (.int p0), .val (.int p1), .val (.int p2), .val (.ref t0), .val (.ref t1), .val (.ref t2), .val (.ref b60), .val (.int (own_bit (own_nb o0 (own_sv ep p0)))), .val (.int (own_bit (own_nb o1 (own_sv ep p1)))), .unset] [(.int 2), (.ref b60)])) rfl (by rw [hml]; rfl) (argsL := [(.int 2)]) (rest := []) (lenOf own_pd__28I_29Z rfl) rfl (W := 0) (by show 2 * 0 + _ ≤ _; exact Nat.le_of_eq rfl) (hb hby at_67) rfl (by decide) (by decide) ?_
      rintro rv98 T98 L98 X98 ⟨rfl, Nq98, eh98⟩
      have N98 := Fr.app N97 Nq98
      refine own_g (mkF m 75 #[.val (.int p0), .val (.int p1), .val (.int p2), .val (.ref t0), .val (.ref t1), .val (.ref t2), .val (.ref b60), .val (.int (own_bit (own_nb o0 (own_sv ep p0)))), .val (.int (own_bit (own_nb o1 (own_sv ep p1)))), .val (.int (own_bit (own_nb o2 (own_sv ep p2))))] [(.int p0), (.int (own_bit (own_nb o0 (own_sv ep p0))))]) (fun _ q => XS.istore X98.here hx rfl (hb hby at_70) rfl (l' := #[.val (.int p0), .val (.int p1), .val (.int p2), .val (.ref t0), .val (.ref t1), .val (.ref t2), .val (.ref b60), .val (.int (own_bit (own_nb o0 (own_sv ep p0)))), .val (.int (own_bit (own_nb o1 (own_sv ep p1)))), .val (.int (own_bit (own_nb o2 (own_sv ep p2))))]) rfl (XS.iload X98.here hx rfl (hb hby at_72) rfl (XS.iloadN X98.here hx rfl (hb hby at_74) rfl q))) ?_
      refine own_callS X98 hx hZ (y := own_y5) hown (own_h hw 12 rfl) (own_h hw 13 rfl) (own_h hw 2 rfl) (own_h hw 14 rfl) (by decide) (own_ov l Z a0 hw [] p0 T93.heap n0 (Nat.le_trans Z0 k94_.1)) (by decide) (by decide) eh98 (g := (mkF m 75 #[.val (.int p0), .val (.int p1), .val (.int p2), .val (.ref t0), .val (.ref t1), .val (.ref t2), .val (.ref b60), .val (.int (own_bit (own_nb o0 (own_sv ep p0)))), .val (.int (own_bit (own_nb o1 (own_sv ep p1)))), .val (.int (own_bit (own_nb o2 (own_sv ep p2))))] [(.int p0), (.int (own_bit (own_nb o0 (own_sv ep p0))))])) rfl (by rw [hml]; rfl) (argsL := [(.int p0)]) (rest := [(.int (own_bit (own_nb o0 (own_sv ep p0))))]) (lenOf own_pd__28I_29Z rfl) rfl (W := 1) (by show 2 * 0 + _ ≤ _; exact Nat.le_of_eq rfl) (hb hby at_75) rfl (by decide) (by decide) ?_
      rintro rv99 T99 L99 X99 ⟨rfl, Nq99, eh99⟩
      have N99 := Fr.app N98 Nq99
      refine own_g (mkF m 84 #[.val (.int p0), .val (.int p1), .val (.int p2), .val (.ref t0), .val (.ref t1), .val (.ref t2), .val (.ref b60), .val (.int (own_bit (own_nb o0 (own_sv ep p0)))), .val (.int (own_bit (own_nb o1 (own_sv ep p1)))), .val (.int (own_bit (own_nb o2 (own_sv ep p2))))] [(.int p1), (.int (own_bit (own_nb o1 (own_sv ep p1))))]) (fun _ q => XS.icmpNo X99.here hx rfl (hb hby at_78) rfl (teq (own_fin ho0)).2 (XS.iload X99.here hx rfl (hb hby at_81) rfl (XS.iloadN X99.here hx rfl (hb hby at_83) rfl q))) ?_
      refine own_callS X99 hx hZ (y := own_y5) hown (own_h hw 12 rfl) (own_h hw 13 rfl) (own_h hw 2 rfl) (own_h hw 14 rfl) (by decide) (own_ov l Z a0 hw [] p1 T93.heap n0 (Nat.le_trans Z0 k94_.1)) (by decide) (by decide) eh99 (g := (mkF m 84 #[.val (.int p0), .val (.int p1), .val (.int p2), .val (.ref t0), .val (.ref t1), .val (.ref t2), .val (.ref b60), .val (.int (own_bit (own_nb o0 (own_sv ep p0)))), .val (.int (own_bit (own_nb o1 (own_sv ep p1)))), .val (.int (own_bit (own_nb o2 (own_sv ep p2))))] [(.int p1), (.int (own_bit (own_nb o1 (own_sv ep p1))))])) rfl (by rw [hml]; rfl) (argsL := [(.int p1)]) (rest := [(.int (own_bit (own_nb o1 (own_sv ep p1))))]) (lenOf own_pd__28I_29Z rfl) rfl (W := 1) (by show 2 * 0 + _ ≤ _; exact Nat.le_of_eq rfl) (hb hby at_84) rfl (by decide) (by decide) ?_
      rintro rv100 T100 L100 X100 ⟨rfl, Nq100, eh100⟩
      have N100 := Fr.app N99 Nq100
      refine own_g (mkF m 93 #[.val (.int p0), .val (.int p1), .val (.int p2), .val (.ref t0), .val (.ref t1), .val (.ref t2), .val (.ref b60), .val (.int (own_bit (own_nb o0 (own_sv ep p0)))), .val (.int (own_bit (own_nb o1 (own_sv ep p1)))), .val (.int (own_bit (own_nb o2 (own_sv ep p2))))] [(.int p2), (.int (own_bit (own_nb o2 (own_sv ep p2))))]) (fun _ q => XS.icmpNo X100.here hx rfl (hb hby at_87) rfl (teq (own_fin ho1)).2 (XS.iload X100.here hx rfl (hb hby at_90) rfl (XS.iloadN X100.here hx rfl (hb hby at_92) rfl q))) ?_
      refine own_callS X100 hx hZ (y := own_y5) hown (own_h hw 12 rfl) (own_h hw 13 rfl) (own_h hw 2 rfl) (own_h hw 14 rfl) (by decide) (own_ov l Z a0 hw [] p2 T93.heap n0 (Nat.le_trans Z0 k94_.1)) (by decide) (by decide) eh100 (g := (mkF m 93 #[.val (.int p0), .val (.int p1), .val (.int p2), .val (.ref t0), .val (.ref t1), .val (.ref t2), .val (.ref b60), .val (.int (own_bit (own_nb o0 (own_sv ep p0)))), .val (.int (own_bit (own_nb o1 (own_sv ep p1)))), .val (.int (own_bit (own_nb o2 (own_sv ep p2))))] [(.int p2), (.int (own_bit (own_nb o2 (own_sv ep p2))))])) rfl (by rw [hml]; rfl) (argsL := [(.int p2)]) (rest := [(.int (own_bit (own_nb o2 (own_sv ep p2))))]) (lenOf own_pd__28I_29Z rfl) rfl (W := 1) (by show 2 * 0 + _ ≤ _; exact Nat.le_of_eq rfl) (hb hby at_93) rfl (by decide) (by decide) ?_
      rintro rv101 T101 L101 X101 ⟨rfl, Nq101, eh101⟩
      have N101 := Fr.app N100 Nq101
      refine own_g (mkF m 104 #[.val (.int p0), .val (.int p1), .val (.int p2), .val (.ref t0), .val (.ref t1), .val (.ref t2), .val (.ref b60), .val (.int (own_bit (own_nb o0 (own_sv ep p0)))), .val (.int (own_bit (own_nb o1 (own_sv ep p1)))), .val (.int (own_bit (own_nb o2 (own_sv ep p2))))] [(.int 1)]) (fun _ q => XS.icmpNo X101.here hx rfl (hb hby at_96) rfl (teq (own_fin ho2)).2 (XS.iconst X101.here hx rfl (hb hby at_99) (XS.goto X101.here hx rfl (pc0 := 100) (pc' := 104) rfl (hb hby at_100) (by decide) (by decide) q))) ?_
      have hk102_ := (Nat.le_trans (Nat.le_trans (Nat.le_trans (Nat.le_trans hk64 Kq73.1) Kq79.1) Kq86.1) Kq93.1)
      exact own_endJ X101 hS (by rw [eh101]; exact hk102_) hZ (own_Rs.sub RS64 (by decide)) (v := some (.int (nar .boolean (1 : Int32)))) (fun h => by rw [Bd.returns] at h; cases h) hlk (fun hr => retN X101 hx (t := .boolean) Bd.returns (by simp) (hb hby at_104) hr) (by rw [eh101]; exact ⟨rfl, N101⟩) (by decide) (by decide)
    · skip
      have k103_ := ((Keep.refl h0 []).trans Kq52 all0)
      have o104_ := (O0.keep Kq52 all0)
      refine own_callSJ X52 hx hZ (y := own_y4) hown (own_h hw 0 rfl) (own_h hw 1 rfl) (own_h hw 2 rfl) (own_h hw 3 rfl) (by decide) hS (Nat.le_refl _) (own_Rs.sub RS52 (by decide)) (own_loBn l Z a0 hw [] p1 ep zr f0 f1 f2 f3 T52.heap n0 (Nat.le_trans Z0 k103_.1) S_ep S_zr S_f0 E_f0 R_f0 O_f0 S_f1 E_f1 R_f1 O_f1 S_f2 E_f2 R_f2 O_f2 S_f3 E_f3 R_f3 O_f3 o104_ hr1) (by decide) (by decide) rfl (g := (mkF m 6 #[.val (.int p0), .val (.int p1), .val (.int p2), .val (.ref t0), .unset, .unset, .unset, .unset, .unset, .unset] [(.int p1)])) rfl (by rw [hml]; rfl) (argsL := [(.int p1)]) (rest := []) (lenOf own_pd__28I_29Lcom_2fexample_2fbahikhata_2fbahikhata_2fmodel_2fLoan_3b rfl) rfl (W := 0) (by show 2 * 0 + _ ≤ _; exact Nat.le_of_eq rfl) (hb hby at_6) rfl (by decide) (by decide) ?_
      rintro rv105 T105 L105 X105 hS hZ hown ⟨hV105, RQ105⟩ ⟨t1, fc1, o1, rfl, Nq105, Kq105, sz105, g105, Et105, Fo105, Ff105, Ef1, Of1, ho1⟩
      have RS105 := (RS52.stays (s := s) hV105).app RQ105
      have N105 := Fr.app N52 Nq105
      show own_Fin p e below _ T105 (mkF m 9 #[.val (.int p0), .val (.int p1), .val (.int p2), .val (.ref t0), .unset, .unset, .unset, .unset, .unset, .unset] [(.ref t1)])
      have ne_t0_t1 : t0 ≠ t1 := Nat.ne_of_lt (Nat.lt_of_lt_of_le Et52.lt sz105)
      have szz105 := Nat.le_trans k103_.1 sz105
      refine own_g (mkF m 12 #[.val (.int p0), .val (.int p1), .val (.int p2), .val (.ref t0), .val (.ref t1), .unset, .unset, .unset, .unset, .unset] [(.int p2)]) (fun _ q => XS.astore X105.here hx rfl (hb hby at_9) rfl rfl (l' := #[.val (.int p0), .val (.int p1), .val (.int p2), .val (.ref t0), .val (.ref t1), .unset, .unset, .unset, .unset, .unset]) rfl (XS.iloadN X105.here hx rfl (hb hby at_11) rfl q)) ?_
      by_cases hr2 : own_rn p2
      · skip
        have e106_t0 := (Et52.keep Kq105)
        have k107_ := (k103_.trans Kq105 all0)
        have o108_ := (o104_.keep Kq105 all0)
        refine own_callSJ X105 hx hZ (y := own_y4) hown (own_h hw 0 rfl) (own_h hw 1 rfl) (own_h hw 2 rfl) (own_h hw 3 rfl) (by decide) hS (Nat.le_refl _) (own_Rs.sub RS105 (by decide)) (own_loBr l Z a0 hw [] p2 ep zr f0 f1 f2 f3 T105.heap n0 (Nat.le_trans Z0 k107_.1) S_ep S_zr S_f0 E_f0 R_f0 O_f0 S_f1 E_f1 R_f1 O_f1 S_f2 E_f2 R_f2 O_f2 S_f3 E_f3 R_f3 O_f3 o108_ hr2) (by decide) (by decide) rfl (g := (mkF m 12 #[.val (.int p0), .val (.int p1), .val (.int p2), .val (.ref t0), .val (.ref t1), .unset, .unset, .unset, .unset, .unset] [(.int p2)])) rfl (by rw [hml]; rfl) (argsL := [(.int p2)]) (rest := []) (lenOf own_pd__28I_29Lcom_2fexample_2fbahikhata_2fbahikhata_2fmodel_2fLoan_3b rfl) rfl (W := 0) (by show 2 * 0 + _ ≤ _; exact Nat.le_of_eq rfl) (hb hby at_12) rfl (by decide) (by decide) ?_
        rintro rv109 T109 L109 X109 hS hZ hown ⟨hV109, RQ109⟩ ⟨t2, fc2, o2, rfl, Nq109, Kq109, sz109, g109, Et109, Fo109, Ff109, Ef2, Of2, ho2⟩
        have RS109 := (RS105.stays (s := s) hV109).app RQ109
        have N109 := Fr.app N105 Nq109
        show own_Fin p e below _ T109 (mkF m 15 #[.val (.int p0), .val (.int p1), .val (.int p2), .val (.ref t0), .val (.ref t1), .unset, .unset, .unset, .unset, .unset] [(.ref t2)])
        have ne_t0_t2 : t0 ≠ t2 := Nat.ne_of_lt (Nat.lt_of_lt_of_le e106_t0.lt sz109)
        have ne_t1_t2 : t1 ≠ t2 := Nat.ne_of_lt (Nat.lt_of_lt_of_le Et105.lt sz109)
        have szz109 := Nat.le_trans k107_.1 sz109
        refine own_g (mkF m 17 #[.val (.int p0), .val (.int p1), .val (.int p2), .val (.ref t0), .val (.ref t1), .val (.ref t2), .unset, .unset, .unset, .unset] []) (fun _ q => XS.astore X109.here hx rfl (hb hby at_15) rfl rfl (l' := #[.val (.int p0), .val (.int p1), .val (.int p2), .val (.ref t0), .val (.ref t1), .val (.ref t2), .unset, .unset, .unset, .unset]) rfl q) ?_
        obtain ⟨T110, h110, X110, e110, E110, A110, D110, U110, st110⟩ := newO X109 hx hZ hown (own_h hw 111 rfl) (own_h hw 112 rfl) (own_h hw 113 rfl) rfl (g := (mkF m 17 #[.val (.int p0), .val (.int p1), .val (.int p2), .val (.ref t0), .val (.ref t1), .val (.ref t2), .unset, .unset, .unset, .unset] [])) rfl (hb hby at_17) (by decide) (by decide)
        obtain ⟨b110, g110⟩ : ∃ z, z = T109.heap.size := ⟨_, rfl⟩
        rw [← g110] at A110 D110 U110 st110
        have k111_ := (k107_.trans Kq109 all0)
        have g_b110 : n0 ≤ b110 := Nat.le_trans (Nat.le_trans Z0 k111_.1) (Nat.le_of_eq g110.symm)
        have sz_b110 : h0.size ≤ b110 := Nat.le_trans k111_.1 (Nat.le_of_eq g110.symm)
        have e112_t0 := (e106_t0.keep Kq109)
        have ne_t0_b110 : t0 ≠ b110 := Nat.ne_of_lt (Nat.lt_of_lt_of_le e112_t0.lt (Nat.le_of_eq g110.symm))
        have e113_t1 := (Et105.keep Kq109)
        have ne_t1_b110 : t1 ≠ b110 := Nat.ne_of_lt (Nat.lt_of_lt_of_le e113_t1.lt (Nat.le_of_eq g110.symm))
        have ne_t2_b110 : t2 ≠ b110 := Nat.ne_of_lt (Nat.lt_of_lt_of_le Et109.lt (Nat.le_of_eq g110.symm))
        have F_noted_b110 : Fld Z h110 b110 "com/example/bahikhata/bahikhata/io/BookIndex" "noted" "I" (.int 0) := D110 (Or.inl (own_h hw 166 rfl)) (ty := .int) (by decide)
        refine own_by (g' := (mkF m 20 #[.val (.int p0), .val (.int p1), .val (.int p2), .val (.ref t0), .val (.ref t1), .val (.ref t2), .unset, .unset, .unset, .unset] [(.ref b110)])) st110 ?_
        refine own_g (mkF m 21 #[.val (.int p0), .val (.int p1), .val (.int p2), .val (.ref t0), .val (.ref t1), .val (.ref t2), .unset, .unset, .unset, .unset] [(.ref b110), (.ref b110)]) (fun _ q => XS.dup X110.here hx rfl (hb hby at_20) rfl rfl q) ?_
        have hk115_ := (Nat.le_trans (Nat.le_refl _) E110.1)
        obtain ⟨a114, T114, h114, j114, X114, e114, E114, hS, hk114, hZ, hown, RS114, st114⟩ := own_ldcJ X110 hx hZ hown (own_h hw 114 rfl) wS e110 hS hk115_ RS109 (g := (mkF m 21 #[.val (.int p0), .val (.int p1), .val (.int p2), .val (.ref t0), .val (.ref t1), .val (.ref t2), .unset, .unset, .unset, .unset] [(.ref b110), (.ref b110)])) rfl (hb hby at_21) (n := 4) (by decide) (by decide) (by decide) (by decide)
        refine own_by (g' := (mkF m 23 #[.val (.int p0), .val (.int p1), .val (.int p2), .val (.ref t0), .val (.ref t1), .val (.ref t2), .unset, .unset, .unset, .unset] [(.ref a114), (.ref b110), (.ref b110)])) st114 ?_
        have e116_t0 := ((e112_t0.ext E110).ext E114)
        have e117_t1 := ((e113_t1.ext E110).ext E114)
        have e118_t2 := ((Et109.ext E110).ext E114)
        have e119_b110 := (A110.ext E114)
        have k120_ := ((k111_.ext E110).ext E114)
        have x121_b110 := (Unt.ext E114 U110)
        have f122_b110 := (F_noted_b110.ext E114)
        refine own_callI X114 hx hZ (y := own_y0) rfl hown (own_h hw 115 rfl) (own_h hw 116 rfl) (own_h hw 117 rfl) (own_h hw 113 rfl) (by decide) (own_bi l Z a0 hw [] b110 a114 h114 n0 (Nat.le_trans Z0 k120_.1) e119_b110 g_b110 x121_b110 f122_b110) (by decide) (by decide) e114 (g := (mkF m 23 #[.val (.int p0), .val (.int p1), .val (.int p2), .val (.ref t0), .val (.ref t1), .val (.ref t2), .unset, .unset, .unset, .unset] [(.ref a114), (.ref b110), (.ref b110)])) rfl (by rw [hml]; rfl) (argsL := [(.ref a114)]) (rest := [(.ref b110)]) (lenOf own_pd__28Ljava_2flang_2fString_3b_29V rfl) rfl (W := 1) (by show 2 * 0 + _ ≤ _; exact Nat.le_of_eq rfl) (hb hby at_23) rfl (by decide) (by decide) ?_
        rintro rv123 T123 L123 X123 ⟨rfl, Nq123, Kq123, Ex123, Fn123, fb, kb, Ff123, sz123, g123, Ab123⟩
        have N123 := Fr.app N109 Nq123
        show own_Fin p e below _ T123 (mkF m 26 #[.val (.int p0), .val (.int p1), .val (.int p2), .val (.ref t0), .val (.ref t1), .val (.ref t2), .unset, .unset, .unset, .unset] [(.ref b110)])
        have ne_t0_fb : t0 ≠ fb := Nat.ne_of_lt (Nat.lt_of_lt_of_le e116_t0.lt sz123)
        have ne_t1_fb : t1 ≠ fb := Nat.ne_of_lt (Nat.lt_of_lt_of_le e117_t1.lt sz123)
        have ne_t2_fb : t2 ≠ fb := Nat.ne_of_lt (Nat.lt_of_lt_of_le e118_t2.lt sz123)
        have ne_b110_fb : b110 ≠ fb := Nat.ne_of_lt (Nat.lt_of_lt_of_le e119_b110.lt sz123)
        have szz123 := Nat.le_trans k120_.1 sz123
        refine own_g (mkF m 31 #[.val (.int p0), .val (.int p1), .val (.int p2), .val (.ref t0), .val (.ref t1), .val (.ref t2), .val (.ref b110), .unset, .unset, .unset] [(.ref t0), (.ref b110)]) (fun _ q => XS.astore X123.here hx rfl (hb hby at_26) rfl rfl (l' := #[.val (.int p0), .val (.int p1), .val (.int p2), .val (.ref t0), .val (.ref t1), .val (.ref t2), .val (.ref b110), .unset, .unset, .unset]) rfl (XS.aload X123.here hx rfl (hb hby at_28) rfl rfl (XS.aloadN X123.here hx rfl (hb hby at_30) rfl rfl q))) ?_
        have o124_ := ((((o108_.keep Kq109 all0).ext E110).ext E114).keep Kq123 (allS g_b110 all0))
        have k125_ := (k120_.trans Kq123 (allS (Or.inr sz_b110) all0))
        have e126_t0 := (e116_t0.keep Kq123)
        have f127_t0 := (((((Fo52.keep Kq105 nin0).keep Kq109 nin0).ext E110).ext E114).keep Kq123 (ninS ne_t0_b110 nin0))
        have f128_t0 := (((((Ff52.keep Kq105 nin0).keep Kq109 nin0).ext E110).ext E114).keep Kq123 (ninS ne_t0_b110 nin0))
        refine own_callV X123 hx hZ (y := own_y2) (z := own_y2) hown (own_h hw 160 rfl) (own_h hw 161 rfl) (own_nf (own_h hw 163 rfl)) (own_h hw 163 rfl) (own_h hw 162 rfl) (own_h hw 164 rfl) (own_h hw 113 rfl) (by decide) Ex123 (own_note0 l Z a0 hw [] b110 t0 fb kb fc0 o0 (own_sv ep p0)  T123.heap n0 (Nat.le_trans Z0 k125_.1) (own_svR ep p0) Ex123 Fn123 Ff123 Ab123 e126_t0 f127_t0 f128_t0 (Ef0.ext o124_.2) (Of0.ext o124_.2) g_b110 g123 ne_b110_fb) (by decide) (by decide) rfl (g := (mkF m 31 #[.val (.int p0), .val (.int p1), .val (.int p2), .val (.ref t0), .val (.ref t1), .val (.ref t2), .val (.ref b110), .unset, .unset, .unset] [(.ref t0), (.ref b110)])) rfl (by rw [hml]; rfl) (argsL := [(.ref t0)]) (rest := []) (lenOf own_pd__28Lcom_2fexample_2fbahikhata_2fbahikhata_2fmodel_2fLoan_3b_29V rfl) rfl (W := 0) (by show 2 * 0 + _ ≤ _; exact Nat.le_of_eq rfl) (hb hby at_31) rfl (by decide) (by decide) ?_
        rintro rv129 T129 L129 X129 ⟨rfl, Nq129, Kq129, Fn129, Ff129, Ab129⟩
        have N129 := Fr.app N123 Nq129
        refine own_g (mkF m 38 #[.val (.int p0), .val (.int p1), .val (.int p2), .val (.ref t0), .val (.ref t1), .val (.ref t2), .val (.ref b110), .unset, .unset, .unset] [(.ref t1), (.ref b110)]) (fun _ q => XS.aload X129.here hx rfl (hb hby at_34) rfl rfl (XS.aload X129.here hx rfl (hb hby at_36) rfl rfl q)) ?_
        have o130_ := (o124_.keep Kq129 (allS g_b110 (allS g123 all0)))
        have k131_ := (k125_.trans Kq129 (allS (Or.inr sz_b110) (allS (Or.inr szz123) all0)))
        have e132_b110 := (Ex123.keep Kq129)
        have e133_t1 := ((e117_t1.keep Kq123).keep Kq129)
        have f134_t1 := (((((Fo105.keep Kq109 nin0).ext E110).ext E114).keep Kq123 (ninS ne_t1_b110 nin0)).keep Kq129 (ninS ne_t1_b110 (ninS ne_t1_fb nin0)))
        have f135_t1 := (((((Ff105.keep Kq109 nin0).ext E110).ext E114).keep Kq123 (ninS ne_t1_b110 nin0)).keep Kq129 (ninS ne_t1_b110 (ninS ne_t1_fb nin0)))
        refine own_callV X129 hx hZ (y := own_y2) (z := own_y2) hown (own_h hw 160 rfl) (own_h hw 161 rfl) (own_nf (own_h hw 163 rfl)) (own_h hw 163 rfl) (own_h hw 162 rfl) (own_h hw 164 rfl) (own_h hw 113 rfl) (by decide) e132_b110 (own_note1 l Z a0 hw [] b110 t1 fb kb fc1 o1 (own_sv ep p1) (own_nb o0 (own_sv ep p0)) T129.heap n0 (Nat.le_trans Z0 k131_.1) (own_svR ep p1) e132_b110 Fn129 Ff129 Ab129 e133_t1 f134_t1 f135_t1 (Ef1.ext o130_.2) (Of1.ext o130_.2) g_b110 g123 ne_b110_fb) (by decide) (by decide) rfl (g := (mkF m 38 #[.val (.int p0), .val (.int p1), .val (.int p2), .val (.ref t0), .val (.ref t1), .val (.ref t2), .val (.ref b110), .unset, .unset, .unset] [(.ref t1), (.ref b110)])) rfl (by rw [hml]; rfl) (argsL := [(.ref t1)]) (rest := []) (lenOf own_pd__28Lcom_2fexample_2fbahikhata_2fbahikhata_2fmodel_2fLoan_3b_29V rfl) rfl (W := 0) (by show 2 * 0 + _ ≤ _; exact Nat.le_of_eq rfl) (hb hby at_38) rfl (by decide) (by decide) ?_
        rintro rv136 T136 L136 X136 ⟨rfl, Nq136, Kq136, Fn136, Ff136, Ab136⟩
        have N136 := Fr.app N129 Nq136
        refine own_g (mkF m 45 #[.val (.int p0), .val (.int p1), .val (.int p2), .val (.ref t0), .val (.ref t1), .val (.ref t2), .val (.ref b110), .unset, .unset, .unset] [(.ref t2), (.ref b110)]) (fun _ q => XS.aload X136.here hx rfl (hb hby at_41) rfl rfl (XS.aload X136.here hx rfl (hb hby at_43) rfl rfl q)) ?_
        have o137_ := (o130_.keep Kq136 (allS g_b110 (allS g123 all0)))
        have k138_ := (k131_.trans Kq136 (allS (Or.inr sz_b110) (allS (Or.inr szz123) all0)))
        have e139_b110 := (e132_b110.keep Kq136)
        have e140_t2 := (((e118_t2.keep Kq123).keep Kq129).keep Kq136)
        have f141_t2 := (((((Fo109.ext E110).ext E114).keep Kq123 (ninS ne_t2_b110 nin0)).keep Kq129 (ninS ne_t2_b110 (ninS ne_t2_fb nin0))).keep Kq136 (ninS ne_t2_b110 (ninS ne_t2_fb nin0)))
        have f142_t2 := (((((Ff109.ext E110).ext E114).keep Kq123 (ninS ne_t2_b110 nin0)).keep Kq129 (ninS ne_t2_b110 (ninS ne_t2_fb nin0))).keep Kq136 (ninS ne_t2_b110 (ninS ne_t2_fb nin0)))
        refine own_callV X136 hx hZ (y := own_y2) (z := own_y2) hown (own_h hw 160 rfl) (own_h hw 161 rfl) (own_nf (own_h hw 163 rfl)) (own_h hw 163 rfl) (own_h hw 162 rfl) (own_h hw 164 rfl) (own_h hw 113 rfl) (by decide) e139_b110 (own_note2 l Z a0 hw [] b110 t2 fb kb fc2 o2 (own_sv ep p2) (own_nb o0 (own_sv ep p0)) (own_nb o1 (own_sv ep p1)) T136.heap n0 (Nat.le_trans Z0 k138_.1) (own_svR ep p2) e139_b110 Fn136 Ff136 Ab136 e140_t2 f141_t2 f142_t2 (Ef2.ext o137_.2) (Of2.ext o137_.2) g_b110 g123 ne_b110_fb) (by decide) (by decide) rfl (g := (mkF m 45 #[.val (.int p0), .val (.int p1), .val (.int p2), .val (.ref t0), .val (.ref t1), .val (.ref t2), .val (.ref b110), .unset, .unset, .unset] [(.ref t2), (.ref b110)])) rfl (by rw [hml]; rfl) (argsL := [(.ref t2)]) (rest := []) (lenOf own_pd__28Lcom_2fexample_2fbahikhata_2fbahikhata_2fmodel_2fLoan_3b_29V rfl) rfl (W := 0) (by show 2 * 0 + _ ≤ _; exact Nat.le_of_eq rfl) (hb hby at_45) rfl (by decide) (by decide) ?_
        rintro rv143 T143 L143 X143 ⟨rfl, Nq143, Kq143, Fn143, Ff143, Ab143⟩
        have N143 := Fr.app N136 Nq143
        refine own_g (mkF m 51 #[.val (.int p0), .val (.int p1), .val (.int p2), .val (.ref t0), .val (.ref t1), .val (.ref t2), .val (.ref b110), .unset, .unset, .unset] [(.int 0), (.ref b110)]) (fun _ q => XS.aload X143.here hx rfl (hb hby at_48) rfl rfl (XS.iconst X143.here hx rfl (hb hby at_50) q)) ?_
        have k144_ := (k138_.trans Kq143 (allS (Or.inr sz_b110) (allS (Or.inr szz123) all0)))
        have e145_b110 := (e139_b110.keep Kq143)
        refine own_callV X143 hx hZ (y := own_y1) (z := own_y1) hown (own_h hw 186 rfl) (own_h hw 187 rfl) (own_nf (own_h hw 189 rfl)) (own_h hw 189 rfl) (own_h hw 188 rfl) (own_h hw 190 rfl) (own_h hw 113 rfl) (by decide) e145_b110 (own_gv0 l Z a0 hw [] b110 fb kb (own_nb o0 (own_sv ep p0)) (own_nb o1 (own_sv ep p1)) (own_nb o2 (own_sv ep p2)) T143.heap n0 (Nat.le_trans Z0 k144_.1) Ff143 Ab143) (by decide) (by decide) rfl (g := (mkF m 51 #[.val (.int p0), .val (.int p1), .val (.int p2), .val (.ref t0), .val (.ref t1), .val (.ref t2), .val (.ref b110), .unset, .unset, .unset] [(.int 0), (.ref b110)])) rfl (by rw [hml]; rfl) (argsL := [(.int 0)]) (rest := []) (lenOf own_pd__28I_29Z rfl) rfl (W := 0) (by show 2 * 0 + _ ≤ _; exact Nat.le_of_eq rfl) (hb hby at_51) rfl (by decide) (by decide) ?_
        rintro rv146 T146 L146 X146 ⟨rfl, Nq146, eh146⟩
        have N146 := Fr.app N143 Nq146
        refine own_g (mkF m 59 #[.val (.int p0), .val (.int p1), .val (.int p2), .val (.ref t0), .val (.ref t1), .val (.ref t2), .val (.ref b110), .val (.int (own_bit (own_nb o0 (own_sv ep p0)))), .unset, .unset] [(.int 1), (.ref b110)]) (fun _ q => XS.istore X146.here hx rfl (hb hby at_54) rfl (l' := #[.val (.int p0), .val (.int p1), .val (.int p2), .val (.ref t0), .val (.ref t1), .val (.ref t2), .val (.ref b110), .val (.int (own_bit (own_nb o0 (own_sv ep p0)))), .unset, .unset]) rfl (XS.aload X146.here hx rfl (hb hby at_56) rfl rfl (XS.iconst X146.here hx rfl (hb hby at_58) q))) ?_
        refine own_callV X146 hx hZ (y := own_y1) (z := own_y1) hown (own_h hw 186 rfl) (own_h hw 187 rfl) (own_nf (own_h hw 189 rfl)) (own_h hw 189 rfl) (own_h hw 188 rfl) (own_h hw 190 rfl) (own_h hw 113 rfl) (by decide) e145_b110 (own_gv1 l Z a0 hw [] b110 fb kb (own_nb o0 (own_sv ep p0)) (own_nb o1 (own_sv ep p1)) (own_nb o2 (own_sv ep p2)) T143.heap n0 (Nat.le_trans Z0 k144_.1) Ff143 Ab143) (by decide) (by decide) eh146 (g := (mkF m 59 #[.val (.int p0), .val (.int p1), .val (.int p2), .val (.ref t0), .val (.ref t1), .val (.ref t2), .val (.ref b110), .val (.int (own_bit (own_nb o0 (own_sv ep p0)))), .unset, .unset] [(.int 1), (.ref b110)])) rfl (by rw [hml]; rfl) (argsL := [(.int 1)]) (rest := []) (lenOf own_pd__28I_29Z rfl) rfl (W := 0) (by show 2 * 0 + _ ≤ _; exact Nat.le_of_eq rfl) (hb hby at_59) rfl (by decide) (by decide) ?_
        rintro rv147 T147 L147 X147 ⟨rfl, Nq147, eh147⟩
        have N147 := Fr.app N146 Nq147
        refine own_g (mkF m 67 #[.val (.int p0), .val (.int p1), .val (.int p2), .val (.ref t0), .val (.ref t1), .val (.ref t2), .val (.ref b110), .val (.int (own_bit (own_nb o0 (own_sv ep p0)))), .val (.int (own_bit (own_nb o1 (own_sv ep p1)))), .unset] [(.int 2), (.ref b110)]) (fun _ q => XS.istore X147.here hx rfl (hb hby at_62) rfl (l' := #[.val (.int p0), .val (.int p1), .val (.int p2), .val (.ref t0), .val (.ref t1), .val (.ref t2), .val (.ref b110), .val (.int (own_bit (own_nb o0 (own_sv ep p0)))), .val (.int (own_bit (own_nb o1 (own_sv ep p1)))), .unset]) rfl (XS.aload X147.here hx rfl (hb hby at_64) rfl rfl (XS.iconst X147.here hx rfl (hb hby at_66) q))) ?_
        refine own_callV X147 hx hZ (y := own_y1) (z := own_y1) hown (own_h hw 186 rfl) (own_h hw 187 rfl) (own_nf (own_h hw 189 rfl)) (own_h hw 189 rfl) (own_h hw 188 rfl) (own_h hw 190 rfl) (own_h hw 113 rfl) (by decide) e145_b110 (own_gv2 l Z a0 hw [] b110 fb kb (own_nb o0 (own_sv ep p0)) (own_nb o1 (own_sv ep p1)) (own_nb o2 (own_sv ep p2)) T143.heap n0 (Nat.le_trans Z0 k144_.1) Ff143 Ab143) (by decide) (by decide) eh147 (g := (mkF m 67 #[.val (.int p0), .val (.int p1), .val (.int p2), .val (.ref t0), .val (.ref t1), .val (.ref t2), .val (.ref b110), .val (.int (own_bit (own_nb o0 (own_sv ep p0)))), .val (.int (own_bit (own_nb o1 (own_sv ep p1)))), .unset] [(.int 2), (.ref b110)])) rfl (by rw [hml]; rfl) (argsL := [(.int 2)]) (rest := []) (lenOf own_pd__28I_29Z rfl) rfl (W := 0) (by show 2 * 0 + _ ≤ _; exact Nat.le_of_eq rfl) (hb hby at_67) rfl (by decide) (by decide) ?_
        rintro rv148 T148 L148 X148 ⟨rfl, Nq148, eh148⟩
        have N148 := Fr.app N147 Nq148
        refine own_g (mkF m 75 #[.val (.int p0), .val (.int p1), .val (.int p2), .val (.ref t0), .val (.ref t1), .val (.ref t2), .val (.ref b110), .val (.int (own_bit (own_nb o0 (own_sv ep p0)))), .val (.int (own_bit (own_nb o1 (own_sv ep p1)))), .val (.int (own_bit (own_nb o2 (own_sv ep p2))))] [(.int p0), (.int (own_bit (own_nb o0 (own_sv ep p0))))]) (fun _ q => XS.istore X148.here hx rfl (hb hby at_70) rfl (l' := #[.val (.int p0), .val (.int p1), .val (.int p2), .val (.ref t0), .val (.ref t1), .val (.ref t2), .val (.ref b110), .val (.int (own_bit (own_nb o0 (own_sv ep p0)))), .val (.int (own_bit (own_nb o1 (own_sv ep p1)))), .val (.int (own_bit (own_nb o2 (own_sv ep p2))))]) rfl (XS.iload X148.here hx rfl (hb hby at_72) rfl (XS.iloadN X148.here hx rfl (hb hby at_74) rfl q))) ?_
        refine own_callS X148 hx hZ (y := own_y5) hown (own_h hw 12 rfl) (own_h hw 13 rfl) (own_h hw 2 rfl) (own_h hw 14 rfl) (by decide) (own_ov l Z a0 hw [] p0 T143.heap n0 (Nat.le_trans Z0 k144_.1)) (by decide) (by decide) eh148 (g := (mkF m 75 #[.val (.int p0), .val (.int p1), .val (.int p2), .val (.ref t0), .val (.ref t1), .val (.ref t2), .val (.ref b110), .val (.int (own_bit (own_nb o0 (own_sv ep p0)))), .val (.int (own_bit (own_nb o1 (own_sv ep p1)))), .val (.int (own_bit (own_nb o2 (own_sv ep p2))))] [(.int p0), (.int (own_bit (own_nb o0 (own_sv ep p0))))])) rfl (by rw [hml]; rfl) (argsL := [(.int p0)]) (rest := [(.int (own_bit (own_nb o0 (own_sv ep p0))))]) (lenOf own_pd__28I_29Z rfl) rfl (W := 1) (by show 2 * 0 + _ ≤ _; exact Nat.le_of_eq rfl) (hb hby at_75) rfl (by decide) (by decide) ?_
        rintro rv149 T149 L149 X149 ⟨rfl, Nq149, eh149⟩
        have N149 := Fr.app N148 Nq149
        refine own_g (mkF m 84 #[.val (.int p0), .val (.int p1), .val (.int p2), .val (.ref t0), .val (.ref t1), .val (.ref t2), .val (.ref b110), .val (.int (own_bit (own_nb o0 (own_sv ep p0)))), .val (.int (own_bit (own_nb o1 (own_sv ep p1)))), .val (.int (own_bit (own_nb o2 (own_sv ep p2))))] [(.int p1), (.int (own_bit (own_nb o1 (own_sv ep p1))))]) (fun _ q => XS.icmpNo X149.here hx rfl (hb hby at_78) rfl (teq (own_fin ho0)).2 (XS.iload X149.here hx rfl (hb hby at_81) rfl (XS.iloadN X149.here hx rfl (hb hby at_83) rfl q))) ?_
        refine own_callS X149 hx hZ (y := own_y5) hown (own_h hw 12 rfl) (own_h hw 13 rfl) (own_h hw 2 rfl) (own_h hw 14 rfl) (by decide) (own_ov l Z a0 hw [] p1 T143.heap n0 (Nat.le_trans Z0 k144_.1)) (by decide) (by decide) eh149 (g := (mkF m 84 #[.val (.int p0), .val (.int p1), .val (.int p2), .val (.ref t0), .val (.ref t1), .val (.ref t2), .val (.ref b110), .val (.int (own_bit (own_nb o0 (own_sv ep p0)))), .val (.int (own_bit (own_nb o1 (own_sv ep p1)))), .val (.int (own_bit (own_nb o2 (own_sv ep p2))))] [(.int p1), (.int (own_bit (own_nb o1 (own_sv ep p1))))])) rfl (by rw [hml]; rfl) (argsL := [(.int p1)]) (rest := [(.int (own_bit (own_nb o1 (own_sv ep p1))))]) (lenOf own_pd__28I_29Z rfl) rfl (W := 1) (by show 2 * 0 + _ ≤ _; exact Nat.le_of_eq rfl) (hb hby at_84) rfl (by decide) (by decide) ?_
        rintro rv150 T150 L150 X150 ⟨rfl, Nq150, eh150⟩
        have N150 := Fr.app N149 Nq150
        refine own_g (mkF m 93 #[.val (.int p0), .val (.int p1), .val (.int p2), .val (.ref t0), .val (.ref t1), .val (.ref t2), .val (.ref b110), .val (.int (own_bit (own_nb o0 (own_sv ep p0)))), .val (.int (own_bit (own_nb o1 (own_sv ep p1)))), .val (.int (own_bit (own_nb o2 (own_sv ep p2))))] [(.int p2), (.int (own_bit (own_nb o2 (own_sv ep p2))))]) (fun _ q => XS.icmpNo X150.here hx rfl (hb hby at_87) rfl (teq (own_fin ho1)).2 (XS.iload X150.here hx rfl (hb hby at_90) rfl (XS.iloadN X150.here hx rfl (hb hby at_92) rfl q))) ?_
        refine own_callS X150 hx hZ (y := own_y5) hown (own_h hw 12 rfl) (own_h hw 13 rfl) (own_h hw 2 rfl) (own_h hw 14 rfl) (by decide) (own_ov l Z a0 hw [] p2 T143.heap n0 (Nat.le_trans Z0 k144_.1)) (by decide) (by decide) eh150 (g := (mkF m 93 #[.val (.int p0), .val (.int p1), .val (.int p2), .val (.ref t0), .val (.ref t1), .val (.ref t2), .val (.ref b110), .val (.int (own_bit (own_nb o0 (own_sv ep p0)))), .val (.int (own_bit (own_nb o1 (own_sv ep p1)))), .val (.int (own_bit (own_nb o2 (own_sv ep p2))))] [(.int p2), (.int (own_bit (own_nb o2 (own_sv ep p2))))])) rfl (by rw [hml]; rfl) (argsL := [(.int p2)]) (rest := [(.int (own_bit (own_nb o2 (own_sv ep p2))))]) (lenOf own_pd__28I_29Z rfl) rfl (W := 1) (by show 2 * 0 + _ ≤ _; exact Nat.le_of_eq rfl) (hb hby at_93) rfl (by decide) (by decide) ?_
        rintro rv151 T151 L151 X151 ⟨rfl, Nq151, eh151⟩
        have N151 := Fr.app N150 Nq151
        refine own_g (mkF m 104 #[.val (.int p0), .val (.int p1), .val (.int p2), .val (.ref t0), .val (.ref t1), .val (.ref t2), .val (.ref b110), .val (.int (own_bit (own_nb o0 (own_sv ep p0)))), .val (.int (own_bit (own_nb o1 (own_sv ep p1)))), .val (.int (own_bit (own_nb o2 (own_sv ep p2))))] [(.int 1)]) (fun _ q => XS.icmpNo X151.here hx rfl (hb hby at_96) rfl (teq (own_fin ho2)).2 (XS.iconst X151.here hx rfl (hb hby at_99) (XS.goto X151.here hx rfl (pc0 := 100) (pc' := 104) rfl (hb hby at_100) (by decide) (by decide) q))) ?_
        have hk152_ := (Nat.le_trans (Nat.le_trans (Nat.le_trans (Nat.le_trans hk114 Kq123.1) Kq129.1) Kq136.1) Kq143.1)
        exact own_endJ X151 hS (by rw [eh151]; exact hk152_) hZ (own_Rs.sub RS114 (by decide)) (v := some (.int (nar .boolean (1 : Int32)))) (fun h => by rw [Bd.returns] at h; cases h) hlk (fun hr => retN X151 hx (t := .boolean) Bd.returns (by simp) (hb hby at_104) hr) (by rw [eh151]; exact ⟨rfl, N151⟩) (by decide) (by decide)
      · skip
        have e153_t0 := (Et52.keep Kq105)
        have k154_ := (k103_.trans Kq105 all0)
        have o155_ := (o104_.keep Kq105 all0)
        refine own_callSJ X105 hx hZ (y := own_y4) hown (own_h hw 0 rfl) (own_h hw 1 rfl) (own_h hw 2 rfl) (own_h hw 3 rfl) (by decide) hS (Nat.le_refl _) (own_Rs.sub RS105 (by decide)) (own_loBn l Z a0 hw [] p2 ep zr f0 f1 f2 f3 T105.heap n0 (Nat.le_trans Z0 k154_.1) S_ep S_zr S_f0 E_f0 R_f0 O_f0 S_f1 E_f1 R_f1 O_f1 S_f2 E_f2 R_f2 O_f2 S_f3 E_f3 R_f3 O_f3 o155_ hr2) (by decide) (by decide) rfl (g := (mkF m 12 #[.val (.int p0), .val (.int p1), .val (.int p2), .val (.ref t0), .val (.ref t1), .unset, .unset, .unset, .unset, .unset] [(.int p2)])) rfl (by rw [hml]; rfl) (argsL := [(.int p2)]) (rest := []) (lenOf own_pd__28I_29Lcom_2fexample_2fbahikhata_2fbahikhata_2fmodel_2fLoan_3b rfl) rfl (W := 0) (by show 2 * 0 + _ ≤ _; exact Nat.le_of_eq rfl) (hb hby at_12) rfl (by decide) (by decide) ?_
        rintro rv156 T156 L156 X156 hS hZ hown ⟨hV156, RQ156⟩ ⟨t2, fc2, o2, rfl, Nq156, Kq156, sz156, g156, Et156, Fo156, Ff156, Ef2, Of2, ho2⟩
        have RS156 := (RS105.stays (s := s) hV156).app RQ156
        have N156 := Fr.app N105 Nq156
        show own_Fin p e below _ T156 (mkF m 15 #[.val (.int p0), .val (.int p1), .val (.int p2), .val (.ref t0), .val (.ref t1), .unset, .unset, .unset, .unset, .unset] [(.ref t2)])
        have ne_t0_t2 : t0 ≠ t2 := Nat.ne_of_lt (Nat.lt_of_lt_of_le e153_t0.lt sz156)
        have ne_t1_t2 : t1 ≠ t2 := Nat.ne_of_lt (Nat.lt_of_lt_of_le Et105.lt sz156)
        have szz156 := Nat.le_trans k154_.1 sz156
        refine own_g (mkF m 17 #[.val (.int p0), .val (.int p1), .val (.int p2), .val (.ref t0), .val (.ref t1), .val (.ref t2), .unset, .unset, .unset, .unset] []) (fun _ q => XS.astore X156.here hx rfl (hb hby at_15) rfl rfl (l' := #[.val (.int p0), .val (.int p1), .val (.int p2), .val (.ref t0), .val (.ref t1), .val (.ref t2), .unset, .unset, .unset, .unset]) rfl q) ?_
        obtain ⟨T157, h157, X157, e157, E157, A157, D157, U157, st157⟩ := newO X156 hx hZ hown (own_h hw 111 rfl) (own_h hw 112 rfl) (own_h hw 113 rfl) rfl (g := (mkF m 17 #[.val (.int p0), .val (.int p1), .val (.int p2), .val (.ref t0), .val (.ref t1), .val (.ref t2), .unset, .unset, .unset, .unset] [])) rfl (hb hby at_17) (by decide) (by decide)
        obtain ⟨b157, g157⟩ : ∃ z, z = T156.heap.size := ⟨_, rfl⟩
        rw [← g157] at A157 D157 U157 st157
        have k158_ := (k154_.trans Kq156 all0)
        have g_b157 : n0 ≤ b157 := Nat.le_trans (Nat.le_trans Z0 k158_.1) (Nat.le_of_eq g157.symm)
        have sz_b157 : h0.size ≤ b157 := Nat.le_trans k158_.1 (Nat.le_of_eq g157.symm)
        have e159_t0 := (e153_t0.keep Kq156)
        have ne_t0_b157 : t0 ≠ b157 := Nat.ne_of_lt (Nat.lt_of_lt_of_le e159_t0.lt (Nat.le_of_eq g157.symm))
        have e160_t1 := (Et105.keep Kq156)
        have ne_t1_b157 : t1 ≠ b157 := Nat.ne_of_lt (Nat.lt_of_lt_of_le e160_t1.lt (Nat.le_of_eq g157.symm))
        have ne_t2_b157 : t2 ≠ b157 := Nat.ne_of_lt (Nat.lt_of_lt_of_le Et156.lt (Nat.le_of_eq g157.symm))
        have F_noted_b157 : Fld Z h157 b157 "com/example/bahikhata/bahikhata/io/BookIndex" "noted" "I" (.int 0) := D157 (Or.inl (own_h hw 166 rfl)) (ty := .int) (by decide)
        refine own_by (g' := (mkF m 20 #[.val (.int p0), .val (.int p1), .val (.int p2), .val (.ref t0), .val (.ref t1), .val (.ref t2), .unset, .unset, .unset, .unset] [(.ref b157)])) st157 ?_
        refine own_g (mkF m 21 #[.val (.int p0), .val (.int p1), .val (.int p2), .val (.ref t0), .val (.ref t1), .val (.ref t2), .unset, .unset, .unset, .unset] [(.ref b157), (.ref b157)]) (fun _ q => XS.dup X157.here hx rfl (hb hby at_20) rfl rfl q) ?_
        have hk162_ := (Nat.le_trans (Nat.le_refl _) E157.1)
        obtain ⟨a161, T161, h161, j161, X161, e161, E161, hS, hk161, hZ, hown, RS161, st161⟩ := own_ldcJ X157 hx hZ hown (own_h hw 114 rfl) wS e157 hS hk162_ RS156 (g := (mkF m 21 #[.val (.int p0), .val (.int p1), .val (.int p2), .val (.ref t0), .val (.ref t1), .val (.ref t2), .unset, .unset, .unset, .unset] [(.ref b157), (.ref b157)])) rfl (hb hby at_21) (n := 4) (by decide) (by decide) (by decide) (by decide)
        refine own_by (g' := (mkF m 23 #[.val (.int p0), .val (.int p1), .val (.int p2), .val (.ref t0), .val (.ref t1), .val (.ref t2), .unset, .unset, .unset, .unset] [(.ref a161), (.ref b157), (.ref b157)])) st161 ?_
        have e163_t0 := ((e159_t0.ext E157).ext E161)
        have e164_t1 := ((e160_t1.ext E157).ext E161)
        have e165_t2 := ((Et156.ext E157).ext E161)
        have e166_b157 := (A157.ext E161)
        have k167_ := ((k158_.ext E157).ext E161)
        have x168_b157 := (Unt.ext E161 U157)
        have f169_b157 := (F_noted_b157.ext E161)
        refine own_callI X161 hx hZ (y := own_y0) rfl hown (own_h hw 115 rfl) (own_h hw 116 rfl) (own_h hw 117 rfl) (own_h hw 113 rfl) (by decide) (own_bi l Z a0 hw [] b157 a161 h161 n0 (Nat.le_trans Z0 k167_.1) e166_b157 g_b157 x168_b157 f169_b157) (by decide) (by decide) e161 (g := (mkF m 23 #[.val (.int p0), .val (.int p1), .val (.int p2), .val (.ref t0), .val (.ref t1), .val (.ref t2), .unset, .unset, .unset, .unset] [(.ref a161), (.ref b157), (.ref b157)])) rfl (by rw [hml]; rfl) (argsL := [(.ref a161)]) (rest := [(.ref b157)]) (lenOf own_pd__28Ljava_2flang_2fString_3b_29V rfl) rfl (W := 1) (by show 2 * 0 + _ ≤ _; exact Nat.le_of_eq rfl) (hb hby at_23) rfl (by decide) (by decide) ?_
        rintro rv170 T170 L170 X170 ⟨rfl, Nq170, Kq170, Ex170, Fn170, fb, kb, Ff170, sz170, g170, Ab170⟩
        have N170 := Fr.app N156 Nq170
        show own_Fin p e below _ T170 (mkF m 26 #[.val (.int p0), .val (.int p1), .val (.int p2), .val (.ref t0), .val (.ref t1), .val (.ref t2), .unset, .unset, .unset, .unset] [(.ref b157)])
        have ne_t0_fb : t0 ≠ fb := Nat.ne_of_lt (Nat.lt_of_lt_of_le e163_t0.lt sz170)
        have ne_t1_fb : t1 ≠ fb := Nat.ne_of_lt (Nat.lt_of_lt_of_le e164_t1.lt sz170)
        have ne_t2_fb : t2 ≠ fb := Nat.ne_of_lt (Nat.lt_of_lt_of_le e165_t2.lt sz170)
        have ne_b157_fb : b157 ≠ fb := Nat.ne_of_lt (Nat.lt_of_lt_of_le e166_b157.lt sz170)
        have szz170 := Nat.le_trans k167_.1 sz170
        refine own_g (mkF m 31 #[.val (.int p0), .val (.int p1), .val (.int p2), .val (.ref t0), .val (.ref t1), .val (.ref t2), .val (.ref b157), .unset, .unset, .unset] [(.ref t0), (.ref b157)]) (fun _ q => XS.astore X170.here hx rfl (hb hby at_26) rfl rfl (l' := #[.val (.int p0), .val (.int p1), .val (.int p2), .val (.ref t0), .val (.ref t1), .val (.ref t2), .val (.ref b157), .unset, .unset, .unset]) rfl (XS.aload X170.here hx rfl (hb hby at_28) rfl rfl (XS.aloadN X170.here hx rfl (hb hby at_30) rfl rfl q))) ?_
        have o171_ := ((((o155_.keep Kq156 all0).ext E157).ext E161).keep Kq170 (allS g_b157 all0))
        have k172_ := (k167_.trans Kq170 (allS (Or.inr sz_b157) all0))
        have e173_t0 := (e163_t0.keep Kq170)
        have f174_t0 := (((((Fo52.keep Kq105 nin0).keep Kq156 nin0).ext E157).ext E161).keep Kq170 (ninS ne_t0_b157 nin0))
        have f175_t0 := (((((Ff52.keep Kq105 nin0).keep Kq156 nin0).ext E157).ext E161).keep Kq170 (ninS ne_t0_b157 nin0))
        refine own_callV X170 hx hZ (y := own_y2) (z := own_y2) hown (own_h hw 160 rfl) (own_h hw 161 rfl) (own_nf (own_h hw 163 rfl)) (own_h hw 163 rfl) (own_h hw 162 rfl) (own_h hw 164 rfl) (own_h hw 113 rfl) (by decide) Ex170 (own_note0 l Z a0 hw [] b157 t0 fb kb fc0 o0 (own_sv ep p0)  T170.heap n0 (Nat.le_trans Z0 k172_.1) (own_svR ep p0) Ex170 Fn170 Ff170 Ab170 e173_t0 f174_t0 f175_t0 (Ef0.ext o171_.2) (Of0.ext o171_.2) g_b157 g170 ne_b157_fb) (by decide) (by decide) rfl (g := (mkF m 31 #[.val (.int p0), .val (.int p1), .val (.int p2), .val (.ref t0), .val (.ref t1), .val (.ref t2), .val (.ref b157), .unset, .unset, .unset] [(.ref t0), (.ref b157)])) rfl (by rw [hml]; rfl) (argsL := [(.ref t0)]) (rest := []) (lenOf own_pd__28Lcom_2fexample_2fbahikhata_2fbahikhata_2fmodel_2fLoan_3b_29V rfl) rfl (W := 0) (by show 2 * 0 + _ ≤ _; exact Nat.le_of_eq rfl) (hb hby at_31) rfl (by decide) (by decide) ?_
        rintro rv176 T176 L176 X176 ⟨rfl, Nq176, Kq176, Fn176, Ff176, Ab176⟩
        have N176 := Fr.app N170 Nq176
        refine own_g (mkF m 38 #[.val (.int p0), .val (.int p1), .val (.int p2), .val (.ref t0), .val (.ref t1), .val (.ref t2), .val (.ref b157), .unset, .unset, .unset] [(.ref t1), (.ref b157)]) (fun _ q => XS.aload X176.here hx rfl (hb hby at_34) rfl rfl (XS.aload X176.here hx rfl (hb hby at_36) rfl rfl q)) ?_
        have o177_ := (o171_.keep Kq176 (allS g_b157 (allS g170 all0)))
        have k178_ := (k172_.trans Kq176 (allS (Or.inr sz_b157) (allS (Or.inr szz170) all0)))
        have e179_b157 := (Ex170.keep Kq176)
        have e180_t1 := ((e164_t1.keep Kq170).keep Kq176)
        have f181_t1 := (((((Fo105.keep Kq156 nin0).ext E157).ext E161).keep Kq170 (ninS ne_t1_b157 nin0)).keep Kq176 (ninS ne_t1_b157 (ninS ne_t1_fb nin0)))
        have f182_t1 := (((((Ff105.keep Kq156 nin0).ext E157).ext E161).keep Kq170 (ninS ne_t1_b157 nin0)).keep Kq176 (ninS ne_t1_b157 (ninS ne_t1_fb nin0)))
        refine own_callV X176 hx hZ (y := own_y2) (z := own_y2) hown (own_h hw 160 rfl) (own_h hw 161 rfl) (own_nf (own_h hw 163 rfl)) (own_h hw 163 rfl) (own_h hw 162 rfl) (own_h hw 164 rfl) (own_h hw 113 rfl) (by decide) e179_b157 (own_note1 l Z a0 hw [] b157 t1 fb kb fc1 o1 (own_sv ep p1) (own_nb o0 (own_sv ep p0)) T176.heap n0 (Nat.le_trans Z0 k178_.1) (own_svR ep p1) e179_b157 Fn176 Ff176 Ab176 e180_t1 f181_t1 f182_t1 (Ef1.ext o177_.2) (Of1.ext o177_.2) g_b157 g170 ne_b157_fb) (by decide) (by decide) rfl (g := (mkF m 38 #[.val (.int p0), .val (.int p1), .val (.int p2), .val (.ref t0), .val (.ref t1), .val (.ref t2), .val (.ref b157), .unset, .unset, .unset] [(.ref t1), (.ref b157)])) rfl (by rw [hml]; rfl) (argsL := [(.ref t1)]) (rest := []) (lenOf own_pd__28Lcom_2fexample_2fbahikhata_2fbahikhata_2fmodel_2fLoan_3b_29V rfl) rfl (W := 0) (by show 2 * 0 + _ ≤ _; exact Nat.le_of_eq rfl) (hb hby at_38) rfl (by decide) (by decide) ?_
        rintro rv183 T183 L183 X183 ⟨rfl, Nq183, Kq183, Fn183, Ff183, Ab183⟩
        have N183 := Fr.app N176 Nq183
        refine own_g (mkF m 45 #[.val (.int p0), .val (.int p1), .val (.int p2), .val (.ref t0), .val (.ref t1), .val (.ref t2), .val (.ref b157), .unset, .unset, .unset] [(.ref t2), (.ref b157)]) (fun _ q => XS.aload X183.here hx rfl (hb hby at_41) rfl rfl (XS.aload X183.here hx rfl (hb hby at_43) rfl rfl q)) ?_
        have o184_ := (o177_.keep Kq183 (allS g_b157 (allS g170 all0)))
        have k185_ := (k178_.trans Kq183 (allS (Or.inr sz_b157) (allS (Or.inr szz170) all0)))
        have e186_b157 := (e179_b157.keep Kq183)
        have e187_t2 := (((e165_t2.keep Kq170).keep Kq176).keep Kq183)
        have f188_t2 := (((((Fo156.ext E157).ext E161).keep Kq170 (ninS ne_t2_b157 nin0)).keep Kq176 (ninS ne_t2_b157 (ninS ne_t2_fb nin0))).keep Kq183 (ninS ne_t2_b157 (ninS ne_t2_fb nin0)))
        have f189_t2 := (((((Ff156.ext E157).ext E161).keep Kq170 (ninS ne_t2_b157 nin0)).keep Kq176 (ninS ne_t2_b157 (ninS ne_t2_fb nin0))).keep Kq183 (ninS ne_t2_b157 (ninS ne_t2_fb nin0)))
        refine own_callV X183 hx hZ (y := own_y2) (z := own_y2) hown (own_h hw 160 rfl) (own_h hw 161 rfl) (own_nf (own_h hw 163 rfl)) (own_h hw 163 rfl) (own_h hw 162 rfl) (own_h hw 164 rfl) (own_h hw 113 rfl) (by decide) e186_b157 (own_note2 l Z a0 hw [] b157 t2 fb kb fc2 o2 (own_sv ep p2) (own_nb o0 (own_sv ep p0)) (own_nb o1 (own_sv ep p1)) T183.heap n0 (Nat.le_trans Z0 k185_.1) (own_svR ep p2) e186_b157 Fn183 Ff183 Ab183 e187_t2 f188_t2 f189_t2 (Ef2.ext o184_.2) (Of2.ext o184_.2) g_b157 g170 ne_b157_fb) (by decide) (by decide) rfl (g := (mkF m 45 #[.val (.int p0), .val (.int p1), .val (.int p2), .val (.ref t0), .val (.ref t1), .val (.ref t2), .val (.ref b157), .unset, .unset, .unset] [(.ref t2), (.ref b157)])) rfl (by rw [hml]; rfl) (argsL := [(.ref t2)]) (rest := []) (lenOf own_pd__28Lcom_2fexample_2fbahikhata_2fbahikhata_2fmodel_2fLoan_3b_29V rfl) rfl (W := 0) (by show 2 * 0 + _ ≤ _; exact Nat.le_of_eq rfl) (hb hby at_45) rfl (by decide) (by decide) ?_
        rintro rv190 T190 L190 X190 ⟨rfl, Nq190, Kq190, Fn190, Ff190, Ab190⟩
        have N190 := Fr.app N183 Nq190
        refine own_g (mkF m 51 #[.val (.int p0), .val (.int p1), .val (.int p2), .val (.ref t0), .val (.ref t1), .val (.ref t2), .val (.ref b157), .unset, .unset, .unset] [(.int 0), (.ref b157)]) (fun _ q => XS.aload X190.here hx rfl (hb hby at_48) rfl rfl (XS.iconst X190.here hx rfl (hb hby at_50) q)) ?_
        have k191_ := (k185_.trans Kq190 (allS (Or.inr sz_b157) (allS (Or.inr szz170) all0)))
        have e192_b157 := (e186_b157.keep Kq190)
        refine own_callV X190 hx hZ (y := own_y1) (z := own_y1) hown (own_h hw 186 rfl) (own_h hw 187 rfl) (own_nf (own_h hw 189 rfl)) (own_h hw 189 rfl) (own_h hw 188 rfl) (own_h hw 190 rfl) (own_h hw 113 rfl) (by decide) e192_b157 (own_gv0 l Z a0 hw [] b157 fb kb (own_nb o0 (own_sv ep p0)) (own_nb o1 (own_sv ep p1)) (own_nb o2 (own_sv ep p2)) T190.heap n0 (Nat.le_trans Z0 k191_.1) Ff190 Ab190) (by decide) (by decide) rfl (g := (mkF m 51 #[.val (.int p0), .val (.int p1), .val (.int p2), .val (.ref t0), .val (.ref t1), .val (.ref t2), .val (.ref b157), .unset, .unset, .unset] [(.int 0), (.ref b157)])) rfl (by rw [hml]; rfl) (argsL := [(.int 0)]) (rest := []) (lenOf own_pd__28I_29Z rfl) rfl (W := 0) (by show 2 * 0 + _ ≤ _; exact Nat.le_of_eq rfl) (hb hby at_51) rfl (by decide) (by decide) ?_
        rintro rv193 T193 L193 X193 ⟨rfl, Nq193, eh193⟩
        have N193 := Fr.app N190 Nq193
        refine own_g (mkF m 59 #[.val (.int p0), .val (.int p1), .val (.int p2), .val (.ref t0), .val (.ref t1), .val (.ref t2), .val (.ref b157), .val (.int (own_bit (own_nb o0 (own_sv ep p0)))), .unset, .unset] [(.int 1), (.ref b157)]) (fun _ q => XS.istore X193.here hx rfl (hb hby at_54) rfl (l' := #[.val (.int p0), .val (.int p1), .val (.int p2), .val (.ref t0), .val (.ref t1), .val (.ref t2), .val (.ref b157), .val (.int (own_bit (own_nb o0 (own_sv ep p0)))), .unset, .unset]) rfl (XS.aload X193.here hx rfl (hb hby at_56) rfl rfl (XS.iconst X193.here hx rfl (hb hby at_58) q))) ?_
        refine own_callV X193 hx hZ (y := own_y1) (z := own_y1) hown (own_h hw 186 rfl) (own_h hw 187 rfl) (own_nf (own_h hw 189 rfl)) (own_h hw 189 rfl) (own_h hw 188 rfl) (own_h hw 190 rfl) (own_h hw 113 rfl) (by decide) e192_b157 (own_gv1 l Z a0 hw [] b157 fb kb (own_nb o0 (own_sv ep p0)) (own_nb o1 (own_sv ep p1)) (own_nb o2 (own_sv ep p2)) T190.heap n0 (Nat.le_trans Z0 k191_.1) Ff190 Ab190) (by decide) (by decide) eh193 (g := (mkF m 59 #[.val (.int p0), .val (.int p1), .val (.int p2), .val (.ref t0), .val (.ref t1), .val (.ref t2), .val (.ref b157), .val (.int (own_bit (own_nb o0 (own_sv ep p0)))), .unset, .unset] [(.int 1), (.ref b157)])) rfl (by rw [hml]; rfl) (argsL := [(.int 1)]) (rest := []) (lenOf own_pd__28I_29Z rfl) rfl (W := 0) (by show 2 * 0 + _ ≤ _; exact Nat.le_of_eq rfl) (hb hby at_59) rfl (by decide) (by decide) ?_
        rintro rv194 T194 L194 X194 ⟨rfl, Nq194, eh194⟩
        have N194 := Fr.app N193 Nq194
        refine own_g (mkF m 67 #[.val (.int p0), .val (.int p1), .val (.int p2), .val (.ref t0), .val (.ref t1), .val (.ref t2), .val (.ref b157), .val (.int (own_bit (own_nb o0 (own_sv ep p0)))), .val (.int (own_bit (own_nb o1 (own_sv ep p1)))), .unset] [(.int 2), (.ref b157)]) (fun _ q => XS.istore X194.here hx rfl (hb hby at_62) rfl (l' := #[.val (.int p0), .val (.int p1), .val (.int p2), .val (.ref t0), .val (.ref t1), .val (.ref t2), .val (.ref b157), .val (.int (own_bit (own_nb o0 (own_sv ep p0)))), .val (.int (own_bit (own_nb o1 (own_sv ep p1)))), .unset]) rfl (XS.aload X194.here hx rfl (hb hby at_64) rfl rfl (XS.iconst X194.here hx rfl (hb hby at_66) q))) ?_
        refine own_callV X194 hx hZ (y := own_y1) (z := own_y1) hown (own_h hw 186 rfl) (own_h hw 187 rfl) (own_nf (own_h hw 189 rfl)) (own_h hw 189 rfl) (own_h hw 188 rfl) (own_h hw 190 rfl) (own_h hw 113 rfl) (by decide) e192_b157 (own_gv2 l Z a0 hw [] b157 fb kb (own_nb o0 (own_sv ep p0)) (own_nb o1 (own_sv ep p1)) (own_nb o2 (own_sv ep p2)) T190.heap n0 (Nat.le_trans Z0 k191_.1) Ff190 Ab190) (by decide) (by decide) eh194 (g := (mkF m 67 #[.val (.int p0), .val (.int p1), .val (.int p2), .val (.ref t0), .val (.ref t1), .val (.ref t2), .val (.ref b157), .val (.int (own_bit (own_nb o0 (own_sv ep p0)))), .val (.int (own_bit (own_nb o1 (own_sv ep p1)))), .unset] [(.int 2), (.ref b157)])) rfl (by rw [hml]; rfl) (argsL := [(.int 2)]) (rest := []) (lenOf own_pd__28I_29Z rfl) rfl (W := 0) (by show 2 * 0 + _ ≤ _; exact Nat.le_of_eq rfl) (hb hby at_67) rfl (by decide) (by decide) ?_
        rintro rv195 T195 L195 X195 ⟨rfl, Nq195, eh195⟩
        have N195 := Fr.app N194 Nq195
        refine own_g (mkF m 75 #[.val (.int p0), .val (.int p1), .val (.int p2), .val (.ref t0), .val (.ref t1), .val (.ref t2), .val (.ref b157), .val (.int (own_bit (own_nb o0 (own_sv ep p0)))), .val (.int (own_bit (own_nb o1 (own_sv ep p1)))), .val (.int (own_bit (own_nb o2 (own_sv ep p2))))] [(.int p0), (.int (own_bit (own_nb o0 (own_sv ep p0))))]) (fun _ q => XS.istore X195.here hx rfl (hb hby at_70) rfl (l' := #[.val (.int p0), .val (.int p1), .val (.int p2), .val (.ref t0), .val (.ref t1), .val (.ref t2), .val (.ref b157), .val (.int (own_bit (own_nb o0 (own_sv ep p0)))), .val (.int (own_bit (own_nb o1 (own_sv ep p1)))), .val (.int (own_bit (own_nb o2 (own_sv ep p2))))]) rfl (XS.iload X195.here hx rfl (hb hby at_72) rfl (XS.iloadN X195.here hx rfl (hb hby at_74) rfl q))) ?_
        refine own_callS X195 hx hZ (y := own_y5) hown (own_h hw 12 rfl) (own_h hw 13 rfl) (own_h hw 2 rfl) (own_h hw 14 rfl) (by decide) (own_ov l Z a0 hw [] p0 T190.heap n0 (Nat.le_trans Z0 k191_.1)) (by decide) (by decide) eh195 (g := (mkF m 75 #[.val (.int p0), .val (.int p1), .val (.int p2), .val (.ref t0), .val (.ref t1), .val (.ref t2), .val (.ref b157), .val (.int (own_bit (own_nb o0 (own_sv ep p0)))), .val (.int (own_bit (own_nb o1 (own_sv ep p1)))), .val (.int (own_bit (own_nb o2 (own_sv ep p2))))] [(.int p0), (.int (own_bit (own_nb o0 (own_sv ep p0))))])) rfl (by rw [hml]; rfl) (argsL := [(.int p0)]) (rest := [(.int (own_bit (own_nb o0 (own_sv ep p0))))]) (lenOf own_pd__28I_29Z rfl) rfl (W := 1) (by show 2 * 0 + _ ≤ _; exact Nat.le_of_eq rfl) (hb hby at_75) rfl (by decide) (by decide) ?_
        rintro rv196 T196 L196 X196 ⟨rfl, Nq196, eh196⟩
        have N196 := Fr.app N195 Nq196
        refine own_g (mkF m 84 #[.val (.int p0), .val (.int p1), .val (.int p2), .val (.ref t0), .val (.ref t1), .val (.ref t2), .val (.ref b157), .val (.int (own_bit (own_nb o0 (own_sv ep p0)))), .val (.int (own_bit (own_nb o1 (own_sv ep p1)))), .val (.int (own_bit (own_nb o2 (own_sv ep p2))))] [(.int p1), (.int (own_bit (own_nb o1 (own_sv ep p1))))]) (fun _ q => XS.icmpNo X196.here hx rfl (hb hby at_78) rfl (teq (own_fin ho0)).2 (XS.iload X196.here hx rfl (hb hby at_81) rfl (XS.iloadN X196.here hx rfl (hb hby at_83) rfl q))) ?_
        refine own_callS X196 hx hZ (y := own_y5) hown (own_h hw 12 rfl) (own_h hw 13 rfl) (own_h hw 2 rfl) (own_h hw 14 rfl) (by decide) (own_ov l Z a0 hw [] p1 T190.heap n0 (Nat.le_trans Z0 k191_.1)) (by decide) (by decide) eh196 (g := (mkF m 84 #[.val (.int p0), .val (.int p1), .val (.int p2), .val (.ref t0), .val (.ref t1), .val (.ref t2), .val (.ref b157), .val (.int (own_bit (own_nb o0 (own_sv ep p0)))), .val (.int (own_bit (own_nb o1 (own_sv ep p1)))), .val (.int (own_bit (own_nb o2 (own_sv ep p2))))] [(.int p1), (.int (own_bit (own_nb o1 (own_sv ep p1))))])) rfl (by rw [hml]; rfl) (argsL := [(.int p1)]) (rest := [(.int (own_bit (own_nb o1 (own_sv ep p1))))]) (lenOf own_pd__28I_29Z rfl) rfl (W := 1) (by show 2 * 0 + _ ≤ _; exact Nat.le_of_eq rfl) (hb hby at_84) rfl (by decide) (by decide) ?_
        rintro rv197 T197 L197 X197 ⟨rfl, Nq197, eh197⟩
        have N197 := Fr.app N196 Nq197
        refine own_g (mkF m 93 #[.val (.int p0), .val (.int p1), .val (.int p2), .val (.ref t0), .val (.ref t1), .val (.ref t2), .val (.ref b157), .val (.int (own_bit (own_nb o0 (own_sv ep p0)))), .val (.int (own_bit (own_nb o1 (own_sv ep p1)))), .val (.int (own_bit (own_nb o2 (own_sv ep p2))))] [(.int p2), (.int (own_bit (own_nb o2 (own_sv ep p2))))]) (fun _ q => XS.icmpNo X197.here hx rfl (hb hby at_87) rfl (teq (own_fin ho1)).2 (XS.iload X197.here hx rfl (hb hby at_90) rfl (XS.iloadN X197.here hx rfl (hb hby at_92) rfl q))) ?_
        refine own_callS X197 hx hZ (y := own_y5) hown (own_h hw 12 rfl) (own_h hw 13 rfl) (own_h hw 2 rfl) (own_h hw 14 rfl) (by decide) (own_ov l Z a0 hw [] p2 T190.heap n0 (Nat.le_trans Z0 k191_.1)) (by decide) (by decide) eh197 (g := (mkF m 93 #[.val (.int p0), .val (.int p1), .val (.int p2), .val (.ref t0), .val (.ref t1), .val (.ref t2), .val (.ref b157), .val (.int (own_bit (own_nb o0 (own_sv ep p0)))), .val (.int (own_bit (own_nb o1 (own_sv ep p1)))), .val (.int (own_bit (own_nb o2 (own_sv ep p2))))] [(.int p2), (.int (own_bit (own_nb o2 (own_sv ep p2))))])) rfl (by rw [hml]; rfl) (argsL := [(.int p2)]) (rest := [(.int (own_bit (own_nb o2 (own_sv ep p2))))]) (lenOf own_pd__28I_29Z rfl) rfl (W := 1) (by show 2 * 0 + _ ≤ _; exact Nat.le_of_eq rfl) (hb hby at_93) rfl (by decide) (by decide) ?_
        rintro rv198 T198 L198 X198 ⟨rfl, Nq198, eh198⟩
        have N198 := Fr.app N197 Nq198
        refine own_g (mkF m 104 #[.val (.int p0), .val (.int p1), .val (.int p2), .val (.ref t0), .val (.ref t1), .val (.ref t2), .val (.ref b157), .val (.int (own_bit (own_nb o0 (own_sv ep p0)))), .val (.int (own_bit (own_nb o1 (own_sv ep p1)))), .val (.int (own_bit (own_nb o2 (own_sv ep p2))))] [(.int 1)]) (fun _ q => XS.icmpNo X198.here hx rfl (hb hby at_96) rfl (teq (own_fin ho2)).2 (XS.iconst X198.here hx rfl (hb hby at_99) (XS.goto X198.here hx rfl (pc0 := 100) (pc' := 104) rfl (hb hby at_100) (by decide) (by decide) q))) ?_
        have hk199_ := (Nat.le_trans (Nat.le_trans (Nat.le_trans (Nat.le_trans hk161 Kq170.1) Kq176.1) Kq183.1) Kq190.1)
        exact own_endJ X198 hS (by rw [eh198]; exact hk199_) hZ (own_Rs.sub RS161 (by decide)) (v := some (.int (nar .boolean (1 : Int32)))) (fun h => by rw [Bd.returns] at h; cases h) hlk (fun hr => retN X198 hx (t := .boolean) Bd.returns (by simp) (hb hby at_104) hr) (by rw [eh198]; exact ⟨rfl, N198⟩) (by decide) (by decide)
set_option maxRecDepth 65536 in
set_option maxHeartbeats 40000000 in
theorem own_comes {Post : Tables → Env → Array Value → State → Outcome → State → Prop} (hpost : ∀ tb e args s v u, (limb_1_1.after args s (.returned v) u = true ∧ limb_1_2.after args s (.returned v) u = true ∧ True) → ReturnedEndW s (.returned v) u (Jvm.fieldLocs frame_1_writes args s ++ Jvm.arrayLocs frame_1_arrays args s ++ Jvm.staticLocs frame_1_statics s) 64 20224 → Post tb e args s (.returned v) u) :
    ArmFor flags0 classFile x code maxLocals ret World_1 tables_1 room_1 Calls_1 rest_1 Pre_1 Post := by
  intro l hfl _ _ p e ha hc hk s m args below hf hA hF happ hP
  obtain ⟨hcalls, hrest, hpre⟩ := hP
  obtain ⟨-, -, -, hnamed, -, -, -, hat⟩ := (Spec.applies_iff hf).mp happ
  obtain ⟨hg, hn⟩ := and_e (Cond.before_iff.mp (show (Jvm.Cond.and given_1 narrow_1).before args s = true from hpre))
  obtain ⟨g0, g1⟩ := and_e hg
  obtain ⟨g2, g3⟩ := and_e g1
  obtain ⟨g4, g5⟩ := and_e g3
  obtain ⟨w0, w1, w2, rfl⟩ : ∃ w0 w1 w2 : Value, args = #[w0, w1, w2] := by
    have hs : args.size = 3 := by simpa [Jvm.Cond.value, given_1] using g0
    obtain ⟨L⟩ := args
    match L, hs with
    | [w0, w1, w2], _ => exact ⟨w0, w1, w2, rfl⟩
  have hw := fun d (hd : d ∈ tables_1) => atoms_spec (ws := Jvm.Cond.code x code maxLocals ret :: tables_1) hat d (List.mem_cons_of_mem _ hd)
  have hfit : Fit s := fun {y c} hc i hi => by
    obtain ⟨ha, rfl⟩ := Array.getElem?_eq_some_iff.mp hc
    have q := List.all_eq_true.mp ((Array.all_eq_true_iff_forall_mem.mp hF) _ (Array.getElem_mem ha)) i (List.mem_range.mpr hi)
    simpa [Array.getElem?_eq_getElem hi] using q
  obtain ⟨i0, ei0⟩ := is_v g2
  obtain rfl : w0 = (.int i0) := Option.some.inj ei0
  obtain ⟨i1, ei1⟩ := is_v g4
  obtain rfl : w1 = (.int i1) := Option.some.inj ei1
  obtain ⟨i2, ei2⟩ := is_v g5
  obtain rfl : w2 = (.int i2) := Option.some.inj ei2
  obtain ⟨g6, g7⟩ := and_e hn
  obtain ⟨g8, g9⟩ := and_e g7
  obtain ⟨g10, g11⟩ := and_e g9
  obtain ⟨g12, g13⟩ := and_e g11
  obtain ⟨g14, g15⟩ := and_e g13
  obtain ⟨g16, g17⟩ := and_e g15
  obtain ⟨g18, g19⟩ := and_e g17
  obtain ⟨g20, g21⟩ := and_e g19
  obtain ⟨g22, g23⟩ := and_e g21
  obtain ⟨g24, g25⟩ := and_e g23
  obtain ⟨g26, g27⟩ := and_e g25
  obtain ⟨a_TERM_LOAN, ea_TERM_LOAN⟩ := exa_v g6
  have E_TERM_LOAN := Exa.start ea_TERM_LOAN g6
  have S_TERM_LOAN := Sta.start ea_TERM_LOAN (Or.inr ⟨(own_h hw 8 rfl), (own_h hw 9 rfl)⟩)
  obtain ⟨a_BILL, ea_BILL⟩ := exa_v g10
  have E_BILL := Exa.start ea_BILL g10
  have S_BILL := Sta.start ea_BILL (Or.inr ⟨(own_h hw 8 rfl), (own_h hw 102 rfl)⟩)
  obtain ⟨a_OVERDRAFT, ea_OVERDRAFT⟩ := exa_v g14
  have E_OVERDRAFT := Exa.start ea_OVERDRAFT g14
  have S_OVERDRAFT := Sta.start ea_OVERDRAFT (Or.inr ⟨(own_h hw 8 rfl), (own_h hw 104 rfl)⟩)
  obtain ⟨a_CASH_CREDIT, ea_CASH_CREDIT⟩ := exa_v g24
  have E_CASH_CREDIT := Exa.start ea_CASH_CREDIT g24
  have S_CASH_CREDIT := Sta.start ea_CASH_CREDIT (Or.inr ⟨(own_h hw 8 rfl), (own_h hw 192 rfl)⟩)
  have O_runningAccount_TERM_LOAN := own_fldI g8 ea_TERM_LOAN
  have O_runningAccount_BILL := own_fldI g12 ea_BILL
  have O_runningAccount_OVERDRAFT := own_fldI g16 ea_OVERDRAFT
  have O_TERM_LOAN := own_fldI g18 ea_TERM_LOAN
  have O_BILL := own_fldI g20 ea_BILL
  have O_OVERDRAFT := own_fldI g22 ea_OVERDRAFT
  have O_runningAccount_CASH_CREDIT := own_fldI g26 ea_CASH_CREDIT
  have O_CASH_CREDIT := own_fldI g27 ea_CASH_CREDIT
  obtain ⟨hsets, hown0⟩ := atoms_of _ (rest_1_c_eq ▸ (show rest_1_c.before _ s = true from hrest))
  have hr0 := Cond.before_iff.mp hown0
  obtain ⟨ep, eep⟩ := exa_v (Cond.before_iff.mp (hsets _ (List.mem_of_getElem? (i := 2) rfl)))
  have S_ep := Sta.start eep (Or.inl (hsets _ (List.mem_of_getElem? (i := 1) rfl)))
  obtain ⟨zr, ezr⟩ := exa_v (Cond.before_iff.mp (hsets _ (List.mem_of_getElem? (i := 10) rfl)))
  have S_zr := Sta.start ezr (Or.inl (hsets _ (List.mem_of_getElem? (i := 7) rfl)))
  obtain ⟨n, o, h1, h2, h3, _, L, rfl, ⟨rfl, N⟩, -, hq⟩ := own_rm0 l s _ hw tables_1 i0 i1 i2 ep zr a_TERM_LOAN a_CASH_CREDIT a_OVERDRAFT a_BILL s.heap s.heap.size (Nat.le_refl _) S_ep S_zr S_TERM_LOAN E_TERM_LOAN O_runningAccount_TERM_LOAN O_TERM_LOAN S_CASH_CREDIT E_CASH_CREDIT O_runningAccount_CASH_CREDIT O_CASH_CREDIT S_OVERDRAFT E_OVERDRAFT O_runningAccount_OVERDRAFT O_OVERDRAFT S_BILL E_BILL O_runningAccount_BILL O_BILL (Old.start s) p e ha hc hk s m _ below hf ((Spec.applies_iff_loose hf).mp happ).1 ⟨rfl, State.Warmed39.refl s, rfl, own_Rs.nil⟩ trivial
  refine ⟨n, _, h1, h2, h3, hpost _ _ _ _ _ _ ⟨Cond.after_iff.mpr rfl, Cond.after_iff.mpr (eq_i res_at (Term.int_eval (1)) rfl), trivial⟩ ⟨hq.1, hq.2.1, hq.2.2.1, (hq.2.2.2.sift fun y hy => Or.inr (N y hy)).mono (by decide) (by decide)⟩⟩
theorem main_1_1 : Claimed_1_1 := own_comes fun _ _ _ _ _ _ h hF => ⟨h.1, hF⟩
theorem main_1_2 : Claimed_1_2 := own_comes fun _ _ _ _ _ _ h hF => ⟨h.2.1, hF⟩
end Jvm.Pilot.@@N@@
namespace Jvm.Pilot.@@N@@
open Jvm Jvm.ClassFile Sem Op Lib Jvm.Free Jvm.Stand Jvm.Pilot.@@N@@.Jvm.D
/-! MADE BY PROGRAM (witnessworld.py) out of the Statement's table words and the real class files: 35 classes; the members and pool entries that the words name. The judged class is class 1, her method 4. -/
namespace start1
open Jvm.ClassFile
def u (s : String) : CpInfo := .utf8 (stringToUtf16 s)
/-- a pool by its gaps: so many unusable entries, then the entry; so many at the end -/
def gap : Nat → List CpInfo → List CpInfo
  | 0, r => r
  | n + 1, r => .unusable :: gap n r
def poolList (es : List (Nat × CpInfo)) (last : Nat) : List CpInfo := es.foldr (fun e r => gap e.1 (e.2 :: r)) (gap last [])
def pool (es : List (Nat × CpInfo)) (last : Nat) : Array CpInfo := ⟨poolList es last⟩
def fileOf (pool : Array CpInfo) (this : Nat) (attrs : Array Attribute := #[]) (ms : Array MethodInfo := #[]) (fl : Nat := 33) (sup : Nat := 0) (ifs : Array Nat := #[]) (fds : Array FieldInfo := #[]) : ClassFile where
  minorVersion := 0
  majorVersion := 65
  constantPool := pool
  accessFlags := fl
  thisClass := this
  superClass := sup
  interfaces := ifs
  fields := fds
  methods := ms
  attributes := attrs
def plain (name : String) (sup : Option ClassId) : Class where
  name := name
  kind := .ordinary
  loader := none
  accessFlags := 33
  super := sup
  interfaces := #[]
  cf := none
  fields := #[]
  methods := #[]
  instanceTypes := #[]
  staticTypes := #[]
  resolved := #[]
  callSites := []
  init := .initialized
  statics := none
  mirror := none

def pool0 : Array CpInfo := pool [(5, u "<init>"), (0, u "()V"), (1, .class_ 10), (1, u "java/lang/Object")] 113

def k0c0 : Code := { maxStack := 0, maxLocals := 1, code := object_method_1_code, exceptionTable := #[], attributes := #[] }
def k0m0 : Method := { name := "<init>", desc := "()V", sig := { parameters := [], returnType := none }, accessFlags := 1, code := some k0c0 }
/-- java/lang/Object -/
def k0 : Class := { plain "java/lang/Object" none with
  accessFlags := 33
  interfaces := #[]
  cf := some (fileOf pool0 8 #[] #[{ accessFlags := 1, nameIndex := 5, descriptorIndex := 6, attributes := #[] }] 33 0 #[] #[])
  fields := #[]
  methods := #[k0m0]
  instanceTypes := #[]
  staticTypes := #[]
  resolved := Array.replicate 124 none
  statics := none }

def pool1 : Array CpInfo := pool [(2, .class_ 4), (1, u "java/lang/Object"), (0, u "<init>"), (0, u "()V"), (0, .fieldref 8 9), (0, .class_ 10), (0, .nameAndType 11 12), (0, u "com/example/bahikhata/bahikhata/model/Facility"), (0, u "TERM_LOAN"), (0, u "Lcom/example/bahikhata/bahikhata/model/Facility;"), (0, .fieldref 8 14), (0, .nameAndType 15 12), (0, u "CASH_CREDIT"), (0, .fieldref 8 17), (0, .nameAndType 18 12), (0, u "OVERDRAFT"), (0, .fieldref 8 20), (0, .nameAndType 21 12), (0, u "BILL"), (0, .methodref 23 24), (0, .class_ 25), (0, .nameAndType 26 27), (0, u "com/example/bahikhata/bahikhata/io/BookIndexGivesOverdueSincePinLaw"), (0, u "facility"), (0, u "(I)Lcom/example/bahikhata/bahikhata/model/Facility;"), (0, .fieldref 29 30), (0, .class_ 31), (0, .nameAndType 32 33), (0, u "java/time/LocalDate"), (0, u "EPOCH"), (0, u "Ljava/time/LocalDate;"), (0, .methodref 23 35), (0, .nameAndType 36 37), (0, u "overdue"), (0, u "(I)Z"), (0, .fieldref 39 40), (0, .class_ 41), (0, .nameAndType 42 43), (0, u "java/math/BigDecimal"), (0, u "ZERO"), (0, u "Ljava/math/BigDecimal;"), (0, .class_ 45), (0, u "com/example/bahikhata/bahikhata/model/Loan"), (0, .string 47), (0, u "a"), (0, .string 49), (0, u "b"), (0, .methodref 44 51), (0, .nameAndType 5 52), (0, u "(Ljava/lang/String;Ljava/lang/String;Lcom/example/bahikhata/bahikhata/model/Facility;Ljava/math/BigDecimal;Ljava/time/LocalDate;Ljava/lang/String;Ljava/time/LocalDate;Ljava/math/BigDecimal;Ljava/math/BigDecimal;ZZZLjava/math/BigDecimal;Ljava/math/BigDecimal;Ljava/math/BigDecimal;Ljava/math/BigDecimal;Ljava/time/LocalDate;Ljava/time/LocalDate;Ljava/math/BigDecimal;Ljava/math/BigDecimal;Ljava/time/LocalDate;)V"), (0, .methodref 23 54), (0, .nameAndType 55 56), (0, u "loan"), (0, u "(I)Lcom/example/bahikhata/bahikhata/model/Loan;"), (0, .class_ 58), (0, u "com/example/bahikhata/bahikhata/io/BookIndex"), (0, .string 60), (0, u "f"), (0, .methodref 57 62), (0, .nameAndType 5 63), (0, u "(Ljava/lang/String;)V"), (0, .methodref 57 65), (0, .nameAndType 66 67), (0, u "note"), (0, u "(Lcom/example/bahikhata/bahikhata/model/Loan;)V"), (0, .methodref 57 69), (0, .nameAndType 70 37), (0, u "givesOverdueSince"), (3, u "law"), (0, u "(III)Z")] 2

def k1m0 : Method := { name := "<init>", desc := "()V", sig := { parameters := [], returnType := none }, accessFlags := 1, code := none }
def k1c1 : Code := { maxStack := 2, maxLocals := 1, code := method_2_code, exceptionTable := #[], attributes := #[] }
def k1m1 : Method := { name := "facility", desc := "(I)Lcom/example/bahikhata/bahikhata/model/Facility;", sig := { parameters := [.int], returnType := some (.object "com/example/bahikhata/bahikhata/model/Facility") }, accessFlags := 10, code := some k1c1 }
def k1c2 : Code := { maxStack := 2, maxLocals := 1, code := method_3_code, exceptionTable := #[], attributes := #[] }
def k1m2 : Method := { name := "overdue", desc := "(I)Z", sig := { parameters := [.int], returnType := some .boolean }, accessFlags := 10, code := some k1c2 }
def k1c3 : Code := { maxStack := 23, maxLocals := 5, code := method_4_code, exceptionTable := #[], attributes := #[] }
def k1m3 : Method := { name := "loan", desc := "(I)Lcom/example/bahikhata/bahikhata/model/Loan;", sig := { parameters := [.int], returnType := some (.object "com/example/bahikhata/bahikhata/model/Loan") }, accessFlags := 10, code := some k1c3 }
def k1c4 : Code := { maxStack := 3, maxLocals := 10, code := code, exceptionTable := #[], attributes := #[] }
def k1m4 : Method := { name := "law", desc := "(III)Z", sig := { parameters := [.int, .int, .int], returnType := some .boolean }, accessFlags := 9, code := some k1c4 }
/-- com/example/bahikhata/bahikhata/io/BookIndexGivesOverdueSincePinLaw -/
def k1 : Class := { plain "com/example/bahikhata/bahikhata/io/BookIndexGivesOverdueSincePinLaw" (some 0) with
  accessFlags := 49
  interfaces := #[]
  cf := some (fileOf pool1 23 #[] #[{ accessFlags := 1, nameIndex := 5, descriptorIndex := 6, attributes := #[] }, { accessFlags := 10, nameIndex := 26, descriptorIndex := 27, attributes := #[] }, { accessFlags := 10, nameIndex := 36, descriptorIndex := 37, attributes := #[] }, { accessFlags := 10, nameIndex := 55, descriptorIndex := 56, attributes := #[] }, { accessFlags := 9, nameIndex := 74, descriptorIndex := 75, attributes := #[] }] 49 2 #[] #[])
  fields := #[]
  methods := #[k1m0, k1m1, k1m2, k1m3, k1m4]
  instanceTypes := #[]
  staticTypes := #[]
  resolved := Array.replicate 78 none
  statics := none }

def pool2 : Array CpInfo := pool [(1, .class_ 2), (0, u "java/lang/constant/Constable"), (0, .class_ 4), (0, u "java/lang/Object")] 6

/-- java/lang/constant/Constable -/
def k2 : Class := { plain "java/lang/constant/Constable" (some 0) with
  accessFlags := 1537
  interfaces := #[]
  cf := some (fileOf pool2 1 #[] #[] 1537 3 #[] #[])
  fields := #[]
  methods := #[]
  instanceTypes := #[]
  staticTypes := #[]
  resolved := Array.replicate 11 none
  statics := none }

def pool3 : Array CpInfo := pool [(1, .class_ 2), (0, u "java/lang/Comparable"), (0, .class_ 4), (0, u "java/lang/Object")] 7

/-- java/lang/Comparable -/
def k3 : Class := { plain "java/lang/Comparable" (some 0) with
  accessFlags := 1537
  interfaces := #[]
  cf := some (fileOf pool3 1 #[] #[] 1537 3 #[] #[])
  fields := #[]
  methods := #[]
  instanceTypes := #[]
  staticTypes := #[]
  resolved := Array.replicate 12 none
  statics := none }

def pool4 : Array CpInfo := pool [(1, .class_ 2), (0, u "java/io/Serializable"), (0, .class_ 4), (0, u "java/lang/Object")] 2

/-- java/io/Serializable -/
def k4 : Class := { plain "java/io/Serializable" (some 0) with
  accessFlags := 1537
  interfaces := #[]
  cf := some (fileOf pool4 1 #[] #[] 1537 3 #[] #[])
  fields := #[]
  methods := #[]
  instanceTypes := #[]
  staticTypes := #[]
  resolved := Array.replicate 7 none
  statics := none }

def pool5 : Array CpInfo := pool [(2, .class_ 4), (1, u "java/lang/Enum"), (0, u "name"), (0, u "Ljava/lang/String;"), (0, .fieldref 2 8), (0, .nameAndType 9 10), (0, u "ordinal"), (0, u "I"), (1, .class_ 14), (1, u "java/lang/Object"), (4, u "hash"), (86, .class_ 108), (1, u "java/lang/Enum$EnumDesc"), (2, .class_ 112), (0, u "java/lang/constant/Constable"), (0, .class_ 114), (0, u "java/lang/Comparable"), (0, .class_ 116), (0, u "java/io/Serializable"), (9, u "()I")] 77

def k5c0 : Code := { maxStack := 1, maxLocals := 1, code := jdk_37_method_2_code, exceptionTable := #[], attributes := #[] }
def k5m0 : Method := { name := "ordinal", desc := "()I", sig := { parameters := [], returnType := some .int }, accessFlags := 17, code := some k5c0 }
/-- java/lang/Enum -/
def k5 : Class := { plain "java/lang/Enum" (some 0) with
  accessFlags := 1057
  interfaces := #[2, 3, 4]
  cf := some (fileOf pool5 2 #[.nestMembers #[106]] #[{ accessFlags := 17, nameIndex := 9, descriptorIndex := 126, attributes := #[] }] 1057 12 #[111, 113, 115] #[{ accessFlags := 18, nameIndex := 5, descriptorIndex := 6, attributes := #[] }, { accessFlags := 18, nameIndex := 9, descriptorIndex := 10, attributes := #[] }, { accessFlags := 2, nameIndex := 19, descriptorIndex := 10, attributes := #[] }])
  fields := #[{ name := "name", type := (.object "java/lang/String"), accessFlags := 18, slot := 0, constantValue := 0 }, { name := "ordinal", type := .int, accessFlags := 18, slot := 1, constantValue := 0 }, { name := "hash", type := .int, accessFlags := 2, slot := 2, constantValue := 0 }]
  methods := #[k5m0]
  instanceTypes := #[(.object "java/lang/String"), .int, .int]
  staticTypes := #[]
  resolved := Array.replicate 204 none
  statics := none }

def pool6 : Array CpInfo := pool [(2, .class_ 4), (1, u "com/example/bahikhata/bahikhata/model/Coded"), (47, .class_ 53), (0, u "java/lang/Object")] 13

/-- com/example/bahikhata/bahikhata/model/Coded -/
def k6 : Class := { plain "com/example/bahikhata/bahikhata/model/Coded" (some 0) with
  accessFlags := 1537
  interfaces := #[]
  cf := some (fileOf pool6 2 #[] #[] 1537 52 #[] #[])
  fields := #[]
  methods := #[]
  instanceTypes := #[]
  staticTypes := #[]
  resolved := Array.replicate 67 none
  statics := none }

def pool7 : Array CpInfo := pool [(1, .class_ 2), (0, u "com/example/bahikhata/bahikhata/model/Facility"), (2, u "TERM_LOAN"), (0, u "Lcom/example/bahikhata/bahikhata/model/Facility;"), (2, u "CASH_CREDIT"), (2, u "OVERDRAFT"), (2, u "BILL"), (2, u "$VALUES"), (0, u "[Lcom/example/bahikhata/bahikhata/model/Facility;"), (6, .class_ 28), (1, u "java/lang/Enum"), (8, u "code"), (0, u "Ljava/lang/String;"), (0, .fieldref 1 40), (0, .nameAndType 41 42), (0, u "runningAccount"), (0, u "Z"), (19, .class_ 63), (0, u "com/example/bahikhata/bahikhata/model/Coded"), (8, u "isRunningAccount"), (0, u "()Z")] 5

def k7c0 : Code := { maxStack := 1, maxLocals := 1, code := prog_50_method_5_code, exceptionTable := #[], attributes := #[] }
def k7m0 : Method := { name := "isRunningAccount", desc := "()Z", sig := { parameters := [], returnType := some .boolean }, accessFlags := 1, code := some k7c0 }
/-- com/example/bahikhata/bahikhata/model/Facility -/
def k7 : Class := { plain "com/example/bahikhata/bahikhata/model/Facility" (some 5) with
  accessFlags := 16433
  interfaces := #[6]
  cf := some (fileOf pool7 1 #[] #[{ accessFlags := 1, nameIndex := 72, descriptorIndex := 73, attributes := #[] }] 16433 26 #[62] #[{ accessFlags := 16409, nameIndex := 5, descriptorIndex := 6, attributes := #[] }, { accessFlags := 16409, nameIndex := 9, descriptorIndex := 6, attributes := #[] }, { accessFlags := 16409, nameIndex := 12, descriptorIndex := 6, attributes := #[] }, { accessFlags := 16409, nameIndex := 15, descriptorIndex := 6, attributes := #[] }, { accessFlags := 18, nameIndex := 37, descriptorIndex := 38, attributes := #[] }, { accessFlags := 18, nameIndex := 41, descriptorIndex := 42, attributes := #[] }, { accessFlags := 4122, nameIndex := 18, descriptorIndex := 19, attributes := #[] }])
  fields := #[{ name := "TERM_LOAN", type := (.object "com/example/bahikhata/bahikhata/model/Facility"), accessFlags := 16409, slot := 0, constantValue := 0 }, { name := "CASH_CREDIT", type := (.object "com/example/bahikhata/bahikhata/model/Facility"), accessFlags := 16409, slot := 1, constantValue := 0 }, { name := "OVERDRAFT", type := (.object "com/example/bahikhata/bahikhata/model/Facility"), accessFlags := 16409, slot := 2, constantValue := 0 }, { name := "BILL", type := (.object "com/example/bahikhata/bahikhata/model/Facility"), accessFlags := 16409, slot := 3, constantValue := 0 }, { name := "code", type := (.object "java/lang/String"), accessFlags := 18, slot := 3, constantValue := 0 }, { name := "runningAccount", type := .boolean, accessFlags := 18, slot := 4, constantValue := 0 }, { name := "$VALUES", type := (.array (.object "com/example/bahikhata/bahikhata/model/Facility")), accessFlags := 4122, slot := 4, constantValue := 0 }]
  methods := #[k7m0]
  instanceTypes := #[(.object "java/lang/String"), .int, .int, (.object "java/lang/String"), .boolean]
  staticTypes := #[(.object "com/example/bahikhata/bahikhata/model/Facility"), (.object "com/example/bahikhata/bahikhata/model/Facility"), (.object "com/example/bahikhata/bahikhata/model/Facility"), (.object "com/example/bahikhata/bahikhata/model/Facility"), (.array (.object "com/example/bahikhata/bahikhata/model/Facility"))]
  resolved := Array.replicate 79 none
  statics := some 0 }

def pool8 : Array CpInfo := pool [(4, .class_ 6), (1, u "java/time/temporal/TemporalAccessor"), (95, .class_ 103), (0, u "java/lang/Object")] 21

/-- java/time/temporal/TemporalAccessor -/
def k8 : Class := { plain "java/time/temporal/TemporalAccessor" (some 0) with
  accessFlags := 1537
  interfaces := #[]
  cf := some (fileOf pool8 4 #[] #[] 1537 102 #[] #[])
  fields := #[]
  methods := #[]
  instanceTypes := #[]
  staticTypes := #[]
  resolved := Array.replicate 125 none
  statics := none }

def pool9 : Array CpInfo := pool [(22, .class_ 24), (1, u "java/time/temporal/Temporal"), (2, .class_ 28), (0, u "java/lang/Object"), (0, .class_ 30), (0, u "java/time/temporal/TemporalAccessor")] 25

/-- java/time/temporal/Temporal -/
def k9 : Class := { plain "java/time/temporal/Temporal" (some 0) with
  accessFlags := 1537
  interfaces := #[8]
  cf := some (fileOf pool9 22 #[] #[] 1537 27 #[29] #[])
  fields := #[]
  methods := #[]
  instanceTypes := #[]
  staticTypes := #[]
  resolved := Array.replicate 56 none
  statics := none }

def pool10 : Array CpInfo := pool [(1, .class_ 2), (0, u "java/time/temporal/TemporalAdjuster"), (0, .class_ 4), (0, u "java/lang/Object")] 6

/-- java/time/temporal/TemporalAdjuster -/
def k10 : Class := { plain "java/time/temporal/TemporalAdjuster" (some 0) with
  accessFlags := 1537
  interfaces := #[]
  cf := some (fileOf pool10 1 #[] #[] 1537 3 #[] #[])
  fields := #[]
  methods := #[]
  instanceTypes := #[]
  staticTypes := #[]
  resolved := Array.replicate 11 none
  statics := none }

def pool11 : Array CpInfo := pool [(9, .class_ 10), (0, u "java/time/chrono/ChronoLocalDate"), (104, .class_ 117), (1, u "java/time/temporal/Temporal"), (134, .class_ 253), (0, u "java/lang/Object"), (23, .class_ 278), (0, u "java/time/temporal/TemporalAdjuster"), (0, .class_ 280), (0, u "java/lang/Comparable")] 86

/-- java/time/chrono/ChronoLocalDate -/
def k11 : Class := { plain "java/time/chrono/ChronoLocalDate" (some 0) with
  accessFlags := 1537
  interfaces := #[9, 10, 3]
  cf := some (fileOf pool11 9 #[] #[] 1537 252 #[115, 277, 279] #[])
  fields := #[]
  methods := #[]
  instanceTypes := #[]
  staticTypes := #[]
  resolved := Array.replicate 367 none
  statics := none }

def pool12 : Array CpInfo := pool [(1, .class_ 2), (0, u "java/time/LocalDate"), (47, u "month"), (193, .class_ 245), (0, u "java/lang/Object"), (2, u "year"), (0, u "I"), (2, u "S"), (2, u "day"), (1, .class_ 259), (1, u "java/time/chrono/ChronoLocalDate"), (10, .class_ 272), (1, u "java/time/LocalDate$1"), (107, .class_ 382), (1, u "java/time/temporal/TemporalAdjuster"), (205, u "MAX"), (0, u "Ljava/time/LocalDate;"), (2, u "MIN"), (176, u "EPOCH"), (0, .class_ 771), (0, u "java/time/temporal/Temporal"), (0, .class_ 773), (0, u "java/io/Serializable"), (0, u "serialVersionUID"), (0, u "J"), (3, u "DAYS_PER_CYCLE"), (1, u "DAYS_0000_TO_1970")] 206

/-- java/time/LocalDate -/
def k12 : Class := { plain "java/time/LocalDate" (some 0) with
  accessFlags := 49
  interfaces := #[9, 10, 11, 4]
  cf := some (fileOf pool12 1 #[.nestMembers #[270]] #[] 49 244 #[770, 380, 257, 772] #[{ accessFlags := 25, nameIndex := 592, descriptorIndex := 589, attributes := #[] }, { accessFlags := 25, nameIndex := 588, descriptorIndex := 589, attributes := #[] }, { accessFlags := 25, nameIndex := 769, descriptorIndex := 589, attributes := #[] }, { accessFlags := 26, nameIndex := 774, descriptorIndex := 775, attributes := #[] }, { accessFlags := 26, nameIndex := 779, descriptorIndex := 249, attributes := #[] }, { accessFlags := 24, nameIndex := 781, descriptorIndex := 775, attributes := #[] }, { accessFlags := 18, nameIndex := 248, descriptorIndex := 249, attributes := #[] }, { accessFlags := 18, nameIndex := 50, descriptorIndex := 252, attributes := #[] }, { accessFlags := 18, nameIndex := 255, descriptorIndex := 252, attributes := #[] }])
  fields := #[{ name := "MIN", type := (.object "java/time/LocalDate"), accessFlags := 25, slot := 0, constantValue := 0 }, { name := "MAX", type := (.object "java/time/LocalDate"), accessFlags := 25, slot := 1, constantValue := 0 }, { name := "EPOCH", type := (.object "java/time/LocalDate"), accessFlags := 25, slot := 2, constantValue := 0 }, { name := "serialVersionUID", type := .long, accessFlags := 26, slot := 3, constantValue := 0 }, { name := "DAYS_PER_CYCLE", type := .int, accessFlags := 26, slot := 4, constantValue := 0 }, { name := "DAYS_0000_TO_1970", type := .long, accessFlags := 24, slot := 5, constantValue := 0 }, { name := "year", type := .int, accessFlags := 18, slot := 0, constantValue := 0 }, { name := "month", type := .short, accessFlags := 18, slot := 1, constantValue := 0 }, { name := "day", type := .short, accessFlags := 18, slot := 2, constantValue := 0 }]
  methods := #[]
  instanceTypes := #[.int, .short, .short]
  staticTypes := #[(.object "java/time/LocalDate"), (.object "java/time/LocalDate"), (.object "java/time/LocalDate"), .long, .int, .long]
  resolved := Array.replicate 988 none
  statics := some 1 }

def pool13 : Array CpInfo := pool [(2, .class_ 4), (1, u "java/lang/Object"), (0, u "<init>"), (0, u "()V"), (1, .class_ 10), (1, u "java/lang/Number"), (2, .class_ 14), (0, u "java/io/Serializable"), (0, u "serialVersionUID"), (0, u "J")] 20

def k13m0 : Method := { name := "<init>", desc := "()V", sig := { parameters := [], returnType := none }, accessFlags := 1, code := none }
/-- java/lang/Number -/
def k13 : Class := { plain "java/lang/Number" (some 0) with
  accessFlags := 1057
  interfaces := #[4]
  cf := some (fileOf pool13 8 #[] #[{ accessFlags := 1, nameIndex := 5, descriptorIndex := 6, attributes := #[] }] 1057 2 #[13] #[{ accessFlags := 26, nameIndex := 15, descriptorIndex := 16, attributes := #[] }])
  fields := #[{ name := "serialVersionUID", type := .long, accessFlags := 26, slot := 0, constantValue := 0 }]
  methods := #[k13m0]
  instanceTypes := #[]
  staticTypes := #[.long]
  resolved := Array.replicate 37 none
  statics := none }

def pool14 : Array CpInfo := pool [(3, .class_ 4), (0, u "java/math/BigDecimal"), (7, .class_ 14), (1, u "java/lang/Number"), (4, u "scale"), (0, u "I"), (2, u "precision"), (2, u "intCompact"), (0, u "J"), (2, u "intVal"), (0, u "Ljava/math/BigInteger;"), (65, u "LONG_TEN_POWERS_TABLE"), (0, u "[J"), (88, u "ZERO"), (2, u "INFLATED_BIGINT"), (15, u "TWO"), (41, u "ZERO_THROUGH_TEN"), (0, u "[Ljava/math/BigDecimal;"), (2, u "ZERO_SCALED_BY"), (60, u "$assertionsDisabled"), (0, u "Z"), (163, u "ONE_TENTH"), (0, u "Ljava/math/BigDecimal;"), (5, u "TEN"), (14, .class_ 502), (1, u "java/math/BigDecimal$1"), (15, u "ONE_HALF"), (16, u "ONE"), (107, u "stringCache"), (0, u "Ljava/lang/String;"), (52, .class_ 699), (1, u "java/math/BigDecimal$LongOverflow"), (8, u "FLOAT_10_POW"), (0, u "[F"), (39, u "DOUBLE_10_POW"), (0, u "[D"), (19, .class_ 772), (1, u "java/math/BigDecimal$StringBuilderHelper"), (35, u "BIG_TEN_POWERS_TABLE_MAX"), (2, u "BIG_TEN_POWERS_TABLE"), (0, u "[Ljava/math/BigInteger;"), (14, u "THRESHOLDS_TABLE"), (23, .class_ 853), (1, u "java/math/BigDecimal$UnsafeHolder"), (214, u "LONGLONG_TEN_POWERS_TABLE"), (0, u "[[J"), (112, u "BIG_TEN_POWERS_TABLE_INITLEN"), (113, .class_ 1297), (0, u "java/lang/Comparable"), (0, u "L"), (0, u "D"), (1, u "P_F"), (1, u "Q_MIN_F"), (1, u "Q_MAX_F"), (1, u "P_D"), (1, u "Q_MIN_D"), (1, u "Q_MAX_D"), (1, u "INFLATED"), (0, u "MAX_COMPACT_DIGITS"), (1, u "serialVersionUID"), (2, u "HALF_LONG_MAX_VALUE"), (0, u "HALF_LONG_MIN_VALUE"), (0, u "ROUND_UP"), (6, u "ROUND_DOWN"), (1, u "ROUND_CEILING"), (1, u "ROUND_FLOOR"), (1, u "ROUND_HALF_UP"), (1, u "ROUND_HALF_DOWN"), (1, u "ROUND_HALF_EVEN"), (1, u "ROUND_UNNECESSARY"), (1, u "DIV_NUM_BASE")] 294

/-- java/math/BigDecimal -/
def k14 : Class := { plain "java/math/BigDecimal" (some 13) with
  accessFlags := 33
  interfaces := #[3]
  cf := some (fileOf pool14 3 #[.nestMembers #[500, 851, 770, 697]] #[] 33 12 #[1296] #[{ accessFlags := 26, nameIndex := 1298, descriptorIndex := 1299, attributes := #[] }, { accessFlags := 26, nameIndex := 1301, descriptorIndex := 20, attributes := #[] }, { accessFlags := 26, nameIndex := 1303, descriptorIndex := 20, attributes := #[] }, { accessFlags := 26, nameIndex := 1305, descriptorIndex := 20, attributes := #[] }, { accessFlags := 26, nameIndex := 1307, descriptorIndex := 20, attributes := #[] }, { accessFlags := 26, nameIndex := 1309, descriptorIndex := 20, attributes := #[] }, { accessFlags := 26, nameIndex := 1311, descriptorIndex := 20, attributes := #[] }, { accessFlags := 18, nameIndex := 30, descriptorIndex := 31, attributes := #[] }, { accessFlags := 18, nameIndex := 19, descriptorIndex := 20, attributes := #[] }, { accessFlags := 130, nameIndex := 23, descriptorIndex := 20, attributes := #[] }, { accessFlags := 130, nameIndex := 643, descriptorIndex := 644, attributes := #[] }, { accessFlags := 24, nameIndex := 1313, descriptorIndex := 27, attributes := #[] }, { accessFlags := 26, nameIndex := 190, descriptorIndex := 31, attributes := #[] }, { accessFlags := 146, nameIndex := 26, descriptorIndex := 27, attributes := #[] }, { accessFlags := 26, nameIndex := 1314, descriptorIndex := 20, attributes := #[] }, { accessFlags := 26, nameIndex := 1316, descriptorIndex := 27, attributes := #[] }, { accessFlags := 26, nameIndex := 248, descriptorIndex := 249, attributes := #[] }, { accessFlags := 26, nameIndex := 252, descriptorIndex := 249, attributes := #[] }, { accessFlags := 26, nameIndex := 1319, descriptorIndex := 27, attributes := #[] }, { accessFlags := 26, nameIndex := 1320, descriptorIndex := 27, attributes := #[] }, { accessFlags := 25, nameIndex := 187, descriptorIndex := 479, attributes := #[] }, { accessFlags := 25, nameIndex := 535, descriptorIndex := 479, attributes := #[] }, { accessFlags := 25, nameIndex := 206, descriptorIndex := 479, attributes := #[] }, { accessFlags := 25, nameIndex := 485, descriptorIndex := 479, attributes := #[] }, { accessFlags := 26, nameIndex := 478, descriptorIndex := 479, attributes := #[] }, { accessFlags := 26, nameIndex := 518, descriptorIndex := 479, attributes := #[] }, { accessFlags := 25, nameIndex := 1321, descriptorIndex := 20, attributes := #[] }, { accessFlags := 25, nameIndex := 1328, descriptorIndex := 20, attributes := #[] }, { accessFlags := 25, nameIndex := 1330, descriptorIndex := 20, attributes := #[] }, { accessFlags := 25, nameIndex := 1332, descriptorIndex := 20, attributes := #[] }, { accessFlags := 25, nameIndex := 1334, descriptorIndex := 20, attributes := #[] }, { accessFlags := 25, nameIndex := 1336, descriptorIndex := 20, attributes := #[] }, { accessFlags := 25, nameIndex := 1338, descriptorIndex := 20, attributes := #[] }, { accessFlags := 25, nameIndex := 1340, descriptorIndex := 20, attributes := #[] }, { accessFlags := 26, nameIndex := 749, descriptorIndex := 750, attributes := #[] }, { accessFlags := 26, nameIndex := 708, descriptorIndex := 709, attributes := #[] }, { accessFlags := 26, nameIndex := 97, descriptorIndex := 98, attributes := #[] }, { accessFlags := 74, nameIndex := 811, descriptorIndex := 812, attributes := #[] }, { accessFlags := 26, nameIndex := 1182, descriptorIndex := 20, attributes := #[] }, { accessFlags := 26, nameIndex := 808, descriptorIndex := 20, attributes := #[] }, { accessFlags := 26, nameIndex := 827, descriptorIndex := 98, attributes := #[] }, { accessFlags := 26, nameIndex := 1342, descriptorIndex := 27, attributes := #[] }, { accessFlags := 26, nameIndex := 1068, descriptorIndex := 1069, attributes := #[] }, { accessFlags := 4120, nameIndex := 313, descriptorIndex := 314, attributes := #[] }])
  fields := #[{ name := "L", type := .double, accessFlags := 26, slot := 0, constantValue := 0 }, { name := "P_F", type := .int, accessFlags := 26, slot := 1, constantValue := 0 }, { name := "Q_MIN_F", type := .int, accessFlags := 26, slot := 2, constantValue := 0 }, { name := "Q_MAX_F", type := .int, accessFlags := 26, slot := 3, constantValue := 0 }, { name := "P_D", type := .int, accessFlags := 26, slot := 4, constantValue := 0 }, { name := "Q_MIN_D", type := .int, accessFlags := 26, slot := 5, constantValue := 0 }, { name := "Q_MAX_D", type := .int, accessFlags := 26, slot := 6, constantValue := 0 }, { name := "intVal", type := (.object "java/math/BigInteger"), accessFlags := 18, slot := 0, constantValue := 0 }, { name := "scale", type := .int, accessFlags := 18, slot := 1, constantValue := 0 }, { name := "precision", type := .int, accessFlags := 130, slot := 2, constantValue := 0 }, { name := "stringCache", type := (.object "java/lang/String"), accessFlags := 130, slot := 3, constantValue := 0 }, { name := "INFLATED", type := .long, accessFlags := 24, slot := 7, constantValue := 0 }, { name := "INFLATED_BIGINT", type := (.object "java/math/BigInteger"), accessFlags := 26, slot := 8, constantValue := 0 }, { name := "intCompact", type := .long, accessFlags := 146, slot := 4, constantValue := 0 }, { name := "MAX_COMPACT_DIGITS", type := .int, accessFlags := 26, slot := 9, constantValue := 0 }, { name := "serialVersionUID", type := .long, accessFlags := 26, slot := 10, constantValue := 0 }, { name := "ZERO_THROUGH_TEN", type := (.array (.object "java/math/BigDecimal")), accessFlags := 26, slot := 11, constantValue := 0 }, { name := "ZERO_SCALED_BY", type := (.array (.object "java/math/BigDecimal")), accessFlags := 26, slot := 12, constantValue := 0 }, { name := "HALF_LONG_MAX_VALUE", type := .long, accessFlags := 26, slot := 13, constantValue := 0 }, { name := "HALF_LONG_MIN_VALUE", type := .long, accessFlags := 26, slot := 14, constantValue := 0 }, { name := "ZERO", type := (.object "java/math/BigDecimal"), accessFlags := 25, slot := 15, constantValue := 0 }, { name := "ONE", type := (.object "java/math/BigDecimal"), accessFlags := 25, slot := 16, constantValue := 0 }, { name := "TWO", type := (.object "java/math/BigDecimal"), accessFlags := 25, slot := 17, constantValue := 0 }, { name := "TEN", type := (.object "java/math/BigDecimal"), accessFlags := 25, slot := 18, constantValue := 0 }, { name := "ONE_TENTH", type := (.object "java/math/BigDecimal"), accessFlags := 26, slot := 19, constantValue := 0 }, { name := "ONE_HALF", type := (.object "java/math/BigDecimal"), accessFlags := 26, slot := 20, constantValue := 0 }, { name := "ROUND_UP", type := .int, accessFlags := 25, slot := 21, constantValue := 0 }, { name := "ROUND_DOWN", type := .int, accessFlags := 25, slot := 22, constantValue := 0 }, { name := "ROUND_CEILING", type := .int, accessFlags := 25, slot := 23, constantValue := 0 }, { name := "ROUND_FLOOR", type := .int, accessFlags := 25, slot := 24, constantValue := 0 }, { name := "ROUND_HALF_UP", type := .int, accessFlags := 25, slot := 25, constantValue := 0 }, { name := "ROUND_HALF_DOWN", type := .int, accessFlags := 25, slot := 26, constantValue := 0 }, { name := "ROUND_HALF_EVEN", type := .int, accessFlags := 25, slot := 27, constantValue := 0 }, { name := "ROUND_UNNECESSARY", type := .int, accessFlags := 25, slot := 28, constantValue := 0 }, { name := "DOUBLE_10_POW", type := (.array .double), accessFlags := 26, slot := 29, constantValue := 0 }, { name := "FLOAT_10_POW", type := (.array .float), accessFlags := 26, slot := 30, constantValue := 0 }, { name := "LONG_TEN_POWERS_TABLE", type := (.array .long), accessFlags := 26, slot := 31, constantValue := 0 }, { name := "BIG_TEN_POWERS_TABLE", type := (.array (.object "java/math/BigInteger")), accessFlags := 74, slot := 32, constantValue := 0 }, { name := "BIG_TEN_POWERS_TABLE_INITLEN", type := .int, accessFlags := 26, slot := 33, constantValue := 0 }, { name := "BIG_TEN_POWERS_TABLE_MAX", type := .int, accessFlags := 26, slot := 34, constantValue := 0 }, { name := "THRESHOLDS_TABLE", type := (.array .long), accessFlags := 26, slot := 35, constantValue := 0 }, { name := "DIV_NUM_BASE", type := .long, accessFlags := 26, slot := 36, constantValue := 0 }, { name := "LONGLONG_TEN_POWERS_TABLE", type := (.array (.array .long)), accessFlags := 26, slot := 37, constantValue := 0 }, { name := "$assertionsDisabled", type := .boolean, accessFlags := 4120, slot := 38, constantValue := 0 }]
  methods := #[]
  instanceTypes := #[(.object "java/math/BigInteger"), .int, .int, (.object "java/lang/String"), .long]
  staticTypes := #[.double, .int, .int, .int, .int, .int, .int, .long, (.object "java/math/BigInteger"), .int, .long, (.array (.object "java/math/BigDecimal")), (.array (.object "java/math/BigDecimal")), .long, .long, (.object "java/math/BigDecimal"), (.object "java/math/BigDecimal"), (.object "java/math/BigDecimal"), (.object "java/math/BigDecimal"), (.object "java/math/BigDecimal"), (.object "java/math/BigDecimal"), .int, .int, .int, .int, .int, .int, .int, .int, (.array .double), (.array .float), (.array .long), (.array (.object "java/math/BigInteger")), .int, .int, (.array .long), .long, (.array (.array .long)), .boolean]
  resolved := Array.replicate 1637 none
  statics := some 2 }

def pool15 : Array CpInfo := pool [(1, .methodref 2 3), (0, .class_ 4), (0, .nameAndType 5 6), (0, u "java/lang/Object"), (0, u "<init>"), (0, u "()V"), (0, .class_ 8), (0, u "java/lang/Record")] 13

def k15c0 : Code := { maxStack := 1, maxLocals := 1, code := jdk_30_method_1_code, exceptionTable := #[], attributes := #[] }
def k15m0 : Method := { name := "<init>", desc := "()V", sig := { parameters := [], returnType := none }, accessFlags := 4, code := some k15c0 }
/-- java/lang/Record -/
def k15 : Class := { plain "java/lang/Record" (some 0) with
  accessFlags := 1057
  interfaces := #[]
  cf := some (fileOf pool15 7 #[] #[{ accessFlags := 4, nameIndex := 5, descriptorIndex := 6, attributes := #[] }] 1057 2 #[] #[])
  fields := #[]
  methods := #[k15m0]
  instanceTypes := #[]
  staticTypes := #[]
  resolved := Array.replicate 22 none
  statics := none }

def pool16 : Array CpInfo := pool [(1, .methodref 2 3), (0, .class_ 4), (0, .nameAndType 5 6), (0, u "java/lang/Record"), (0, u "<init>"), (0, u "()V"), (0, .string 8), (0, u "accountId"), (0, .methodref 10 11), (0, .class_ 12), (0, .nameAndType 13 14), (0, u "java/util/Objects"), (0, u "requireNonNull"), (0, u "(Ljava/lang/Object;Ljava/lang/String;)Ljava/lang/Object;"), (0, .string 16), (0, u "borrowerId"), (0, .string 18), (0, u "facility"), (0, .string 20), (0, u "outstanding"), (0, .string 22), (0, u "securityValue"), (0, .string 24), (0, u "securityAssessedValue"), (0, .string 26), (0, u "provisionHeld"), (0, .string 28), (0, u "interestUnrealised"), (0, .methodref 30 31), (0, .class_ 32), (0, .nameAndType 33 34), (0, u "com/example/bahikhata/bahikhata/model/Facility"), (0, u "isRunningAccount"), (0, u "()Z"), (0, .string 36), (0, u "sanctionedLimit"), (0, .string 38), (0, u "drawingPower"), (0, .string 40), (0, u "lastCreditDate"), (0, .string 42), (0, u "credits90d"), (0, .string 44), (0, u "interest90d"), (0, .string 46), (0, u "reviewDue"), (0, .fieldref 48 49), (0, .class_ 50), (0, .nameAndType 8 51), (0, u "com/example/bahikhata/bahikhata/model/Loan"), (0, u "Ljava/lang/String;"), (0, .fieldref 48 53), (0, .nameAndType 16 51), (0, .fieldref 48 55), (0, .nameAndType 18 56), (0, u "Lcom/example/bahikhata/bahikhata/model/Facility;"), (0, .fieldref 48 58), (0, .nameAndType 20 59), (0, u "Ljava/math/BigDecimal;"), (0, .fieldref 48 61), (0, .nameAndType 62 63), (0, u "overdueSince"), (0, u "Ljava/time/LocalDate;"), (0, .fieldref 48 65), (0, .nameAndType 66 51), (0, u "overdueReason"), (0, .fieldref 48 68), (0, .nameAndType 69 63), (0, u "npaDate"), (0, .fieldref 48 71), (0, .nameAndType 22 59), (0, .fieldref 48 73), (0, .nameAndType 24 59), (0, .fieldref 48 75), (0, .nameAndType 76 77), (0, u "unsecuredAbInitio"), (0, u "Z"), (0, .fieldref 48 79), (0, .nameAndType 80 77), (0, u "infraEscrow"), (0, .fieldref 48 82), (0, .nameAndType 83 77), (0, u "lossIdentified"), (0, .fieldref 48 85), (0, .nameAndType 26 59), (0, .fieldref 48 87), (0, .nameAndType 28 59), (0, .fieldref 48 89), (0, .nameAndType 36 59), (0, .fieldref 48 91), (0, .nameAndType 38 59), (0, .fieldref 48 93), (0, .nameAndType 94 63), (0, u "overLimitSince"), (0, .fieldref 48 96), (0, .nameAndType 40 63), (0, .fieldref 48 98), (0, .nameAndType 42 59), (0, .fieldref 48 100), (0, .nameAndType 44 59), (0, .fieldref 48 102), (0, .nameAndType 46 63), (8, u "(Ljava/lang/String;Ljava/lang/String;Lcom/example/bahikhata/bahikhata/model/Facility;Ljava/math/BigDecimal;Ljava/time/LocalDate;Ljava/lang/String;Ljava/time/LocalDate;Ljava/math/BigDecimal;Ljava/math/BigDecimal;ZZZLjava/math/BigDecimal;Ljava/math/BigDecimal;Ljava/math/BigDecimal;Ljava/math/BigDecimal;Ljava/time/LocalDate;Ljava/time/LocalDate;Ljava/math/BigDecimal;Ljava/math/BigDecimal;Ljava/time/LocalDate;)V"), (0, .class_ 113), (0, u "com/example/bahikhata/bahikhata/model/Loan$Builder"), (32, u "()Lcom/example/bahikhata/bahikhata/model/Facility;"), (0, u "()Ljava/time/LocalDate;")] 42

def k16c0 : Code := { maxStack := 2, maxLocals := 22, code := prog_53_method_1_code, exceptionTable := #[], attributes := #[] }
def k16m0 : Method := { name := "<init>", desc := "(Ljava/lang/String;Ljava/lang/String;Lcom/example/bahikhata/bahikhata/model/Facility;Ljava/math/BigDecimal;Ljava/time/LocalDate;Ljava/lang/String;Ljava/time/LocalDate;Ljava/math/BigDecimal;Ljava/math/BigDecimal;ZZZLjava/math/BigDecimal;Ljava/math/BigDecimal;Ljava/math/BigDecimal;Ljava/math/BigDecimal;Ljava/time/LocalDate;Ljava/time/LocalDate;Ljava/math/BigDecimal;Ljava/math/BigDecimal;Ljava/time/LocalDate;)V", sig := { parameters := [(.object "java/lang/String"), (.object "java/lang/String"), (.object "com/example/bahikhata/bahikhata/model/Facility"), (.object "java/math/BigDecimal"), (.object "java/time/LocalDate"), (.object "java/lang/String"), (.object "java/time/LocalDate"), (.object "java/math/BigDecimal"), (.object "java/math/BigDecimal"), .boolean, .boolean, .boolean, (.object "java/math/BigDecimal"), (.object "java/math/BigDecimal"), (.object "java/math/BigDecimal"), (.object "java/math/BigDecimal"), (.object "java/time/LocalDate"), (.object "java/time/LocalDate"), (.object "java/math/BigDecimal"), (.object "java/math/BigDecimal"), (.object "java/time/LocalDate")], returnType := none }, accessFlags := 1, code := some k16c0 }
def k16c1 : Code := { maxStack := 1, maxLocals := 1, code := prog_53_method_10_code, exceptionTable := #[], attributes := #[] }
def k16m1 : Method := { name := "facility", desc := "()Lcom/example/bahikhata/bahikhata/model/Facility;", sig := { parameters := [], returnType := some (.object "com/example/bahikhata/bahikhata/model/Facility") }, accessFlags := 1, code := some k16c1 }
def k16c2 : Code := { maxStack := 1, maxLocals := 1, code := prog_53_method_12_code, exceptionTable := #[], attributes := #[] }
def k16m2 : Method := { name := "overdueSince", desc := "()Ljava/time/LocalDate;", sig := { parameters := [], returnType := some (.object "java/time/LocalDate") }, accessFlags := 1, code := some k16c2 }
/-- com/example/bahikhata/bahikhata/model/Loan -/
def k16 : Class := { plain "com/example/bahikhata/bahikhata/model/Loan" (some 15) with
  accessFlags := 49
  interfaces := #[]
  cf := some (fileOf pool16 48 #[.nestMembers #[112]] #[{ accessFlags := 1, nameIndex := 5, descriptorIndex := 111, attributes := #[] }, { accessFlags := 1, nameIndex := 18, descriptorIndex := 146, attributes := #[] }, { accessFlags := 1, nameIndex := 62, descriptorIndex := 147, attributes := #[] }] 49 2 #[] #[{ accessFlags := 18, nameIndex := 8, descriptorIndex := 51, attributes := #[] }, { accessFlags := 18, nameIndex := 16, descriptorIndex := 51, attributes := #[] }, { accessFlags := 18, nameIndex := 18, descriptorIndex := 56, attributes := #[] }, { accessFlags := 18, nameIndex := 20, descriptorIndex := 59, attributes := #[] }, { accessFlags := 18, nameIndex := 62, descriptorIndex := 63, attributes := #[] }, { accessFlags := 18, nameIndex := 66, descriptorIndex := 51, attributes := #[] }, { accessFlags := 18, nameIndex := 69, descriptorIndex := 63, attributes := #[] }, { accessFlags := 18, nameIndex := 22, descriptorIndex := 59, attributes := #[] }, { accessFlags := 18, nameIndex := 24, descriptorIndex := 59, attributes := #[] }, { accessFlags := 18, nameIndex := 76, descriptorIndex := 77, attributes := #[] }, { accessFlags := 18, nameIndex := 80, descriptorIndex := 77, attributes := #[] }, { accessFlags := 18, nameIndex := 83, descriptorIndex := 77, attributes := #[] }, { accessFlags := 18, nameIndex := 26, descriptorIndex := 59, attributes := #[] }, { accessFlags := 18, nameIndex := 28, descriptorIndex := 59, attributes := #[] }, { accessFlags := 18, nameIndex := 36, descriptorIndex := 59, attributes := #[] }, { accessFlags := 18, nameIndex := 38, descriptorIndex := 59, attributes := #[] }, { accessFlags := 18, nameIndex := 94, descriptorIndex := 63, attributes := #[] }, { accessFlags := 18, nameIndex := 40, descriptorIndex := 63, attributes := #[] }, { accessFlags := 18, nameIndex := 42, descriptorIndex := 59, attributes := #[] }, { accessFlags := 18, nameIndex := 44, descriptorIndex := 59, attributes := #[] }, { accessFlags := 18, nameIndex := 46, descriptorIndex := 63, attributes := #[] }])
  fields := #[{ name := "accountId", type := (.object "java/lang/String"), accessFlags := 18, slot := 0, constantValue := 0 }, { name := "borrowerId", type := (.object "java/lang/String"), accessFlags := 18, slot := 1, constantValue := 0 }, { name := "facility", type := (.object "com/example/bahikhata/bahikhata/model/Facility"), accessFlags := 18, slot := 2, constantValue := 0 }, { name := "outstanding", type := (.object "java/math/BigDecimal"), accessFlags := 18, slot := 3, constantValue := 0 }, { name := "overdueSince", type := (.object "java/time/LocalDate"), accessFlags := 18, slot := 4, constantValue := 0 }, { name := "overdueReason", type := (.object "java/lang/String"), accessFlags := 18, slot := 5, constantValue := 0 }, { name := "npaDate", type := (.object "java/time/LocalDate"), accessFlags := 18, slot := 6, constantValue := 0 }, { name := "securityValue", type := (.object "java/math/BigDecimal"), accessFlags := 18, slot := 7, constantValue := 0 }, { name := "securityAssessedValue", type := (.object "java/math/BigDecimal"), accessFlags := 18, slot := 8, constantValue := 0 }, { name := "unsecuredAbInitio", type := .boolean, accessFlags := 18, slot := 9, constantValue := 0 }, { name := "infraEscrow", type := .boolean, accessFlags := 18, slot := 10, constantValue := 0 }, { name := "lossIdentified", type := .boolean, accessFlags := 18, slot := 11, constantValue := 0 }, { name := "provisionHeld", type := (.object "java/math/BigDecimal"), accessFlags := 18, slot := 12, constantValue := 0 }, { name := "interestUnrealised", type := (.object "java/math/BigDecimal"), accessFlags := 18, slot := 13, constantValue := 0 }, { name := "sanctionedLimit", type := (.object "java/math/BigDecimal"), accessFlags := 18, slot := 14, constantValue := 0 }, { name := "drawingPower", type := (.object "java/math/BigDecimal"), accessFlags := 18, slot := 15, constantValue := 0 }, { name := "overLimitSince", type := (.object "java/time/LocalDate"), accessFlags := 18, slot := 16, constantValue := 0 }, { name := "lastCreditDate", type := (.object "java/time/LocalDate"), accessFlags := 18, slot := 17, constantValue := 0 }, { name := "credits90d", type := (.object "java/math/BigDecimal"), accessFlags := 18, slot := 18, constantValue := 0 }, { name := "interest90d", type := (.object "java/math/BigDecimal"), accessFlags := 18, slot := 19, constantValue := 0 }, { name := "reviewDue", type := (.object "java/time/LocalDate"), accessFlags := 18, slot := 20, constantValue := 0 }]
  methods := #[k16m0, k16m1, k16m2]
  instanceTypes := #[(.object "java/lang/String"), (.object "java/lang/String"), (.object "com/example/bahikhata/bahikhata/model/Facility"), (.object "java/math/BigDecimal"), (.object "java/time/LocalDate"), (.object "java/lang/String"), (.object "java/time/LocalDate"), (.object "java/math/BigDecimal"), (.object "java/math/BigDecimal"), .boolean, .boolean, .boolean, (.object "java/math/BigDecimal"), (.object "java/math/BigDecimal"), (.object "java/math/BigDecimal"), (.object "java/math/BigDecimal"), (.object "java/time/LocalDate"), (.object "java/time/LocalDate"), (.object "java/math/BigDecimal"), (.object "java/math/BigDecimal"), (.object "java/time/LocalDate")]
  staticTypes := #[]
  resolved := Array.replicate 190 none
  statics := none }

def pool17 : Array CpInfo := pool [(2, .class_ 4), (1, u "java/lang/CharSequence"), (42, .class_ 48), (0, u "java/lang/CharSequence$1CodePointIterator"), (10, .class_ 60), (0, u "java/lang/CharSequence$1CharIterator"), (5, .class_ 67), (0, u "java/lang/Object")] 63

/-- java/lang/CharSequence -/
def k17 : Class := { plain "java/lang/CharSequence" (some 0) with
  accessFlags := 1537
  interfaces := #[]
  cf := some (fileOf pool17 2 #[.nestMembers #[47, 59]] #[] 1537 66 #[] #[])
  fields := #[]
  methods := #[]
  instanceTypes := #[]
  staticTypes := #[]
  resolved := Array.replicate 131 none
  statics := none }

def pool18 : Array CpInfo := pool [(1, .class_ 2), (0, u "java/lang/constant/ConstantDesc"), (0, .class_ 4), (0, u "java/lang/Object")] 32

/-- java/lang/constant/ConstantDesc -/
def k18 : Class := { plain "java/lang/constant/ConstantDesc" (some 0) with
  accessFlags := 1537
  interfaces := #[]
  cf := some (fileOf pool18 1 #[] #[] 1537 3 #[] #[])
  fields := #[]
  methods := #[]
  instanceTypes := #[]
  staticTypes := #[]
  resolved := Array.replicate 37 none
  statics := none }

def pool19 : Array CpInfo := pool [(2, .class_ 4), (1, u "java/lang/Object"), (0, u "<init>"), (0, u "()V"), (3, .class_ 12), (1, u "java/lang/String"), (0, u "value"), (0, u "[B"), (2, u "coder"), (0, u "B"), (2, u "hash"), (0, u "I"), (2, u "hashIsZero"), (0, u "Z"), (13, u "COMPACT_STRINGS"), (534, .class_ 576), (0, u "java/lang/CharSequence"), (22, u "CASE_INSENSITIVE_ORDER"), (0, u "Ljava/util/Comparator;"), (500, u "serialPersistentFields"), (0, u "[Ljava/io/ObjectStreamField;"), (0, .class_ 1104), (0, u "java/lang/String$CaseInsensitiveComparator"), (1, .class_ 1107), (0, u "java/io/Serializable"), (0, .class_ 1109), (0, u "java/lang/Comparable"), (0, .class_ 1111), (0, u "java/lang/constant/Constable"), (0, .class_ 1113), (0, u "java/lang/constant/ConstantDesc"), (2, u "serialVersionUID"), (0, u "J"), (3, u "REPL"), (0, u "C"), (2, u "LATIN1"), (1, u "UTF16")] 323

def k19m0 : Method := { name := "<init>", desc := "()V", sig := { parameters := [], returnType := none }, accessFlags := 1, code := none }
/-- java/lang/String -/
def k19 : Class := { plain "java/lang/String" (some 0) with
  accessFlags := 49
  interfaces := #[4, 3, 17, 2, 18]
  cf := some (fileOf pool19 10 #[.nestMembers #[1103]] #[{ accessFlags := 1, nameIndex := 5, descriptorIndex := 6, attributes := #[] }] 49 2 #[1106, 1108, 575, 1110, 1112] #[{ accessFlags := 18, nameIndex := 13, descriptorIndex := 14, attributes := #[] }, { accessFlags := 18, nameIndex := 17, descriptorIndex := 18, attributes := #[] }, { accessFlags := 2, nameIndex := 21, descriptorIndex := 22, attributes := #[] }, { accessFlags := 2, nameIndex := 25, descriptorIndex := 26, attributes := #[] }, { accessFlags := 26, nameIndex := 1116, descriptorIndex := 1117, attributes := #[] }, { accessFlags := 24, nameIndex := 40, descriptorIndex := 26, attributes := #[] }, { accessFlags := 26, nameIndex := 1101, descriptorIndex := 1102, attributes := #[] }, { accessFlags := 26, nameIndex := 1121, descriptorIndex := 1122, attributes := #[] }, { accessFlags := 25, nameIndex := 599, descriptorIndex := 600, attributes := #[] }, { accessFlags := 24, nameIndex := 1125, descriptorIndex := 18, attributes := #[] }, { accessFlags := 24, nameIndex := 1127, descriptorIndex := 18, attributes := #[] }])
  fields := #[{ name := "value", type := (.array .byte), accessFlags := 18, slot := 0, constantValue := 0 }, { name := "coder", type := .byte, accessFlags := 18, slot := 1, constantValue := 0 }, { name := "hash", type := .int, accessFlags := 2, slot := 2, constantValue := 0 }, { name := "hashIsZero", type := .boolean, accessFlags := 2, slot := 3, constantValue := 0 }, { name := "serialVersionUID", type := .long, accessFlags := 26, slot := 0, constantValue := 0 }, { name := "COMPACT_STRINGS", type := .boolean, accessFlags := 24, slot := 1, constantValue := 0 }, { name := "serialPersistentFields", type := (.array (.object "java/io/ObjectStreamField")), accessFlags := 26, slot := 2, constantValue := 0 }, { name := "REPL", type := .char, accessFlags := 26, slot := 3, constantValue := 0 }, { name := "CASE_INSENSITIVE_ORDER", type := (.object "java/util/Comparator"), accessFlags := 25, slot := 4, constantValue := 0 }, { name := "LATIN1", type := .byte, accessFlags := 24, slot := 5, constantValue := 0 }, { name := "UTF16", type := .byte, accessFlags := 24, slot := 6, constantValue := 0 }]
  methods := #[k19m0]
  instanceTypes := #[(.array .byte), .byte, .int, .boolean]
  staticTypes := #[.long, .boolean, (.array (.object "java/io/ObjectStreamField")), .char, (.object "java/util/Comparator"), .byte, .byte]
  resolved := Array.replicate 1451 none
  statics := none }

def pool20 : Array CpInfo := pool [(2, .class_ 4), (1, u "java/lang/Object"), (0, u "<init>"), (0, u "()V"), (35, .class_ 44), (1, u "java/util/Objects"), (0, u "requireNonNull"), (48, u "(Ljava/lang/Object;Ljava/lang/String;)Ljava/lang/Object;")] 89

def k20m0 : Method := { name := "<init>", desc := "()V", sig := { parameters := [], returnType := none }, accessFlags := 2, code := none }
def k20c1 : Code := { maxStack := 3, maxLocals := 2, code := jdk_31_method_11_code, exceptionTable := #[], attributes := #[] }
def k20m1 : Method := { name := "requireNonNull", desc := "(Ljava/lang/Object;Ljava/lang/String;)Ljava/lang/Object;", sig := { parameters := [(.object "java/lang/Object"), (.object "java/lang/String")], returnType := some (.object "java/lang/Object") }, accessFlags := 9, code := some k20c1 }
/-- java/util/Objects -/
def k20 : Class := { plain "java/util/Objects" (some 0) with
  accessFlags := 49
  interfaces := #[]
  cf := some (fileOf pool20 42 #[] #[{ accessFlags := 2, nameIndex := 5, descriptorIndex := 6, attributes := #[] }, { accessFlags := 9, nameIndex := 45, descriptorIndex := 94, attributes := #[] }] 49 2 #[] #[])
  fields := #[]
  methods := #[k20m0, k20m1]
  instanceTypes := #[]
  staticTypes := #[]
  resolved := Array.replicate 184 none
  statics := none }

def pool21 : Array CpInfo := pool [(1, .methodref 2 3), (0, .class_ 4), (0, .nameAndType 5 6), (0, u "java/lang/Object"), (0, u "<init>"), (0, u "()V"), (0, .class_ 8), (0, u "com/example/bahikhata/bahikhata/util/StringTable"), (0, .methodref 7 3), (0, .fieldref 11 12), (0, .class_ 13), (0, .nameAndType 14 15), (0, u "com/example/bahikhata/bahikhata/io/BookIndex"), (0, u "positions"), (0, u "Lcom/example/bahikhata/bahikhata/util/StringTable;"), (0, .fieldref 11 17), (0, .nameAndType 18 19), (0, u "lines"), (0, u "[I"), (0, .fieldref 11 21), (0, .nameAndType 22 23), (0, u "facts"), (0, u "[B"), (0, .fieldref 11 25), (0, .nameAndType 26 27), (0, u "file"), (0, u "Ljava/lang/String;"), (3, .fieldref 11 32), (0, .nameAndType 33 34), (0, u "noted"), (0, u "I"), (2, u "reading"), (0, u "Lcom/example/bahikhata/bahikhata/io/BookIndex$Reading;"), (5, .class_ 46), (1, u "com/example/bahikhata/bahikhata/model/Loan"), (10, u "following"), (6, u "FACILITIES"), (0, u "[Lcom/example/bahikhata/bahikhata/model/Facility;"), (8, u "()I"), (13, .methodref 44 89), (0, .nameAndType 90 91), (0, u "overdueSince"), (0, u "()Ljava/time/LocalDate;"), (0, .methodref 44 93), (0, .nameAndType 94 95), (0, u "facility"), (0, u "()Lcom/example/bahikhata/bahikhata/model/Facility;"), (0, .methodref 97 98), (0, .class_ 99), (0, .nameAndType 100 74), (0, u "com/example/bahikhata/bahikhata/model/Facility"), (0, u "ordinal"), (2, u "refused"), (0, u "Lcom/example/bahikhata/bahikhata/io/InputException;"), (1, .class_ 108), (1, u "com/example/bahikhata/bahikhata/io/BookIndex$Reading"), (14, u "GIVES_OVERDUE_SINCE"), (2, u "FIRST"), (1, u "(Ljava/lang/String;)V"), (6, u "givesOverdueSince"), (0, u "(I)Z"), (3, u "note"), (0, u "(Lcom/example/bahikhata/bahikhata/model/Loan;)V")] 9

def k21c0 : Code := { maxStack := 3, maxLocals := 2, code := prog_5_method_1_code, exceptionTable := #[], attributes := #[] }
def k21m0 : Method := { name := "<init>", desc := "(Ljava/lang/String;)V", sig := { parameters := [(.object "java/lang/String")], returnType := none }, accessFlags := 0, code := some k21c0 }
def k21c1 : Code := { maxStack := 2, maxLocals := 2, code := prog_5_method_6_code, exceptionTable := #[], attributes := #[] }
def k21m1 : Method := { name := "givesOverdueSince", desc := "(I)Z", sig := { parameters := [.int], returnType := some .boolean }, accessFlags := 1, code := some k21c1 }
def k21c2 : Code := { maxStack := 4, maxLocals := 3, code := prog_5_method_9_code, exceptionTable := #[], attributes := #[] }
def k21m2 : Method := { name := "note", desc := "(Lcom/example/bahikhata/bahikhata/model/Loan;)V", sig := { parameters := [(.object "com/example/bahikhata/bahikhata/model/Loan")], returnType := none }, accessFlags := 0, code := some k21c2 }
/-- com/example/bahikhata/bahikhata/io/BookIndex -/
def k21 : Class := { plain "com/example/bahikhata/bahikhata/io/BookIndex" (some 0) with
  accessFlags := 49
  interfaces := #[]
  cf := some (fileOf pool21 11 #[.nestMembers #[106]] #[{ accessFlags := 0, nameIndex := 5, descriptorIndex := 128, attributes := #[] }, { accessFlags := 1, nameIndex := 135, descriptorIndex := 136, attributes := #[] }, { accessFlags := 0, nameIndex := 140, descriptorIndex := 141, attributes := #[] }] 49 2 #[] #[{ accessFlags := 26, nameIndex := 64, descriptorIndex := 65, attributes := #[] }, { accessFlags := 26, nameIndex := 123, descriptorIndex := 34, attributes := #[] }, { accessFlags := 26, nameIndex := 126, descriptorIndex := 34, attributes := #[] }, { accessFlags := 18, nameIndex := 26, descriptorIndex := 27, attributes := #[] }, { accessFlags := 18, nameIndex := 14, descriptorIndex := 15, attributes := #[] }, { accessFlags := 2, nameIndex := 18, descriptorIndex := 19, attributes := #[] }, { accessFlags := 2, nameIndex := 22, descriptorIndex := 23, attributes := #[] }, { accessFlags := 2, nameIndex := 33, descriptorIndex := 34, attributes := #[] }, { accessFlags := 2, nameIndex := 37, descriptorIndex := 38, attributes := #[] }, { accessFlags := 2, nameIndex := 103, descriptorIndex := 104, attributes := #[] }, { accessFlags := 2, nameIndex := 57, descriptorIndex := 34, attributes := #[] }])
  fields := #[{ name := "FACILITIES", type := (.array (.object "com/example/bahikhata/bahikhata/model/Facility")), accessFlags := 26, slot := 0, constantValue := 0 }, { name := "GIVES_OVERDUE_SINCE", type := .int, accessFlags := 26, slot := 1, constantValue := 0 }, { name := "FIRST", type := .int, accessFlags := 26, slot := 2, constantValue := 0 }, { name := "file", type := (.object "java/lang/String"), accessFlags := 18, slot := 0, constantValue := 0 }, { name := "positions", type := (.object "com/example/bahikhata/bahikhata/util/StringTable"), accessFlags := 18, slot := 1, constantValue := 0 }, { name := "lines", type := (.array .int), accessFlags := 2, slot := 2, constantValue := 0 }, { name := "facts", type := (.array .byte), accessFlags := 2, slot := 3, constantValue := 0 }, { name := "noted", type := .int, accessFlags := 2, slot := 4, constantValue := 0 }, { name := "reading", type := (.object "com/example/bahikhata/bahikhata/io/BookIndex$Reading"), accessFlags := 2, slot := 5, constantValue := 0 }, { name := "refused", type := (.object "com/example/bahikhata/bahikhata/io/InputException"), accessFlags := 2, slot := 6, constantValue := 0 }, { name := "following", type := .int, accessFlags := 2, slot := 7, constantValue := 0 }]
  methods := #[k21m0, k21m1, k21m2]
  instanceTypes := #[(.object "java/lang/String"), (.object "com/example/bahikhata/bahikhata/util/StringTable"), (.array .int), (.array .byte), .int, (.object "com/example/bahikhata/bahikhata/io/BookIndex$Reading"), (.object "com/example/bahikhata/bahikhata/io/InputException"), .int]
  staticTypes := #[(.array (.object "com/example/bahikhata/bahikhata/model/Facility")), .int, .int]
  resolved := Array.replicate 151 none
  statics := none }

def pool22 : Array CpInfo := pool [(1, .methodref 2 3), (0, .class_ 4), (0, .nameAndType 5 6), (0, u "java/lang/Object"), (0, u "<init>"), (0, u "()V"), (0, .class_ 8), (0, u "com/example/bahikhata/bahikhata/util/StringList"), (0, .methodref 7 3), (0, .fieldref 11 12), (0, .class_ 13), (0, .nameAndType 14 15), (0, u "com/example/bahikhata/bahikhata/util/StringTable"), (0, u "strings"), (0, u "Lcom/example/bahikhata/bahikhata/util/StringList;"), (0, .methodref 11 17), (0, .nameAndType 18 19), (0, u "emptySlots"), (0, u "(I)[J"), (0, .fieldref 11 21), (0, .nameAndType 22 23), (0, u "slots"), (0, u "[J"), (12, .long 18446744073709551615), (29, .methodref 67 68), (0, .class_ 69), (0, .nameAndType 70 71), (0, u "java/util/Arrays"), (0, u "fill"), (0, u "([JJ)V"), (6, u "NONE"), (0, u "I"), (2, u "EMPTY"), (0, u "J"), (0, u "MAX_SIZE")] 6

def k22c0 : Code := { maxStack := 3, maxLocals := 1, code := prog_80_method_1_code, exceptionTable := #[], attributes := #[] }
def k22m0 : Method := { name := "<init>", desc := "()V", sig := { parameters := [], returnType := none }, accessFlags := 1, code := some k22c0 }
def k22c1 : Code := { maxStack := 3, maxLocals := 2, code := prog_80_method_10_code, exceptionTable := #[], attributes := #[] }
def k22m1 : Method := { name := "emptySlots", desc := "(I)[J", sig := { parameters := [.int], returnType := some (.array .long) }, accessFlags := 10, code := some k22c1 }
/-- com/example/bahikhata/bahikhata/util/StringTable -/
def k22 : Class := { plain "com/example/bahikhata/bahikhata/util/StringTable" (some 0) with
  accessFlags := 49
  interfaces := #[]
  cf := some (fileOf pool22 11 #[] #[{ accessFlags := 1, nameIndex := 5, descriptorIndex := 6, attributes := #[] }, { accessFlags := 10, nameIndex := 18, descriptorIndex := 19, attributes := #[] }] 49 2 #[] #[{ accessFlags := 26, nameIndex := 78, descriptorIndex := 79, attributes := #[] }, { accessFlags := 26, nameIndex := 82, descriptorIndex := 83, attributes := #[] }, { accessFlags := 26, nameIndex := 84, descriptorIndex := 79, attributes := #[] }, { accessFlags := 18, nameIndex := 14, descriptorIndex := 15, attributes := #[] }, { accessFlags := 2, nameIndex := 22, descriptorIndex := 23, attributes := #[] }])
  fields := #[{ name := "NONE", type := .int, accessFlags := 26, slot := 0, constantValue := 0 }, { name := "EMPTY", type := .long, accessFlags := 26, slot := 1, constantValue := 0 }, { name := "MAX_SIZE", type := .int, accessFlags := 26, slot := 2, constantValue := 0 }, { name := "strings", type := (.object "com/example/bahikhata/bahikhata/util/StringList"), accessFlags := 18, slot := 0, constantValue := 0 }, { name := "slots", type := (.array .long), accessFlags := 2, slot := 1, constantValue := 0 }]
  methods := #[k22m0, k22m1]
  instanceTypes := #[(.object "com/example/bahikhata/bahikhata/util/StringList"), (.array .long)]
  staticTypes := #[.int, .long, .int]
  resolved := Array.replicate 91 none
  statics := none }

def pool23 : Array CpInfo := pool [(3, .methodref 4 5), (0, .class_ 6), (0, .nameAndType 7 8), (0, u "java/lang/Object"), (0, u "<init>"), (0, u "()V"), (0, .fieldref 10 11), (0, .class_ 12), (0, .nameAndType 13 14), (0, u "com/example/bahikhata/bahikhata/util/StringList"), (0, u "chars"), (0, u "[C"), (0, .fieldref 10 16), (0, .nameAndType 17 18), (0, u "starts"), (0, u "[I"), (2, u "size"), (0, u "I"), (20, u "charCount"), (49, u "MAX_LENGTH")] 29

def k23c0 : Code := { maxStack := 2, maxLocals := 1, code := prog_79_method_1_code, exceptionTable := #[], attributes := #[] }
def k23m0 : Method := { name := "<init>", desc := "()V", sig := { parameters := [], returnType := none }, accessFlags := 1, code := some k23c0 }
/-- com/example/bahikhata/bahikhata/util/StringList -/
def k23 : Class := { plain "com/example/bahikhata/bahikhata/util/StringList" (some 0) with
  accessFlags := 49
  interfaces := #[]
  cf := some (fileOf pool23 10 #[] #[{ accessFlags := 1, nameIndex := 7, descriptorIndex := 8, attributes := #[] }] 49 4 #[] #[{ accessFlags := 26, nameIndex := 93, descriptorIndex := 22, attributes := #[] }, { accessFlags := 2, nameIndex := 13, descriptorIndex := 14, attributes := #[] }, { accessFlags := 2, nameIndex := 43, descriptorIndex := 22, attributes := #[] }, { accessFlags := 2, nameIndex := 17, descriptorIndex := 18, attributes := #[] }, { accessFlags := 2, nameIndex := 21, descriptorIndex := 22, attributes := #[] }])
  fields := #[{ name := "MAX_LENGTH", type := .int, accessFlags := 26, slot := 0, constantValue := 0 }, { name := "chars", type := (.array .char), accessFlags := 2, slot := 0, constantValue := 0 }, { name := "charCount", type := .int, accessFlags := 2, slot := 1, constantValue := 0 }, { name := "starts", type := (.array .int), accessFlags := 2, slot := 2, constantValue := 0 }, { name := "size", type := .int, accessFlags := 2, slot := 3, constantValue := 0 }]
  methods := #[k23m0]
  instanceTypes := #[(.array .char), .int, (.array .int), .int]
  staticTypes := #[.int]
  resolved := Array.replicate 123 none
  statics := none }

def pool24 : Array CpInfo := pool [(2, .class_ 4), (1, u "java/lang/Object"), (0, u "<init>"), (0, u "()V"), (7, .class_ 16), (1, u "java/util/Arrays"), (57, .class_ 76), (1, u "java/util/Arrays$NaturalOrder"), (36, .class_ 115), (1, u "java/util/Arrays$LegacyMergeSort"), (1, u "Z"), (257, .class_ 376), (0, u "java/util/Arrays$ArrayList"), (68, u "$assertionsDisabled"), (269, u "MIN_ARRAY_SORT_GRAN"), (0, u "I"), (2, u "INSERTIONSORT_THRESHOLD"), (120, u "fill"), (0, u "([JJ)V"), (133, .class_ 976), (0, u "java/util/Arrays$ArrayItr")] 52

def k24m0 : Method := { name := "<init>", desc := "()V", sig := { parameters := [], returnType := none }, accessFlags := 2, code := none }
def k24c1 : Code := { maxStack := 4, maxLocals := 5, code := jdk_65_method_101_code, exceptionTable := #[], attributes := #[] }
def k24m1 : Method := { name := "fill", desc := "([JJ)V", sig := { parameters := [(.array .long), .long], returnType := none }, accessFlags := 9, code := some k24c1 }
/-- java/util/Arrays -/
def k24 : Class := { plain "java/util/Arrays" (some 0) with
  accessFlags := 49
  interfaces := #[]
  cf := some (fileOf pool24 14 #[.nestMembers #[975, 375, 113, 74]] #[{ accessFlags := 2, nameIndex := 5, descriptorIndex := 6, attributes := #[] }, { accessFlags := 9, nameIndex := 840, descriptorIndex := 841, attributes := #[] }] 49 2 #[] #[{ accessFlags := 26, nameIndex := 715, descriptorIndex := 716, attributes := #[] }, { accessFlags := 26, nameIndex := 719, descriptorIndex := 716, attributes := #[] }, { accessFlags := 4120, nameIndex := 445, descriptorIndex := 117, attributes := #[] }])
  fields := #[{ name := "MIN_ARRAY_SORT_GRAN", type := .int, accessFlags := 26, slot := 0, constantValue := 0 }, { name := "INSERTIONSORT_THRESHOLD", type := .int, accessFlags := 26, slot := 1, constantValue := 0 }, { name := "$assertionsDisabled", type := .boolean, accessFlags := 4120, slot := 2, constantValue := 0 }]
  methods := #[k24m0, k24m1]
  instanceTypes := #[]
  staticTypes := #[.int, .int, .boolean]
  resolved := Array.replicate 1029 none
  statics := none }

def pool25 : Array CpInfo := pool [(4, .class_ 6), (1, u "java/lang/Number"), (16, .class_ 25), (1, u "java/math/BigInteger"), (0, u "ZERO"), (0, u "Ljava/math/BigInteger;"), (2, u "mag"), (0, u "[I"), (2, u "signum"), (0, u "I"), (59, u "bitsPerDigit"), (0, u "[J"), (9, u "digitsPerInt"), (12, u "intRadix"), (60, u "SMALL_PRIME_PRODUCT"), (79, u "ONE"), (6, u "TWO"), (43, u "$assertionsDisabled"), (0, u "Z"), (36, u "posConst"), (0, u "[Ljava/math/BigInteger;"), (4, u "negConst"), (116, .class_ 474), (1, u "java/math/BigInteger$RecursiveOp"), (106, u "NEGATIVE_ONE"), (91, u "bnExpModThreshTable"), (72, u "lowestSetBitPlusTwo"), (2, u "bitLengthPlusOne"), (2, u "bitCountPlusOne"), (6, u "LOG_TWO"), (0, u "D"), (2, u "logCache"), (0, u "[D"), (13, u "NUM_ZEROS"), (2, u "ZEROS"), (0, u "Ljava/lang/String;"), (9, u "longRadix"), (5, u "digitsPerLong"), (22, u "powerCache"), (0, u "[[Ljava/math/BigInteger;"), (45, u "firstNonzeroIntNumPlusTwo"), (38, .class_ 909), (1, u "java/math/BigInteger$UnsafeHolder"), (141, u "TEN"), (106, u "serialPersistentFields"), (0, u "[Ljava/io/ObjectStreamField;"), (0, .class_ 1161), (0, u "java/lang/Comparable"), (0, u "LONG_MASK"), (0, u "J"), (1, u "MAX_MAG_LENGTH"), (0, u "PRIME_SEARCH_BIT_LENGTH_LIMIT"), (1, u "KARATSUBA_THRESHOLD"), (1, u "TOOM_COOK_THRESHOLD"), (1, u "KARATSUBA_SQUARE_THRESHOLD"), (1, u "TOOM_COOK_SQUARE_THRESHOLD"), (1, u "BURNIKEL_ZIEGLER_THRESHOLD"), (0, u "BURNIKEL_ZIEGLER_OFFSET"), (1, u "SCHOENHAGE_BASE_CONVERSION_THRESHOLD"), (1, u "MULTIPLY_SQUARE_THRESHOLD"), (0, u "MONTGOMERY_INTRINSIC_THRESHOLD"), (1, u "SMALL_PRIME_THRESHOLD"), (1, u "DEFAULT_PRIME_CERTAINTY"), (1, u "MAX_CONSTANT"), (3, u "serialVersionUID"), (338, .class_ 1532), (0, u "java/math/BigInteger$RecursiveOp$RecursiveSquare"), (0, .class_ 1534), (0, u "java/math/BigInteger$RecursiveOp$RecursiveMultiply")] 7

/-- java/math/BigInteger -/
def k25 : Class := { plain "java/math/BigInteger" (some 13) with
  accessFlags := 33
  interfaces := #[3]
  cf := some (fileOf pool25 23 #[.nestMembers #[907, 472, 1531, 1533]] #[] 33 4 #[1160] #[{ accessFlags := 16, nameIndex := 34, descriptorIndex := 35, attributes := #[] }, { accessFlags := 16, nameIndex := 30, descriptorIndex := 31, attributes := #[] }, { accessFlags := 2, nameIndex := 752, descriptorIndex := 35, attributes := #[] }, { accessFlags := 2, nameIndex := 749, descriptorIndex := 35, attributes := #[] }, { accessFlags := 2, nameIndex := 746, descriptorIndex := 35, attributes := #[] }, { accessFlags := 2, nameIndex := 868, descriptorIndex := 35, attributes := #[] }, { accessFlags := 24, nameIndex := 1162, descriptorIndex := 1163, attributes := #[] }, { accessFlags := 26, nameIndex := 1165, descriptorIndex := 35, attributes := #[] }, { accessFlags := 26, nameIndex := 1166, descriptorIndex := 35, attributes := #[] }, { accessFlags := 26, nameIndex := 1168, descriptorIndex := 35, attributes := #[] }, { accessFlags := 26, nameIndex := 1170, descriptorIndex := 35, attributes := #[] }, { accessFlags := 26, nameIndex := 1172, descriptorIndex := 35, attributes := #[] }, { accessFlags := 26, nameIndex := 1174, descriptorIndex := 35, attributes := #[] }, { accessFlags := 24, nameIndex := 1176, descriptorIndex := 35, attributes := #[] }, { accessFlags := 24, nameIndex := 1177, descriptorIndex := 35, attributes := #[] }, { accessFlags := 26, nameIndex := 1179, descriptorIndex := 35, attributes := #[] }, { accessFlags := 26, nameIndex := 1181, descriptorIndex := 35, attributes := #[] }, { accessFlags := 26, nameIndex := 1182, descriptorIndex := 35, attributes := #[] }, { accessFlags := 10, nameIndex := 95, descriptorIndex := 96, attributes := #[] }, { accessFlags := 26, nameIndex := 1184, descriptorIndex := 35, attributes := #[] }, { accessFlags := 26, nameIndex := 1186, descriptorIndex := 35, attributes := #[] }, { accessFlags := 26, nameIndex := 180, descriptorIndex := 27, attributes := #[] }, { accessFlags := 26, nameIndex := 1188, descriptorIndex := 35, attributes := #[] }, { accessFlags := 26, nameIndex := 349, descriptorIndex := 350, attributes := #[] }, { accessFlags := 26, nameIndex := 355, descriptorIndex := 350, attributes := #[] }, { accessFlags := 74, nameIndex := 821, descriptorIndex := 822, attributes := #[] }, { accessFlags := 26, nameIndex := 763, descriptorIndex := 764, attributes := #[] }, { accessFlags := 26, nameIndex := 759, descriptorIndex := 760, attributes := #[] }, { accessFlags := 25, nameIndex := 26, descriptorIndex := 27, attributes := #[] }, { accessFlags := 25, nameIndex := 260, descriptorIndex := 27, attributes := #[] }, { accessFlags := 25, nameIndex := 267, descriptorIndex := 27, attributes := #[] }, { accessFlags := 26, nameIndex := 581, descriptorIndex := 27, attributes := #[] }, { accessFlags := 25, nameIndex := 1051, descriptorIndex := 27, attributes := #[] }, { accessFlags := 8, nameIndex := 673, descriptorIndex := 31, attributes := #[] }, { accessFlags := 10, nameIndex := 778, descriptorIndex := 35, attributes := #[] }, { accessFlags := 26, nameIndex := 781, descriptorIndex := 782, attributes := #[] }, { accessFlags := 10, nameIndex := 798, descriptorIndex := 31, attributes := #[] }, { accessFlags := 10, nameIndex := 792, descriptorIndex := 350, attributes := #[] }, { accessFlags := 10, nameIndex := 106, descriptorIndex := 31, attributes := #[] }, { accessFlags := 10, nameIndex := 119, descriptorIndex := 31, attributes := #[] }, { accessFlags := 26, nameIndex := 1192, descriptorIndex := 1163, attributes := #[] }, { accessFlags := 26, nameIndex := 1158, descriptorIndex := 1159, attributes := #[] }, { accessFlags := 4120, nameIndex := 311, descriptorIndex := 312, attributes := #[] }])
  fields := #[{ name := "signum", type := .int, accessFlags := 16, slot := 0, constantValue := 0 }, { name := "mag", type := (.array .int), accessFlags := 16, slot := 1, constantValue := 0 }, { name := "bitCountPlusOne", type := .int, accessFlags := 2, slot := 2, constantValue := 0 }, { name := "bitLengthPlusOne", type := .int, accessFlags := 2, slot := 3, constantValue := 0 }, { name := "lowestSetBitPlusTwo", type := .int, accessFlags := 2, slot := 4, constantValue := 0 }, { name := "firstNonzeroIntNumPlusTwo", type := .int, accessFlags := 2, slot := 5, constantValue := 0 }, { name := "LONG_MASK", type := .long, accessFlags := 24, slot := 0, constantValue := 0 }, { name := "MAX_MAG_LENGTH", type := .int, accessFlags := 26, slot := 1, constantValue := 0 }, { name := "PRIME_SEARCH_BIT_LENGTH_LIMIT", type := .int, accessFlags := 26, slot := 2, constantValue := 0 }, { name := "KARATSUBA_THRESHOLD", type := .int, accessFlags := 26, slot := 3, constantValue := 0 }, { name := "TOOM_COOK_THRESHOLD", type := .int, accessFlags := 26, slot := 4, constantValue := 0 }, { name := "KARATSUBA_SQUARE_THRESHOLD", type := .int, accessFlags := 26, slot := 5, constantValue := 0 }, { name := "TOOM_COOK_SQUARE_THRESHOLD", type := .int, accessFlags := 26, slot := 6, constantValue := 0 }, { name := "BURNIKEL_ZIEGLER_THRESHOLD", type := .int, accessFlags := 24, slot := 7, constantValue := 0 }, { name := "BURNIKEL_ZIEGLER_OFFSET", type := .int, accessFlags := 24, slot := 8, constantValue := 0 }, { name := "SCHOENHAGE_BASE_CONVERSION_THRESHOLD", type := .int, accessFlags := 26, slot := 9, constantValue := 0 }, { name := "MULTIPLY_SQUARE_THRESHOLD", type := .int, accessFlags := 26, slot := 10, constantValue := 0 }, { name := "MONTGOMERY_INTRINSIC_THRESHOLD", type := .int, accessFlags := 26, slot := 11, constantValue := 0 }, { name := "bitsPerDigit", type := (.array .long), accessFlags := 10, slot := 12, constantValue := 0 }, { name := "SMALL_PRIME_THRESHOLD", type := .int, accessFlags := 26, slot := 13, constantValue := 0 }, { name := "DEFAULT_PRIME_CERTAINTY", type := .int, accessFlags := 26, slot := 14, constantValue := 0 }, { name := "SMALL_PRIME_PRODUCT", type := (.object "java/math/BigInteger"), accessFlags := 26, slot := 15, constantValue := 0 }, { name := "MAX_CONSTANT", type := .int, accessFlags := 26, slot := 16, constantValue := 0 }, { name := "posConst", type := (.array (.object "java/math/BigInteger")), accessFlags := 26, slot := 17, constantValue := 0 }, { name := "negConst", type := (.array (.object "java/math/BigInteger")), accessFlags := 26, slot := 18, constantValue := 0 }, { name := "powerCache", type := (.array (.array (.object "java/math/BigInteger"))), accessFlags := 74, slot := 19, constantValue := 0 }, { name := "logCache", type := (.array .double), accessFlags := 26, slot := 20, constantValue := 0 }, { name := "LOG_TWO", type := .double, accessFlags := 26, slot := 21, constantValue := 0 }, { name := "ZERO", type := (.object "java/math/BigInteger"), accessFlags := 25, slot := 22, constantValue := 0 }, { name := "ONE", type := (.object "java/math/BigInteger"), accessFlags := 25, slot := 23, constantValue := 0 }, { name := "TWO", type := (.object "java/math/BigInteger"), accessFlags := 25, slot := 24, constantValue := 0 }, { name := "NEGATIVE_ONE", type := (.object "java/math/BigInteger"), accessFlags := 26, slot := 25, constantValue := 0 }, { name := "TEN", type := (.object "java/math/BigInteger"), accessFlags := 25, slot := 26, constantValue := 0 }, { name := "bnExpModThreshTable", type := (.array .int), accessFlags := 8, slot := 27, constantValue := 0 }, { name := "NUM_ZEROS", type := .int, accessFlags := 10, slot := 28, constantValue := 0 }, { name := "ZEROS", type := (.object "java/lang/String"), accessFlags := 26, slot := 29, constantValue := 0 }, { name := "digitsPerLong", type := (.array .int), accessFlags := 10, slot := 30, constantValue := 0 }, { name := "longRadix", type := (.array (.object "java/math/BigInteger")), accessFlags := 10, slot := 31, constantValue := 0 }, { name := "digitsPerInt", type := (.array .int), accessFlags := 10, slot := 32, constantValue := 0 }, { name := "intRadix", type := (.array .int), accessFlags := 10, slot := 33, constantValue := 0 }, { name := "serialVersionUID", type := .long, accessFlags := 26, slot := 34, constantValue := 0 }, { name := "serialPersistentFields", type := (.array (.object "java/io/ObjectStreamField")), accessFlags := 26, slot := 35, constantValue := 0 }, { name := "$assertionsDisabled", type := .boolean, accessFlags := 4120, slot := 36, constantValue := 0 }]
  methods := #[]
  instanceTypes := #[.int, (.array .int), .int, .int, .int, .int]
  staticTypes := #[.long, .int, .int, .int, .int, .int, .int, .int, .int, .int, .int, .int, (.array .long), .int, .int, (.object "java/math/BigInteger"), .int, (.array (.object "java/math/BigInteger")), (.array (.object "java/math/BigInteger")), (.array (.array (.object "java/math/BigInteger"))), (.array .double), .double, (.object "java/math/BigInteger"), (.object "java/math/BigInteger"), (.object "java/math/BigInteger"), (.object "java/math/BigInteger"), (.object "java/math/BigInteger"), (.array .int), .int, (.object "java/lang/String"), (.array .int), (.array (.object "java/math/BigInteger")), (.array .int), (.array .int), .long, (.array (.object "java/io/ObjectStreamField")), .boolean]
  resolved := Array.replicate 1542 none
  statics := some 3 }

def pool26 : Array CpInfo := pool [(1, u "java/lang/Cloneable"), (0, .class_ 1), (0, u "java/lang/Object"), (0, .class_ 3)] 3

/-- java/lang/Cloneable -/
def k26 : Class := { plain "java/lang/Cloneable" (some 0) with
  accessFlags := 1537
  interfaces := #[]
  cf := some (fileOf pool26 2 #[] #[] 1537 4 #[] #[])
  fields := #[]
  methods := #[]
  instanceTypes := #[]
  staticTypes := #[]
  resolved := Array.replicate 8 none
  statics := none }

/-- the primitive byte -/
def k27 : Class := { plain "byte" none with kind := .primitive 'B', accessFlags := 0x411 }
/-- [B -/
def k28 : Class := { plain "[B" (some 0) with kind := .array 27 .byte, interfaces := #[26, 4], accessFlags := 1041 }

/-- the primitive char -/
def k29 : Class := { plain "char" none with kind := .primitive 'C', accessFlags := 0x411 }
/-- [C -/
def k30 : Class := { plain "[C" (some 0) with kind := .array 29 .char, interfaces := #[26, 4], accessFlags := 1041 }

/-- the primitive int -/
def k31 : Class := { plain "int" none with kind := .primitive 'I', accessFlags := 0x411 }
/-- [I -/
def k32 : Class := { plain "[I" (some 0) with kind := .array 31 .int, interfaces := #[26, 4], accessFlags := 1041 }

/-- the primitive long -/
def k33 : Class := { plain "long" none with kind := .primitive 'J', accessFlags := 0x411 }
/-- [J -/
def k34 : Class := { plain "[J" (some 0) with kind := .array 33 .long, interfaces := #[26, 4], accessFlags := 1041 }

def heap : Heap := #[{ cls := 7, slots := #[.ref 4, .ref 7, .ref 6, .ref 5, .null], vm := .statics 7 },
  { cls := 12, slots := #[.null, .null, .ref 11, .long 0, .int 0, .long 0], vm := .statics 12 },
  { cls := 14, slots := #[.double 0, .int 0, .int 0, .int 0, .int 0, .int 0, .int 0, .long 0, .null, .int 0, .long 0, .null, .null, .long 0, .long 0, .ref 10, .null, .null, .null, .null, .null, .int 0, .int 0, .int 0, .int 0, .int 0, .int 0, .int 0, .int 0, .null, .null, .null, .null, .int 0, .int 0, .null, .long 0, .null, .int 0], vm := .statics 14 },
  { cls := 25, slots := #[.long 0, .int 0, .int 0, .int 0, .int 0, .int 0, .int 0, .int 0, .int 0, .int 0, .int 0, .int 0, .null, .int 0, .int 0, .null, .int 0, .null, .null, .null, .null, .double 0, .ref 9, .null, .null, .null, .null, .null, .int 0, .null, .null, .null, .null, .null, .long 0, .null, .int 0], vm := .statics 25 },
  { cls := 7, slots := #[.null, .int 0, .int 0, .null, .int 0], vm := .none },
  { cls := 7, slots := #[.null, .int 3, .int 0, .null, .int 0], vm := .none },
  { cls := 7, slots := #[.null, .int 2, .int 0, .null, .int 1], vm := .none },
  { cls := 7, slots := #[.null, .int 1, .int 0, .null, .int 1], vm := .none },
  { cls := 32, slots := #[], vm := .none },
  { cls := 25, slots := #[.int 0, .ref 8, .int 0, .int 0, .int 0, .int 0], vm := .none },
  { cls := 14, slots := #[.ref 9, .int 0, .int 0, .null, .long 0], vm := .none },
  { cls := 12, slots := #[.int 1970, .int 1, .int 1], vm := .none }]
def classes : Array Class := #[k0, k1, k2, k3, k4, k5, k6, k7, k8, k9, k10, k11, k12, k13, k14, k15, k16, k17, k18, k19, k20, k21, k22, k23, k24, k25, k26, k27, k28, k29, k30, k31, k32, k33, k34]
def interned : List (Array UInt16 × Addr) := []
def slotsUsed : Nat := 121
def theMethod : MethodId := ⟨1, 4⟩
def args0 : Array Value := #[.int 5, .int 5, .int 5]
def aboutOver (below : List Frame) : State where
  vm := { classes := classes, interned := interned.toArray }
  heap := heap
  slotsUsed := slotsUsed
  threads := #[{ frames := .invoking theMethod args0 :: below }]
def below0 : List Frame := [.native { method := ⟨0, 0⟩, args := #[] }]
def about1 : State := aboutOver below0
def p0 : Program := .bare "" "" ""
def e0 : Env := launch0.env 0 0 0
theorem w_frames : about1.frames = Frame.invoking theMethod args0 :: below0 := rfl
set_option maxRecDepth 65536 in
theorem w_args : argsFit about1.vm theMethod args0 = true := by decide +kernel
set_option maxRecDepth 65536 in
theorem w_heap : heapFits about1 = true := by decide +kernel
set_option maxRecDepth 65536 in
theorem w_runnable : about1.curStatus? = some .runnable := by decide +kernel
set_option maxRecDepth 65536 in
theorem w_alone : about1.alone = true := by decide +kernel
set_option maxRecDepth 65536 in
theorem w_named : about1.methodNamed? x = some theMethod := by decide +kernel
set_option maxRecDepth 65536 in
theorem w_hears : about1.hears theMethod below0 = true := by decide +kernel
set_option maxRecDepth 65536 in
theorem w_ripe : about1.ripe theMethod args0 below0 = true := by decide +kernel
theorem w_running : about1.status = .running := rfl
set_option maxRecDepth 65536 in
theorem w_room : about1.hasRoom e0.platform room_1 = true :=
  launch0.hasRoom_least _ room_1 (by decide +kernel) (by decide +kernel) (by decide +kernel) (by decide +kernel) (by decide +kernel) (by decide +kernel)
theorem allAtoms_all (ts : List Jvm.Cond) (a : Array Jvm.Value) (st : Jvm.State) : (allAtoms ts).before a st = ts.all (fun c => c.before a st) := by
  induction ts with
  | nil => rfl
  | cons c t ih =>
    show (Jvm.Cond.and c (allAtoms t)).before a st = _
    rw [Jvm.Cond.before_and, ih, List.all_cons]
def words1 : List Jvm.Cond := Jvm.Cond.code x code maxLocals ret :: tables_1
/-- a 'code' word, met by the world's own term for the bytes: nothing is compared byte by byte -/
theorem code_word {y : MethodName} {bytes : ByteArray} {mx : Nat} {rt : Option FieldType} {a : Array Value} {s : State} {m : MethodId} {meth : Method} {c : Code} (h1 : s.methodNamed? y = some m) (h2 : s.vm.method? m = some meth) (h3 : meth.code = some c) (h4 : c.code = bytes)
    (h5 : (c.maxLocals == mx && c.exceptionTable.isEmpty && decide (c.maxStack ≤ mostOperands) && decide (meth.sig.returnType = rt) && !meth.locks && decide (parseMethodDescriptor y.desc = some meth.sig)) = true) : (Jvm.Cond.code y bytes mx rt).before a s = true := by
  simp only [Bool.and_eq_true, beq_iff_eq, Bool.not_eq_true', decide_eq_true_eq] at h5
  obtain ⟨⟨⟨⟨⟨g1, g2⟩, g3⟩, g4⟩, g5⟩, g6⟩ := h5
  simp [Cond.before, Cond.holds, Cond.value, h1, h2, h3, h4, g1, g2, g3, g4, g5, g6]
def isCode : Jvm.Cond → Bool
  | .code _ _ _ _ => true
  | _ => false
theorem all_split {L : List Jvm.Cond} {P : Jvm.Cond → Bool} (h1 : L.all (fun c => isCode c || P c) = true) (h2 : ∀ c ∈ L.filter isCode, P c = true) : L.all P = true := by
  refine List.all_eq_true.mpr fun c hc => ?_
  have h := List.all_eq_true.mp h1 c hc
  rcases Bool.eq_false_or_eq_true (isCode c) with hi | hi
  · exact h2 c (List.mem_filter.mpr ⟨hc, hi⟩)
  · simpa [hi] using h
set_option maxRecDepth 65536 in
theorem w_c0 : (Jvm.Cond.code x code maxLocals ret).before args0 about1 = true := code_word (m := ⟨1, 4⟩) (meth := k1m4) (c := k1c4) (by decide +kernel) rfl rfl rfl (by decide +kernel)
set_option maxRecDepth 65536 in
theorem w_c1 : (Jvm.Cond.code ({ cls := "com/example/bahikhata/bahikhata/io/BookIndexGivesOverdueSincePinLaw", name := "loan", desc := "(I)Lcom/example/bahikhata/bahikhata/model/Loan;" } : Jvm.MethodName) method_4_code (5 : Nat) (Option.some (Jvm.ClassFile.FieldType.object "com/example/bahikhata/bahikhata/model/Loan"))).before args0 about1 = true := code_word (m := ⟨1, 3⟩) (meth := k1m3) (c := k1c3) (by decide +kernel) rfl rfl rfl (by decide +kernel)
set_option maxRecDepth 65536 in
theorem w_c2 : (Jvm.Cond.code ({ cls := "com/example/bahikhata/bahikhata/io/BookIndexGivesOverdueSincePinLaw", name := "facility", desc := "(I)Lcom/example/bahikhata/bahikhata/model/Facility;" } : Jvm.MethodName) method_2_code (1 : Nat) (Option.some (Jvm.ClassFile.FieldType.object "com/example/bahikhata/bahikhata/model/Facility"))).before args0 about1 = true := code_word (m := ⟨1, 1⟩) (meth := k1m1) (c := k1c1) (by decide +kernel) rfl rfl rfl (by decide +kernel)
set_option maxRecDepth 65536 in
theorem w_c3 : (Jvm.Cond.code ({ cls := "com/example/bahikhata/bahikhata/io/BookIndexGivesOverdueSincePinLaw", name := "overdue", desc := "(I)Z" } : Jvm.MethodName) method_3_code (1 : Nat) (Option.some Jvm.ClassFile.FieldType.boolean)).before args0 about1 = true := code_word (m := ⟨1, 2⟩) (meth := k1m2) (c := k1c2) (by decide +kernel) rfl rfl rfl (by decide +kernel)
set_option maxRecDepth 65536 in
theorem w_c4 : (Jvm.Cond.code ({ cls := "com/example/bahikhata/bahikhata/model/Loan", name := "<init>", desc := "(Ljava/lang/String;Ljava/lang/String;Lcom/example/bahikhata/bahikhata/model/Facility;Ljava/math/BigDecimal;Ljava/time/LocalDate;Ljava/lang/String;Ljava/time/LocalDate;Ljava/math/BigDecimal;Ljava/math/BigDecimal;ZZZLjava/math/BigDecimal;Ljava/math/BigDecimal;Ljava/math/BigDecimal;Ljava/math/BigDecimal;Ljava/time/LocalDate;Ljava/time/LocalDate;Ljava/math/BigDecimal;Ljava/math/BigDecimal;Ljava/time/LocalDate;)V" } : Jvm.MethodName) prog_53_method_1_code (22 : Nat) (Option.none : Option Jvm.ClassFile.FieldType)).before args0 about1 = true := code_word (m := ⟨16, 0⟩) (meth := k16m0) (c := k16c0) (by decide +kernel) rfl rfl rfl (by decide +kernel)
set_option maxRecDepth 65536 in
theorem w_c5 : (Jvm.Cond.code ({ cls := "java/lang/Record", name := "<init>", desc := "()V" } : Jvm.MethodName) jdk_30_method_1_code (1 : Nat) (Option.none : Option Jvm.ClassFile.FieldType)).before args0 about1 = true := code_word (m := ⟨15, 0⟩) (meth := k15m0) (c := k15c0) (by decide +kernel) rfl rfl rfl (by decide +kernel)
set_option maxRecDepth 65536 in
theorem w_c6 : (Jvm.Cond.code ({ cls := "java/lang/Object", name := "<init>", desc := "()V" } : Jvm.MethodName) object_method_1_code (1 : Nat) (Option.none : Option Jvm.ClassFile.FieldType)).before args0 about1 = true := code_word (m := ⟨0, 0⟩) (meth := k0m0) (c := k0c0) (by decide +kernel) rfl rfl rfl (by decide +kernel)
set_option maxRecDepth 65536 in
theorem w_c7 : (Jvm.Cond.code ({ cls := "java/util/Objects", name := "requireNonNull", desc := "(Ljava/lang/Object;Ljava/lang/String;)Ljava/lang/Object;" } : Jvm.MethodName) jdk_31_method_11_code (2 : Nat) (Option.some (Jvm.ClassFile.FieldType.object "java/lang/Object"))).before args0 about1 = true := code_word (m := ⟨20, 1⟩) (meth := k20m1) (c := k20c1) (by decide +kernel) rfl rfl rfl (by decide +kernel)
set_option maxRecDepth 65536 in
theorem w_c8 : (Jvm.Cond.code ({ cls := "com/example/bahikhata/bahikhata/model/Facility", name := "isRunningAccount", desc := "()Z" } : Jvm.MethodName) prog_50_method_5_code (1 : Nat) (Option.some Jvm.ClassFile.FieldType.boolean)).before args0 about1 = true := code_word (m := ⟨7, 0⟩) (meth := k7m0) (c := k7c0) (by decide +kernel) rfl rfl rfl (by decide +kernel)
set_option maxRecDepth 65536 in
theorem w_c9 : (Jvm.Cond.code ({ cls := "com/example/bahikhata/bahikhata/io/BookIndex", name := "<init>", desc := "(Ljava/lang/String;)V" } : Jvm.MethodName) prog_5_method_1_code (2 : Nat) (Option.none : Option Jvm.ClassFile.FieldType)).before args0 about1 = true := code_word (m := ⟨21, 0⟩) (meth := k21m0) (c := k21c0) (by decide +kernel) rfl rfl rfl (by decide +kernel)
set_option maxRecDepth 65536 in
theorem w_c10 : (Jvm.Cond.code ({ cls := "com/example/bahikhata/bahikhata/util/StringTable", name := "<init>", desc := "()V" } : Jvm.MethodName) prog_80_method_1_code (1 : Nat) (Option.none : Option Jvm.ClassFile.FieldType)).before args0 about1 = true := code_word (m := ⟨22, 0⟩) (meth := k22m0) (c := k22c0) (by decide +kernel) rfl rfl rfl (by decide +kernel)
set_option maxRecDepth 65536 in
theorem w_c11 : (Jvm.Cond.code ({ cls := "com/example/bahikhata/bahikhata/util/StringList", name := "<init>", desc := "()V" } : Jvm.MethodName) prog_79_method_1_code (1 : Nat) (Option.none : Option Jvm.ClassFile.FieldType)).before args0 about1 = true := code_word (m := ⟨23, 0⟩) (meth := k23m0) (c := k23c0) (by decide +kernel) rfl rfl rfl (by decide +kernel)
set_option maxRecDepth 65536 in
theorem w_c12 : (Jvm.Cond.code ({ cls := "com/example/bahikhata/bahikhata/util/StringTable", name := "emptySlots", desc := "(I)[J" } : Jvm.MethodName) prog_80_method_10_code (2 : Nat) (Option.some (Jvm.ClassFile.FieldType.array Jvm.ClassFile.FieldType.long))).before args0 about1 = true := code_word (m := ⟨22, 1⟩) (meth := k22m1) (c := k22c1) (by decide +kernel) rfl rfl rfl (by decide +kernel)
set_option maxRecDepth 65536 in
theorem w_c13 : (Jvm.Cond.code ({ cls := "java/util/Arrays", name := "fill", desc := "([JJ)V" } : Jvm.MethodName) jdk_65_method_101_code (5 : Nat) (Option.none : Option Jvm.ClassFile.FieldType)).before args0 about1 = true := code_word (m := ⟨24, 1⟩) (meth := k24m1) (c := k24c1) (by decide +kernel) rfl rfl rfl (by decide +kernel)
set_option maxRecDepth 65536 in
theorem w_c14 : (Jvm.Cond.code ({ cls := "com/example/bahikhata/bahikhata/io/BookIndex", name := "note", desc := "(Lcom/example/bahikhata/bahikhata/model/Loan;)V" } : Jvm.MethodName) prog_5_method_9_code (3 : Nat) (Option.none : Option Jvm.ClassFile.FieldType)).before args0 about1 = true := code_word (m := ⟨21, 2⟩) (meth := k21m2) (c := k21c2) (by decide +kernel) rfl rfl rfl (by decide +kernel)
set_option maxRecDepth 65536 in
theorem w_c15 : (Jvm.Cond.code ({ cls := "com/example/bahikhata/bahikhata/model/Loan", name := "overdueSince", desc := "()Ljava/time/LocalDate;" } : Jvm.MethodName) prog_53_method_12_code (1 : Nat) (Option.some (Jvm.ClassFile.FieldType.object "java/time/LocalDate"))).before args0 about1 = true := code_word (m := ⟨16, 2⟩) (meth := k16m2) (c := k16c2) (by decide +kernel) rfl rfl rfl (by decide +kernel)
set_option maxRecDepth 65536 in
theorem w_c16 : (Jvm.Cond.code ({ cls := "com/example/bahikhata/bahikhata/model/Loan", name := "facility", desc := "()Lcom/example/bahikhata/bahikhata/model/Facility;" } : Jvm.MethodName) prog_53_method_10_code (1 : Nat) (Option.some (Jvm.ClassFile.FieldType.object "com/example/bahikhata/bahikhata/model/Facility"))).before args0 about1 = true := code_word (m := ⟨16, 1⟩) (meth := k16m1) (c := k16c1) (by decide +kernel) rfl rfl rfl (by decide +kernel)
set_option maxRecDepth 65536 in
theorem w_c17 : (Jvm.Cond.code ({ cls := "java/lang/Enum", name := "ordinal", desc := "()I" } : Jvm.MethodName) jdk_37_method_2_code (1 : Nat) (Option.some Jvm.ClassFile.FieldType.int)).before args0 about1 = true := code_word (m := ⟨5, 0⟩) (meth := k5m0) (c := k5c0) (by decide +kernel) rfl rfl rfl (by decide +kernel)
set_option maxRecDepth 65536 in
theorem w_c18 : (Jvm.Cond.code ({ cls := "com/example/bahikhata/bahikhata/io/BookIndex", name := "givesOverdueSince", desc := "(I)Z" } : Jvm.MethodName) prog_5_method_6_code (2 : Nat) (Option.some Jvm.ClassFile.FieldType.boolean)).before args0 about1 = true := code_word (m := ⟨21, 1⟩) (meth := k21m1) (c := k21c1) (by decide +kernel) rfl rfl rfl (by decide +kernel)
def codes1 : List Jvm.Cond := [Jvm.Cond.code x code maxLocals ret, Jvm.Cond.code ({ cls := "com/example/bahikhata/bahikhata/io/BookIndexGivesOverdueSincePinLaw", name := "loan", desc := "(I)Lcom/example/bahikhata/bahikhata/model/Loan;" } : Jvm.MethodName) method_4_code (5 : Nat) (Option.some (Jvm.ClassFile.FieldType.object "com/example/bahikhata/bahikhata/model/Loan")), Jvm.Cond.code ({ cls := "com/example/bahikhata/bahikhata/io/BookIndexGivesOverdueSincePinLaw", name := "facility", desc := "(I)Lcom/example/bahikhata/bahikhata/model/Facility;" } : Jvm.MethodName) method_2_code (1 : Nat) (Option.some (Jvm.ClassFile.FieldType.object "com/example/bahikhata/bahikhata/model/Facility")), Jvm.Cond.code ({ cls := "com/example/bahikhata/bahikhata/io/BookIndexGivesOverdueSincePinLaw", name := "overdue", desc := "(I)Z" } : Jvm.MethodName) method_3_code (1 : Nat) (Option.some Jvm.ClassFile.FieldType.boolean), Jvm.Cond.code ({ cls := "com/example/bahikhata/bahikhata/model/Loan", name := "<init>", desc := "(Ljava/lang/String;Ljava/lang/String;Lcom/example/bahikhata/bahikhata/model/Facility;Ljava/math/BigDecimal;Ljava/time/LocalDate;Ljava/lang/String;Ljava/time/LocalDate;Ljava/math/BigDecimal;Ljava/math/BigDecimal;ZZZLjava/math/BigDecimal;Ljava/math/BigDecimal;Ljava/math/BigDecimal;Ljava/math/BigDecimal;Ljava/time/LocalDate;Ljava/time/LocalDate;Ljava/math/BigDecimal;Ljava/math/BigDecimal;Ljava/time/LocalDate;)V" } : Jvm.MethodName) prog_53_method_1_code (22 : Nat) (Option.none : Option Jvm.ClassFile.FieldType), Jvm.Cond.code ({ cls := "java/lang/Record", name := "<init>", desc := "()V" } : Jvm.MethodName) jdk_30_method_1_code (1 : Nat) (Option.none : Option Jvm.ClassFile.FieldType), Jvm.Cond.code ({ cls := "java/lang/Object", name := "<init>", desc := "()V" } : Jvm.MethodName) object_method_1_code (1 : Nat) (Option.none : Option Jvm.ClassFile.FieldType), Jvm.Cond.code ({ cls := "java/util/Objects", name := "requireNonNull", desc := "(Ljava/lang/Object;Ljava/lang/String;)Ljava/lang/Object;" } : Jvm.MethodName) jdk_31_method_11_code (2 : Nat) (Option.some (Jvm.ClassFile.FieldType.object "java/lang/Object")), Jvm.Cond.code ({ cls := "com/example/bahikhata/bahikhata/model/Facility", name := "isRunningAccount", desc := "()Z" } : Jvm.MethodName) prog_50_method_5_code (1 : Nat) (Option.some Jvm.ClassFile.FieldType.boolean), Jvm.Cond.code ({ cls := "com/example/bahikhata/bahikhata/io/BookIndex", name := "<init>", desc := "(Ljava/lang/String;)V" } : Jvm.MethodName) prog_5_method_1_code (2 : Nat) (Option.none : Option Jvm.ClassFile.FieldType), Jvm.Cond.code ({ cls := "com/example/bahikhata/bahikhata/util/StringTable", name := "<init>", desc := "()V" } : Jvm.MethodName) prog_80_method_1_code (1 : Nat) (Option.none : Option Jvm.ClassFile.FieldType), Jvm.Cond.code ({ cls := "com/example/bahikhata/bahikhata/util/StringList", name := "<init>", desc := "()V" } : Jvm.MethodName) prog_79_method_1_code (1 : Nat) (Option.none : Option Jvm.ClassFile.FieldType), Jvm.Cond.code ({ cls := "com/example/bahikhata/bahikhata/util/StringTable", name := "emptySlots", desc := "(I)[J" } : Jvm.MethodName) prog_80_method_10_code (2 : Nat) (Option.some (Jvm.ClassFile.FieldType.array Jvm.ClassFile.FieldType.long)), Jvm.Cond.code ({ cls := "java/util/Arrays", name := "fill", desc := "([JJ)V" } : Jvm.MethodName) jdk_65_method_101_code (5 : Nat) (Option.none : Option Jvm.ClassFile.FieldType), Jvm.Cond.code ({ cls := "com/example/bahikhata/bahikhata/io/BookIndex", name := "note", desc := "(Lcom/example/bahikhata/bahikhata/model/Loan;)V" } : Jvm.MethodName) prog_5_method_9_code (3 : Nat) (Option.none : Option Jvm.ClassFile.FieldType), Jvm.Cond.code ({ cls := "com/example/bahikhata/bahikhata/model/Loan", name := "overdueSince", desc := "()Ljava/time/LocalDate;" } : Jvm.MethodName) prog_53_method_12_code (1 : Nat) (Option.some (Jvm.ClassFile.FieldType.object "java/time/LocalDate")), Jvm.Cond.code ({ cls := "com/example/bahikhata/bahikhata/model/Loan", name := "facility", desc := "()Lcom/example/bahikhata/bahikhata/model/Facility;" } : Jvm.MethodName) prog_53_method_10_code (1 : Nat) (Option.some (Jvm.ClassFile.FieldType.object "com/example/bahikhata/bahikhata/model/Facility")), Jvm.Cond.code ({ cls := "java/lang/Enum", name := "ordinal", desc := "()I" } : Jvm.MethodName) jdk_37_method_2_code (1 : Nat) (Option.some Jvm.ClassFile.FieldType.int), Jvm.Cond.code ({ cls := "com/example/bahikhata/bahikhata/io/BookIndex", name := "givesOverdueSince", desc := "(I)Z" } : Jvm.MethodName) prog_5_method_6_code (2 : Nat) (Option.some Jvm.ClassFile.FieldType.boolean)]
set_option maxRecDepth 65536 in
theorem codes_eq : words1.filter isCode = codes1 := rfl
theorem w_codes : ∀ c ∈ words1.filter isCode, c.before args0 about1 = true := by
  rw [codes_eq]
  intro c hc
  simp only [codes1, List.mem_cons, List.not_mem_nil, or_false] at hc
  rcases hc with rfl | rfl | rfl | rfl | rfl | rfl | rfl | rfl | rfl | rfl | rfl | rfl | rfl | rfl | rfl | rfl | rfl | rfl | rfl
  · exact w_c0
  · exact w_c1
  · exact w_c2
  · exact w_c3
  · exact w_c4
  · exact w_c5
  · exact w_c6
  · exact w_c7
  · exact w_c8
  · exact w_c9
  · exact w_c10
  · exact w_c11
  · exact w_c12
  · exact w_c13
  · exact w_c14
  · exact w_c15
  · exact w_c16
  · exact w_c17
  · exact w_c18
set_option maxRecDepth 65536 in
theorem w_t1 : (words1.take 24).all (fun c => isCode c || c.before args0 about1) = true := by decide +kernel
set_option maxRecDepth 65536 in
theorem w_t2 : ((words1.drop 24).take 24).all (fun c => isCode c || c.before args0 about1) = true := by decide +kernel
set_option maxRecDepth 65536 in
theorem w_t3 : (((words1.drop 24).drop 24).take 24).all (fun c => isCode c || c.before args0 about1) = true := by decide +kernel
set_option maxRecDepth 65536 in
theorem w_t4 : ((((words1.drop 24).drop 24).drop 24).take 24).all (fun c => isCode c || c.before args0 about1) = true := by decide +kernel
set_option maxRecDepth 65536 in
theorem w_t5 : (((((words1.drop 24).drop 24).drop 24).drop 24).take 24).all (fun c => isCode c || c.before args0 about1) = true := by decide +kernel
set_option maxRecDepth 65536 in
theorem w_t6 : ((((((words1.drop 24).drop 24).drop 24).drop 24).drop 24).take 24).all (fun c => isCode c || c.before args0 about1) = true := by decide +kernel
set_option maxRecDepth 65536 in
theorem w_t7 : (((((((words1.drop 24).drop 24).drop 24).drop 24).drop 24).drop 24).take 24).all (fun c => isCode c || c.before args0 about1) = true := by decide +kernel
set_option maxRecDepth 65536 in
theorem w_t8 : ((((((((words1.drop 24).drop 24).drop 24).drop 24).drop 24).drop 24).drop 24).take 24).all (fun c => isCode c || c.before args0 about1) = true := by decide +kernel
set_option maxRecDepth 65536 in
theorem w_t9 : ((((((((words1.drop 24).drop 24).drop 24).drop 24).drop 24).drop 24).drop 24).drop 24).all (fun c => isCode c || c.before args0 about1) = true := by decide +kernel
theorem w_tables : (allAtoms (Jvm.Cond.code x code maxLocals ret :: tables_1)).before args0 about1 = true := by
  rw [allAtoms_all]
  show words1.all (fun c => c.before args0 about1) = true
  refine all_split ?_ w_codes
  rw [← List.take_append_drop 24 words1, List.all_append, w_t1, ← List.take_append_drop 24 (words1.drop 24), List.all_append, w_t2, ← List.take_append_drop 24 ((words1.drop 24).drop 24), List.all_append, w_t3, ← List.take_append_drop 24 (((words1.drop 24).drop 24).drop 24), List.all_append, w_t4, ← List.take_append_drop 24 ((((words1.drop 24).drop 24).drop 24).drop 24), List.all_append, w_t5, ← List.take_append_drop 24 (((((words1.drop 24).drop 24).drop 24).drop 24).drop 24), List.all_append, w_t6, ← List.take_append_drop 24 ((((((words1.drop 24).drop 24).drop 24).drop 24).drop 24).drop 24), List.all_append, w_t7, ← List.take_append_drop 24 (((((((words1.drop 24).drop 24).drop 24).drop 24).drop 24).drop 24).drop 24), List.all_append, w_t8, w_t9]
  rfl
set_option maxRecDepth 65536 in
theorem w_rest : rest_1_c.before args0 about1 = true := by decide +kernel
set_option maxRecDepth 65536 in
theorem w_case : (Jvm.Cond.and given_1 narrow_1).before args0 about1 = true := by decide +kernel
theorem w_applies : (headSpec (Jvm.Cond.code x code maxLocals ret :: tables_1) room_1).applies x e0.platform about1 = true :=
  (Spec.applies_iff w_frames).mpr ⟨w_running, w_runnable, w_alone, w_named, w_hears, w_ripe, w_room, w_tables⟩
theorem atStart : AtStart classFile x code maxLocals ret World_1 tables_1 room_1 Calls_1 rest_1 Pre_1 launch0 p0 e0 about1 theMethod args0 below0 :=
  ⟨lists_1, trivial, launch0.admits_env _ _ _, launch0.least_env, fairChoices_fair.cas, fairChoices_fair.clock, w_frames, w_args, w_heap, w_applies, trivial, w_rest, w_case⟩
end start1
theorem witness_1 : WitnessClaimed_1 := ⟨start1.p0, start1.e0, start1.about1, start1.theMethod, start1.args0, start1.below0, start1.atStart⟩
end Jvm.Pilot.@@N@@
