import JvmDerived
import JvmDerived.Pilot.@@N@@Statement
import JvmDerived.Pilot.@@N@@Code
set_option linter.unusedVariables false
set_option linter.unusedSimpArgs false
/- laws to paste: StrChars.chr8_lo8 (cut by pick.py; bodies as the Statement names them) -/
namespace Jvm.Pilot.@@N@@
namespace StrChars
open Jvm Sem ClassFile Op Lib Jvm.Stand Jvm.Free.XT Jvm.Free.ALB Jvm.Free.JM Jvm.Free
open Jvm.Lib.Cold (StaticIs)
/-- the byte that i2b leaves of a char -/
def lo8 (x : Int32) : Int32 := x.toInt8.toInt32
/-- the byte, read back as charAt reads it, is the char -/
theorem lo8_mask {x : Int32} (h0 : ¬ x < 0) (h1 : ¬ 255 < x) : lo8 x &&& 255 = x := by
  have t : ∀ k : Fin 256, lo8 (Int32.ofNat k.val) &&& 255 = Int32.ofNat k.val := by decide +kernel
  rw [Int32.lt_iff_toInt_lt] at h0 h1
  have e0 : (0 : Int32).toInt = 0 := rfl
  have e1 : (255 : Int32).toInt = 255 := rfl
  obtain ⟨k, hk⟩ : ∃ k : Nat, x.toInt = k := ⟨x.toInt.toNat, by omega⟩
  have hx : x = Int32.ofNat k := Int32.toInt_inj.mp (by rw [hk, Int32.toInt_ofNat_small (by omega)])
  rw [hx]
  exact t ⟨k, by omega⟩
end StrChars
namespace StrChars
open Jvm Sem ClassFile Op Lib Jvm.Stand Jvm.Free.XT Jvm.Free.ALB Jvm.Free.JM Jvm.Free
open Jvm.Lib.Cold (StaticIs)
/-- charAt's cast of a byte read back -/
def chr8 (u : Int32) : Int32 := (u &&& 255).toUInt32.toUInt16.toUInt32.toInt32
theorem chr8_lo8 {c : Int32} (h0 : ¬ c < 0) (h1 : ¬ 255 < c) : chr8 (lo8 c) = c := by
  have t : ∀ k : Fin 256, (Int32.ofNat k.val).toUInt32.toUInt16.toUInt32.toInt32 = Int32.ofNat k.val := by decide +kernel
  unfold chr8
  rw [lo8_mask h0 h1]
  rw [Int32.lt_iff_toInt_lt] at h0 h1
  have e0 : (0 : Int32).toInt = 0 := rfl
  have e1 : (255 : Int32).toInt = 255 := rfl
  obtain ⟨k, hk⟩ : ∃ k : Nat, c.toInt = k := ⟨c.toInt.toNat, by omega⟩
  have hx : c = Int32.ofNat k := Int32.toInt_inj.mp (by rw [hk, Int32.toInt_ofNat_small (by omega)])
  rw [hx]
  exact t ⟨k, by omega⟩
end StrChars
end Jvm.Pilot.@@N@@
namespace Jvm.Pilot.@@N@@
open Jvm Jvm.ClassFile Sem Op Lib Jvm.Free Jvm.Stand Jvm.LawKit Jvm.RoadKit Bundle Jvm.Pilot.@@N@@.Jvm.D
section OwnKit
variable {p : Program} {l : Launch} {e : Env} {R : Room} {s : State} {m : MethodId} {args : Array Value} {below : List Frame} {meth : Method} {c : Code} {T T' : State} {locs : List Loc} {cells slots : Nat} {Z : State} {a0 : Array Value} {h : Heap}
def own_Fin (p : Program) (e : Env) (below : List Frame) (P : Outcome → State → Prop) (T : State) (g : JFrame) : Prop :=
  ∃ s₂ o, Steps p.tables e below (T.setTop g) s₂ ∧ s₂.status = .running ∧ Ended s₂ below o ∧ P o s₂
def own_P (s : State) (Q : Option Value → Heap → List Loc → Prop) (k n : Nat) (o : Outcome) (t : State) : Prop := ∃ v L, o = .returned v ∧ Q v t.heap L ∧ FrameEnd s o t L k n
theorem own_by {P : Outcome → State → Prop} {g g' : JFrame} (st : ∀ t, Steps p.tables e below (T'.setTop g') t → Steps p.tables e below (T.setTop g) t) (k : own_Fin p e below P T' g') : own_Fin p e below P T g := by
  obtain ⟨s₂, o, h1, h2⟩ := k
  exact ⟨s₂, o, st _ h1, h2⟩
theorem own_start {s₁ : State} {Q : Option Value → Heap → List Loc → Prop} {k n : Nat} {ml : Nat} {g : JFrame} (hef : entryFrame m args ml = g) (hk : own_Fin p e below (own_P s Q k n) s₁ g) :
    ∃ s₂ o, Steps p.tables e below (s₁.setTop (entryFrame m args ml)) s₂ ∧ s₂.status = .running ∧ Ended s₂ below o ∧ ∃ v L, o = .returned v ∧ Q v s₂.heap L ∧ FrameEnd s o s₂ L k n := by
  rw [hef]; exact hk
theorem own_end (X : Stand p l e R s m args below meth c T locs cells slots) {v : Option Value} (hv : meth.sig.returnType = none → v = none) (hlocks : meth.locks = false) {g : JFrame}
    (hret : ∀ {fs : List Frame}, (∀ (f : JFrame) (acts : List Action), f.method = m → f.locked = none → f.entered = [] → (doReturn e (T.setTop f) acts v).1 = T.setFrames fs) → Steps p.tables e below (T.setTop g) (T.setFrames fs))
    {Q : Option Value → Heap → List Loc → Prop} {k n : Nat} (hQ : Q v T.heap locs) (hk : cells ≤ k) (hn : slots ≤ n) : own_Fin p e below (own_P s Q k n) T g := by
  obtain ⟨fs, hr, hrun, hended, hW, hsame⟩ := X.leave hv hlocks
  exact ⟨_, _, hret hr, hrun, hended, _, _, rfl, hQ, ⟨_, rfl⟩, hW, hsame.mono hk hn⟩
theorem own_nf {C : String} {y : MethodName} (w : (Jvm.Cond.selects C y y).before a0 Z = true) : ∀ {s : State}, Z.Warmed39 s.vm → NotFace s y := fun hZ => notFace_of_selects (args := #[]) (mvT hZ w)
theorem own_callSB (X : Stand p l e R s m args below meth c T locs cells slots) (hx : p.tables.exec = Jvm.exec) (hZ : Z.Warmed39 s.vm) {own : String} {index : Nat} {y : MethodName} {bytes : ByteArray} {maxL W : Nat} {ret : Option FieldType} {kc ks : Nat} {as' : Array Value} {Q : Option Value → Heap → List Loc → Prop}
    (hown : s.vm.findClass own = some m.cls) (w1 : (Jvm.Cond.methodLink own index y).before a0 Z = true) (w2 : (Jvm.Cond.static y).before a0 Z = true) (w3 : (Jvm.Cond.initialized y.cls).before a0 Z = true) (w4 : (Jvm.Cond.code y bytes maxL ret).before a0 Z = true) (hy : y.cls ≠ "java/lang/invoke/MethodHandle" ∧ y.cls ≠ "java/lang/invoke/VarHandle")
    (hK : Back l R p e below s args y 3 W (fun A a => a = as' ∧ A.U.heap = h ∧ A.cells + kc ≤ R.cells ∧ A.slots + ks ≤ R.slots) (fun A _ v B => ∃ L, Q v B.U.heap L ∧ B.locs = A.locs ++ L ∧ B.cells = A.cells + kc ∧ B.slots = A.slots + ks))
    (eT : T.heap = h) {g : JFrame} (hg : g.method = m) (hsize : g.locals.size = c.maxLocals) {argsL rest : List Value} (hlen : ∀ sig, parseMethodDescriptor y.desc = some sig → argsL.length = sig.parameters.length)
    (hstack : g.stack = argsL.reverse ++ rest) (hW : 2 * g.monitorRoom + (rest.map fun v => v.category).sum ≤ W) (hdg : decode c.code g.pc = .ok (.invokestatic index, 3)) (has : argsL.toArray = as') (hc : cells + kc ≤ R.cells) (hs : slots + ks ≤ R.slots) {P : Outcome → State → Prop}
    (k : ∀ (v : Option Value) (T' : State) (L : List Loc), Stand p l e R s m args below meth c T' (locs ++ L) (cells + kc) (slots + ks) → Q v T'.heap L → own_Fin p e below P T' { g with pc := g.pc + 3, stack := v.toList ++ rest }) : own_Fin p e below P T g := by
  obtain ⟨v, _, ⟨U', L', k', n'⟩, -, X', ⟨Lc, hQ, l1, l2, l3⟩, st⟩ := Jvm.LawKit.callS X hx (y := y) hown (mvT hZ w1) (mvT hZ w2) (mvT hZ w3) (mvT hZ w4) hy hK hg hsize hlen hstack hW hdg (fun _ _ => ⟨has, eT, hc, hs⟩)
  dsimp only [Pt.U, Pt.locs, Pt.cells, Pt.slots] at X' l1 l2 l3 st hQ
  subst l1 l2 l3
  exact own_by st (k v U' Lc X' hQ)
theorem own_callS (X : Stand p l e R s m args below meth c T locs cells slots) (hx : p.tables.exec = Jvm.exec) (hZ : Z.Warmed39 s.vm) {own : String} {index : Nat} {y : MethodName} {bytes : ByteArray} {maxL W : Nat} {ret : Option FieldType} {rm : Room} {as' : Array Value} {Q : Option Value → Heap → List Loc → Prop}
    (hown : s.vm.findClass own = some m.cls) (w1 : (Jvm.Cond.methodLink own index y).before a0 Z = true) (w2 : (Jvm.Cond.static y).before a0 Z = true) (w3 : (Jvm.Cond.initialized y.cls).before a0 Z = true) (w4 : (Jvm.Cond.code y bytes maxL ret).before a0 Z = true) (hy : y.cls ≠ "java/lang/invoke/MethodHandle" ∧ y.cls ≠ "java/lang/invoke/VarHandle")
    (hM : MetFree l y (head1 [Jvm.Cond.code y bytes maxL ret] rm) (fun a U => a = as' ∧ Z.Warmed39 U.vm ∧ U.heap = h) (fun _ _ _ _ _ => True) (fun _ U o U' => ∃ v L, o = .returned v ∧ Q v U'.heap L ∧ FrameEnd U o U' L rm.cells rm.slots))
    (hf : rm.frames + 1 ≤ R.frames) (hl : W + (maxL + 11) + rm.locals ≤ R.locals) (eT : T.heap = h) {g : JFrame} (hg : g.method = m) (hsize : g.locals.size = c.maxLocals) {argsL rest : List Value} (hlen : ∀ sig, parseMethodDescriptor y.desc = some sig → argsL.length = sig.parameters.length)
    (hstack : g.stack = argsL.reverse ++ rest) (hW : 2 * g.monitorRoom + (rest.map fun v => v.category).sum ≤ W) (hdg : decode c.code g.pc = .ok (.invokestatic index, 3)) (has : argsL.toArray = as') (hc : cells + rm.cells ≤ R.cells) (hs : slots + rm.slots ≤ R.slots) {P : Outcome → State → Prop}
    (k : ∀ (v : Option Value) (T' : State) (L : List Loc), Stand p l e R s m args below meth c T' (locs ++ L) (cells + rm.cells) (slots + rm.slots) → Q v T'.heap L → own_Fin p e below P T' { g with pc := g.pc + 3, stack := v.toList ++ rest }) : own_Fin p e below P T g :=
  own_callSB X hx hZ hown w1 w2 w3 w4 hy (backOf (W := W) hM hZ w4 w3 hf hl) eT hg hsize hlen hstack hW hdg has hc hs k
theorem own_callIB (X : Stand p l e R s m args below meth c T locs cells slots) (hx : p.tables.exec = Jvm.exec) (hZ : Z.Warmed39 s.vm) {own : String} {index : Nat} {y : MethodName} {bytes : ByteArray} {maxL W : Nat} {kc ks : Nat} {as' : Array Value} {Q : Option Value → Heap → List Loc → Prop} (hin : y.name = "<init>")
    (hown : s.vm.findClass own = some m.cls) (w1 : (Jvm.Cond.methodLink own index y).before a0 Z = true) (w2 : (Jvm.Cond.instanceMethod y).before a0 Z = true) (w4 : (Jvm.Cond.code y bytes maxL none).before a0 Z = true) (hy : y.cls ≠ "java/lang/invoke/MethodHandle" ∧ y.cls ≠ "java/lang/invoke/VarHandle")
    (hK : Back l R p e below s args y 3 W (fun A a => a = as' ∧ A.U.heap = h ∧ A.cells + kc ≤ R.cells ∧ A.slots + ks ≤ R.slots) (fun A _ v B => ∃ L, Q v B.U.heap L ∧ B.locs = A.locs ++ L ∧ B.cells = A.cells + kc ∧ B.slots = A.slots + ks))
    (eT : T.heap = h) {g : JFrame} (hg : g.method = m) (hsize : g.locals.size = c.maxLocals) {a : Addr} {argsL rest : List Value} (hlen : ∀ sig, parseMethodDescriptor y.desc = some sig → argsL.length = sig.parameters.length)
    (hstack : g.stack = argsL.reverse ++ .ref a :: rest) (hW : 2 * g.monitorRoom + (rest.map fun v => v.category).sum ≤ W) (hdg : decode c.code g.pc = .ok (.invokespecial index, 3)) (has : (.ref a :: argsL).toArray = as') (hc : cells + kc ≤ R.cells) (hs : slots + ks ≤ R.slots) {P : Outcome → State → Prop}
    (k : ∀ (v : Option Value) (T' : State) (L : List Loc), Stand p l e R s m args below meth c T' (locs ++ L) (cells + kc) (slots + ks) → Q v T'.heap L → own_Fin p e below P T' { g with pc := g.pc + 3, stack := v.toList ++ rest }) : own_Fin p e below P T g := by
  obtain ⟨v, _, ⟨U', L', k', n'⟩, -, X', ⟨Lc, hQ, l1, l2, l3⟩, st⟩ := X.specialBack hx (y := y) hin hown (mvT hZ w1) (mvT hZ w2) (mvT hZ w4) hy hK hg hsize (Steps.refl _) (a := a) hlen hstack hW hdg (fun _ _ => ⟨has, eT, hc, hs⟩)
  dsimp only [Pt.U, Pt.locs, Pt.cells, Pt.slots] at X' l1 l2 l3 st hQ
  subst l1 l2 l3
  exact own_by (fun _ q => st.trans q) (k v U' Lc X' hQ)
theorem own_callI (X : Stand p l e R s m args below meth c T locs cells slots) (hx : p.tables.exec = Jvm.exec) (hZ : Z.Warmed39 s.vm) {own : String} {index : Nat} {y : MethodName} {bytes : ByteArray} {maxL W : Nat} {rm : Room} {as' : Array Value} {Q : Option Value → Heap → List Loc → Prop} (hin : y.name = "<init>")
    (hown : s.vm.findClass own = some m.cls) (w1 : (Jvm.Cond.methodLink own index y).before a0 Z = true) (w2 : (Jvm.Cond.instanceMethod y).before a0 Z = true) (w4 : (Jvm.Cond.code y bytes maxL none).before a0 Z = true) (w3 : (Jvm.Cond.initialized y.cls).before a0 Z = true) (hy : y.cls ≠ "java/lang/invoke/MethodHandle" ∧ y.cls ≠ "java/lang/invoke/VarHandle")
    (hM : MetFree l y (head1 [Jvm.Cond.code y bytes maxL none] rm) (fun a U => a = as' ∧ Z.Warmed39 U.vm ∧ U.heap = h) (fun _ _ _ _ _ => True) (fun _ U o U' => ∃ v L, o = .returned v ∧ Q v U'.heap L ∧ FrameEnd U o U' L rm.cells rm.slots))
    (hf : rm.frames + 1 ≤ R.frames) (hl : W + (maxL + 11) + rm.locals ≤ R.locals) (eT : T.heap = h) {g : JFrame} (hg : g.method = m) (hsize : g.locals.size = c.maxLocals) {a : Addr} {argsL rest : List Value} (hlen : ∀ sig, parseMethodDescriptor y.desc = some sig → argsL.length = sig.parameters.length)
    (hstack : g.stack = argsL.reverse ++ .ref a :: rest) (hW : 2 * g.monitorRoom + (rest.map fun v => v.category).sum ≤ W) (hdg : decode c.code g.pc = .ok (.invokespecial index, 3)) (has : (.ref a :: argsL).toArray = as') (hc : cells + rm.cells ≤ R.cells) (hs : slots + rm.slots ≤ R.slots) {P : Outcome → State → Prop}
    (k : ∀ (v : Option Value) (T' : State) (L : List Loc), Stand p l e R s m args below meth c T' (locs ++ L) (cells + rm.cells) (slots + rm.slots) → Q v T'.heap L → own_Fin p e below P T' { g with pc := g.pc + 3, stack := v.toList ++ rest }) : own_Fin p e below P T g :=
  own_callIB X hx hZ hin hown w1 w2 w4 hy (backOf (W := W) hM hZ w4 w3 hf hl) eT hg hsize hlen hstack hW hdg has hc hs k
theorem own_callVB (X : Stand p l e R s m args below meth c T locs cells slots) (hx : p.tables.exec = Jvm.exec) (hZ : Z.Warmed39 s.vm) {own C : String} {index : Nat} {y z : MethodName} {W : Nat} {kc ks : Nat} {as' : Array Value} {Q : Option Value → Heap → List Loc → Prop}
    (hown : s.vm.findClass own = some m.cls) (w1 : (Jvm.Cond.methodLink own index y).before a0 Z = true) (w2 : (Jvm.Cond.declares y).before a0 Z = true) (nf : ∀ {s : State}, Z.Warmed39 s.vm → NotFace s y) (w5 : (Jvm.Cond.selects C y z).before a0 Z = true) (w6 : (Jvm.Cond.instanceMethod z).before a0 Z = true) (hy : y.cls ≠ "java/lang/invoke/MethodHandle" ∧ y.cls ≠ "java/lang/invoke/VarHandle")
    {b : Addr} (E : Exa Z h b C)
    (hK : Back l R p e below s args z 3 W (fun A a => a = as' ∧ A.U.heap = h ∧ A.cells + kc ≤ R.cells ∧ A.slots + ks ≤ R.slots) (fun A _ v B => ∃ L, Q v B.U.heap L ∧ B.locs = A.locs ++ L ∧ B.cells = A.cells + kc ∧ B.slots = A.slots + ks))
    (eT : T.heap = h) {g : JFrame} (hg : g.method = m) (hsize : g.locals.size = c.maxLocals) {argsL rest : List Value} (hlen : ∀ sig, parseMethodDescriptor y.desc = some sig → argsL.length = sig.parameters.length)
    (hstack : g.stack = argsL.reverse ++ .ref b :: rest) (hW : 2 * g.monitorRoom + (rest.map fun v => v.category).sum ≤ W) (hdg : decode c.code g.pc = .ok (.invokevirtual index, 3)) (has : (.ref b :: argsL).toArray = as') (hc : cells + kc ≤ R.cells) (hs : slots + ks ≤ R.slots) {P : Outcome → State → Prop}
    (k : ∀ (v : Option Value) (T' : State) (L : List Loc), Stand p l e R s m args below meth c T' (locs ++ L) (cells + kc) (slots + ks) → Q v T'.heap L → own_Fin p e below P T' { g with pc := g.pc + 3, stack := v.toList ++ rest }) : own_Fin p e below P T g := by
  obtain ⟨cq, kq, qa, qb, qc⟩ := isOf hZ eT E
  obtain ⟨v, _, ⟨U', L', k', n'⟩, -, X', ⟨Lc, hQ, l1, l2, l3⟩, st⟩ := X.virtualBack hx (y := y) (z := z) hown (mvT hZ w1) (mvT hZ w2) (nf hZ) (mvT hZ w5) (mvT hZ w6) hy hK qa qc hg hsize (Steps.refl _) hlen hstack hW hdg (fun _ _ => ⟨has, eT, hc, hs⟩)
  dsimp only [Pt.U, Pt.locs, Pt.cells, Pt.slots] at X' l1 l2 l3 st hQ
  subst l1 l2 l3
  exact own_by (fun _ q => st.trans q) (k v U' Lc X' hQ)
theorem own_callV (X : Stand p l e R s m args below meth c T locs cells slots) (hx : p.tables.exec = Jvm.exec) (hZ : Z.Warmed39 s.vm) {own C : String} {index : Nat} {y z : MethodName} {bytes : ByteArray} {maxL W : Nat} {ret : Option FieldType} {rm : Room} {as' : Array Value} {Q : Option Value → Heap → List Loc → Prop}
    (hown : s.vm.findClass own = some m.cls) (w1 : (Jvm.Cond.methodLink own index y).before a0 Z = true) (w2 : (Jvm.Cond.declares y).before a0 Z = true) (nf : ∀ {s : State}, Z.Warmed39 s.vm → NotFace s y) (w5 : (Jvm.Cond.selects C y z).before a0 Z = true) (w6 : (Jvm.Cond.instanceMethod z).before a0 Z = true) (w4 : (Jvm.Cond.code z bytes maxL ret).before a0 Z = true) (w3 : (Jvm.Cond.initialized z.cls).before a0 Z = true) (hy : y.cls ≠ "java/lang/invoke/MethodHandle" ∧ y.cls ≠ "java/lang/invoke/VarHandle")
    {b : Addr} (E : Exa Z h b C)
    (hM : MetFree l z (head1 [Jvm.Cond.code z bytes maxL ret] rm) (fun a U => a = as' ∧ Z.Warmed39 U.vm ∧ U.heap = h) (fun _ _ _ _ _ => True) (fun _ U o U' => ∃ v L, o = .returned v ∧ Q v U'.heap L ∧ FrameEnd U o U' L rm.cells rm.slots))
    (hf : rm.frames + 1 ≤ R.frames) (hl : W + (maxL + 11) + rm.locals ≤ R.locals) (eT : T.heap = h) {g : JFrame} (hg : g.method = m) (hsize : g.locals.size = c.maxLocals) {argsL rest : List Value} (hlen : ∀ sig, parseMethodDescriptor y.desc = some sig → argsL.length = sig.parameters.length)
    (hstack : g.stack = argsL.reverse ++ .ref b :: rest) (hW : 2 * g.monitorRoom + (rest.map fun v => v.category).sum ≤ W) (hdg : decode c.code g.pc = .ok (.invokevirtual index, 3)) (has : (.ref b :: argsL).toArray = as') (hc : cells + rm.cells ≤ R.cells) (hs : slots + rm.slots ≤ R.slots) {P : Outcome → State → Prop}
    (k : ∀ (v : Option Value) (T' : State) (L : List Loc), Stand p l e R s m args below meth c T' (locs ++ L) (cells + rm.cells) (slots + rm.slots) → Q v T'.heap L → own_Fin p e below P T' { g with pc := g.pc + 3, stack := v.toList ++ rest }) : own_Fin p e below P T g :=
  own_callVB X hx hZ hown w1 w2 nf w5 w6 hy E (backOf (W := W) hM hZ w4 w3 hf hl) eT hg hsize hlen hstack hW hdg has hc hs k
theorem own_narR {t : FieldType} {w : Value} (ht : t.isReference = true) : narrow t w = w := by cases t <;> first | rfl | (cases ht)
theorem own_fldI {t : Term} {C n d : String} {k : Int32} {a : Addr} (hv : (Jvm.Cond.eq (.field t C n d) (.int k)).value args s none s [] = some true) (ht : t.eval args s none [] s = some (.ref a)) : Fld s s.heap a C n d (.int k) := by
  obtain ⟨x, y, e1, e2, k1, k2⟩ := cmp_v (Or.inl hv)
  rw [Term.int_eval] at e2
  cases e2
  obtain ⟨z, rfl⟩ := k2
  have q : z = k := by simpa [Jvm.Cond.value, e1, Term.int_eval] using hv
  rw [fld_at ht] at e1
  exact Fld.start (q ▸ e1)
theorem own_clash {x y z : Int32} (h : x = y) (n : ¬ y = z) : ¬ x = z := fun q => n (h.symm.trans q)
theorem own_rem (x y : Int32) (n : Int) (hy : y.toInt = n) (hn : 0 < n) : 0 ≤ ((x &&& (2147483647 : Int32)) % y).toInt ∧ ((x &&& (2147483647 : Int32)) % y).toInt < n := by
  have h0 := c_and x 2147483647 (by decide)
  have h1 := (c_irem (x &&& 2147483647) y n hy).1 h0.1
  rw [h1]
  exact ⟨Int.emod_nonneg _ (by omega), Int.emod_lt_of_pos _ hn⟩
theorem own_eqI {x y : Int32} (h : x.toInt = y.toInt) : x = y := Int32.toInt_inj.mp h
theorem own_neI {x y : Int32} (h : ¬ x = y) : x.toInt ≠ y.toInt := fun q => h (Int32.toInt_inj.mp q)
theorem own_fitsR {t : FieldType} {v : Value} (ht : t.isReference = true) (hv : v.isRef = true) : fits t v = true := by
  rcases ref_cases hv with rfl | ⟨a, rfl⟩ <;> cases t <;> first | rfl | (cases ht)
theorem own_cat {v : Value} (hv : v.isRef = true) : v.category = 1 := by
  rcases ref_cases hv with rfl | ⟨a, rfl⟩ <;> rfl
theorem own_store1 {L : Array Slot} {i : Nat} {v : Value} {o : Slot} {L' : Array Slot} (hold : L[i]? = some o) (ho : One o) (hv : v.category = 1) (e : L.setIfInBounds i (.val v) = L') : storeLocals L i v = some L' := by
  rw [← e]; exact XS.store1 hold ho hv
theorem own_h {Z : State} {a0 : Array Value} (hw : ∀ d ∈ tables_1, d.before a0 Z = true) (i : Nat) {d : Jvm.Cond} (h : tables_1[i]? = some d) : d.before a0 Z = true := hw d (List.mem_of_getElem? h)
end OwnKit
abbrev own_y1 : MethodName := ⟨"com/example/rowtide/rowtide/event/Row", "isNull", "(I)Z"⟩
abbrev own_y2 : MethodName := ⟨"com/example/rowtide/rowtide/event/Row", "isUnavailable", "(I)Z"⟩
abbrev own_y3 : MethodName := ⟨"com/example/rowtide/rowtide/event/Row", "setText", "(ILjava/lang/String;)V"⟩
abbrev own_y4 : MethodName := ⟨"com/example/rowtide/rowtide/event/Row", "setUnavailable", "(I)V"⟩
abbrev own_y5 : MethodName := ⟨"com/example/rowtide/rowtide/event/Row", "setUtf8", "(I[BII)V"⟩
abbrev own_y6 : MethodName := ⟨"com/example/rowtide/rowtide/event/Row", "text", "(I)Ljava/lang/String;"⟩
abbrev own_y7 : MethodName := ⟨"com/example/rowtide/rowtide/event/Row", "utf8", "(I)[B"⟩
abbrev own_y8 : MethodName := ⟨"com/example/rowtide/rowtide/event/Row", "utf8Length", "(I)I"⟩
abbrev own_y9 : MethodName := ⟨"com/example/rowtide/rowtide/event/Row", "utf8Offset", "(I)I"⟩
abbrev own_y10 : MethodName := ⟨"com/example/rowtide/rowtide/event/RowSetUtf8PinLaw", "charOk", "(Ljava/lang/String;II[BI)Z"⟩
abbrev own_y13 : MethodName := ⟨"java/lang/String", "<init>", "([BIILjava/nio/charset/Charset;)V"⟩
abbrev own_y14 : MethodName := ⟨"java/lang/String", "charAt", "(I)C"⟩
abbrev own_y16 : MethodName := ⟨"java/lang/String", "checkIndex", "(II)V"⟩
abbrev own_y17 : MethodName := ⟨"java/lang/String", "coder", "()B"⟩
abbrev own_y18 : MethodName := ⟨"java/lang/String", "isLatin1", "()Z"⟩
abbrev own_y19 : MethodName := ⟨"java/lang/String", "length", "()I"⟩
abbrev own_y20 : MethodName := ⟨"java/lang/String", "valueOf", "(C)Ljava/lang/String;"⟩
abbrev own_y22 : MethodName := ⟨"java/lang/StringLatin1", "charAt", "([BI)C"⟩
abbrev own_y26 : MethodName := ⟨"jdk/internal/util/Preconditions", "checkIndex", "(IILjava/util/function/BiFunction;)I"⟩
theorem own_g {p : Program} {e : Env} {below : List Frame} {T : State} {P : Outcome → State → Prop} {g : JFrame} (g' : JFrame) (st : ∀ t, Steps p.tables e below (T.setTop g') t → Steps p.tables e below (T.setTop g) t) (k : own_Fin p e below P T g') : own_Fin p e below P T g := own_by st k
abbrev own_A0 (Z : State) (zCS : Int32) : Prop := Sta Z Z.heap "java/lang/String" "COMPACT_STRINGS" "Z" (.int zCS)
abbrev own_A1 (Z : State) (cs : Addr) : Prop := Sta Z Z.heap "java/nio/charset/StandardCharsets" "UTF_8" "Ljava/nio/charset/Charset;" (.ref cs)
abbrev own_A2 (Z : State) (fm : Value) : Prop := Sta Z Z.heap "jdk/internal/util/Preconditions" "SIOOBE_FORMATTER" "Ljava/util/function/BiFunction;" fm
abbrev own_A3 (Z : State) (cs : Addr) : Prop := Sta Z Z.heap "sun/nio/cs/UTF_8" "INSTANCE" "Lsun/nio/cs/UTF_8;" (.ref cs)
section OwnKitW
variable {p : Program} {l : Launch} {e : Env} {R : Room} {s : State} {m : MethodId} {args : Array Value} {below : List Frame} {meth : Method} {c : Code} {T T' : State} {locs : List Loc} {cells slots : Nat} {Z : State} {a0 : Array Value} {h : Heap} {vm0 : Vm} {EL : List (String × Nat)}
def own_PW (Z : State) (EL : List (String × Nat)) (s : State) (Q : Option Value → Heap → List Loc → Prop) (k n : Nat) (o : Outcome) (t : State) : Prop := ∃ v L, o = .returned v ∧ Q v t.heap L ∧ CHr Z EL s.vm s.heap t.vm t.heap ∧ ReturnedEndW s o t L k n
theorem own_startW {s₁ : State} {Q : Option Value → Heap → List Loc → Prop} {k n : Nat} {ml : Nat} {g : JFrame} (hef : entryFrame m args ml = g) (hk : own_Fin p e below (own_PW Z EL s Q k n) s₁ g) :
    ∃ s₂ o, Steps p.tables e below (s₁.setTop (entryFrame m args ml)) s₂ ∧ s₂.status = .running ∧ Ended s₂ below o ∧ ∃ v L, o = .returned v ∧ Q v s₂.heap L ∧ CHr Z EL s.vm s.heap s₂.vm s₂.heap ∧ ReturnedEndW s o s₂ L k n := by
  rw [hef]; exact hk
theorem own_endW (X : Stand p l e R (s.setVm vm0) m args below meth c T locs cells slots) {k0 : Nat} (hS : s.Since vm0 k0) (hk0 : k0 ≤ T.heap.size) (hZ : Z.Warmed39 vm0) (hEL : EW Z a0 EL) (C : CHr Z EL s.vm s.heap vm0 T.heap) {v : Option Value} (hv : meth.sig.returnType = none → v = none) (hlocks : meth.locks = false) {g : JFrame}
    (hret : ∀ {fs : List Frame}, (∀ (f : JFrame) (acts : List Action), f.method = m → f.locked = none → f.entered = [] → (doReturn e (T.setTop f) acts v).1 = T.setFrames fs) → Steps p.tables e below (T.setTop g) (T.setFrames fs))
    {Q : Option Value → Heap → List Loc → Prop} {k n : Nat} (hQ : Q v T.heap locs) (hk : cells ≤ k) (hn : slots ≤ n) : own_Fin p e below (own_PW Z EL s Q k n) T g := by
  obtain ⟨fs, hr, hrun, hended, hW⟩ := X.leaveW hS hk0 hv hlocks
  have C2 : CHr Z EL s.vm s.heap T.vm T.heap := C.trans (CHv.at X hZ hEL C.1)
  exact ⟨_, _, hret hr, hrun, hended, _, _, rfl, hQ, C2, hW.1, hW.2.1, hW.2.2.1, hW.2.2.2.mono hk hn⟩
theorem own_callSW (X : Stand p l e R (s.setVm vm0) m args below meth c T locs cells slots) (hx : p.tables.exec = Jvm.exec) (hZ : Z.Warmed39 vm0) {own : String} {index : Nat} {y : MethodName} {bytes : ByteArray} {maxL W : Nat} {ret : Option FieldType} {rm : Room} {as' : Array Value} {Q : Option Value → Heap → List Loc → Prop}
    (hown : vm0.findClass own = some m.cls) (w1 : (Jvm.Cond.methodLink own index y).before a0 Z = true) (w2 : (Jvm.Cond.static y).before a0 Z = true) (w3 : (Jvm.Cond.initialized y.cls).before a0 Z = true) (w4 : (Jvm.Cond.code y bytes maxL ret).before a0 Z = true) (hy : y.cls ≠ "java/lang/invoke/MethodHandle" ∧ y.cls ≠ "java/lang/invoke/VarHandle")
    {k0 : Nat} (hS : s.Since vm0 k0) (hk0 : k0 ≤ h.size) (hEL : EW Z a0 EL) (H : CHv Z EL vm0 h)
    (hM : MetFree l y (head1 [Jvm.Cond.code y bytes maxL ret] rm) (fun a U => a = as' ∧ Z.Warmed39 U.vm ∧ U.heap = h ∧ CHv Z EL U.vm h) (fun _ _ _ _ _ => True) (fun _ U o U' => ∃ v L, o = .returned v ∧ Q v U'.heap L ∧ CHr Z EL U.vm U.heap U'.vm U'.heap ∧ ReturnedEndW U o U' L rm.cells rm.slots))
    (hf : rm.frames + 1 ≤ R.frames) (hl : W + (maxL + 11) + rm.locals ≤ R.locals) (eT : T.heap = h) {g : JFrame} (hg : g.method = m) (hsize : g.locals.size = c.maxLocals) {argsL rest : List Value} (hlen : ∀ sig, parseMethodDescriptor y.desc = some sig → argsL.length = sig.parameters.length)
    (hstack : g.stack = argsL.reverse ++ rest) (hW : 2 * g.monitorRoom + (rest.map fun v => v.category).sum ≤ W) (hdg : decode c.code g.pc = .ok (.invokestatic index, 3)) (has : argsL.toArray = as') (hc : cells + rm.cells ≤ R.cells) (hs : slots + rm.slots ≤ R.slots) {P : Outcome → State → Prop}
    (k : ∀ (v : Option Value) (T' : State) (L : List Loc), Stand p l e R (s.setVm T'.vm) m args below meth c T' (locs ++ L) (cells + rm.cells) (slots + rm.slots) → s.Since T'.vm T'.heap.size → Z.Warmed39 T'.vm → T'.vm.findClass own = some m.cls → CHr Z EL vm0 h T'.vm T'.heap → Q v T'.heap L → own_Fin p e below P T' { g with pc := g.pc + 3, stack := v.toList ++ rest }) : own_Fin p e below P T g := by
  obtain ⟨v, _, ⟨U', L', k', n'⟩, -, X', hS2, hgr, ⟨Lc, hQ, l1, l2, l3, hC⟩, st⟩ := callSS X hx (y := y) hown (mvT (s := s.setVm vm0) hZ w1) (mvT (s := s.setVm vm0) hZ w2) (mvT (s := s.setVm vm0) hZ w3) (mvT (s := s.setVm vm0) hZ w4) hy (backOfSH (W := W) hM hZ w4 w3 hf hl hEL H) hg hsize hlen hstack hW hdg (fun _ _ => ⟨has, eT, hc, hs⟩)
  dsimp only [Pt.U, Pt.locs, Pt.cells, Pt.slots] at X' l1 l2 l3 st hQ hC hS2 hgr
  subst l1 l2 l3
  exact own_by (fun _ q => st.trans q) (k v U' Lc X' (foldS hS (by rw [eT]; exact hk0) hS2 hgr) (State.Warmed39.trans (t := s.setVm vm0) hZ hS2.1) (by rw [hS2.1.alike.findClass]; exact hown) hC hQ)
theorem own_callIW (X : Stand p l e R (s.setVm vm0) m args below meth c T locs cells slots) (hx : p.tables.exec = Jvm.exec) (hZ : Z.Warmed39 vm0) {own : String} {index : Nat} {y : MethodName} {bytes : ByteArray} {maxL W : Nat} {rm : Room} {as' : Array Value} {Q : Option Value → Heap → List Loc → Prop} (hin : y.name = "<init>")
    (hown : vm0.findClass own = some m.cls) (w1 : (Jvm.Cond.methodLink own index y).before a0 Z = true) (w2 : (Jvm.Cond.instanceMethod y).before a0 Z = true) (w4 : (Jvm.Cond.code y bytes maxL none).before a0 Z = true) (w3 : (Jvm.Cond.initialized y.cls).before a0 Z = true) (hy : y.cls ≠ "java/lang/invoke/MethodHandle" ∧ y.cls ≠ "java/lang/invoke/VarHandle")
    {k0 : Nat} (hS : s.Since vm0 k0) (hk0 : k0 ≤ h.size) (hEL : EW Z a0 EL) (H : CHv Z EL vm0 h)
    (hM : MetFree l y (head1 [Jvm.Cond.code y bytes maxL none] rm) (fun a U => a = as' ∧ Z.Warmed39 U.vm ∧ U.heap = h ∧ CHv Z EL U.vm h) (fun _ _ _ _ _ => True) (fun _ U o U' => ∃ v L, o = .returned v ∧ Q v U'.heap L ∧ CHr Z EL U.vm U.heap U'.vm U'.heap ∧ ReturnedEndW U o U' L rm.cells rm.slots))
    (hf : rm.frames + 1 ≤ R.frames) (hl : W + (maxL + 11) + rm.locals ≤ R.locals) (eT : T.heap = h) {g : JFrame} (hg : g.method = m) (hsize : g.locals.size = c.maxLocals) {a : Addr} {argsL rest : List Value} (hlen : ∀ sig, parseMethodDescriptor y.desc = some sig → argsL.length = sig.parameters.length)
    (hstack : g.stack = argsL.reverse ++ .ref a :: rest) (hW : 2 * g.monitorRoom + (rest.map fun v => v.category).sum ≤ W) (hdg : decode c.code g.pc = .ok (.invokespecial index, 3)) (has : (.ref a :: argsL).toArray = as') (hc : cells + rm.cells ≤ R.cells) (hs : slots + rm.slots ≤ R.slots) {P : Outcome → State → Prop}
    (k : ∀ (v : Option Value) (T' : State) (L : List Loc), Stand p l e R (s.setVm T'.vm) m args below meth c T' (locs ++ L) (cells + rm.cells) (slots + rm.slots) → s.Since T'.vm T'.heap.size → Z.Warmed39 T'.vm → T'.vm.findClass own = some m.cls → CHr Z EL vm0 h T'.vm T'.heap → Q v T'.heap L → own_Fin p e below P T' { g with pc := g.pc + 3, stack := v.toList ++ rest }) : own_Fin p e below P T g := by
  obtain ⟨v, _, ⟨U', L', k', n'⟩, -, X', hS2, hgr, ⟨Lc, hQ, l1, l2, l3, hC⟩, st⟩ := X.specialBackS hx (y := y) hin hown (mvT (s := s.setVm vm0) hZ w1) (mvT (s := s.setVm vm0) hZ w2) (mvT (s := s.setVm vm0) hZ w4) hy (backOfSH (W := W) hM hZ w4 w3 hf hl hEL H) hg hsize (Steps.refl _) (a := a) hlen hstack hW hdg (fun _ _ => ⟨has, eT, hc, hs⟩)
  dsimp only [Pt.U, Pt.locs, Pt.cells, Pt.slots] at X' l1 l2 l3 st hQ hC hS2 hgr
  subst l1 l2 l3
  exact own_by (fun _ q => st.trans q) (k v U' Lc X' (foldS hS (by rw [eT]; exact hk0) hS2 hgr) (State.Warmed39.trans (t := s.setVm vm0) hZ hS2.1) (by rw [hS2.1.alike.findClass]; exact hown) hC hQ)
theorem own_callVW (X : Stand p l e R (s.setVm vm0) m args below meth c T locs cells slots) (hx : p.tables.exec = Jvm.exec) (hZ : Z.Warmed39 vm0) {own C : String} {index : Nat} {y z : MethodName} {bytes : ByteArray} {maxL W : Nat} {ret : Option FieldType} {rm : Room} {as' : Array Value} {Q : Option Value → Heap → List Loc → Prop}
    (hown : vm0.findClass own = some m.cls) (w1 : (Jvm.Cond.methodLink own index y).before a0 Z = true) (w2 : (Jvm.Cond.declares y).before a0 Z = true) (nf : ∀ {s : State}, Z.Warmed39 s.vm → NotFace s y) (w5 : (Jvm.Cond.selects C y z).before a0 Z = true) (w6 : (Jvm.Cond.instanceMethod z).before a0 Z = true) (w4 : (Jvm.Cond.code z bytes maxL ret).before a0 Z = true) (w3 : (Jvm.Cond.initialized z.cls).before a0 Z = true) (hy : y.cls ≠ "java/lang/invoke/MethodHandle" ∧ y.cls ≠ "java/lang/invoke/VarHandle")
    {b : Addr} (E : Exa Z h b C) {k0 : Nat} (hS : s.Since vm0 k0) (hk0 : k0 ≤ h.size) (hEL : EW Z a0 EL) (H : CHv Z EL vm0 h)
    (hM : MetFree l z (head1 [Jvm.Cond.code z bytes maxL ret] rm) (fun a U => a = as' ∧ Z.Warmed39 U.vm ∧ U.heap = h ∧ CHv Z EL U.vm h) (fun _ _ _ _ _ => True) (fun _ U o U' => ∃ v L, o = .returned v ∧ Q v U'.heap L ∧ CHr Z EL U.vm U.heap U'.vm U'.heap ∧ ReturnedEndW U o U' L rm.cells rm.slots))
    (hf : rm.frames + 1 ≤ R.frames) (hl : W + (maxL + 11) + rm.locals ≤ R.locals) (eT : T.heap = h) {g : JFrame} (hg : g.method = m) (hsize : g.locals.size = c.maxLocals) {argsL rest : List Value} (hlen : ∀ sig, parseMethodDescriptor y.desc = some sig → argsL.length = sig.parameters.length)
    (hstack : g.stack = argsL.reverse ++ .ref b :: rest) (hW : 2 * g.monitorRoom + (rest.map fun v => v.category).sum ≤ W) (hdg : decode c.code g.pc = .ok (.invokevirtual index, 3)) (has : (.ref b :: argsL).toArray = as') (hc : cells + rm.cells ≤ R.cells) (hs : slots + rm.slots ≤ R.slots) {P : Outcome → State → Prop}
    (k : ∀ (v : Option Value) (T' : State) (L : List Loc), Stand p l e R (s.setVm T'.vm) m args below meth c T' (locs ++ L) (cells + rm.cells) (slots + rm.slots) → s.Since T'.vm T'.heap.size → Z.Warmed39 T'.vm → T'.vm.findClass own = some m.cls → CHr Z EL vm0 h T'.vm T'.heap → Q v T'.heap L → own_Fin p e below P T' { g with pc := g.pc + 3, stack := v.toList ++ rest }) : own_Fin p e below P T g := by
  obtain ⟨cq, kq, qa, qb, qc⟩ := isOf (s := s.setVm vm0) hZ eT E
  obtain ⟨v, _, ⟨U', L', k', n'⟩, -, X', hS2, hgr, ⟨Lc, hQ, l1, l2, l3, hC⟩, st⟩ := X.virtualBackS hx (y := y) (z := z) hown (mvT (s := s.setVm vm0) hZ w1) (mvT (s := s.setVm vm0) hZ w2) (nf (s := s.setVm vm0) hZ) (mvT (s := s.setVm vm0) hZ w5) (mvT (s := s.setVm vm0) hZ w6) hy (backOfSH (W := W) hM hZ w4 w3 hf hl hEL H) qa qc hg hsize (Steps.refl _) hlen hstack hW hdg (fun _ _ => ⟨has, eT, hc, hs⟩)
  dsimp only [Pt.U, Pt.locs, Pt.cells, Pt.slots] at X' l1 l2 l3 st hQ hC hS2 hgr
  subst l1 l2 l3
  exact own_by (fun _ q => st.trans q) (k v U' Lc X' (foldS hS (by rw [eT]; exact hk0) hS2 hgr) (State.Warmed39.trans (t := s.setVm vm0) hZ hS2.1) (by rw [hS2.1.alike.findClass]; exact hown) hC hQ)
theorem own_safeNull {vm : Vm} {x : Addr} (hal : Z.vm.Alike vm) (E : Exa Z h x "java/lang/String") (F : Fld Z h x "java/lang/String" "value" "[B" .null) : Safe Z EL vm h x := fun B => by
  obtain ⟨p, -, u, a, -, q, -, G, rfl | rfl⟩ := B
  · obtain ⟨cell, cf, k, i, f, h1, h2, -, -, -, -, h7⟩ := F
    cases (show h[q.sa]? = some q.sC from G.ha).symm.trans h1
    obtain ⟨cS, ⟨⟨-, -, -, ⟨cv, kv, iv, s4, -⟩, -, -, -, s8, -⟩, -, -⟩, -⟩ := G
    obtain ⟨k', z4⟩ := ff_back (U := Wst Z vm h) hal s4
    cases h2.symm.trans z4
    rw [s8] at h7
    cases h7
  · obtain ⟨cell, k, e1, e2, e3, -, -⟩ := E
    cases (show h[q.sd]? = some q.SA from G.hd).symm.trans e1
    obtain ⟨cS, -, -, f, -⟩ := G
    have f' : vm.findClass "[B" = some q.SA.cls := f
    rw [hal.findClass] at f'
    obtain ⟨k1, q1, q2⟩ := Vm.findClass_spec f'
    obtain ⟨k2, q3, q4⟩ := Vm.findClass_spec e2
    cases q1.symm.trans q3
    exact absurd (q2.symm.trans q4) (by decide)
end OwnKitW

theorem own_hEL {Z : State} {a0 : Array Value} (hw : ∀ d ∈ tables_1, d.before a0 Z = true) : EW Z a0 consts_1 := (EW.cons (own_h hw 91 rfl) (by decide) EW.nil)
theorem own_wSin : ∀ d ∈ Bundle.stringAtoms, d ∈ tables_1 := by decide +kernel
theorem own_wS {Z : State} {a0 : Array Value} (hw : ∀ d ∈ tables_1, d.before a0 Z = true) : ∀ d ∈ Bundle.stringAtoms, d.before a0 Z = true := fun d hd => hw d (own_wSin d hd)
section OwnKitH
variable {p : Program} {l : Launch} {e : Env} {R : Room} {s : State} {m : MethodId} {args : Array Value} {below : List Frame} {meth : Method} {c : Code} {T T' : State} {locs : List Loc} {cells slots : Nat} {Z : State} {a0 : Array Value} {h : Heap} {vm0 : Vm} {EL : List (String × Nat)}
/-- a call of a method with an exception table whose law keeps the invariant of the String constants -/
theorem own_backH {y : MethodName} {bytes : ByteArray} {maxL : Nat} {ret : Option FieldType} {hs : List (Nat × Nat × Nat × Nat)} {rm : Room} {len W : Nat} {as' : Array Value} {Q : Option Value → Heap → List Loc → Prop}
    (hM : MetFree l y (head1 [Jvm.Cond.codeWith y bytes maxL ret hs] rm) (fun a U => a = as' ∧ Z.Warmed39 U.vm ∧ U.heap = h ∧ CHv Z EL U.vm h) (fun _ _ _ _ _ => True) (fun _ U o U' => ∃ v L, o = .returned v ∧ Q v U'.heap L ∧ CHr Z EL U.vm U.heap U'.vm U'.heap ∧ ReturnedEndW U o U' L rm.cells rm.slots))
    (hZ : Z.Warmed39 vm0) (wc : (Jvm.Cond.codeWith y bytes maxL ret hs).before a0 Z = true) (wz : (Jvm.Cond.initialized y.cls).before a0 Z = true) (hf : rm.frames + 1 ≤ R.frames) (hl : W + (maxL + 11) + rm.locals ≤ R.locals) (hEL : EW Z a0 EL) (H : CHv Z EL vm0 h) :
    BackS l R p e below (s.setVm vm0) args y len W (fun A a => a = as' ∧ A.U.heap = h ∧ A.cells + rm.cells ≤ R.cells ∧ A.slots + rm.slots ≤ R.slots)
      (fun A _ v B => ∃ L, Q v B.U.heap L ∧ B.locs = A.locs ++ L ∧ B.cells = A.cells + rm.cells ∧ B.slots = A.slots + rm.slots ∧ CHr Z EL vm0 h B.U.vm B.U.heap) := by
  rintro m meth c ⟨U, Ls, c0, s0⟩ g ig mk a X hg hsize hdg hW hn ⟨rfl, ehp, h4, h5⟩
  dsimp only [Pt.U, Pt.locs, Pt.cells, Pt.slots] at h4 h5 X hn ehp ⊢
  have hU : Z.Warmed39 U.vm := wtrans (s := s.setVm vm0) hZ X.warmed
  have h2 : (Jvm.Cond.codeWith y bytes maxL ret hs).before a U = true := mv hU wc
  obtain ⟨mY, methY, cY, hmN, hmY, hcY, -, hlY, -⟩ := Cond.codeWith_spec h2
  cases hn.symm.trans hmN
  obtain ⟨kY, hkY, -⟩ := className_of_methodNamed hn
  have hinitY : kY.init = .initialized := Cond.initialized_spec (findClass_of_methodNamed hn) hkY (mv (args := a) hU wz)
  have h0 : At U g.method c below := by rw [hg]; exact X.here
  have happ : (head1 [Jvm.Cond.codeWith y bytes maxL ret hs] rm).appliesLoose y e.platform (U.calling g mk a) = true :=
    Spec.appliesLoose_calling (g := g) h0 hdg hn hkY hinitY (X.room_calling (g := g) (R' := rm) hsize hmY hcY hf (by rw [hlY]; omega) h4 h5) (by show (Cond.and _ .tt).before a U = true; rw [Cond.before_and, h2]; rfl)
  obtain ⟨mid, hmid⟩ := h0.above
  have hfr : (U.setTop g).frames = (.java g :: mid) ++ below := by rw [State.frames_setTop' g h0.top, hmid]; rfl
  obtain ⟨o, s₂, hsteps, -, hend, v, L, rfl, hQ, hC, hR⟩ := Steps.callFree hM p X.admits X.cas X.clock (acts := []) hfr happ ⟨rfl, hU, ehp, (CHv.at X hZ hEL H).1⟩ trivial
  rw [State.frames_setTop' g h0.top] at hend
  have hR' : ReturnedEndW (U.calling g mk a) (.returned v) s₂ L rm.cells rm.slots := hR
  obtain ⟨-, hW₂, hB₂, e2, q2, q3, q4, q5, q6⟩ := id hR'
  have e3 : s₂ = ({ (U.calling g mk a).setFrames s₂.frames with heap := s₂.heap, slotsUsed := s₂.slotsUsed } : State).setVm s₂.vm := by
    have : s₂ = ({ s₂ with vm := (U.calling g mk a).vm } : State).setVm s₂.vm := rfl
    rw [e2] at this
    exact this
  obtain ⟨c₂, i₂, len₂, hc₂, hd₂, hf₂⟩ := hend
  have hW' : U.Warmed39 s₂.vm := hW₂
  cases Option.some.inj (hc₂.symm.trans ((show s₂.code? g.method = U.code? g.method by rw [State.code?_eq, State.code?_eq, hW'.alike.method?]).trans h0.code))
  obtain rfl : len₂ = len := by rw [hdg] at hd₂; cases hd₂; rfl
  obtain ⟨g₀, hg0⟩ := Option.isSome_iff_exists.mp h0.top
  obtain ⟨r, hr⟩ := State.topJava?_eq_some.mp hg0
  have hs₂ : s₂ = (({ U with heap := s₂.heap, slotsUsed := s₂.slotsUsed } : State).setVm s₂.vm).setTop { g with pc := g.pc + len₂, stack := v.toList ++ g.stack } := by
    refine e3.trans ?_
    rw [hf₂, State.calling_eq h0.top, State.setFrames_setFrames, State.setTop_of_frames _ (show (({ U with heap := s₂.heap, slotsUsed := s₂.slotsUsed } : State).setVm s₂.vm).frames = .java g₀ :: r from hr), hr]
    rfl
  have hsame : U.sameButNew ({ U with heap := s₂.heap, slotsUsed := s₂.slotsUsed } : State) L rm.cells rm.slots := by
    refine ⟨?_, q2, q3, q4, q5, q6⟩
    obtain ⟨t, ht, -⟩ := State.frames_cons hr
    show ({ U with heap := s₂.heap, slotsUsed := s₂.slotsUsed } : State) = { U.setFrames U.frames with heap := s₂.heap, slotsUsed := s₂.slotsUsed }
    rw [State.setFrames_self ht]
  subst hg
  obtain ⟨X', hS⟩ := X.movedW (T₂ := (({ U with heap := s₂.heap, slotsUsed := s₂.slotsUsed } : State).setVm s₂.vm)) ((X.here.setHeapUsed s₂.heap s₂.slotsUsed).setVm hW'.alike) X.tail rfl rfl hW' hB₂ hsame
  refine ⟨v, ⟨(({ U with heap := s₂.heap, slotsUsed := s₂.slotsUsed } : State).setVm s₂.vm), Ls ++ L, c0 + rm.cells, s0 + rm.slots⟩, X', hS, hsame.2.1, ⟨L, hQ, rfl, rfl, rfl, ?_⟩, ?_⟩
  · have hC' : CHr Z EL U.vm U.heap s₂.vm s₂.heap := hC
    rw [ehp] at hC'
    exact (CHv.at X hZ hEL H).trans hC'
  · show Steps p.tables e below _ ((({ U with heap := s₂.heap, slotsUsed := s₂.slotsUsed } : State).setVm s₂.vm).setTop { g with pc := g.pc + len₂, stack := v.toList ++ g.stack })
    rw [← hs₂]
    exact hsteps
theorem own_callIWH (X : Stand p l e R (s.setVm vm0) m args below meth c T locs cells slots) (hx : p.tables.exec = Jvm.exec) (hZ : Z.Warmed39 vm0) {own : String} {index : Nat} {y : MethodName} {bytes : ByteArray} {maxL W : Nat} {hs : List (Nat × Nat × Nat × Nat)} {rm : Room} {as' : Array Value} {Q : Option Value → Heap → List Loc → Prop} (hin : y.name = "<init>")
    (hown : vm0.findClass own = some m.cls) (w1 : (Jvm.Cond.methodLink own index y).before a0 Z = true) (w2 : (Jvm.Cond.instanceMethod y).before a0 Z = true) (w4 : (Jvm.Cond.codeWith y bytes maxL none hs).before a0 Z = true) (w3 : (Jvm.Cond.initialized y.cls).before a0 Z = true) (hy : y.cls ≠ "java/lang/invoke/MethodHandle" ∧ y.cls ≠ "java/lang/invoke/VarHandle")
    {k0 : Nat} (hS : s.Since vm0 k0) (hk0 : k0 ≤ h.size) (hEL : EW Z a0 EL) (H : CHv Z EL vm0 h)
    (hM : MetFree l y (head1 [Jvm.Cond.codeWith y bytes maxL none hs] rm) (fun a U => a = as' ∧ Z.Warmed39 U.vm ∧ U.heap = h ∧ CHv Z EL U.vm h) (fun _ _ _ _ _ => True) (fun _ U o U' => ∃ v L, o = .returned v ∧ Q v U'.heap L ∧ CHr Z EL U.vm U.heap U'.vm U'.heap ∧ ReturnedEndW U o U' L rm.cells rm.slots))
    (hf : rm.frames + 1 ≤ R.frames) (hl : W + (maxL + 11) + rm.locals ≤ R.locals) (eT : T.heap = h) {g : JFrame} (hg : g.method = m) (hsize : g.locals.size = c.maxLocals) {a : Addr} {argsL rest : List Value} (hlen : ∀ sig, parseMethodDescriptor y.desc = some sig → argsL.length = sig.parameters.length)
    (hstack : g.stack = argsL.reverse ++ .ref a :: rest) (hW : 2 * g.monitorRoom + (rest.map fun v => v.category).sum ≤ W) (hdg : decode c.code g.pc = .ok (.invokespecial index, 3)) (has : (.ref a :: argsL).toArray = as') (hc : cells + rm.cells ≤ R.cells) (hs' : slots + rm.slots ≤ R.slots) {P : Outcome → State → Prop}
    (k : ∀ (v : Option Value) (T' : State) (L : List Loc), Stand p l e R (s.setVm T'.vm) m args below meth c T' (locs ++ L) (cells + rm.cells) (slots + rm.slots) → s.Since T'.vm T'.heap.size → Z.Warmed39 T'.vm → T'.vm.findClass own = some m.cls → CHr Z EL vm0 h T'.vm T'.heap → Q v T'.heap L → own_Fin p e below P T' { g with pc := g.pc + 3, stack := v.toList ++ rest }) : own_Fin p e below P T g := by
  have hpl : e.platform.magicAccessors = ({} : Platform).magicAccessors := by rw [X.admits.platform]
  obtain ⟨mk, methM, cM, kP, vm₁, hnamed, hmethM, -, -, -, -, hkP, -, hW₁, hstep₁⟩ := Steps.initColdArgsH (e := e) X.here hx X.warmed hpl hown hin hy (mvT (s := s.setVm vm0) (args := args) hZ w1) (mvT (s := s.setVm vm0) (args := args) hZ w2) (mvT (s := s.setVm vm0) (args := args) hZ w4) (f := g) hg hlen hstack hdg
  have X₁ := X.noted hW₁
  obtain ⟨v, ⟨U', L', k', n'⟩, X', hS2, hgr, ⟨Lc, hQ, l1, l2, l3, hC⟩, hsteps⟩ := own_backH (R := R) (e := e) (p := p) (below := below) (s := s) (args := args) (len := 3) (W := W) hM hZ w4 w3 hf hl hEL H m meth c ⟨T.setVm vm₁, locs, cells, slots⟩ { g with stack := rest } (.invokespecial index) mk (.ref a :: argsL).toArray X₁ hg hsize hdg hW (X₁.named hnamed) ⟨has, eT, hc, hs'⟩
  dsimp only [Pt.U, Pt.locs, Pt.cells, Pt.slots] at X' l1 l2 l3 hsteps hQ hC hS2 hgr
  subst l1 l2 l3
  have hgr' : T.heap.size ≤ U'.heap.size := hgr
  exact own_by (fun _ q => hstep₁ _ fun acts => by rw [doInvoke_state]; exact hsteps.trans q) (k v U' Lc X' (foldS hS (by rw [eT]; exact hk0) hS2 hgr') (State.Warmed39.trans (t := s.setVm vm0) hZ hS2.1) (by rw [hS2.1.alike.findClass]; exact hown) hC hQ)
end OwnKitH

namespace OwnU8
open Jvm.Free.XT Jvm.Free.JM
open Jvm.Lib.Cold (StaticIs)
theorem fc {a : Array Value} {s : State} {L l : List Jvm.Cond} {c : Jvm.Cond} (e : L = c :: l) (h : c.before a s = true) (t : ∀ w ∈ l, w.before a s = true) : ∀ w ∈ L, w.before a s = true := by subst e; exact fun w hw => (List.mem_cons.mp hw).elim (fun q => q ▸ h) (t w)
theorem fn {a : Array Value} {s : State} {L : List Jvm.Cond} (e : L = []) : ∀ w ∈ L, w.before a s = true := by subst e; exact fun _ h => by cases h
set_option maxRecDepth 65536 in
set_option maxHeartbeats 4000000 in
theorem tab_of {Z s : State} {a0 a : Array Value} (hZ : Z.Warmed39 s.vm) (hw : ∀ d ∈ tables_1, d.before a0 Z = true) : JY.NewU8R.tab.before a s = true := by
  have cl : JA.CheckLength.tab.before a s = true := unparts (RoadKit.mv hZ (own_h hw 128 rfl)) (fc rfl (RoadKit.mv hZ (own_h hw 121 rfl)) (fn rfl))
  have mi : JP.Math_min_II.tab.before a s = true := unparts (RoadKit.mv hZ (own_h hw 132 rfl)) (fc rfl (RoadKit.mv hZ (own_h hw 131 rfl)) (fn rfl))
  have r0 : JA.Range0B.tab.before a s = true := unparts (RoadKit.mv hZ (own_h hw 125 rfl)) (fc rfl (RoadKit.mv hZ (own_h hw 121 rfl)) (fc rfl cl (fc rfl (RoadKit.mvA hZ (own_h hw 0 rfl)) (fc rfl mi (fc rfl (RoadKit.mv hZ (own_h hw 126 rfl)) (fc rfl (RoadKit.mv hZ (own_h hw 127 rfl)) (fc rfl (RoadKit.mv hZ (own_h hw 129 rfl)) (fc rfl (RoadKit.mv hZ (own_h hw 130 rfl)) (fc rfl (RoadKit.mv hZ (own_h hw 133 rfl)) (fc rfl (RoadKit.mv hZ (own_h hw 136 rfl)) (fc rfl (RoadKit.mv hZ (own_h hw 134 rfl)) (fc rfl (RoadKit.mv hZ (own_h hw 135 rfl)) (fn rfl)))))))))))))
  have cr : JA.CopyOfRangeB.tab.before a s = true := unparts (RoadKit.mv hZ (own_h hw 122 rfl)) (fc rfl (RoadKit.mv hZ (own_h hw 121 rfl)) (fc rfl (RoadKit.mv hZ (own_h hw 187 rfl)) (fc rfl (RoadKit.mv hZ (own_h hw 34 rfl)) (fc rfl r0 (fc rfl (RoadKit.mv hZ (own_h hw 180 rfl)) (fc rfl (RoadKit.mv hZ (own_h hw 181 rfl)) (fc rfl (RoadKit.mv hZ (own_h hw 185 rfl)) (fc rfl (RoadKit.mv hZ (own_h hw 183 rfl)) (fc rfl (RoadKit.mv hZ (own_h hw 184 rfl)) (fc rfl (RoadKit.mv hZ (own_h hw 186 rfl)) (fc rfl (RoadKit.mv hZ (own_h hw 123 rfl)) (fc rfl (RoadKit.mv hZ (own_h hw 124 rfl)) (fn rfl)))))))))))))
  have cp : JY.CountPos.tab.before a s = true := unparts (RoadKit.mv hZ (own_h hw 118 rfl)) (fc rfl (RoadKit.mv hZ (own_h hw 117 rfl)) (fn rfl))
  have su : JY.StrU8.tab.before a s = true := unparts (RoadKit.mv hZ (own_h hw 89 rfl)) (fc rfl (RoadKit.mv hZ (own_h hw 66 rfl)) (fc rfl (RoadKit.mv hZ (own_h hw 113 rfl)) (fc rfl (RoadKit.mv hZ (own_h hw 108 rfl)) (fc rfl cp (fc rfl cr (fc rfl (RoadKit.mv hZ (own_h hw 92 rfl)) (fc rfl (RoadKit.mv hZ (own_h hw 96 rfl)) (fc rfl (RoadKit.mv hZ (own_h hw 93 rfl)) (fc rfl (RoadKit.mv hZ (own_h hw 97 rfl)) (fc rfl (RoadKit.mv hZ (own_h hw 90 rfl)) (fc rfl (RoadKit.mv hZ (own_h hw 11 rfl)) (fc rfl (RoadKit.mv hZ (own_h hw 12 rfl)) (fc rfl (RoadKit.mv hZ (own_h hw 115 rfl)) (fc rfl (RoadKit.mv hZ (own_h hw 116 rfl)) (fc rfl (RoadKit.mv hZ (own_h hw 119 rfl)) (fc rfl (RoadKit.mv hZ (own_h hw 120 rfl)) (fn rfl)))))))))))))))))
  have pf : JY.PreFromSize.tab.before a s = true := unparts (RoadKit.mv hZ (own_h hw 85 rfl)) (fc rfl (RoadKit.mv hZ (own_h hw 82 rfl)) (fn rfl))
  have oc : JY.OffCount.tab.before a s = true := unparts (RoadKit.mv hZ (own_h hw 80 rfl)) (fc rfl (RoadKit.mv hZ (own_h hw 66 rfl)) (fc rfl (RoadKit.mv hZ (own_h hw 81 rfl)) (fc rfl pf (fc rfl (RoadKit.mv hZ (own_h hw 83 rfl)) (fc rfl (RoadKit.mv hZ (own_h hw 84 rfl)) (fn rfl))))))
  have rn : JP.Rnn1.tab.before a s = true := unparts (RoadKit.mv hZ (own_h hw 75 rfl)) (fc rfl (RoadKit.mv hZ (own_h hw 74 rfl)) (fn rfl))
  have nu : JY.NewU8R.tab.before a s = true := unparts (RoadKit.mv hZ (own_h hw 71 rfl)) (fc rfl (RoadKit.mv hZ (own_h hw 66 rfl)) (fc rfl rn (fc rfl (RoadKit.mv hZ (own_h hw 76 rfl)) (fc rfl (RoadKit.mv hZ (own_h hw 77 rfl)) (fc rfl oc (fc rfl su (fc rfl (RoadKit.mv hZ (own_h hw 72 rfl)) (fc rfl (RoadKit.mv hZ (own_h hw 73 rfl)) (fc rfl (RoadKit.mv hZ (own_h hw 78 rfl)) (fc rfl (RoadKit.mv hZ (own_h hw 79 rfl)) (fc rfl (RoadKit.mv hZ (own_h hw 86 rfl)) (fc rfl (RoadKit.mv hZ (own_h hw 87 rfl)) (fn rfl)))))))))))))
  exact nu
theorem stat {Z U : State} {h : Heap} {C f d : String} {v : Value} (S : RoadKit.Sta Z h C f d v) (al : Z.vm.Alike U.vm) (e : U.heap = h) : StaticIs U C f d v := by
  subst e
  obtain ⟨cfS, iS, kS, fS, st, cS, t1, t2, t3, t4, t5, t6, t7⟩ := S
  exact StaticIs.there (s := { Z with heap := U.heap }) ⟨cfS, iS, kS, fS, st, cS, t1, t2, t3, t4, t5, (fun q => by rw [q] at t6; cases t6), t7⟩ al rfl
def Q (Z : State) (x : Addr) (n : Int32) (bs : List Int32) (h : Heap) (n0 : Nat) (v : Option Value) (h' : Heap) (L : List Loc) : Prop := v = none ∧ RoadKit.Fr n0 L ∧ RoadKit.Keep h h' [x] ∧ RoadKit.Exa Z h' x "java/lang/String" ∧ RoadKit.Fld Z h' x "java/lang/String" "coder" "B" (.int 0) ∧
  ∃ (t : Addr) (kb : ClassId), n0 ≤ t ∧ h.size ≤ t ∧ ¬ t = x ∧ RoadKit.Fld Z h' x "java/lang/String" "value" "[B" (.ref t) ∧ RoadKit.Arv Z h' t kb .byte n (bs.map Value.int) (.int 0)
theorem back {p : Program} {l : Launch} {e : Env} {R : Room} {s : State} {args : Array Value} {below : List Frame} {len W : Nat} {Z : State} {a0 : Array Value} {h : Heap} (hZ : Z.Warmed39 s.vm) (hw : ∀ d ∈ tables_1, d.before a0 Z = true) {kI : Nat} (wi : (Jvm.Cond.instantiable "java/lang/String" kI).before a0 Z = true)
    {x b cs : Addr} {kB : ClassId} {bs : List Int32} {z : Int32} {fm v0 c0 : Value} {on ln n0 : Nat} (hx0 : n0 ≤ x) (hh0 : n0 ≤ h.size) (E : RoadKit.Exa Z h x "java/lang/String") (V : RoadKit.Fld Z h x "java/lang/String" "value" "[B" v0) (C : RoadKit.Fld Z h x "java/lang/String" "coder" "B" c0) (K : RoadKit.Arv Z h b kB .byte (4 : Int32) (bs.map Value.int) (.int 0)) (EB : RoadKit.Exa Z h b "[B") (UB : RoadKit.Unt h b)
    (S : RoadKit.Sta Z h "java/lang/String" "COMPACT_STRINGS" "Z" (.int z)) (hz : ¬ z = 0) (SU : RoadKit.Sta Z h "sun/nio/cs/UTF_8" "INSTANCE" "Lsun/nio/cs/UTF_8;" (.ref cs)) (EU : RoadKit.Exa Z h cs "sun/nio/cs/UTF_8") (SF : RoadKit.Sta Z h "jdk/internal/util/Preconditions" "SIOOBE_FORMATTER" "Ljava/util/function/BiFunction;" fm) (hfm : fm.isRef = true)
    (hl4 : bs.length = 4) (l0 : 0 < ln) (l1 : on + ln ≤ 4) (hp : ∀ c ∈ bs, ¬ c < 0) (hfr : 5 ≤ R.frames) (hlo : W + 109 ≤ R.locals) :
    Back l R p e below s args own_y13 len W (fun P a => a = #[.ref x, .ref b, .int (Int32.ofNat on), .int (Int32.ofNat ln), .ref cs] ∧ P.U.heap = h ∧ P.cells + 1 ≤ R.cells ∧ P.slots + 4 ≤ R.slots)
      (fun P _ v B => ∃ L, Q Z x (Int32.ofNat ln) ((bs.drop on).take ln) h n0 v B.U.heap L ∧ B.locs = P.locs ++ L ∧ B.cells = P.cells + 1 ∧ B.slots = P.slots + 4) := by
  rintro m meth c ⟨PU, PL, PC, PS⟩ g ig mk a X hg hsize hdg hW hn hp'
  dsimp only [Pt.U, Pt.locs, Pt.cells, Pt.slots] at X hn hp' ⊢
  obtain ⟨rfl, rfl, r1, r2⟩ := hp'
  have al : Z.vm.Alike PU.vm := hZ.alike.trans X.warmed.alike
  obtain ⟨D, cfV, kV, iV, fV, hD, gV, stV, knV, obV, asV, slV⟩ := id V
  obtain ⟨D', cfC, kC, iC, fC, hD', gC, stC, -, -, asC, slC⟩ := id C
  cases hD.symm.trans hD'
  obtain ⟨D2, kD, e1, e2, e3, e4, e5⟩ := id E
  cases hD.symm.trans e1
  obtain ⟨c2, k2, i1, i2, i3, -⟩ := Cond.instantiable_spec wi
  cases e2.symm.trans i1
  cases e3.symm.trans i2
  obtain ⟨kU, u1, u2⟩ := al.2.2 _ _ e3
  have hB : Blank "java/lang/String" x D PU := ⟨hD, ⟨knV, fun q hq => by rw [hq] at obV; cases obV⟩, by rw [al.findClass]; exact e2, kU, u1, by rw [u2]; exact i3, by rw [u2]; exact e5 i3⟩
  have F1 : Found "java/lang/String" "value" "[B" fV PU := ⟨SBG.found_only al ⟨cfV, kV, iV, gV⟩, stV⟩
  have F2 : Found "java/lang/String" "coder" "B" fC PU := ⟨SBG.found_only al ⟨cfC, kC, iC, gC⟩, stC⟩
  obtain ⟨A, K1, K2, K3, K4, K5, K6⟩ := id K
  have hA : A.slots.size = 4 := K3
  have hat : ∀ (i : Nat) (hi : i < bs.length), A.slots[i]? = some (.int bs[i]) := fun i hi => by rw [K5 i (by omega)]; simp [List.getD_eq_getElem?_getD, hi]
  have hbv : ∀ (i : Nat) (hi : i < bs.length), bv A i = bs[i] := fun i hi => by unfold bv; rw [hat i hi]
  have hty : Typed .byte A := fun i v hv => by
    have hi : i < A.slots.size := (Array.getElem?_eq_some_iff.mp hv).1
    have q := K5 i hi
    rw [hv] at q
    rw [Option.some.inj q]
    exact K6 i hi
  obtain ⟨A2, b1, b2, -⟩ := UB
  cases K1.1.symm.trans b1
  obtain ⟨A3, kA3, b3, b4, -⟩ := EB
  cases K1.1.symm.trans b3
  have hBy : By b A PU := ⟨⟨K1.1, State.isArrayOf_alike al K1.2.1, K1.2.2, by omega⟩, b2, hty⟩
  have hX : Exact "sun/nio/cs/UTF_8" cs PU := by
    obtain ⟨cc, kc, c1, c2, c3, c4, -⟩ := EU
    exact ⟨cc.cls, by rw [al.findClass]; exact c2, cc, c1, rfl, c4⟩
  obtain ⟨v, ⟨BU, BL, BC, BS⟩, X', ⟨⟨hv, E', V', q1, q2, q3, q4, q5, q6, q7, q8, q9, q10⟩, hl, hc, hs⟩, st⟩ := (JY.NewU8R.law l x D fV fC cs b A z on ln fm).pays (len := len) (W := W) (tab_of hZ hw) hfr (by omega) m meth c ⟨PU, PL, PC, PS⟩ g ig mk _ X hg hsize hdg hW hn
    ⟨r1, by show PS + ln ≤ R.slots; omega, rfl, hB, F1, F2, hBy, by rw [al.findClass]; exact b4, stat SU al rfl, stat S al rfl, hz, ⟨l0, by omega, by omega, fun i h1 h2 => by rw [hbv i (by omega)]; exact hp _ (List.getElem_mem _)⟩, hX, stat SF al rfl, hfm⟩
  dsimp only [Pt.U, Pt.locs, Pt.cells, Pt.slots] at X' q1 q5 q7 q10 hl hc hs st
  have al' : Z.vm.Alike BU.vm := hZ.alike.trans X'.warmed.alike
  have hsz : E'.slots.size = D.slots.size := by
    obtain ⟨-, -, -, kB, w1, w2, w3⟩ := q1
    obtain ⟨kB', y1, y2⟩ := al'.2.2 _ _ e3
    rw [q2.2.1] at w1
    cases w1.symm.trans y1
    rw [w3, e5 i3, y2]
  have hgr : PU.heap.size < BU.heap.size := (Array.getElem?_eq_some_iff.mp q5.1).1
  have hxn : ¬ PU.heap.size = x := fun q => by subst q; exact absurd (Array.getElem?_eq_some_iff.mp hD).1 (Nat.lt_irrefl _)
  refine ⟨v, ⟨BU, BL, BC, PS + 4⟩, X'.more (Nat.le_refl _) (by show BS ≤ PS + 4; omega), ⟨_, ⟨hv, ?_, ⟨Nat.le_of_lt hgr, fun y cy hy hn' => q10 y cy (by simpa using hn') hy, fun y cy hy => ?_⟩, ⟨E', _, q1.1, by rw [q2.2.1]; exact e2, by rw [q2.2.1]; exact e3, by rw [q2.1]; exact obV, fun _ => by rw [hsz]; exact e5 i3⟩,
    ⟨E', cfC, kC, iC, fC, q1.1, gC, stC, by rw [q2.1]; exact knV, by rw [q2.1]; exact obV, by rw [q2.2.1]; exact asC, q4⟩, PU.heap.size, V'.cls, hh0, Nat.le_refl _, hxn,
    ⟨E', cfV, kV, iV, fV, q1.1, gV, stV, by rw [q2.1]; exact knV, by rw [q2.1]; exact obV, by rw [q2.2.1]; exact asV, q3⟩,
    ⟨V', ⟨q5.1, State.isArrayOf_alike al'.symm q5.2.1, q5.2.2.1⟩, rfl, ?_, ?_, fun i hi => ?_, fun i hi => ?_⟩⟩, hl, hc, rfl⟩, st⟩
  · intro y hy
    simp only [List.mem_cons, List.not_mem_nil, or_false] at hy
    rcases hy with rfl | rfl <;> exact hx0
  · by_cases q : y = x
    · subst q
      cases hD.symm.trans hy
      exact ⟨E', q1.1, q2.2.1, q2.1, hsz⟩
    · exact ⟨cy, q10 y cy q hy, rfl, rfl, rfl⟩
  · rw [q8]
    have : ln = 1 ∨ ln = 2 ∨ ln = 3 ∨ ln = 4 := by omega
    rcases this with rfl | rfl | rfl | rfl <;> rfl
  · have : ln = 1 ∨ ln = 2 ∨ ln = 3 ∨ ln = 4 := by omega
    rcases this with rfl | rfl | rfl | rfl <;> decide
  · rw [q8] at hi
    rw [q9 i hi, hat (on + i) (by omega)]
    simp [List.getD_eq_getElem?_getD, List.getElem?_take, List.getElem?_drop, hi, show on + i < bs.length by omega]
  · rw [q8] at hi
    have hk := K6 (on + i) (by omega)
    have e6 : ((bs.take (on + i + 1)).map Value.int).getD (on + i) (.int 0) = .int (bs[on + i]'(by omega)) := by simp [List.getD_eq_getElem?_getD, show on + i < bs.length by omega]
    have e7 : (bs.map Value.int).getD (on + i) (.int 0) = .int (bs[on + i]'(by omega)) := by simp [List.getD_eq_getElem?_getD, show on + i < bs.length by omega]
    have e8 : (((bs.drop on).take ln).map Value.int).getD i (.int 0) = .int (bs[on + i]'(by omega)) := by simp [List.getD_eq_getElem?_getD, List.getElem?_take, List.getElem?_drop, hi, show on + i < bs.length by omega]
    rw [e7] at hk
    rw [e8]; exact hk
end OwnU8
/-- newarray byte, with the class's name and the marks of the new cell -/
theorem own_newB {p : Program} {l : Launch} {e : Env} {R : Room} {s : State} {m : MethodId} {args : Array Value} {below : List Frame} {meth : Method} {c : Code} {T : State} {locs : List Loc} {cells slots : Nat} {Z : State} {a0 : Array Value} {h : Heap}
    (X : Stand p l e R s m args below meth c T locs cells slots) (hx : p.tables.exec = Jvm.exec) (hZ : Z.Warmed39 s.vm) (w : (Cond.arrayClass .byte).before a0 Z = true) (eT : T.heap = h) {g : JFrame} (hg : g.method = m) (hd : decode c.code g.pc = .ok (.newarray .byte, 2)) {n : Int32} {rest : List Value} (hs : g.stack = .int n :: rest)
    (hn : ¬ n < 0) {cap : Nat} (hcap : n.toNatClampNeg ≤ cap) (hb : cap * 8 ≤ 536870912) (hc : cells + 1 ≤ R.cells) (hl : slots + cap ≤ R.slots) :
    ∃ T' h' cA, Stand p l e R s m args below meth c T' locs (cells + 1) (slots + cap) ∧ T'.heap = h' ∧ Ext h h' ∧ Arr Z h' h.size (newA cA .byte n) .byte ∧ (Exa Z h' h.size "[B" ∧ Unt h' h.size) ∧
      ∀ target, Steps p.tables e below (T'.setTop { g with pc := g.pc + 2, stack := .ref h.size :: rest }) target → Steps p.tables e below (T.setTop g) target := by
  obtain ⟨cA, kA, comp, h1, h2, h3, X', st⟩ := X.newarrayPrim (atype := .byte) hx (mvA hZ w) hg hd hs hn (Nat.le_trans (Nat.mul_le_mul hcap (show 1 ≤ 8 by decide)) hb) hc (by omega)
  subst eT
  rw [hZ.alike.findClass] at h1
  obtain ⟨kZ, z1, -⟩ := Vm.findClass_spec h1
  obtain ⟨k', z2, z3⟩ := hZ.alike.2.2 _ _ z1
  cases h2.symm.trans z2
  have g1 : (T.heap.push (newA cA .byte n))[T.heap.size]? = some (newA cA .byte n) := by simp
  have hk : kZ.kind = .array comp .byte := by rw [z3] at h3; exact h3
  refine ⟨_, _, cA, X'.more (Nat.le_refl _) (by omega), rfl, ⟨by show T.heap.size ≤ (T.heap.push _).size; simp, fun a c h => ?_⟩, ⟨g1, ⟨by simp [newA], kZ, z1, comp, hk⟩, by simp [newA]⟩, ⟨⟨_, kZ, g1, h1, z1, rfl, fun q => by rw [hk] at q; cases q⟩, ⟨_, g1, rfl, rfl⟩⟩, st⟩
  show (T.heap.push _)[a]? = _
  rw [Array.getElem?_push_lt (Array.getElem?_eq_some_iff.mp h).1]; exact (Array.getElem?_eq_getElem _).symm.trans h
theorem own_c7 {c : Int32} (hc : ¬ c < 0 ∧ ¬ (127 : Int32) < c) : nar .char (StrChars.chr8 c) = c ∧ nar .char c = c := by
  have a := hc.1
  have b := hc.2
  rw [Int32.lt_iff_toInt_lt] at a b
  have e0 : (0 : Int32).toInt = 0 := by decide
  have e1 : (127 : Int32).toInt = 127 := by decide
  have q : nar .char c = c := by
    apply own_eqI
    have h := c_i2c c
    show c.toUInt32.toUInt16.toUInt32.toInt32.toInt = c.toInt
    omega
  have q2 : StrChars.lo8 c = c := by
    apply own_eqI
    have h := c_i2b c
    show c.toInt8.toInt32.toInt = c.toInt
    omega
  have q3 : StrChars.chr8 c = c := by
    have h := StrChars.chr8_lo8 (c := c) hc.1 (fun h => by rw [Int32.lt_iff_toInt_lt, show (255 : Int32).toInt = 255 from by decide] at h; omega)
    rw [q2] at h; exact h
  rw [q3]; exact ⟨q, q⟩
theorem own_b7 (z : Int64) : ¬ ((z &&& (127 : Int64)).toInt32.toInt8.toInt32).toInt8.toInt32 < 0 ∧ ¬ (127 : Int32) < ((z &&& (127 : Int64)).toInt32.toInt8.toInt32).toInt8.toInt32 := by
  have h1 := c_maskL z 127 7 (by decide) (by decide)
  have h2 := c_l2i (z &&& 127)
  have h3 := c_i2b (z &&& 127).toInt32
  have h4 := c_i2b (z &&& 127).toInt32.toInt8.toInt32
  have b1 := (z &&& 127).toInt32.le_toInt
  have b2 := (z &&& 127).toInt32.toInt_lt
  have e0 : (0 : Int32).toInt = 0 := by decide
  have e1 : (127 : Int32).toInt = 127 := by decide
  constructor
  · intro q; rw [Int32.lt_iff_toInt_lt] at q; omega
  · intro q; rw [Int32.lt_iff_toInt_lt] at q; omega
theorem own_d27_0 : decode jdk_41_method_11_code 0 = .ok (.iload_n 0, 1) := by decide +kernel
theorem own_d27_1 : decode jdk_41_method_11_code 1 = .ok (.ifCond .lt 8, 3) := by decide +kernel
theorem own_d27_4 : decode jdk_41_method_11_code 4 = .ok (.iload_n 0, 1) := by decide +kernel
theorem own_d27_5 : decode jdk_41_method_11_code 5 = .ok (.iload_n 1, 1) := by decide +kernel
theorem own_d27_6 : decode jdk_41_method_11_code 6 = .ok (.if_icmp .lt 10, 3) := by decide +kernel
theorem own_d27_16 : decode jdk_41_method_11_code 16 = .ok (.iload_n 0, 1) := by decide +kernel
theorem own_d27_17 : decode jdk_41_method_11_code 17 = .ok (.ireturn, 1) := by decide +kernel
theorem own_pci_1_0_ef (m : MethodId) (vf : Value) (hvf : vf.isRef = true) : entryFrame m #[(.int 0), (.int 1), vf] 3 = mkF m 0 #[.val (.int 0), .val (.int 1), .val vf] [] := by rcases ref_cases hvf with rfl | ⟨_, rfl⟩ <;>  first | (simp [entryFrame, mkF, argsToLocals, Value.category]; done) | rfl
def own_pci_1_0_Q (Z : State) (vf : Value) (zCS : Int32) (fm : Value) (cs : Addr) (h0 : Heap) (n0 : Nat) (v : Option Value) (h : Heap) (L : List Loc) : Prop := v = some (.int 0) ∧ Fr n0 L ∧ h = h0
theorem own_pn_jdk_internal_util_Preconditions : plainName "jdk/internal/util/Preconditions" = true := by first | (simp [plainName, overriddenIn]; done) | decide +kernel
set_option maxRecDepth 65536 in
set_option maxHeartbeats 40000000 in
theorem own_pci_1_0 (l : Launch) (Z : State) (a0 : Array Value) (hw : ∀ d ∈ tables_1, d.before a0 Z = true) (ws : List Jvm.Cond) (vf : Value) (zCS : Int32) (fm : Value) (cs : Addr) (h0 : Heap) (n0 : Nat) (Z0 : n0 ≤ h0.size) (hvf : vf.isRef = true) (S_CS : own_A0 Z zCS) (nCS : ¬ zCS = 0) (S_SF : own_A2 Z fm) (hfm : fm.isRef = true) (S_UT : own_A1 Z cs) (S_IN : own_A3 Z cs) (E_cs : Exa Z Z.heap cs "sun/nio/cs/UTF_8") (O0 : Old Z n0 h0) :
    MetFree l own_y26 (head1 (Jvm.Cond.code own_y26 jdk_41_method_11_code 3 (some .int) :: ws) (⟨0, 0, 0, 0⟩ : Room)) (fun aa U => aa = #[(.int 0), (.int 1), vf] ∧ Z.Warmed39 U.vm ∧ U.heap = h0) (fun _ _ _ _ _ => True) (fun _ U o U' => ∃ v L, o = .returned v ∧ own_pci_1_0_Q Z vf zCS fm cs h0 n0 v U'.heap L ∧ FrameEnd U o U' L (⟨0, 0, 0, 0⟩ : Room).cells (⟨0, 0, 0, 0⟩ : Room).slots) := by
  refine MetFree.of_bodySF (plainFor_of_name own_pn_jdk_internal_util_Preconditions) hisR ?_
  intro p e s m args below meth c s₁ Bd hml0 hP hK
  obtain ⟨rfl, hZ, hh⟩ := hP
  have hx := Bd.exec
  have hby := Bd.bytes
  have hml : c.maxLocals = 3 := hml0
  have hown : s.vm.findClass "jdk/internal/util/Preconditions" = some m.cls := findClass_of_methodNamed Bd.named
  have hnm := (name_of_methodNamed Bd.named Bd.method).1
  have hlk := Bd.notSynchronized
  have X0 : Stand p l e (⟨0, 0, 0, 0⟩ : Room) s m #[(.int 0), (.int 1), vf] below meth c s₁ [] 0 0 := Stand.of_body Bd
  have e0 : s₁.heap = h0 := by rw [← hh, Bd.state]; rfl
  have N0 := Fr.nil n0
  refine own_start (Q := own_pci_1_0_Q Z vf zCS fm cs h0 n0) (own_pci_1_0_ef m vf hvf) ?_
  refine own_g (mkF m 17 #[.val (.int 0), .val (.int 1), .val vf] [(.int 0)]) (fun _ q => XS.iloadN X0.here hx rfl (hb hby own_d27_0) rfl (XS.ifNo X0.here hx rfl (hb hby own_d27_1) rfl ((if0 _ _).trans (flt (by decide : ¬ ((0 : Int32) < (0 : Int32)))).1) (XS.iloadN X0.here hx rfl (hb hby own_d27_4) rfl (XS.iloadN X0.here hx rfl (hb hby own_d27_5) rfl (XS.icmpYes X0.here hx rfl (pc0 := 6) (pc' := 16) rfl (hb hby own_d27_6) rfl (tlt (by decide : (0 : Int32) < (1 : Int32))).1 (by decide) (by decide) (XS.iloadN X0.here hx rfl (hb hby own_d27_16) rfl q)))))) ?_
  exact own_end X0 (v := some (.int 0)) (fun h => by rw [Bd.returns] at h; cases h) hlk (fun hr => retOut X0 hx Bd.returns rfl (Or.inl ⟨rfl, Or.inl rfl, _, rfl⟩) (hb hby own_d27_17) hr) (by rw [e0]; exact ⟨rfl, N0, rfl⟩) (by decide) (by decide)
theorem own_d26_0 : decode jdk_42_method_155_code 0 = .ok (.iload_n 0, 1) := by decide +kernel
theorem own_d26_1 : decode jdk_42_method_155_code 1 = .ok (.iload_n 1, 1) := by decide +kernel
theorem own_d26_2 : decode jdk_42_method_155_code 2 = .ok (.getstatic 1053, 3) := by decide +kernel
theorem own_d26_5 : decode jdk_42_method_155_code 5 = .ok (.invokestatic 1059, 3) := by decide +kernel
theorem own_pd__28IILjava_2futil_2ffunction_2fBiFunction_3b_29I : parseMethodDescriptor "(IILjava/util/function/BiFunction;)I" = some ⟨[.int, .int, (.object "java/util/function/BiFunction")], some .int⟩ := by decide +kernel
theorem own_d26_8 : decode jdk_42_method_155_code 8 = .ok (.pop, 1) := by decide +kernel
theorem own_d26_9 : decode jdk_42_method_155_code 9 = .ok (.return_, 1) := by decide +kernel
theorem own_sci_1_0_ef (m : MethodId)  : entryFrame m #[(.int 0), (.int 1)] 2 = mkF m 0 #[.val (.int 0), .val (.int 1)] [] := by  first | (simp [entryFrame, mkF, argsToLocals, Value.category]; done) | rfl
def own_sci_1_0_Q (Z : State) (zCS : Int32) (fm : Value) (cs : Addr) (h0 : Heap) (n0 : Nat) (v : Option Value) (h : Heap) (L : List Loc) : Prop := v = none ∧ Fr n0 L ∧ h = h0
theorem own_pn_java_lang_String : plainName "java/lang/String" = true := by first | (simp [plainName, overriddenIn]; done) | decide +kernel
set_option maxRecDepth 65536 in
set_option maxHeartbeats 40000000 in
theorem own_sci_1_0 (l : Launch) (Z : State) (a0 : Array Value) (hw : ∀ d ∈ tables_1, d.before a0 Z = true) (ws : List Jvm.Cond) (zCS : Int32) (fm : Value) (cs : Addr) (h0 : Heap) (n0 : Nat) (Z0 : n0 ≤ h0.size) (S_CS : own_A0 Z zCS) (nCS : ¬ zCS = 0) (S_SF : own_A2 Z fm) (hfm : fm.isRef = true) (S_UT : own_A1 Z cs) (S_IN : own_A3 Z cs) (E_cs : Exa Z Z.heap cs "sun/nio/cs/UTF_8") (O0 : Old Z n0 h0) :
    MetFree l own_y16 (head1 (Jvm.Cond.code own_y16 jdk_42_method_155_code 2 none :: ws) (⟨1, 0, 0, 14⟩ : Room)) (fun aa U => aa = #[(.int 0), (.int 1)] ∧ Z.Warmed39 U.vm ∧ U.heap = h0) (fun _ _ _ _ _ => True) (fun _ U o U' => ∃ v L, o = .returned v ∧ own_sci_1_0_Q Z zCS fm cs h0 n0 v U'.heap L ∧ FrameEnd U o U' L (⟨1, 0, 0, 14⟩ : Room).cells (⟨1, 0, 0, 14⟩ : Room).slots) := by
  refine MetFree.of_bodySF (plainFor_of_name own_pn_java_lang_String) hisR ?_
  intro p e s m args below meth c s₁ Bd hml0 hP hK
  obtain ⟨rfl, hZ, hh⟩ := hP
  have hx := Bd.exec
  have hby := Bd.bytes
  have hml : c.maxLocals = 2 := hml0
  have hown : s.vm.findClass "java/lang/String" = some m.cls := findClass_of_methodNamed Bd.named
  have hnm := (name_of_methodNamed Bd.named Bd.method).1
  have hlk := Bd.notSynchronized
  have X0 : Stand p l e (⟨1, 0, 0, 14⟩ : Room) s m #[(.int 0), (.int 1)] below meth c s₁ [] 0 0 := Stand.of_body Bd
  have e0 : s₁.heap = h0 := by rw [← hh, Bd.state]; rfl
  have N0 := Fr.nil n0
  refine own_start (Q := own_sci_1_0_Q Z zCS fm cs h0 n0) (own_sci_1_0_ef m ) ?_
  refine own_g (mkF m 2 #[.val (.int 0), .val (.int 1)] [(.int 1), (.int 0)]) (fun _ q => XS.iloadN X0.here hx rfl (hb hby own_d26_0) rfl (XS.iloadN X0.here hx rfl (hb hby own_d26_1) rfl q)) ?_
  obtain ⟨T1, X1, e1, st1⟩ := getS2 X0 hx hZ hown (host := "") (Or.inl (own_h hw 81 rfl)) Via.refl e0 (S_SF.ext O0.2) (g := (mkF m 2 #[.val (.int 0), .val (.int 1)] [(.int 1), (.int 0)])) rfl (hb hby own_d26_2)
  refine own_by (g' := (mkF m 5 #[.val (.int 0), .val (.int 1)] [fm, (.int 1), (.int 0)])) st1 ?_
  refine own_callS X1 hx hZ (y := own_y26) hown (own_h hw 154 rfl) (own_h hw 155 rfl) (own_h hw 82 rfl) (own_h hw 156 rfl) (by decide) (own_pci_1_0 l Z a0 hw [] fm zCS fm cs h0 n0 Z0 hfm S_CS nCS S_SF hfm S_UT S_IN E_cs O0) (by decide) (by decide) e1 (g := (mkF m 5 #[.val (.int 0), .val (.int 1)] [fm, (.int 1), (.int 0)])) rfl (by rw [hml]; rfl) (argsL := [(.int 0), (.int 1), fm]) (rest := []) (lenOf own_pd__28IILjava_2futil_2ffunction_2fBiFunction_3b_29I rfl) rfl (W := 0) (Nat.le_of_eq rfl) (hb hby own_d26_5) rfl (by decide) (by decide) ?_
  rintro rv2 T2 L2 X2 ⟨rfl, Nq2, eh2⟩
  have N2 := Fr.app N0 Nq2
  refine own_g (mkF m 9 #[.val (.int 0), .val (.int 1)] []) (fun _ q => XS.pop X2.here hx rfl (hb hby own_d26_8) rfl rfl q) ?_
  exact own_end X2 (v := none) (fun _ => rfl) hlk (fun hr => X2.returnOut hx Bd.returns (hb hby own_d26_9) hr) (by rw [eh2]; exact ⟨rfl, N2, rfl⟩) (by decide) (by decide)
theorem own_pci_2_0_ef (m : MethodId) (vf : Value) (hvf : vf.isRef = true) : entryFrame m #[(.int 0), (.int 2), vf] 3 = mkF m 0 #[.val (.int 0), .val (.int 2), .val vf] [] := by rcases ref_cases hvf with rfl | ⟨_, rfl⟩ <;>  first | (simp [entryFrame, mkF, argsToLocals, Value.category]; done) | rfl
def own_pci_2_0_Q (Z : State) (vf : Value) (zCS : Int32) (fm : Value) (cs : Addr) (h0 : Heap) (n0 : Nat) (v : Option Value) (h : Heap) (L : List Loc) : Prop := v = some (.int 0) ∧ Fr n0 L ∧ h = h0
set_option maxRecDepth 65536 in
set_option maxHeartbeats 40000000 in
theorem own_pci_2_0 (l : Launch) (Z : State) (a0 : Array Value) (hw : ∀ d ∈ tables_1, d.before a0 Z = true) (ws : List Jvm.Cond) (vf : Value) (zCS : Int32) (fm : Value) (cs : Addr) (h0 : Heap) (n0 : Nat) (Z0 : n0 ≤ h0.size) (hvf : vf.isRef = true) (S_CS : own_A0 Z zCS) (nCS : ¬ zCS = 0) (S_SF : own_A2 Z fm) (hfm : fm.isRef = true) (S_UT : own_A1 Z cs) (S_IN : own_A3 Z cs) (E_cs : Exa Z Z.heap cs "sun/nio/cs/UTF_8") (O0 : Old Z n0 h0) :
    MetFree l own_y26 (head1 (Jvm.Cond.code own_y26 jdk_41_method_11_code 3 (some .int) :: ws) (⟨0, 0, 0, 0⟩ : Room)) (fun aa U => aa = #[(.int 0), (.int 2), vf] ∧ Z.Warmed39 U.vm ∧ U.heap = h0) (fun _ _ _ _ _ => True) (fun _ U o U' => ∃ v L, o = .returned v ∧ own_pci_2_0_Q Z vf zCS fm cs h0 n0 v U'.heap L ∧ FrameEnd U o U' L (⟨0, 0, 0, 0⟩ : Room).cells (⟨0, 0, 0, 0⟩ : Room).slots) := by
  refine MetFree.of_bodySF (plainFor_of_name own_pn_jdk_internal_util_Preconditions) hisR ?_
  intro p e s m args below meth c s₁ Bd hml0 hP hK
  obtain ⟨rfl, hZ, hh⟩ := hP
  have hx := Bd.exec
  have hby := Bd.bytes
  have hml : c.maxLocals = 3 := hml0
  have hown : s.vm.findClass "jdk/internal/util/Preconditions" = some m.cls := findClass_of_methodNamed Bd.named
  have hnm := (name_of_methodNamed Bd.named Bd.method).1
  have hlk := Bd.notSynchronized
  have X0 : Stand p l e (⟨0, 0, 0, 0⟩ : Room) s m #[(.int 0), (.int 2), vf] below meth c s₁ [] 0 0 := Stand.of_body Bd
  have e0 : s₁.heap = h0 := by rw [← hh, Bd.state]; rfl
  have N0 := Fr.nil n0
  refine own_start (Q := own_pci_2_0_Q Z vf zCS fm cs h0 n0) (own_pci_2_0_ef m vf hvf) ?_
  refine own_g (mkF m 17 #[.val (.int 0), .val (.int 2), .val vf] [(.int 0)]) (fun _ q => XS.iloadN X0.here hx rfl (hb hby own_d27_0) rfl (XS.ifNo X0.here hx rfl (hb hby own_d27_1) rfl ((if0 _ _).trans (flt (by decide : ¬ ((0 : Int32) < (0 : Int32)))).1) (XS.iloadN X0.here hx rfl (hb hby own_d27_4) rfl (XS.iloadN X0.here hx rfl (hb hby own_d27_5) rfl (XS.icmpYes X0.here hx rfl (pc0 := 6) (pc' := 16) rfl (hb hby own_d27_6) rfl (tlt (by decide : (0 : Int32) < (2 : Int32))).1 (by decide) (by decide) (XS.iloadN X0.here hx rfl (hb hby own_d27_16) rfl q)))))) ?_
  exact own_end X0 (v := some (.int 0)) (fun h => by rw [Bd.returns] at h; cases h) hlk (fun hr => retOut X0 hx Bd.returns rfl (Or.inl ⟨rfl, Or.inl rfl, _, rfl⟩) (hb hby own_d27_17) hr) (by rw [e0]; exact ⟨rfl, N0, rfl⟩) (by decide) (by decide)
theorem own_sci_2_0_ef (m : MethodId)  : entryFrame m #[(.int 0), (.int 2)] 2 = mkF m 0 #[.val (.int 0), .val (.int 2)] [] := by  first | (simp [entryFrame, mkF, argsToLocals, Value.category]; done) | rfl
def own_sci_2_0_Q (Z : State) (zCS : Int32) (fm : Value) (cs : Addr) (h0 : Heap) (n0 : Nat) (v : Option Value) (h : Heap) (L : List Loc) : Prop := v = none ∧ Fr n0 L ∧ h = h0
set_option maxRecDepth 65536 in
set_option maxHeartbeats 40000000 in
theorem own_sci_2_0 (l : Launch) (Z : State) (a0 : Array Value) (hw : ∀ d ∈ tables_1, d.before a0 Z = true) (ws : List Jvm.Cond) (zCS : Int32) (fm : Value) (cs : Addr) (h0 : Heap) (n0 : Nat) (Z0 : n0 ≤ h0.size) (S_CS : own_A0 Z zCS) (nCS : ¬ zCS = 0) (S_SF : own_A2 Z fm) (hfm : fm.isRef = true) (S_UT : own_A1 Z cs) (S_IN : own_A3 Z cs) (E_cs : Exa Z Z.heap cs "sun/nio/cs/UTF_8") (O0 : Old Z n0 h0) :
    MetFree l own_y16 (head1 (Jvm.Cond.code own_y16 jdk_42_method_155_code 2 none :: ws) (⟨1, 0, 0, 14⟩ : Room)) (fun aa U => aa = #[(.int 0), (.int 2)] ∧ Z.Warmed39 U.vm ∧ U.heap = h0) (fun _ _ _ _ _ => True) (fun _ U o U' => ∃ v L, o = .returned v ∧ own_sci_2_0_Q Z zCS fm cs h0 n0 v U'.heap L ∧ FrameEnd U o U' L (⟨1, 0, 0, 14⟩ : Room).cells (⟨1, 0, 0, 14⟩ : Room).slots) := by
  refine MetFree.of_bodySF (plainFor_of_name own_pn_java_lang_String) hisR ?_
  intro p e s m args below meth c s₁ Bd hml0 hP hK
  obtain ⟨rfl, hZ, hh⟩ := hP
  have hx := Bd.exec
  have hby := Bd.bytes
  have hml : c.maxLocals = 2 := hml0
  have hown : s.vm.findClass "java/lang/String" = some m.cls := findClass_of_methodNamed Bd.named
  have hnm := (name_of_methodNamed Bd.named Bd.method).1
  have hlk := Bd.notSynchronized
  have X0 : Stand p l e (⟨1, 0, 0, 14⟩ : Room) s m #[(.int 0), (.int 2)] below meth c s₁ [] 0 0 := Stand.of_body Bd
  have e0 : s₁.heap = h0 := by rw [← hh, Bd.state]; rfl
  have N0 := Fr.nil n0
  refine own_start (Q := own_sci_2_0_Q Z zCS fm cs h0 n0) (own_sci_2_0_ef m ) ?_
  refine own_g (mkF m 2 #[.val (.int 0), .val (.int 2)] [(.int 2), (.int 0)]) (fun _ q => XS.iloadN X0.here hx rfl (hb hby own_d26_0) rfl (XS.iloadN X0.here hx rfl (hb hby own_d26_1) rfl q)) ?_
  obtain ⟨T1, X1, e1, st1⟩ := getS2 X0 hx hZ hown (host := "") (Or.inl (own_h hw 81 rfl)) Via.refl e0 (S_SF.ext O0.2) (g := (mkF m 2 #[.val (.int 0), .val (.int 2)] [(.int 2), (.int 0)])) rfl (hb hby own_d26_2)
  refine own_by (g' := (mkF m 5 #[.val (.int 0), .val (.int 2)] [fm, (.int 2), (.int 0)])) st1 ?_
  refine own_callS X1 hx hZ (y := own_y26) hown (own_h hw 154 rfl) (own_h hw 155 rfl) (own_h hw 82 rfl) (own_h hw 156 rfl) (by decide) (own_pci_2_0 l Z a0 hw [] fm zCS fm cs h0 n0 Z0 hfm S_CS nCS S_SF hfm S_UT S_IN E_cs O0) (by decide) (by decide) e1 (g := (mkF m 5 #[.val (.int 0), .val (.int 2)] [fm, (.int 2), (.int 0)])) rfl (by rw [hml]; rfl) (argsL := [(.int 0), (.int 2), fm]) (rest := []) (lenOf own_pd__28IILjava_2futil_2ffunction_2fBiFunction_3b_29I rfl) rfl (W := 0) (Nat.le_of_eq rfl) (hb hby own_d26_5) rfl (by decide) (by decide) ?_
  rintro rv2 T2 L2 X2 ⟨rfl, Nq2, eh2⟩
  have N2 := Fr.app N0 Nq2
  refine own_g (mkF m 9 #[.val (.int 0), .val (.int 2)] []) (fun _ q => XS.pop X2.here hx rfl (hb hby own_d26_8) rfl rfl q) ?_
  exact own_end X2 (v := none) (fun _ => rfl) hlk (fun hr => X2.returnOut hx Bd.returns (hb hby own_d26_9) hr) (by rw [eh2]; exact ⟨rfl, N2, rfl⟩) (by decide) (by decide)
theorem own_pci_2_1_ef (m : MethodId) (vf : Value) (hvf : vf.isRef = true) : entryFrame m #[(.int 1), (.int 2), vf] 3 = mkF m 0 #[.val (.int 1), .val (.int 2), .val vf] [] := by rcases ref_cases hvf with rfl | ⟨_, rfl⟩ <;>  first | (simp [entryFrame, mkF, argsToLocals, Value.category]; done) | rfl
def own_pci_2_1_Q (Z : State) (vf : Value) (zCS : Int32) (fm : Value) (cs : Addr) (h0 : Heap) (n0 : Nat) (v : Option Value) (h : Heap) (L : List Loc) : Prop := v = some (.int 1) ∧ Fr n0 L ∧ h = h0
set_option maxRecDepth 65536 in
set_option maxHeartbeats 40000000 in
theorem own_pci_2_1 (l : Launch) (Z : State) (a0 : Array Value) (hw : ∀ d ∈ tables_1, d.before a0 Z = true) (ws : List Jvm.Cond) (vf : Value) (zCS : Int32) (fm : Value) (cs : Addr) (h0 : Heap) (n0 : Nat) (Z0 : n0 ≤ h0.size) (hvf : vf.isRef = true) (S_CS : own_A0 Z zCS) (nCS : ¬ zCS = 0) (S_SF : own_A2 Z fm) (hfm : fm.isRef = true) (S_UT : own_A1 Z cs) (S_IN : own_A3 Z cs) (E_cs : Exa Z Z.heap cs "sun/nio/cs/UTF_8") (O0 : Old Z n0 h0) :
    MetFree l own_y26 (head1 (Jvm.Cond.code own_y26 jdk_41_method_11_code 3 (some .int) :: ws) (⟨0, 0, 0, 0⟩ : Room)) (fun aa U => aa = #[(.int 1), (.int 2), vf] ∧ Z.Warmed39 U.vm ∧ U.heap = h0) (fun _ _ _ _ _ => True) (fun _ U o U' => ∃ v L, o = .returned v ∧ own_pci_2_1_Q Z vf zCS fm cs h0 n0 v U'.heap L ∧ FrameEnd U o U' L (⟨0, 0, 0, 0⟩ : Room).cells (⟨0, 0, 0, 0⟩ : Room).slots) := by
  refine MetFree.of_bodySF (plainFor_of_name own_pn_jdk_internal_util_Preconditions) hisR ?_
  intro p e s m args below meth c s₁ Bd hml0 hP hK
  obtain ⟨rfl, hZ, hh⟩ := hP
  have hx := Bd.exec
  have hby := Bd.bytes
  have hml : c.maxLocals = 3 := hml0
  have hown : s.vm.findClass "jdk/internal/util/Preconditions" = some m.cls := findClass_of_methodNamed Bd.named
  have hnm := (name_of_methodNamed Bd.named Bd.method).1
  have hlk := Bd.notSynchronized
  have X0 : Stand p l e (⟨0, 0, 0, 0⟩ : Room) s m #[(.int 1), (.int 2), vf] below meth c s₁ [] 0 0 := Stand.of_body Bd
  have e0 : s₁.heap = h0 := by rw [← hh, Bd.state]; rfl
  have N0 := Fr.nil n0
  refine own_start (Q := own_pci_2_1_Q Z vf zCS fm cs h0 n0) (own_pci_2_1_ef m vf hvf) ?_
  refine own_g (mkF m 17 #[.val (.int 1), .val (.int 2), .val vf] [(.int 1)]) (fun _ q => XS.iloadN X0.here hx rfl (hb hby own_d27_0) rfl (XS.ifNo X0.here hx rfl (hb hby own_d27_1) rfl ((if0 _ _).trans (flt (by decide : ¬ ((1 : Int32) < (0 : Int32)))).1) (XS.iloadN X0.here hx rfl (hb hby own_d27_4) rfl (XS.iloadN X0.here hx rfl (hb hby own_d27_5) rfl (XS.icmpYes X0.here hx rfl (pc0 := 6) (pc' := 16) rfl (hb hby own_d27_6) rfl (tlt (by decide : (1 : Int32) < (2 : Int32))).1 (by decide) (by decide) (XS.iloadN X0.here hx rfl (hb hby own_d27_16) rfl q)))))) ?_
  exact own_end X0 (v := some (.int 1)) (fun h => by rw [Bd.returns] at h; cases h) hlk (fun hr => retOut X0 hx Bd.returns rfl (Or.inl ⟨rfl, Or.inl rfl, _, rfl⟩) (hb hby own_d27_17) hr) (by rw [e0]; exact ⟨rfl, N0, rfl⟩) (by decide) (by decide)
theorem own_sci_2_1_ef (m : MethodId)  : entryFrame m #[(.int 1), (.int 2)] 2 = mkF m 0 #[.val (.int 1), .val (.int 2)] [] := by  first | (simp [entryFrame, mkF, argsToLocals, Value.category]; done) | rfl
def own_sci_2_1_Q (Z : State) (zCS : Int32) (fm : Value) (cs : Addr) (h0 : Heap) (n0 : Nat) (v : Option Value) (h : Heap) (L : List Loc) : Prop := v = none ∧ Fr n0 L ∧ h = h0
set_option maxRecDepth 65536 in
set_option maxHeartbeats 40000000 in
theorem own_sci_2_1 (l : Launch) (Z : State) (a0 : Array Value) (hw : ∀ d ∈ tables_1, d.before a0 Z = true) (ws : List Jvm.Cond) (zCS : Int32) (fm : Value) (cs : Addr) (h0 : Heap) (n0 : Nat) (Z0 : n0 ≤ h0.size) (S_CS : own_A0 Z zCS) (nCS : ¬ zCS = 0) (S_SF : own_A2 Z fm) (hfm : fm.isRef = true) (S_UT : own_A1 Z cs) (S_IN : own_A3 Z cs) (E_cs : Exa Z Z.heap cs "sun/nio/cs/UTF_8") (O0 : Old Z n0 h0) :
    MetFree l own_y16 (head1 (Jvm.Cond.code own_y16 jdk_42_method_155_code 2 none :: ws) (⟨1, 0, 0, 14⟩ : Room)) (fun aa U => aa = #[(.int 1), (.int 2)] ∧ Z.Warmed39 U.vm ∧ U.heap = h0) (fun _ _ _ _ _ => True) (fun _ U o U' => ∃ v L, o = .returned v ∧ own_sci_2_1_Q Z zCS fm cs h0 n0 v U'.heap L ∧ FrameEnd U o U' L (⟨1, 0, 0, 14⟩ : Room).cells (⟨1, 0, 0, 14⟩ : Room).slots) := by
  refine MetFree.of_bodySF (plainFor_of_name own_pn_java_lang_String) hisR ?_
  intro p e s m args below meth c s₁ Bd hml0 hP hK
  obtain ⟨rfl, hZ, hh⟩ := hP
  have hx := Bd.exec
  have hby := Bd.bytes
  have hml : c.maxLocals = 2 := hml0
  have hown : s.vm.findClass "java/lang/String" = some m.cls := findClass_of_methodNamed Bd.named
  have hnm := (name_of_methodNamed Bd.named Bd.method).1
  have hlk := Bd.notSynchronized
  have X0 : Stand p l e (⟨1, 0, 0, 14⟩ : Room) s m #[(.int 1), (.int 2)] below meth c s₁ [] 0 0 := Stand.of_body Bd
  have e0 : s₁.heap = h0 := by rw [← hh, Bd.state]; rfl
  have N0 := Fr.nil n0
  refine own_start (Q := own_sci_2_1_Q Z zCS fm cs h0 n0) (own_sci_2_1_ef m ) ?_
  refine own_g (mkF m 2 #[.val (.int 1), .val (.int 2)] [(.int 2), (.int 1)]) (fun _ q => XS.iloadN X0.here hx rfl (hb hby own_d26_0) rfl (XS.iloadN X0.here hx rfl (hb hby own_d26_1) rfl q)) ?_
  obtain ⟨T1, X1, e1, st1⟩ := getS2 X0 hx hZ hown (host := "") (Or.inl (own_h hw 81 rfl)) Via.refl e0 (S_SF.ext O0.2) (g := (mkF m 2 #[.val (.int 1), .val (.int 2)] [(.int 2), (.int 1)])) rfl (hb hby own_d26_2)
  refine own_by (g' := (mkF m 5 #[.val (.int 1), .val (.int 2)] [fm, (.int 2), (.int 1)])) st1 ?_
  refine own_callS X1 hx hZ (y := own_y26) hown (own_h hw 154 rfl) (own_h hw 155 rfl) (own_h hw 82 rfl) (own_h hw 156 rfl) (by decide) (own_pci_2_1 l Z a0 hw [] fm zCS fm cs h0 n0 Z0 hfm S_CS nCS S_SF hfm S_UT S_IN E_cs O0) (by decide) (by decide) e1 (g := (mkF m 5 #[.val (.int 1), .val (.int 2)] [fm, (.int 2), (.int 1)])) rfl (by rw [hml]; rfl) (argsL := [(.int 1), (.int 2), fm]) (rest := []) (lenOf own_pd__28IILjava_2futil_2ffunction_2fBiFunction_3b_29I rfl) rfl (W := 0) (Nat.le_of_eq rfl) (hb hby own_d26_5) rfl (by decide) (by decide) ?_
  rintro rv2 T2 L2 X2 ⟨rfl, Nq2, eh2⟩
  have N2 := Fr.app N0 Nq2
  refine own_g (mkF m 9 #[.val (.int 1), .val (.int 2)] []) (fun _ q => XS.pop X2.here hx rfl (hb hby own_d26_8) rfl rfl q) ?_
  exact own_end X2 (v := none) (fun _ => rfl) hlk (fun hr => X2.returnOut hx Bd.returns (hb hby own_d26_9) hr) (by rw [eh2]; exact ⟨rfl, N2, rfl⟩) (by decide) (by decide)
theorem own_pci_3_0_ef (m : MethodId) (vf : Value) (hvf : vf.isRef = true) : entryFrame m #[(.int 0), (.int 3), vf] 3 = mkF m 0 #[.val (.int 0), .val (.int 3), .val vf] [] := by rcases ref_cases hvf with rfl | ⟨_, rfl⟩ <;>  first | (simp [entryFrame, mkF, argsToLocals, Value.category]; done) | rfl
def own_pci_3_0_Q (Z : State) (vf : Value) (zCS : Int32) (fm : Value) (cs : Addr) (h0 : Heap) (n0 : Nat) (v : Option Value) (h : Heap) (L : List Loc) : Prop := v = some (.int 0) ∧ Fr n0 L ∧ h = h0
set_option maxRecDepth 65536 in
set_option maxHeartbeats 40000000 in
theorem own_pci_3_0 (l : Launch) (Z : State) (a0 : Array Value) (hw : ∀ d ∈ tables_1, d.before a0 Z = true) (ws : List Jvm.Cond) (vf : Value) (zCS : Int32) (fm : Value) (cs : Addr) (h0 : Heap) (n0 : Nat) (Z0 : n0 ≤ h0.size) (hvf : vf.isRef = true) (S_CS : own_A0 Z zCS) (nCS : ¬ zCS = 0) (S_SF : own_A2 Z fm) (hfm : fm.isRef = true) (S_UT : own_A1 Z cs) (S_IN : own_A3 Z cs) (E_cs : Exa Z Z.heap cs "sun/nio/cs/UTF_8") (O0 : Old Z n0 h0) :
    MetFree l own_y26 (head1 (Jvm.Cond.code own_y26 jdk_41_method_11_code 3 (some .int) :: ws) (⟨0, 0, 0, 0⟩ : Room)) (fun aa U => aa = #[(.int 0), (.int 3), vf] ∧ Z.Warmed39 U.vm ∧ U.heap = h0) (fun _ _ _ _ _ => True) (fun _ U o U' => ∃ v L, o = .returned v ∧ own_pci_3_0_Q Z vf zCS fm cs h0 n0 v U'.heap L ∧ FrameEnd U o U' L (⟨0, 0, 0, 0⟩ : Room).cells (⟨0, 0, 0, 0⟩ : Room).slots) := by
  refine MetFree.of_bodySF (plainFor_of_name own_pn_jdk_internal_util_Preconditions) hisR ?_
  intro p e s m args below meth c s₁ Bd hml0 hP hK
  obtain ⟨rfl, hZ, hh⟩ := hP
  have hx := Bd.exec
  have hby := Bd.bytes
  have hml : c.maxLocals = 3 := hml0
  have hown : s.vm.findClass "jdk/internal/util/Preconditions" = some m.cls := findClass_of_methodNamed Bd.named
  have hnm := (name_of_methodNamed Bd.named Bd.method).1
  have hlk := Bd.notSynchronized
  have X0 : Stand p l e (⟨0, 0, 0, 0⟩ : Room) s m #[(.int 0), (.int 3), vf] below meth c s₁ [] 0 0 := Stand.of_body Bd
  have e0 : s₁.heap = h0 := by rw [← hh, Bd.state]; rfl
  have N0 := Fr.nil n0
  refine own_start (Q := own_pci_3_0_Q Z vf zCS fm cs h0 n0) (own_pci_3_0_ef m vf hvf) ?_
  refine own_g (mkF m 17 #[.val (.int 0), .val (.int 3), .val vf] [(.int 0)]) (fun _ q => XS.iloadN X0.here hx rfl (hb hby own_d27_0) rfl (XS.ifNo X0.here hx rfl (hb hby own_d27_1) rfl ((if0 _ _).trans (flt (by decide : ¬ ((0 : Int32) < (0 : Int32)))).1) (XS.iloadN X0.here hx rfl (hb hby own_d27_4) rfl (XS.iloadN X0.here hx rfl (hb hby own_d27_5) rfl (XS.icmpYes X0.here hx rfl (pc0 := 6) (pc' := 16) rfl (hb hby own_d27_6) rfl (tlt (by decide : (0 : Int32) < (3 : Int32))).1 (by decide) (by decide) (XS.iloadN X0.here hx rfl (hb hby own_d27_16) rfl q)))))) ?_
  exact own_end X0 (v := some (.int 0)) (fun h => by rw [Bd.returns] at h; cases h) hlk (fun hr => retOut X0 hx Bd.returns rfl (Or.inl ⟨rfl, Or.inl rfl, _, rfl⟩) (hb hby own_d27_17) hr) (by rw [e0]; exact ⟨rfl, N0, rfl⟩) (by decide) (by decide)
theorem own_sci_3_0_ef (m : MethodId)  : entryFrame m #[(.int 0), (.int 3)] 2 = mkF m 0 #[.val (.int 0), .val (.int 3)] [] := by  first | (simp [entryFrame, mkF, argsToLocals, Value.category]; done) | rfl
def own_sci_3_0_Q (Z : State) (zCS : Int32) (fm : Value) (cs : Addr) (h0 : Heap) (n0 : Nat) (v : Option Value) (h : Heap) (L : List Loc) : Prop := v = none ∧ Fr n0 L ∧ h = h0
set_option maxRecDepth 65536 in
set_option maxHeartbeats 40000000 in
theorem own_sci_3_0 (l : Launch) (Z : State) (a0 : Array Value) (hw : ∀ d ∈ tables_1, d.before a0 Z = true) (ws : List Jvm.Cond) (zCS : Int32) (fm : Value) (cs : Addr) (h0 : Heap) (n0 : Nat) (Z0 : n0 ≤ h0.size) (S_CS : own_A0 Z zCS) (nCS : ¬ zCS = 0) (S_SF : own_A2 Z fm) (hfm : fm.isRef = true) (S_UT : own_A1 Z cs) (S_IN : own_A3 Z cs) (E_cs : Exa Z Z.heap cs "sun/nio/cs/UTF_8") (O0 : Old Z n0 h0) :
    MetFree l own_y16 (head1 (Jvm.Cond.code own_y16 jdk_42_method_155_code 2 none :: ws) (⟨1, 0, 0, 14⟩ : Room)) (fun aa U => aa = #[(.int 0), (.int 3)] ∧ Z.Warmed39 U.vm ∧ U.heap = h0) (fun _ _ _ _ _ => True) (fun _ U o U' => ∃ v L, o = .returned v ∧ own_sci_3_0_Q Z zCS fm cs h0 n0 v U'.heap L ∧ FrameEnd U o U' L (⟨1, 0, 0, 14⟩ : Room).cells (⟨1, 0, 0, 14⟩ : Room).slots) := by
  refine MetFree.of_bodySF (plainFor_of_name own_pn_java_lang_String) hisR ?_
  intro p e s m args below meth c s₁ Bd hml0 hP hK
  obtain ⟨rfl, hZ, hh⟩ := hP
  have hx := Bd.exec
  have hby := Bd.bytes
  have hml : c.maxLocals = 2 := hml0
  have hown : s.vm.findClass "java/lang/String" = some m.cls := findClass_of_methodNamed Bd.named
  have hnm := (name_of_methodNamed Bd.named Bd.method).1
  have hlk := Bd.notSynchronized
  have X0 : Stand p l e (⟨1, 0, 0, 14⟩ : Room) s m #[(.int 0), (.int 3)] below meth c s₁ [] 0 0 := Stand.of_body Bd
  have e0 : s₁.heap = h0 := by rw [← hh, Bd.state]; rfl
  have N0 := Fr.nil n0
  refine own_start (Q := own_sci_3_0_Q Z zCS fm cs h0 n0) (own_sci_3_0_ef m ) ?_
  refine own_g (mkF m 2 #[.val (.int 0), .val (.int 3)] [(.int 3), (.int 0)]) (fun _ q => XS.iloadN X0.here hx rfl (hb hby own_d26_0) rfl (XS.iloadN X0.here hx rfl (hb hby own_d26_1) rfl q)) ?_
  obtain ⟨T1, X1, e1, st1⟩ := getS2 X0 hx hZ hown (host := "") (Or.inl (own_h hw 81 rfl)) Via.refl e0 (S_SF.ext O0.2) (g := (mkF m 2 #[.val (.int 0), .val (.int 3)] [(.int 3), (.int 0)])) rfl (hb hby own_d26_2)
  refine own_by (g' := (mkF m 5 #[.val (.int 0), .val (.int 3)] [fm, (.int 3), (.int 0)])) st1 ?_
  refine own_callS X1 hx hZ (y := own_y26) hown (own_h hw 154 rfl) (own_h hw 155 rfl) (own_h hw 82 rfl) (own_h hw 156 rfl) (by decide) (own_pci_3_0 l Z a0 hw [] fm zCS fm cs h0 n0 Z0 hfm S_CS nCS S_SF hfm S_UT S_IN E_cs O0) (by decide) (by decide) e1 (g := (mkF m 5 #[.val (.int 0), .val (.int 3)] [fm, (.int 3), (.int 0)])) rfl (by rw [hml]; rfl) (argsL := [(.int 0), (.int 3), fm]) (rest := []) (lenOf own_pd__28IILjava_2futil_2ffunction_2fBiFunction_3b_29I rfl) rfl (W := 0) (Nat.le_of_eq rfl) (hb hby own_d26_5) rfl (by decide) (by decide) ?_
  rintro rv2 T2 L2 X2 ⟨rfl, Nq2, eh2⟩
  have N2 := Fr.app N0 Nq2
  refine own_g (mkF m 9 #[.val (.int 0), .val (.int 3)] []) (fun _ q => XS.pop X2.here hx rfl (hb hby own_d26_8) rfl rfl q) ?_
  exact own_end X2 (v := none) (fun _ => rfl) hlk (fun hr => X2.returnOut hx Bd.returns (hb hby own_d26_9) hr) (by rw [eh2]; exact ⟨rfl, N2, rfl⟩) (by decide) (by decide)
theorem own_pci_3_1_ef (m : MethodId) (vf : Value) (hvf : vf.isRef = true) : entryFrame m #[(.int 1), (.int 3), vf] 3 = mkF m 0 #[.val (.int 1), .val (.int 3), .val vf] [] := by rcases ref_cases hvf with rfl | ⟨_, rfl⟩ <;>  first | (simp [entryFrame, mkF, argsToLocals, Value.category]; done) | rfl
def own_pci_3_1_Q (Z : State) (vf : Value) (zCS : Int32) (fm : Value) (cs : Addr) (h0 : Heap) (n0 : Nat) (v : Option Value) (h : Heap) (L : List Loc) : Prop := v = some (.int 1) ∧ Fr n0 L ∧ h = h0
set_option maxRecDepth 65536 in
set_option maxHeartbeats 40000000 in
theorem own_pci_3_1 (l : Launch) (Z : State) (a0 : Array Value) (hw : ∀ d ∈ tables_1, d.before a0 Z = true) (ws : List Jvm.Cond) (vf : Value) (zCS : Int32) (fm : Value) (cs : Addr) (h0 : Heap) (n0 : Nat) (Z0 : n0 ≤ h0.size) (hvf : vf.isRef = true) (S_CS : own_A0 Z zCS) (nCS : ¬ zCS = 0) (S_SF : own_A2 Z fm) (hfm : fm.isRef = true) (S_UT : own_A1 Z cs) (S_IN : own_A3 Z cs) (E_cs : Exa Z Z.heap cs "sun/nio/cs/UTF_8") (O0 : Old Z n0 h0) :
    MetFree l own_y26 (head1 (Jvm.Cond.code own_y26 jdk_41_method_11_code 3 (some .int) :: ws) (⟨0, 0, 0, 0⟩ : Room)) (fun aa U => aa = #[(.int 1), (.int 3), vf] ∧ Z.Warmed39 U.vm ∧ U.heap = h0) (fun _ _ _ _ _ => True) (fun _ U o U' => ∃ v L, o = .returned v ∧ own_pci_3_1_Q Z vf zCS fm cs h0 n0 v U'.heap L ∧ FrameEnd U o U' L (⟨0, 0, 0, 0⟩ : Room).cells (⟨0, 0, 0, 0⟩ : Room).slots) := by
  refine MetFree.of_bodySF (plainFor_of_name own_pn_jdk_internal_util_Preconditions) hisR ?_
  intro p e s m args below meth c s₁ Bd hml0 hP hK
  obtain ⟨rfl, hZ, hh⟩ := hP
  have hx := Bd.exec
  have hby := Bd.bytes
  have hml : c.maxLocals = 3 := hml0
  have hown : s.vm.findClass "jdk/internal/util/Preconditions" = some m.cls := findClass_of_methodNamed Bd.named
  have hnm := (name_of_methodNamed Bd.named Bd.method).1
  have hlk := Bd.notSynchronized
  have X0 : Stand p l e (⟨0, 0, 0, 0⟩ : Room) s m #[(.int 1), (.int 3), vf] below meth c s₁ [] 0 0 := Stand.of_body Bd
  have e0 : s₁.heap = h0 := by rw [← hh, Bd.state]; rfl
  have N0 := Fr.nil n0
  refine own_start (Q := own_pci_3_1_Q Z vf zCS fm cs h0 n0) (own_pci_3_1_ef m vf hvf) ?_
  refine own_g (mkF m 17 #[.val (.int 1), .val (.int 3), .val vf] [(.int 1)]) (fun _ q => XS.iloadN X0.here hx rfl (hb hby own_d27_0) rfl (XS.ifNo X0.here hx rfl (hb hby own_d27_1) rfl ((if0 _ _).trans (flt (by decide : ¬ ((1 : Int32) < (0 : Int32)))).1) (XS.iloadN X0.here hx rfl (hb hby own_d27_4) rfl (XS.iloadN X0.here hx rfl (hb hby own_d27_5) rfl (XS.icmpYes X0.here hx rfl (pc0 := 6) (pc' := 16) rfl (hb hby own_d27_6) rfl (tlt (by decide : (1 : Int32) < (3 : Int32))).1 (by decide) (by decide) (XS.iloadN X0.here hx rfl (hb hby own_d27_16) rfl q)))))) ?_
  exact own_end X0 (v := some (.int 1)) (fun h => by rw [Bd.returns] at h; cases h) hlk (fun hr => retOut X0 hx Bd.returns rfl (Or.inl ⟨rfl, Or.inl rfl, _, rfl⟩) (hb hby own_d27_17) hr) (by rw [e0]; exact ⟨rfl, N0, rfl⟩) (by decide) (by decide)
theorem own_sci_3_1_ef (m : MethodId)  : entryFrame m #[(.int 1), (.int 3)] 2 = mkF m 0 #[.val (.int 1), .val (.int 3)] [] := by  first | (simp [entryFrame, mkF, argsToLocals, Value.category]; done) | rfl
def own_sci_3_1_Q (Z : State) (zCS : Int32) (fm : Value) (cs : Addr) (h0 : Heap) (n0 : Nat) (v : Option Value) (h : Heap) (L : List Loc) : Prop := v = none ∧ Fr n0 L ∧ h = h0
set_option maxRecDepth 65536 in
set_option maxHeartbeats 40000000 in
theorem own_sci_3_1 (l : Launch) (Z : State) (a0 : Array Value) (hw : ∀ d ∈ tables_1, d.before a0 Z = true) (ws : List Jvm.Cond) (zCS : Int32) (fm : Value) (cs : Addr) (h0 : Heap) (n0 : Nat) (Z0 : n0 ≤ h0.size) (S_CS : own_A0 Z zCS) (nCS : ¬ zCS = 0) (S_SF : own_A2 Z fm) (hfm : fm.isRef = true) (S_UT : own_A1 Z cs) (S_IN : own_A3 Z cs) (E_cs : Exa Z Z.heap cs "sun/nio/cs/UTF_8") (O0 : Old Z n0 h0) :
    MetFree l own_y16 (head1 (Jvm.Cond.code own_y16 jdk_42_method_155_code 2 none :: ws) (⟨1, 0, 0, 14⟩ : Room)) (fun aa U => aa = #[(.int 1), (.int 3)] ∧ Z.Warmed39 U.vm ∧ U.heap = h0) (fun _ _ _ _ _ => True) (fun _ U o U' => ∃ v L, o = .returned v ∧ own_sci_3_1_Q Z zCS fm cs h0 n0 v U'.heap L ∧ FrameEnd U o U' L (⟨1, 0, 0, 14⟩ : Room).cells (⟨1, 0, 0, 14⟩ : Room).slots) := by
  refine MetFree.of_bodySF (plainFor_of_name own_pn_java_lang_String) hisR ?_
  intro p e s m args below meth c s₁ Bd hml0 hP hK
  obtain ⟨rfl, hZ, hh⟩ := hP
  have hx := Bd.exec
  have hby := Bd.bytes
  have hml : c.maxLocals = 2 := hml0
  have hown : s.vm.findClass "java/lang/String" = some m.cls := findClass_of_methodNamed Bd.named
  have hnm := (name_of_methodNamed Bd.named Bd.method).1
  have hlk := Bd.notSynchronized
  have X0 : Stand p l e (⟨1, 0, 0, 14⟩ : Room) s m #[(.int 1), (.int 3)] below meth c s₁ [] 0 0 := Stand.of_body Bd
  have e0 : s₁.heap = h0 := by rw [← hh, Bd.state]; rfl
  have N0 := Fr.nil n0
  refine own_start (Q := own_sci_3_1_Q Z zCS fm cs h0 n0) (own_sci_3_1_ef m ) ?_
  refine own_g (mkF m 2 #[.val (.int 1), .val (.int 3)] [(.int 3), (.int 1)]) (fun _ q => XS.iloadN X0.here hx rfl (hb hby own_d26_0) rfl (XS.iloadN X0.here hx rfl (hb hby own_d26_1) rfl q)) ?_
  obtain ⟨T1, X1, e1, st1⟩ := getS2 X0 hx hZ hown (host := "") (Or.inl (own_h hw 81 rfl)) Via.refl e0 (S_SF.ext O0.2) (g := (mkF m 2 #[.val (.int 1), .val (.int 3)] [(.int 3), (.int 1)])) rfl (hb hby own_d26_2)
  refine own_by (g' := (mkF m 5 #[.val (.int 1), .val (.int 3)] [fm, (.int 3), (.int 1)])) st1 ?_
  refine own_callS X1 hx hZ (y := own_y26) hown (own_h hw 154 rfl) (own_h hw 155 rfl) (own_h hw 82 rfl) (own_h hw 156 rfl) (by decide) (own_pci_3_1 l Z a0 hw [] fm zCS fm cs h0 n0 Z0 hfm S_CS nCS S_SF hfm S_UT S_IN E_cs O0) (by decide) (by decide) e1 (g := (mkF m 5 #[.val (.int 1), .val (.int 3)] [fm, (.int 3), (.int 1)])) rfl (by rw [hml]; rfl) (argsL := [(.int 1), (.int 3), fm]) (rest := []) (lenOf own_pd__28IILjava_2futil_2ffunction_2fBiFunction_3b_29I rfl) rfl (W := 0) (Nat.le_of_eq rfl) (hb hby own_d26_5) rfl (by decide) (by decide) ?_
  rintro rv2 T2 L2 X2 ⟨rfl, Nq2, eh2⟩
  have N2 := Fr.app N0 Nq2
  refine own_g (mkF m 9 #[.val (.int 1), .val (.int 3)] []) (fun _ q => XS.pop X2.here hx rfl (hb hby own_d26_8) rfl rfl q) ?_
  exact own_end X2 (v := none) (fun _ => rfl) hlk (fun hr => X2.returnOut hx Bd.returns (hb hby own_d26_9) hr) (by rw [eh2]; exact ⟨rfl, N2, rfl⟩) (by decide) (by decide)
theorem own_pci_3_2_ef (m : MethodId) (vf : Value) (hvf : vf.isRef = true) : entryFrame m #[(.int 2), (.int 3), vf] 3 = mkF m 0 #[.val (.int 2), .val (.int 3), .val vf] [] := by rcases ref_cases hvf with rfl | ⟨_, rfl⟩ <;>  first | (simp [entryFrame, mkF, argsToLocals, Value.category]; done) | rfl
def own_pci_3_2_Q (Z : State) (vf : Value) (zCS : Int32) (fm : Value) (cs : Addr) (h0 : Heap) (n0 : Nat) (v : Option Value) (h : Heap) (L : List Loc) : Prop := v = some (.int 2) ∧ Fr n0 L ∧ h = h0
set_option maxRecDepth 65536 in
set_option maxHeartbeats 40000000 in
theorem own_pci_3_2 (l : Launch) (Z : State) (a0 : Array Value) (hw : ∀ d ∈ tables_1, d.before a0 Z = true) (ws : List Jvm.Cond) (vf : Value) (zCS : Int32) (fm : Value) (cs : Addr) (h0 : Heap) (n0 : Nat) (Z0 : n0 ≤ h0.size) (hvf : vf.isRef = true) (S_CS : own_A0 Z zCS) (nCS : ¬ zCS = 0) (S_SF : own_A2 Z fm) (hfm : fm.isRef = true) (S_UT : own_A1 Z cs) (S_IN : own_A3 Z cs) (E_cs : Exa Z Z.heap cs "sun/nio/cs/UTF_8") (O0 : Old Z n0 h0) :
    MetFree l own_y26 (head1 (Jvm.Cond.code own_y26 jdk_41_method_11_code 3 (some .int) :: ws) (⟨0, 0, 0, 0⟩ : Room)) (fun aa U => aa = #[(.int 2), (.int 3), vf] ∧ Z.Warmed39 U.vm ∧ U.heap = h0) (fun _ _ _ _ _ => True) (fun _ U o U' => ∃ v L, o = .returned v ∧ own_pci_3_2_Q Z vf zCS fm cs h0 n0 v U'.heap L ∧ FrameEnd U o U' L (⟨0, 0, 0, 0⟩ : Room).cells (⟨0, 0, 0, 0⟩ : Room).slots) := by
  refine MetFree.of_bodySF (plainFor_of_name own_pn_jdk_internal_util_Preconditions) hisR ?_
  intro p e s m args below meth c s₁ Bd hml0 hP hK
  obtain ⟨rfl, hZ, hh⟩ := hP
  have hx := Bd.exec
  have hby := Bd.bytes
  have hml : c.maxLocals = 3 := hml0
  have hown : s.vm.findClass "jdk/internal/util/Preconditions" = some m.cls := findClass_of_methodNamed Bd.named
  have hnm := (name_of_methodNamed Bd.named Bd.method).1
  have hlk := Bd.notSynchronized
  have X0 : Stand p l e (⟨0, 0, 0, 0⟩ : Room) s m #[(.int 2), (.int 3), vf] below meth c s₁ [] 0 0 := Stand.of_body Bd
  have e0 : s₁.heap = h0 := by rw [← hh, Bd.state]; rfl
  have N0 := Fr.nil n0
  refine own_start (Q := own_pci_3_2_Q Z vf zCS fm cs h0 n0) (own_pci_3_2_ef m vf hvf) ?_
  refine own_g (mkF m 17 #[.val (.int 2), .val (.int 3), .val vf] [(.int 2)]) (fun _ q => XS.iloadN X0.here hx rfl (hb hby own_d27_0) rfl (XS.ifNo X0.here hx rfl (hb hby own_d27_1) rfl ((if0 _ _).trans (flt (by decide : ¬ ((2 : Int32) < (0 : Int32)))).1) (XS.iloadN X0.here hx rfl (hb hby own_d27_4) rfl (XS.iloadN X0.here hx rfl (hb hby own_d27_5) rfl (XS.icmpYes X0.here hx rfl (pc0 := 6) (pc' := 16) rfl (hb hby own_d27_6) rfl (tlt (by decide : (2 : Int32) < (3 : Int32))).1 (by decide) (by decide) (XS.iloadN X0.here hx rfl (hb hby own_d27_16) rfl q)))))) ?_
  exact own_end X0 (v := some (.int 2)) (fun h => by rw [Bd.returns] at h; cases h) hlk (fun hr => retOut X0 hx Bd.returns rfl (Or.inl ⟨rfl, Or.inl rfl, _, rfl⟩) (hb hby own_d27_17) hr) (by rw [e0]; exact ⟨rfl, N0, rfl⟩) (by decide) (by decide)
theorem own_sci_3_2_ef (m : MethodId)  : entryFrame m #[(.int 2), (.int 3)] 2 = mkF m 0 #[.val (.int 2), .val (.int 3)] [] := by  first | (simp [entryFrame, mkF, argsToLocals, Value.category]; done) | rfl
def own_sci_3_2_Q (Z : State) (zCS : Int32) (fm : Value) (cs : Addr) (h0 : Heap) (n0 : Nat) (v : Option Value) (h : Heap) (L : List Loc) : Prop := v = none ∧ Fr n0 L ∧ h = h0
set_option maxRecDepth 65536 in
set_option maxHeartbeats 40000000 in
theorem own_sci_3_2 (l : Launch) (Z : State) (a0 : Array Value) (hw : ∀ d ∈ tables_1, d.before a0 Z = true) (ws : List Jvm.Cond) (zCS : Int32) (fm : Value) (cs : Addr) (h0 : Heap) (n0 : Nat) (Z0 : n0 ≤ h0.size) (S_CS : own_A0 Z zCS) (nCS : ¬ zCS = 0) (S_SF : own_A2 Z fm) (hfm : fm.isRef = true) (S_UT : own_A1 Z cs) (S_IN : own_A3 Z cs) (E_cs : Exa Z Z.heap cs "sun/nio/cs/UTF_8") (O0 : Old Z n0 h0) :
    MetFree l own_y16 (head1 (Jvm.Cond.code own_y16 jdk_42_method_155_code 2 none :: ws) (⟨1, 0, 0, 14⟩ : Room)) (fun aa U => aa = #[(.int 2), (.int 3)] ∧ Z.Warmed39 U.vm ∧ U.heap = h0) (fun _ _ _ _ _ => True) (fun _ U o U' => ∃ v L, o = .returned v ∧ own_sci_3_2_Q Z zCS fm cs h0 n0 v U'.heap L ∧ FrameEnd U o U' L (⟨1, 0, 0, 14⟩ : Room).cells (⟨1, 0, 0, 14⟩ : Room).slots) := by
  refine MetFree.of_bodySF (plainFor_of_name own_pn_java_lang_String) hisR ?_
  intro p e s m args below meth c s₁ Bd hml0 hP hK
  obtain ⟨rfl, hZ, hh⟩ := hP
  have hx := Bd.exec
  have hby := Bd.bytes
  have hml : c.maxLocals = 2 := hml0
  have hown : s.vm.findClass "java/lang/String" = some m.cls := findClass_of_methodNamed Bd.named
  have hnm := (name_of_methodNamed Bd.named Bd.method).1
  have hlk := Bd.notSynchronized
  have X0 : Stand p l e (⟨1, 0, 0, 14⟩ : Room) s m #[(.int 2), (.int 3)] below meth c s₁ [] 0 0 := Stand.of_body Bd
  have e0 : s₁.heap = h0 := by rw [← hh, Bd.state]; rfl
  have N0 := Fr.nil n0
  refine own_start (Q := own_sci_3_2_Q Z zCS fm cs h0 n0) (own_sci_3_2_ef m ) ?_
  refine own_g (mkF m 2 #[.val (.int 2), .val (.int 3)] [(.int 3), (.int 2)]) (fun _ q => XS.iloadN X0.here hx rfl (hb hby own_d26_0) rfl (XS.iloadN X0.here hx rfl (hb hby own_d26_1) rfl q)) ?_
  obtain ⟨T1, X1, e1, st1⟩ := getS2 X0 hx hZ hown (host := "") (Or.inl (own_h hw 81 rfl)) Via.refl e0 (S_SF.ext O0.2) (g := (mkF m 2 #[.val (.int 2), .val (.int 3)] [(.int 3), (.int 2)])) rfl (hb hby own_d26_2)
  refine own_by (g' := (mkF m 5 #[.val (.int 2), .val (.int 3)] [fm, (.int 3), (.int 2)])) st1 ?_
  refine own_callS X1 hx hZ (y := own_y26) hown (own_h hw 154 rfl) (own_h hw 155 rfl) (own_h hw 82 rfl) (own_h hw 156 rfl) (by decide) (own_pci_3_2 l Z a0 hw [] fm zCS fm cs h0 n0 Z0 hfm S_CS nCS S_SF hfm S_UT S_IN E_cs O0) (by decide) (by decide) e1 (g := (mkF m 5 #[.val (.int 2), .val (.int 3)] [fm, (.int 3), (.int 2)])) rfl (by rw [hml]; rfl) (argsL := [(.int 2), (.int 3), fm]) (rest := []) (lenOf own_pd__28IILjava_2futil_2ffunction_2fBiFunction_3b_29I rfl) rfl (W := 0) (Nat.le_of_eq rfl) (hb hby own_d26_5) rfl (by decide) (by decide) ?_
  rintro rv2 T2 L2 X2 ⟨rfl, Nq2, eh2⟩
  have N2 := Fr.app N0 Nq2
  refine own_g (mkF m 9 #[.val (.int 2), .val (.int 3)] []) (fun _ q => XS.pop X2.here hx rfl (hb hby own_d26_8) rfl rfl q) ?_
  exact own_end X2 (v := none) (fun _ => rfl) hlk (fun hr => X2.returnOut hx Bd.returns (hb hby own_d26_9) hr) (by rw [eh2]; exact ⟨rfl, N2, rfl⟩) (by decide) (by decide)
theorem own_pci_4_0_ef (m : MethodId) (vf : Value) (hvf : vf.isRef = true) : entryFrame m #[(.int 0), (.int 4), vf] 3 = mkF m 0 #[.val (.int 0), .val (.int 4), .val vf] [] := by rcases ref_cases hvf with rfl | ⟨_, rfl⟩ <;>  first | (simp [entryFrame, mkF, argsToLocals, Value.category]; done) | rfl
def own_pci_4_0_Q (Z : State) (vf : Value) (zCS : Int32) (fm : Value) (cs : Addr) (h0 : Heap) (n0 : Nat) (v : Option Value) (h : Heap) (L : List Loc) : Prop := v = some (.int 0) ∧ Fr n0 L ∧ h = h0
set_option maxRecDepth 65536 in
set_option maxHeartbeats 40000000 in
theorem own_pci_4_0 (l : Launch) (Z : State) (a0 : Array Value) (hw : ∀ d ∈ tables_1, d.before a0 Z = true) (ws : List Jvm.Cond) (vf : Value) (zCS : Int32) (fm : Value) (cs : Addr) (h0 : Heap) (n0 : Nat) (Z0 : n0 ≤ h0.size) (hvf : vf.isRef = true) (S_CS : own_A0 Z zCS) (nCS : ¬ zCS = 0) (S_SF : own_A2 Z fm) (hfm : fm.isRef = true) (S_UT : own_A1 Z cs) (S_IN : own_A3 Z cs) (E_cs : Exa Z Z.heap cs "sun/nio/cs/UTF_8") (O0 : Old Z n0 h0) :
    MetFree l own_y26 (head1 (Jvm.Cond.code own_y26 jdk_41_method_11_code 3 (some .int) :: ws) (⟨0, 0, 0, 0⟩ : Room)) (fun aa U => aa = #[(.int 0), (.int 4), vf] ∧ Z.Warmed39 U.vm ∧ U.heap = h0) (fun _ _ _ _ _ => True) (fun _ U o U' => ∃ v L, o = .returned v ∧ own_pci_4_0_Q Z vf zCS fm cs h0 n0 v U'.heap L ∧ FrameEnd U o U' L (⟨0, 0, 0, 0⟩ : Room).cells (⟨0, 0, 0, 0⟩ : Room).slots) := by
  refine MetFree.of_bodySF (plainFor_of_name own_pn_jdk_internal_util_Preconditions) hisR ?_
  intro p e s m args below meth c s₁ Bd hml0 hP hK
  obtain ⟨rfl, hZ, hh⟩ := hP
  have hx := Bd.exec
  have hby := Bd.bytes
  have hml : c.maxLocals = 3 := hml0
  have hown : s.vm.findClass "jdk/internal/util/Preconditions" = some m.cls := findClass_of_methodNamed Bd.named
  have hnm := (name_of_methodNamed Bd.named Bd.method).1
  have hlk := Bd.notSynchronized
  have X0 : Stand p l e (⟨0, 0, 0, 0⟩ : Room) s m #[(.int 0), (.int 4), vf] below meth c s₁ [] 0 0 := Stand.of_body Bd
  have e0 : s₁.heap = h0 := by rw [← hh, Bd.state]; rfl
  have N0 := Fr.nil n0
  refine own_start (Q := own_pci_4_0_Q Z vf zCS fm cs h0 n0) (own_pci_4_0_ef m vf hvf) ?_
  refine own_g (mkF m 17 #[.val (.int 0), .val (.int 4), .val vf] [(.int 0)]) (fun _ q => XS.iloadN X0.here hx rfl (hb hby own_d27_0) rfl (XS.ifNo X0.here hx rfl (hb hby own_d27_1) rfl ((if0 _ _).trans (flt (by decide : ¬ ((0 : Int32) < (0 : Int32)))).1) (XS.iloadN X0.here hx rfl (hb hby own_d27_4) rfl (XS.iloadN X0.here hx rfl (hb hby own_d27_5) rfl (XS.icmpYes X0.here hx rfl (pc0 := 6) (pc' := 16) rfl (hb hby own_d27_6) rfl (tlt (by decide : (0 : Int32) < (4 : Int32))).1 (by decide) (by decide) (XS.iloadN X0.here hx rfl (hb hby own_d27_16) rfl q)))))) ?_
  exact own_end X0 (v := some (.int 0)) (fun h => by rw [Bd.returns] at h; cases h) hlk (fun hr => retOut X0 hx Bd.returns rfl (Or.inl ⟨rfl, Or.inl rfl, _, rfl⟩) (hb hby own_d27_17) hr) (by rw [e0]; exact ⟨rfl, N0, rfl⟩) (by decide) (by decide)
theorem own_sci_4_0_ef (m : MethodId)  : entryFrame m #[(.int 0), (.int 4)] 2 = mkF m 0 #[.val (.int 0), .val (.int 4)] [] := by  first | (simp [entryFrame, mkF, argsToLocals, Value.category]; done) | rfl
def own_sci_4_0_Q (Z : State) (zCS : Int32) (fm : Value) (cs : Addr) (h0 : Heap) (n0 : Nat) (v : Option Value) (h : Heap) (L : List Loc) : Prop := v = none ∧ Fr n0 L ∧ h = h0
set_option maxRecDepth 65536 in
set_option maxHeartbeats 40000000 in
theorem own_sci_4_0 (l : Launch) (Z : State) (a0 : Array Value) (hw : ∀ d ∈ tables_1, d.before a0 Z = true) (ws : List Jvm.Cond) (zCS : Int32) (fm : Value) (cs : Addr) (h0 : Heap) (n0 : Nat) (Z0 : n0 ≤ h0.size) (S_CS : own_A0 Z zCS) (nCS : ¬ zCS = 0) (S_SF : own_A2 Z fm) (hfm : fm.isRef = true) (S_UT : own_A1 Z cs) (S_IN : own_A3 Z cs) (E_cs : Exa Z Z.heap cs "sun/nio/cs/UTF_8") (O0 : Old Z n0 h0) :
    MetFree l own_y16 (head1 (Jvm.Cond.code own_y16 jdk_42_method_155_code 2 none :: ws) (⟨1, 0, 0, 14⟩ : Room)) (fun aa U => aa = #[(.int 0), (.int 4)] ∧ Z.Warmed39 U.vm ∧ U.heap = h0) (fun _ _ _ _ _ => True) (fun _ U o U' => ∃ v L, o = .returned v ∧ own_sci_4_0_Q Z zCS fm cs h0 n0 v U'.heap L ∧ FrameEnd U o U' L (⟨1, 0, 0, 14⟩ : Room).cells (⟨1, 0, 0, 14⟩ : Room).slots) := by
  refine MetFree.of_bodySF (plainFor_of_name own_pn_java_lang_String) hisR ?_
  intro p e s m args below meth c s₁ Bd hml0 hP hK
  obtain ⟨rfl, hZ, hh⟩ := hP
  have hx := Bd.exec
  have hby := Bd.bytes
  have hml : c.maxLocals = 2 := hml0
  have hown : s.vm.findClass "java/lang/String" = some m.cls := findClass_of_methodNamed Bd.named
  have hnm := (name_of_methodNamed Bd.named Bd.method).1
  have hlk := Bd.notSynchronized
  have X0 : Stand p l e (⟨1, 0, 0, 14⟩ : Room) s m #[(.int 0), (.int 4)] below meth c s₁ [] 0 0 := Stand.of_body Bd
  have e0 : s₁.heap = h0 := by rw [← hh, Bd.state]; rfl
  have N0 := Fr.nil n0
  refine own_start (Q := own_sci_4_0_Q Z zCS fm cs h0 n0) (own_sci_4_0_ef m ) ?_
  refine own_g (mkF m 2 #[.val (.int 0), .val (.int 4)] [(.int 4), (.int 0)]) (fun _ q => XS.iloadN X0.here hx rfl (hb hby own_d26_0) rfl (XS.iloadN X0.here hx rfl (hb hby own_d26_1) rfl q)) ?_
  obtain ⟨T1, X1, e1, st1⟩ := getS2 X0 hx hZ hown (host := "") (Or.inl (own_h hw 81 rfl)) Via.refl e0 (S_SF.ext O0.2) (g := (mkF m 2 #[.val (.int 0), .val (.int 4)] [(.int 4), (.int 0)])) rfl (hb hby own_d26_2)
  refine own_by (g' := (mkF m 5 #[.val (.int 0), .val (.int 4)] [fm, (.int 4), (.int 0)])) st1 ?_
  refine own_callS X1 hx hZ (y := own_y26) hown (own_h hw 154 rfl) (own_h hw 155 rfl) (own_h hw 82 rfl) (own_h hw 156 rfl) (by decide) (own_pci_4_0 l Z a0 hw [] fm zCS fm cs h0 n0 Z0 hfm S_CS nCS S_SF hfm S_UT S_IN E_cs O0) (by decide) (by decide) e1 (g := (mkF m 5 #[.val (.int 0), .val (.int 4)] [fm, (.int 4), (.int 0)])) rfl (by rw [hml]; rfl) (argsL := [(.int 0), (.int 4), fm]) (rest := []) (lenOf own_pd__28IILjava_2futil_2ffunction_2fBiFunction_3b_29I rfl) rfl (W := 0) (Nat.le_of_eq rfl) (hb hby own_d26_5) rfl (by decide) (by decide) ?_
  rintro rv2 T2 L2 X2 ⟨rfl, Nq2, eh2⟩
  have N2 := Fr.app N0 Nq2
  refine own_g (mkF m 9 #[.val (.int 0), .val (.int 4)] []) (fun _ q => XS.pop X2.here hx rfl (hb hby own_d26_8) rfl rfl q) ?_
  exact own_end X2 (v := none) (fun _ => rfl) hlk (fun hr => X2.returnOut hx Bd.returns (hb hby own_d26_9) hr) (by rw [eh2]; exact ⟨rfl, N2, rfl⟩) (by decide) (by decide)
theorem own_pci_4_1_ef (m : MethodId) (vf : Value) (hvf : vf.isRef = true) : entryFrame m #[(.int 1), (.int 4), vf] 3 = mkF m 0 #[.val (.int 1), .val (.int 4), .val vf] [] := by rcases ref_cases hvf with rfl | ⟨_, rfl⟩ <;>  first | (simp [entryFrame, mkF, argsToLocals, Value.category]; done) | rfl
def own_pci_4_1_Q (Z : State) (vf : Value) (zCS : Int32) (fm : Value) (cs : Addr) (h0 : Heap) (n0 : Nat) (v : Option Value) (h : Heap) (L : List Loc) : Prop := v = some (.int 1) ∧ Fr n0 L ∧ h = h0
set_option maxRecDepth 65536 in
set_option maxHeartbeats 40000000 in
theorem own_pci_4_1 (l : Launch) (Z : State) (a0 : Array Value) (hw : ∀ d ∈ tables_1, d.before a0 Z = true) (ws : List Jvm.Cond) (vf : Value) (zCS : Int32) (fm : Value) (cs : Addr) (h0 : Heap) (n0 : Nat) (Z0 : n0 ≤ h0.size) (hvf : vf.isRef = true) (S_CS : own_A0 Z zCS) (nCS : ¬ zCS = 0) (S_SF : own_A2 Z fm) (hfm : fm.isRef = true) (S_UT : own_A1 Z cs) (S_IN : own_A3 Z cs) (E_cs : Exa Z Z.heap cs "sun/nio/cs/UTF_8") (O0 : Old Z n0 h0) :
    MetFree l own_y26 (head1 (Jvm.Cond.code own_y26 jdk_41_method_11_code 3 (some .int) :: ws) (⟨0, 0, 0, 0⟩ : Room)) (fun aa U => aa = #[(.int 1), (.int 4), vf] ∧ Z.Warmed39 U.vm ∧ U.heap = h0) (fun _ _ _ _ _ => True) (fun _ U o U' => ∃ v L, o = .returned v ∧ own_pci_4_1_Q Z vf zCS fm cs h0 n0 v U'.heap L ∧ FrameEnd U o U' L (⟨0, 0, 0, 0⟩ : Room).cells (⟨0, 0, 0, 0⟩ : Room).slots) := by
  refine MetFree.of_bodySF (plainFor_of_name own_pn_jdk_internal_util_Preconditions) hisR ?_
  intro p e s m args below meth c s₁ Bd hml0 hP hK
  obtain ⟨rfl, hZ, hh⟩ := hP
  have hx := Bd.exec
  have hby := Bd.bytes
  have hml : c.maxLocals = 3 := hml0
  have hown : s.vm.findClass "jdk/internal/util/Preconditions" = some m.cls := findClass_of_methodNamed Bd.named
  have hnm := (name_of_methodNamed Bd.named Bd.method).1
  have hlk := Bd.notSynchronized
  have X0 : Stand p l e (⟨0, 0, 0, 0⟩ : Room) s m #[(.int 1), (.int 4), vf] below meth c s₁ [] 0 0 := Stand.of_body Bd
  have e0 : s₁.heap = h0 := by rw [← hh, Bd.state]; rfl
  have N0 := Fr.nil n0
  refine own_start (Q := own_pci_4_1_Q Z vf zCS fm cs h0 n0) (own_pci_4_1_ef m vf hvf) ?_
  refine own_g (mkF m 17 #[.val (.int 1), .val (.int 4), .val vf] [(.int 1)]) (fun _ q => XS.iloadN X0.here hx rfl (hb hby own_d27_0) rfl (XS.ifNo X0.here hx rfl (hb hby own_d27_1) rfl ((if0 _ _).trans (flt (by decide : ¬ ((1 : Int32) < (0 : Int32)))).1) (XS.iloadN X0.here hx rfl (hb hby own_d27_4) rfl (XS.iloadN X0.here hx rfl (hb hby own_d27_5) rfl (XS.icmpYes X0.here hx rfl (pc0 := 6) (pc' := 16) rfl (hb hby own_d27_6) rfl (tlt (by decide : (1 : Int32) < (4 : Int32))).1 (by decide) (by decide) (XS.iloadN X0.here hx rfl (hb hby own_d27_16) rfl q)))))) ?_
  exact own_end X0 (v := some (.int 1)) (fun h => by rw [Bd.returns] at h; cases h) hlk (fun hr => retOut X0 hx Bd.returns rfl (Or.inl ⟨rfl, Or.inl rfl, _, rfl⟩) (hb hby own_d27_17) hr) (by rw [e0]; exact ⟨rfl, N0, rfl⟩) (by decide) (by decide)
theorem own_sci_4_1_ef (m : MethodId)  : entryFrame m #[(.int 1), (.int 4)] 2 = mkF m 0 #[.val (.int 1), .val (.int 4)] [] := by  first | (simp [entryFrame, mkF, argsToLocals, Value.category]; done) | rfl
def own_sci_4_1_Q (Z : State) (zCS : Int32) (fm : Value) (cs : Addr) (h0 : Heap) (n0 : Nat) (v : Option Value) (h : Heap) (L : List Loc) : Prop := v = none ∧ Fr n0 L ∧ h = h0
set_option maxRecDepth 65536 in
set_option maxHeartbeats 40000000 in
theorem own_sci_4_1 (l : Launch) (Z : State) (a0 : Array Value) (hw : ∀ d ∈ tables_1, d.before a0 Z = true) (ws : List Jvm.Cond) (zCS : Int32) (fm : Value) (cs : Addr) (h0 : Heap) (n0 : Nat) (Z0 : n0 ≤ h0.size) (S_CS : own_A0 Z zCS) (nCS : ¬ zCS = 0) (S_SF : own_A2 Z fm) (hfm : fm.isRef = true) (S_UT : own_A1 Z cs) (S_IN : own_A3 Z cs) (E_cs : Exa Z Z.heap cs "sun/nio/cs/UTF_8") (O0 : Old Z n0 h0) :
    MetFree l own_y16 (head1 (Jvm.Cond.code own_y16 jdk_42_method_155_code 2 none :: ws) (⟨1, 0, 0, 14⟩ : Room)) (fun aa U => aa = #[(.int 1), (.int 4)] ∧ Z.Warmed39 U.vm ∧ U.heap = h0) (fun _ _ _ _ _ => True) (fun _ U o U' => ∃ v L, o = .returned v ∧ own_sci_4_1_Q Z zCS fm cs h0 n0 v U'.heap L ∧ FrameEnd U o U' L (⟨1, 0, 0, 14⟩ : Room).cells (⟨1, 0, 0, 14⟩ : Room).slots) := by
  refine MetFree.of_bodySF (plainFor_of_name own_pn_java_lang_String) hisR ?_
  intro p e s m args below meth c s₁ Bd hml0 hP hK
  obtain ⟨rfl, hZ, hh⟩ := hP
  have hx := Bd.exec
  have hby := Bd.bytes
  have hml : c.maxLocals = 2 := hml0
  have hown : s.vm.findClass "java/lang/String" = some m.cls := findClass_of_methodNamed Bd.named
  have hnm := (name_of_methodNamed Bd.named Bd.method).1
  have hlk := Bd.notSynchronized
  have X0 : Stand p l e (⟨1, 0, 0, 14⟩ : Room) s m #[(.int 1), (.int 4)] below meth c s₁ [] 0 0 := Stand.of_body Bd
  have e0 : s₁.heap = h0 := by rw [← hh, Bd.state]; rfl
  have N0 := Fr.nil n0
  refine own_start (Q := own_sci_4_1_Q Z zCS fm cs h0 n0) (own_sci_4_1_ef m ) ?_
  refine own_g (mkF m 2 #[.val (.int 1), .val (.int 4)] [(.int 4), (.int 1)]) (fun _ q => XS.iloadN X0.here hx rfl (hb hby own_d26_0) rfl (XS.iloadN X0.here hx rfl (hb hby own_d26_1) rfl q)) ?_
  obtain ⟨T1, X1, e1, st1⟩ := getS2 X0 hx hZ hown (host := "") (Or.inl (own_h hw 81 rfl)) Via.refl e0 (S_SF.ext O0.2) (g := (mkF m 2 #[.val (.int 1), .val (.int 4)] [(.int 4), (.int 1)])) rfl (hb hby own_d26_2)
  refine own_by (g' := (mkF m 5 #[.val (.int 1), .val (.int 4)] [fm, (.int 4), (.int 1)])) st1 ?_
  refine own_callS X1 hx hZ (y := own_y26) hown (own_h hw 154 rfl) (own_h hw 155 rfl) (own_h hw 82 rfl) (own_h hw 156 rfl) (by decide) (own_pci_4_1 l Z a0 hw [] fm zCS fm cs h0 n0 Z0 hfm S_CS nCS S_SF hfm S_UT S_IN E_cs O0) (by decide) (by decide) e1 (g := (mkF m 5 #[.val (.int 1), .val (.int 4)] [fm, (.int 4), (.int 1)])) rfl (by rw [hml]; rfl) (argsL := [(.int 1), (.int 4), fm]) (rest := []) (lenOf own_pd__28IILjava_2futil_2ffunction_2fBiFunction_3b_29I rfl) rfl (W := 0) (Nat.le_of_eq rfl) (hb hby own_d26_5) rfl (by decide) (by decide) ?_
  rintro rv2 T2 L2 X2 ⟨rfl, Nq2, eh2⟩
  have N2 := Fr.app N0 Nq2
  refine own_g (mkF m 9 #[.val (.int 1), .val (.int 4)] []) (fun _ q => XS.pop X2.here hx rfl (hb hby own_d26_8) rfl rfl q) ?_
  exact own_end X2 (v := none) (fun _ => rfl) hlk (fun hr => X2.returnOut hx Bd.returns (hb hby own_d26_9) hr) (by rw [eh2]; exact ⟨rfl, N2, rfl⟩) (by decide) (by decide)
theorem own_pci_4_2_ef (m : MethodId) (vf : Value) (hvf : vf.isRef = true) : entryFrame m #[(.int 2), (.int 4), vf] 3 = mkF m 0 #[.val (.int 2), .val (.int 4), .val vf] [] := by rcases ref_cases hvf with rfl | ⟨_, rfl⟩ <;>  first | (simp [entryFrame, mkF, argsToLocals, Value.category]; done) | rfl
def own_pci_4_2_Q (Z : State) (vf : Value) (zCS : Int32) (fm : Value) (cs : Addr) (h0 : Heap) (n0 : Nat) (v : Option Value) (h : Heap) (L : List Loc) : Prop := v = some (.int 2) ∧ Fr n0 L ∧ h = h0
set_option maxRecDepth 65536 in
set_option maxHeartbeats 40000000 in
theorem own_pci_4_2 (l : Launch) (Z : State) (a0 : Array Value) (hw : ∀ d ∈ tables_1, d.before a0 Z = true) (ws : List Jvm.Cond) (vf : Value) (zCS : Int32) (fm : Value) (cs : Addr) (h0 : Heap) (n0 : Nat) (Z0 : n0 ≤ h0.size) (hvf : vf.isRef = true) (S_CS : own_A0 Z zCS) (nCS : ¬ zCS = 0) (S_SF : own_A2 Z fm) (hfm : fm.isRef = true) (S_UT : own_A1 Z cs) (S_IN : own_A3 Z cs) (E_cs : Exa Z Z.heap cs "sun/nio/cs/UTF_8") (O0 : Old Z n0 h0) :
    MetFree l own_y26 (head1 (Jvm.Cond.code own_y26 jdk_41_method_11_code 3 (some .int) :: ws) (⟨0, 0, 0, 0⟩ : Room)) (fun aa U => aa = #[(.int 2), (.int 4), vf] ∧ Z.Warmed39 U.vm ∧ U.heap = h0) (fun _ _ _ _ _ => True) (fun _ U o U' => ∃ v L, o = .returned v ∧ own_pci_4_2_Q Z vf zCS fm cs h0 n0 v U'.heap L ∧ FrameEnd U o U' L (⟨0, 0, 0, 0⟩ : Room).cells (⟨0, 0, 0, 0⟩ : Room).slots) := by
  refine MetFree.of_bodySF (plainFor_of_name own_pn_jdk_internal_util_Preconditions) hisR ?_
  intro p e s m args below meth c s₁ Bd hml0 hP hK
  obtain ⟨rfl, hZ, hh⟩ := hP
  have hx := Bd.exec
  have hby := Bd.bytes
  have hml : c.maxLocals = 3 := hml0
  have hown : s.vm.findClass "jdk/internal/util/Preconditions" = some m.cls := findClass_of_methodNamed Bd.named
  have hnm := (name_of_methodNamed Bd.named Bd.method).1
  have hlk := Bd.notSynchronized
  have X0 : Stand p l e (⟨0, 0, 0, 0⟩ : Room) s m #[(.int 2), (.int 4), vf] below meth c s₁ [] 0 0 := Stand.of_body Bd
  have e0 : s₁.heap = h0 := by rw [← hh, Bd.state]; rfl
  have N0 := Fr.nil n0
  refine own_start (Q := own_pci_4_2_Q Z vf zCS fm cs h0 n0) (own_pci_4_2_ef m vf hvf) ?_
  refine own_g (mkF m 17 #[.val (.int 2), .val (.int 4), .val vf] [(.int 2)]) (fun _ q => XS.iloadN X0.here hx rfl (hb hby own_d27_0) rfl (XS.ifNo X0.here hx rfl (hb hby own_d27_1) rfl ((if0 _ _).trans (flt (by decide : ¬ ((2 : Int32) < (0 : Int32)))).1) (XS.iloadN X0.here hx rfl (hb hby own_d27_4) rfl (XS.iloadN X0.here hx rfl (hb hby own_d27_5) rfl (XS.icmpYes X0.here hx rfl (pc0 := 6) (pc' := 16) rfl (hb hby own_d27_6) rfl (tlt (by decide : (2 : Int32) < (4 : Int32))).1 (by decide) (by decide) (XS.iloadN X0.here hx rfl (hb hby own_d27_16) rfl q)))))) ?_
  exact own_end X0 (v := some (.int 2)) (fun h => by rw [Bd.returns] at h; cases h) hlk (fun hr => retOut X0 hx Bd.returns rfl (Or.inl ⟨rfl, Or.inl rfl, _, rfl⟩) (hb hby own_d27_17) hr) (by rw [e0]; exact ⟨rfl, N0, rfl⟩) (by decide) (by decide)
theorem own_sci_4_2_ef (m : MethodId)  : entryFrame m #[(.int 2), (.int 4)] 2 = mkF m 0 #[.val (.int 2), .val (.int 4)] [] := by  first | (simp [entryFrame, mkF, argsToLocals, Value.category]; done) | rfl
def own_sci_4_2_Q (Z : State) (zCS : Int32) (fm : Value) (cs : Addr) (h0 : Heap) (n0 : Nat) (v : Option Value) (h : Heap) (L : List Loc) : Prop := v = none ∧ Fr n0 L ∧ h = h0
set_option maxRecDepth 65536 in
set_option maxHeartbeats 40000000 in
theorem own_sci_4_2 (l : Launch) (Z : State) (a0 : Array Value) (hw : ∀ d ∈ tables_1, d.before a0 Z = true) (ws : List Jvm.Cond) (zCS : Int32) (fm : Value) (cs : Addr) (h0 : Heap) (n0 : Nat) (Z0 : n0 ≤ h0.size) (S_CS : own_A0 Z zCS) (nCS : ¬ zCS = 0) (S_SF : own_A2 Z fm) (hfm : fm.isRef = true) (S_UT : own_A1 Z cs) (S_IN : own_A3 Z cs) (E_cs : Exa Z Z.heap cs "sun/nio/cs/UTF_8") (O0 : Old Z n0 h0) :
    MetFree l own_y16 (head1 (Jvm.Cond.code own_y16 jdk_42_method_155_code 2 none :: ws) (⟨1, 0, 0, 14⟩ : Room)) (fun aa U => aa = #[(.int 2), (.int 4)] ∧ Z.Warmed39 U.vm ∧ U.heap = h0) (fun _ _ _ _ _ => True) (fun _ U o U' => ∃ v L, o = .returned v ∧ own_sci_4_2_Q Z zCS fm cs h0 n0 v U'.heap L ∧ FrameEnd U o U' L (⟨1, 0, 0, 14⟩ : Room).cells (⟨1, 0, 0, 14⟩ : Room).slots) := by
  refine MetFree.of_bodySF (plainFor_of_name own_pn_java_lang_String) hisR ?_
  intro p e s m args below meth c s₁ Bd hml0 hP hK
  obtain ⟨rfl, hZ, hh⟩ := hP
  have hx := Bd.exec
  have hby := Bd.bytes
  have hml : c.maxLocals = 2 := hml0
  have hown : s.vm.findClass "java/lang/String" = some m.cls := findClass_of_methodNamed Bd.named
  have hnm := (name_of_methodNamed Bd.named Bd.method).1
  have hlk := Bd.notSynchronized
  have X0 : Stand p l e (⟨1, 0, 0, 14⟩ : Room) s m #[(.int 2), (.int 4)] below meth c s₁ [] 0 0 := Stand.of_body Bd
  have e0 : s₁.heap = h0 := by rw [← hh, Bd.state]; rfl
  have N0 := Fr.nil n0
  refine own_start (Q := own_sci_4_2_Q Z zCS fm cs h0 n0) (own_sci_4_2_ef m ) ?_
  refine own_g (mkF m 2 #[.val (.int 2), .val (.int 4)] [(.int 4), (.int 2)]) (fun _ q => XS.iloadN X0.here hx rfl (hb hby own_d26_0) rfl (XS.iloadN X0.here hx rfl (hb hby own_d26_1) rfl q)) ?_
  obtain ⟨T1, X1, e1, st1⟩ := getS2 X0 hx hZ hown (host := "") (Or.inl (own_h hw 81 rfl)) Via.refl e0 (S_SF.ext O0.2) (g := (mkF m 2 #[.val (.int 2), .val (.int 4)] [(.int 4), (.int 2)])) rfl (hb hby own_d26_2)
  refine own_by (g' := (mkF m 5 #[.val (.int 2), .val (.int 4)] [fm, (.int 4), (.int 2)])) st1 ?_
  refine own_callS X1 hx hZ (y := own_y26) hown (own_h hw 154 rfl) (own_h hw 155 rfl) (own_h hw 82 rfl) (own_h hw 156 rfl) (by decide) (own_pci_4_2 l Z a0 hw [] fm zCS fm cs h0 n0 Z0 hfm S_CS nCS S_SF hfm S_UT S_IN E_cs O0) (by decide) (by decide) e1 (g := (mkF m 5 #[.val (.int 2), .val (.int 4)] [fm, (.int 4), (.int 2)])) rfl (by rw [hml]; rfl) (argsL := [(.int 2), (.int 4), fm]) (rest := []) (lenOf own_pd__28IILjava_2futil_2ffunction_2fBiFunction_3b_29I rfl) rfl (W := 0) (Nat.le_of_eq rfl) (hb hby own_d26_5) rfl (by decide) (by decide) ?_
  rintro rv2 T2 L2 X2 ⟨rfl, Nq2, eh2⟩
  have N2 := Fr.app N0 Nq2
  refine own_g (mkF m 9 #[.val (.int 2), .val (.int 4)] []) (fun _ q => XS.pop X2.here hx rfl (hb hby own_d26_8) rfl rfl q) ?_
  exact own_end X2 (v := none) (fun _ => rfl) hlk (fun hr => X2.returnOut hx Bd.returns (hb hby own_d26_9) hr) (by rw [eh2]; exact ⟨rfl, N2, rfl⟩) (by decide) (by decide)
theorem own_pci_4_3_ef (m : MethodId) (vf : Value) (hvf : vf.isRef = true) : entryFrame m #[(.int 3), (.int 4), vf] 3 = mkF m 0 #[.val (.int 3), .val (.int 4), .val vf] [] := by rcases ref_cases hvf with rfl | ⟨_, rfl⟩ <;>  first | (simp [entryFrame, mkF, argsToLocals, Value.category]; done) | rfl
def own_pci_4_3_Q (Z : State) (vf : Value) (zCS : Int32) (fm : Value) (cs : Addr) (h0 : Heap) (n0 : Nat) (v : Option Value) (h : Heap) (L : List Loc) : Prop := v = some (.int 3) ∧ Fr n0 L ∧ h = h0
set_option maxRecDepth 65536 in
set_option maxHeartbeats 40000000 in
theorem own_pci_4_3 (l : Launch) (Z : State) (a0 : Array Value) (hw : ∀ d ∈ tables_1, d.before a0 Z = true) (ws : List Jvm.Cond) (vf : Value) (zCS : Int32) (fm : Value) (cs : Addr) (h0 : Heap) (n0 : Nat) (Z0 : n0 ≤ h0.size) (hvf : vf.isRef = true) (S_CS : own_A0 Z zCS) (nCS : ¬ zCS = 0) (S_SF : own_A2 Z fm) (hfm : fm.isRef = true) (S_UT : own_A1 Z cs) (S_IN : own_A3 Z cs) (E_cs : Exa Z Z.heap cs "sun/nio/cs/UTF_8") (O0 : Old Z n0 h0) :
    MetFree l own_y26 (head1 (Jvm.Cond.code own_y26 jdk_41_method_11_code 3 (some .int) :: ws) (⟨0, 0, 0, 0⟩ : Room)) (fun aa U => aa = #[(.int 3), (.int 4), vf] ∧ Z.Warmed39 U.vm ∧ U.heap = h0) (fun _ _ _ _ _ => True) (fun _ U o U' => ∃ v L, o = .returned v ∧ own_pci_4_3_Q Z vf zCS fm cs h0 n0 v U'.heap L ∧ FrameEnd U o U' L (⟨0, 0, 0, 0⟩ : Room).cells (⟨0, 0, 0, 0⟩ : Room).slots) := by
  refine MetFree.of_bodySF (plainFor_of_name own_pn_jdk_internal_util_Preconditions) hisR ?_
  intro p e s m args below meth c s₁ Bd hml0 hP hK
  obtain ⟨rfl, hZ, hh⟩ := hP
  have hx := Bd.exec
  have hby := Bd.bytes
  have hml : c.maxLocals = 3 := hml0
  have hown : s.vm.findClass "jdk/internal/util/Preconditions" = some m.cls := findClass_of_methodNamed Bd.named
  have hnm := (name_of_methodNamed Bd.named Bd.method).1
  have hlk := Bd.notSynchronized
  have X0 : Stand p l e (⟨0, 0, 0, 0⟩ : Room) s m #[(.int 3), (.int 4), vf] below meth c s₁ [] 0 0 := Stand.of_body Bd
  have e0 : s₁.heap = h0 := by rw [← hh, Bd.state]; rfl
  have N0 := Fr.nil n0
  refine own_start (Q := own_pci_4_3_Q Z vf zCS fm cs h0 n0) (own_pci_4_3_ef m vf hvf) ?_
  refine own_g (mkF m 17 #[.val (.int 3), .val (.int 4), .val vf] [(.int 3)]) (fun _ q => XS.iloadN X0.here hx rfl (hb hby own_d27_0) rfl (XS.ifNo X0.here hx rfl (hb hby own_d27_1) rfl ((if0 _ _).trans (flt (by decide : ¬ ((3 : Int32) < (0 : Int32)))).1) (XS.iloadN X0.here hx rfl (hb hby own_d27_4) rfl (XS.iloadN X0.here hx rfl (hb hby own_d27_5) rfl (XS.icmpYes X0.here hx rfl (pc0 := 6) (pc' := 16) rfl (hb hby own_d27_6) rfl (tlt (by decide : (3 : Int32) < (4 : Int32))).1 (by decide) (by decide) (XS.iloadN X0.here hx rfl (hb hby own_d27_16) rfl q)))))) ?_
  exact own_end X0 (v := some (.int 3)) (fun h => by rw [Bd.returns] at h; cases h) hlk (fun hr => retOut X0 hx Bd.returns rfl (Or.inl ⟨rfl, Or.inl rfl, _, rfl⟩) (hb hby own_d27_17) hr) (by rw [e0]; exact ⟨rfl, N0, rfl⟩) (by decide) (by decide)
theorem own_sci_4_3_ef (m : MethodId)  : entryFrame m #[(.int 3), (.int 4)] 2 = mkF m 0 #[.val (.int 3), .val (.int 4)] [] := by  first | (simp [entryFrame, mkF, argsToLocals, Value.category]; done) | rfl
def own_sci_4_3_Q (Z : State) (zCS : Int32) (fm : Value) (cs : Addr) (h0 : Heap) (n0 : Nat) (v : Option Value) (h : Heap) (L : List Loc) : Prop := v = none ∧ Fr n0 L ∧ h = h0
set_option maxRecDepth 65536 in
set_option maxHeartbeats 40000000 in
theorem own_sci_4_3 (l : Launch) (Z : State) (a0 : Array Value) (hw : ∀ d ∈ tables_1, d.before a0 Z = true) (ws : List Jvm.Cond) (zCS : Int32) (fm : Value) (cs : Addr) (h0 : Heap) (n0 : Nat) (Z0 : n0 ≤ h0.size) (S_CS : own_A0 Z zCS) (nCS : ¬ zCS = 0) (S_SF : own_A2 Z fm) (hfm : fm.isRef = true) (S_UT : own_A1 Z cs) (S_IN : own_A3 Z cs) (E_cs : Exa Z Z.heap cs "sun/nio/cs/UTF_8") (O0 : Old Z n0 h0) :
    MetFree l own_y16 (head1 (Jvm.Cond.code own_y16 jdk_42_method_155_code 2 none :: ws) (⟨1, 0, 0, 14⟩ : Room)) (fun aa U => aa = #[(.int 3), (.int 4)] ∧ Z.Warmed39 U.vm ∧ U.heap = h0) (fun _ _ _ _ _ => True) (fun _ U o U' => ∃ v L, o = .returned v ∧ own_sci_4_3_Q Z zCS fm cs h0 n0 v U'.heap L ∧ FrameEnd U o U' L (⟨1, 0, 0, 14⟩ : Room).cells (⟨1, 0, 0, 14⟩ : Room).slots) := by
  refine MetFree.of_bodySF (plainFor_of_name own_pn_java_lang_String) hisR ?_
  intro p e s m args below meth c s₁ Bd hml0 hP hK
  obtain ⟨rfl, hZ, hh⟩ := hP
  have hx := Bd.exec
  have hby := Bd.bytes
  have hml : c.maxLocals = 2 := hml0
  have hown : s.vm.findClass "java/lang/String" = some m.cls := findClass_of_methodNamed Bd.named
  have hnm := (name_of_methodNamed Bd.named Bd.method).1
  have hlk := Bd.notSynchronized
  have X0 : Stand p l e (⟨1, 0, 0, 14⟩ : Room) s m #[(.int 3), (.int 4)] below meth c s₁ [] 0 0 := Stand.of_body Bd
  have e0 : s₁.heap = h0 := by rw [← hh, Bd.state]; rfl
  have N0 := Fr.nil n0
  refine own_start (Q := own_sci_4_3_Q Z zCS fm cs h0 n0) (own_sci_4_3_ef m ) ?_
  refine own_g (mkF m 2 #[.val (.int 3), .val (.int 4)] [(.int 4), (.int 3)]) (fun _ q => XS.iloadN X0.here hx rfl (hb hby own_d26_0) rfl (XS.iloadN X0.here hx rfl (hb hby own_d26_1) rfl q)) ?_
  obtain ⟨T1, X1, e1, st1⟩ := getS2 X0 hx hZ hown (host := "") (Or.inl (own_h hw 81 rfl)) Via.refl e0 (S_SF.ext O0.2) (g := (mkF m 2 #[.val (.int 3), .val (.int 4)] [(.int 4), (.int 3)])) rfl (hb hby own_d26_2)
  refine own_by (g' := (mkF m 5 #[.val (.int 3), .val (.int 4)] [fm, (.int 4), (.int 3)])) st1 ?_
  refine own_callS X1 hx hZ (y := own_y26) hown (own_h hw 154 rfl) (own_h hw 155 rfl) (own_h hw 82 rfl) (own_h hw 156 rfl) (by decide) (own_pci_4_3 l Z a0 hw [] fm zCS fm cs h0 n0 Z0 hfm S_CS nCS S_SF hfm S_UT S_IN E_cs O0) (by decide) (by decide) e1 (g := (mkF m 5 #[.val (.int 3), .val (.int 4)] [fm, (.int 4), (.int 3)])) rfl (by rw [hml]; rfl) (argsL := [(.int 3), (.int 4), fm]) (rest := []) (lenOf own_pd__28IILjava_2futil_2ffunction_2fBiFunction_3b_29I rfl) rfl (W := 0) (Nat.le_of_eq rfl) (hb hby own_d26_5) rfl (by decide) (by decide) ?_
  rintro rv2 T2 L2 X2 ⟨rfl, Nq2, eh2⟩
  have N2 := Fr.app N0 Nq2
  refine own_g (mkF m 9 #[.val (.int 3), .val (.int 4)] []) (fun _ q => XS.pop X2.here hx rfl (hb hby own_d26_8) rfl rfl q) ?_
  exact own_end X2 (v := none) (fun _ => rfl) hlk (fun hr => X2.returnOut hx Bd.returns (hb hby own_d26_9) hr) (by rw [eh2]; exact ⟨rfl, N2, rfl⟩) (by decide) (by decide)
theorem own_d16_0 : decode jdk_42_method_152_code 0 = .ok (.getstatic 38, 3) := by decide +kernel
theorem own_d16_3 : decode jdk_42_method_152_code 3 = .ok (.ifCond .eq 10, 3) := by decide +kernel
theorem own_d16_6 : decode jdk_42_method_152_code 6 = .ok (.aload_n 0, 1) := by decide +kernel
theorem own_d16_7 : decode jdk_42_method_152_code 7 = .ok (.getfield 15, 3) := by decide +kernel
theorem own_d16_10 : decode jdk_42_method_152_code 10 = .ok (.goto 4, 3) := by decide +kernel
theorem own_d16_14 : decode jdk_42_method_152_code 14 = .ok (.ireturn, 1) := by decide +kernel
theorem own_cdr_ef (m : MethodId) (x0 : Addr) : entryFrame m #[(.ref x0)] 1 = mkF m 0 #[.val (.ref x0)] [] := by  first | (simp [entryFrame, mkF, argsToLocals, Value.category]; done) | rfl
def own_cdr_Q (Z : State) (x0 : Addr) (zCS : Int32) (fm : Value) (cs : Addr) (h0 : Heap) (n0 : Nat) (v : Option Value) (h : Heap) (L : List Loc) : Prop := v = some (.int 0) ∧ Fr n0 L ∧ h = h0
set_option maxRecDepth 65536 in
set_option maxHeartbeats 40000000 in
theorem own_cdr (l : Launch) (Z : State) (a0 : Array Value) (hw : ∀ d ∈ tables_1, d.before a0 Z = true) (ws : List Jvm.Cond) (x0 : Addr) (zCS : Int32) (fm : Value) (cs : Addr) (h0 : Heap) (n0 : Nat) (Z0 : n0 ≤ h0.size) (S_CS : own_A0 Z zCS) (nCS : ¬ zCS = 0) (S_SF : own_A2 Z fm) (hfm : fm.isRef = true) (S_UT : own_A1 Z cs) (S_IN : own_A3 Z cs) (E_cs : Exa Z Z.heap cs "sun/nio/cs/UTF_8") (O0 : Old Z n0 h0) (C_x : Fld Z h0 x0 "java/lang/String" "coder" "B" (.int 0)) :
    MetFree l own_y17 (head1 (Jvm.Cond.code own_y17 jdk_42_method_152_code 1 (some .byte) :: ws) (⟨0, 0, 0, 0⟩ : Room)) (fun aa U => aa = #[(.ref x0)] ∧ Z.Warmed39 U.vm ∧ U.heap = h0) (fun _ _ _ _ _ => True) (fun _ U o U' => ∃ v L, o = .returned v ∧ own_cdr_Q Z x0 zCS fm cs h0 n0 v U'.heap L ∧ FrameEnd U o U' L (⟨0, 0, 0, 0⟩ : Room).cells (⟨0, 0, 0, 0⟩ : Room).slots) := by
  refine MetFree.of_bodySF (plainFor_of_name own_pn_java_lang_String) hisR ?_
  intro p e s m args below meth c s₁ Bd hml0 hP hK
  obtain ⟨rfl, hZ, hh⟩ := hP
  have hx := Bd.exec
  have hby := Bd.bytes
  have hml : c.maxLocals = 1 := hml0
  have hown : s.vm.findClass "java/lang/String" = some m.cls := findClass_of_methodNamed Bd.named
  have hnm := (name_of_methodNamed Bd.named Bd.method).1
  have hlk := Bd.notSynchronized
  have X0 : Stand p l e (⟨0, 0, 0, 0⟩ : Room) s m #[(.ref x0)] below meth c s₁ [] 0 0 := Stand.of_body Bd
  have e0 : s₁.heap = h0 := by rw [← hh, Bd.state]; rfl
  have N0 := Fr.nil n0
  refine own_start (Q := own_cdr_Q Z x0 zCS fm cs h0 n0) (own_cdr_ef m x0) ?_
  obtain ⟨T1, X1, e1, st1⟩ := getS2 X0 hx hZ hown (host := "") (Or.inl (own_h hw 108 rfl)) Via.refl e0 (S_CS.ext O0.2) (g := (mkF m 0 #[.val (.ref x0)] [])) rfl (hb hby own_d16_0)
  refine own_by (g' := (mkF m 3 #[.val (.ref x0)] [(.int zCS)])) st1 ?_
  refine own_g (mkF m 7 #[.val (.ref x0)] [(.ref x0)]) (fun _ q => XS.ifNo X1.here hx rfl (hb hby own_d16_3) rfl ((if0 _ _).trans (feq nCS).1) (XS.aloadN X1.here hx rfl (hb hby own_d16_6) rfl rfl q)) ?_
  obtain ⟨T2, X2, e2, st2⟩ := getF X1 hx hZ hown (host := "") (Or.inl (own_h hw 97 rfl)) Via.refl e1 C_x (g := (mkF m 7 #[.val (.ref x0)] [(.ref x0)])) rfl rfl (hb hby own_d16_7)
  refine own_by (g' := (mkF m 10 #[.val (.ref x0)] [(.int 0)])) st2 ?_
  refine own_g (mkF m 14 #[.val (.ref x0)] [(.int 0)]) (fun _ q => XS.goto X2.here hx rfl (pc0 := 10) (pc' := 14) rfl (hb hby own_d16_10) (by decide) (by decide) q) ?_
  exact own_end X2 (v := some (.int (nar .byte (0 : Int32)))) (fun h => by rw [Bd.returns] at h; cases h) hlk (fun hr => retN X2 hx (t := .byte) Bd.returns (by simp) (hb hby own_d16_14) hr) (by rw [e2]; exact ⟨rfl, N0, rfl⟩) (by decide) (by decide)
theorem own_d24_0 : decode jdk_42_method_154_code 0 = .ok (.getstatic 38, 3) := by decide +kernel
theorem own_d24_3 : decode jdk_42_method_154_code 3 = .ok (.ifCond .eq 14, 3) := by decide +kernel
theorem own_d24_6 : decode jdk_42_method_154_code 6 = .ok (.aload_n 0, 1) := by decide +kernel
theorem own_d24_7 : decode jdk_42_method_154_code 7 = .ok (.getfield 15, 3) := by decide +kernel
theorem own_d24_10 : decode jdk_42_method_154_code 10 = .ok (.ifCond .ne 7, 3) := by decide +kernel
theorem own_d24_13 : decode jdk_42_method_154_code 13 = .ok (.iconst 1, 1) := by decide +kernel
theorem own_d24_14 : decode jdk_42_method_154_code 14 = .ok (.goto 4, 3) := by decide +kernel
theorem own_d24_18 : decode jdk_42_method_154_code 18 = .ok (.ireturn, 1) := by decide +kernel
theorem own_il_ef (m : MethodId) (x0 : Addr) : entryFrame m #[(.ref x0)] 1 = mkF m 0 #[.val (.ref x0)] [] := by  first | (simp [entryFrame, mkF, argsToLocals, Value.category]; done) | rfl
def own_il_Q (Z : State) (x0 : Addr) (zCS : Int32) (fm : Value) (cs : Addr) (h0 : Heap) (n0 : Nat) (v : Option Value) (h : Heap) (L : List Loc) : Prop := v = some (.int 1) ∧ Fr n0 L ∧ h = h0
set_option maxRecDepth 65536 in
set_option maxHeartbeats 40000000 in
theorem own_il (l : Launch) (Z : State) (a0 : Array Value) (hw : ∀ d ∈ tables_1, d.before a0 Z = true) (ws : List Jvm.Cond) (x0 : Addr) (zCS : Int32) (fm : Value) (cs : Addr) (h0 : Heap) (n0 : Nat) (Z0 : n0 ≤ h0.size) (S_CS : own_A0 Z zCS) (nCS : ¬ zCS = 0) (S_SF : own_A2 Z fm) (hfm : fm.isRef = true) (S_UT : own_A1 Z cs) (S_IN : own_A3 Z cs) (E_cs : Exa Z Z.heap cs "sun/nio/cs/UTF_8") (O0 : Old Z n0 h0) (C_x : Fld Z h0 x0 "java/lang/String" "coder" "B" (.int 0)) :
    MetFree l own_y18 (head1 (Jvm.Cond.code own_y18 jdk_42_method_154_code 1 (some .boolean) :: ws) (⟨0, 0, 0, 0⟩ : Room)) (fun aa U => aa = #[(.ref x0)] ∧ Z.Warmed39 U.vm ∧ U.heap = h0) (fun _ _ _ _ _ => True) (fun _ U o U' => ∃ v L, o = .returned v ∧ own_il_Q Z x0 zCS fm cs h0 n0 v U'.heap L ∧ FrameEnd U o U' L (⟨0, 0, 0, 0⟩ : Room).cells (⟨0, 0, 0, 0⟩ : Room).slots) := by
  refine MetFree.of_bodySF (plainFor_of_name own_pn_java_lang_String) hisR ?_
  intro p e s m args below meth c s₁ Bd hml0 hP hK
  obtain ⟨rfl, hZ, hh⟩ := hP
  have hx := Bd.exec
  have hby := Bd.bytes
  have hml : c.maxLocals = 1 := hml0
  have hown : s.vm.findClass "java/lang/String" = some m.cls := findClass_of_methodNamed Bd.named
  have hnm := (name_of_methodNamed Bd.named Bd.method).1
  have hlk := Bd.notSynchronized
  have X0 : Stand p l e (⟨0, 0, 0, 0⟩ : Room) s m #[(.ref x0)] below meth c s₁ [] 0 0 := Stand.of_body Bd
  have e0 : s₁.heap = h0 := by rw [← hh, Bd.state]; rfl
  have N0 := Fr.nil n0
  refine own_start (Q := own_il_Q Z x0 zCS fm cs h0 n0) (own_il_ef m x0) ?_
  obtain ⟨T1, X1, e1, st1⟩ := getS2 X0 hx hZ hown (host := "") (Or.inl (own_h hw 108 rfl)) Via.refl e0 (S_CS.ext O0.2) (g := (mkF m 0 #[.val (.ref x0)] [])) rfl (hb hby own_d24_0)
  refine own_by (g' := (mkF m 3 #[.val (.ref x0)] [(.int zCS)])) st1 ?_
  refine own_g (mkF m 7 #[.val (.ref x0)] [(.ref x0)]) (fun _ q => XS.ifNo X1.here hx rfl (hb hby own_d24_3) rfl ((if0 _ _).trans (feq nCS).1) (XS.aloadN X1.here hx rfl (hb hby own_d24_6) rfl rfl q)) ?_
  obtain ⟨T2, X2, e2, st2⟩ := getF X1 hx hZ hown (host := "") (Or.inl (own_h hw 97 rfl)) Via.refl e1 C_x (g := (mkF m 7 #[.val (.ref x0)] [(.ref x0)])) rfl rfl (hb hby own_d24_7)
  refine own_by (g' := (mkF m 10 #[.val (.ref x0)] [(.int 0)])) st2 ?_
  refine own_g (mkF m 18 #[.val (.ref x0)] [(.int 1)]) (fun _ q => XS.ifNo X2.here hx rfl (hb hby own_d24_10) rfl ((if0 _ _).trans (teq (by decide : (0 : Int32) = (0 : Int32))).2) (XS.iconst X2.here hx rfl (hb hby own_d24_13) (XS.goto X2.here hx rfl (pc0 := 14) (pc' := 18) rfl (hb hby own_d24_14) (by decide) (by decide) q))) ?_
  exact own_end X2 (v := some (.int (nar .boolean (1 : Int32)))) (fun h => by rw [Bd.returns] at h; cases h) hlk (fun hr => retN X2 hx (t := .boolean) Bd.returns (by simp) (hb hby own_d24_18) hr) (by rw [e2]; exact ⟨rfl, N0, rfl⟩) (by decide) (by decide)
theorem own_d15_0 : decode jdk_42_method_54_code 0 = .ok (.aload_n 0, 1) := by decide +kernel
theorem own_d15_1 : decode jdk_42_method_54_code 1 = .ok (.getfield 9, 3) := by decide +kernel
theorem own_d15_4 : decode jdk_42_method_54_code 4 = .ok (.arraylength, 1) := by decide +kernel
theorem own_d15_5 : decode jdk_42_method_54_code 5 = .ok (.aload_n 0, 1) := by decide +kernel
theorem own_d15_6 : decode jdk_42_method_54_code 6 = .ok (.invokevirtual 335, 3) := by decide +kernel
theorem own_pd__28_29B : parseMethodDescriptor "()B" = some ⟨[], some .byte⟩ := by decide +kernel
theorem own_d15_9 : decode jdk_42_method_54_code 9 = .ok (.ishr, 1) := by decide +kernel
theorem own_d15_10 : decode jdk_42_method_54_code 10 = .ok (.ireturn, 1) := by decide +kernel
theorem own_len_0_ef (m : MethodId) (x0 : Addr) : entryFrame m #[(.ref x0)] 1 = mkF m 0 #[.val (.ref x0)] [] := by  first | (simp [entryFrame, mkF, argsToLocals, Value.category]; done) | rfl
def own_len_0_Q (Z : State) (x0 : Addr) (t : Addr) (kb : ClassId) (zCS : Int32) (fm : Value) (cs : Addr) (h0 : Heap) (n0 : Nat) (v : Option Value) (h : Heap) (L : List Loc) : Prop := v = some (.int 0) ∧ Fr n0 L ∧ h = h0
set_option maxRecDepth 65536 in
set_option maxHeartbeats 40000000 in
theorem own_len_0 (l : Launch) (Z : State) (a0 : Array Value) (hw : ∀ d ∈ tables_1, d.before a0 Z = true) (ws : List Jvm.Cond) (x0 : Addr) (t : Addr) (kb : ClassId) (zCS : Int32) (fm : Value) (cs : Addr) (h0 : Heap) (n0 : Nat) (Z0 : n0 ≤ h0.size) (S_CS : own_A0 Z zCS) (nCS : ¬ zCS = 0) (S_SF : own_A2 Z fm) (hfm : fm.isRef = true) (S_UT : own_A1 Z cs) (S_IN : own_A3 Z cs) (E_cs : Exa Z Z.heap cs "sun/nio/cs/UTF_8") (O0 : Old Z n0 h0) (E_x : Exa Z h0 x0 "java/lang/String") (V_x : Fld Z h0 x0 "java/lang/String" "value" "[B" (.ref t)) (C_x : Fld Z h0 x0 "java/lang/String" "coder" "B" (.int 0)) (K_t : Arv Z h0 t kb .byte (0 : Int32) [] (.int 0)) :
    MetFree l own_y19 (head1 (Jvm.Cond.code own_y19 jdk_42_method_54_code 1 (some .int) :: ws) (⟨1, 0, 0, 13⟩ : Room)) (fun aa U => aa = #[(.ref x0)] ∧ Z.Warmed39 U.vm ∧ U.heap = h0) (fun _ _ _ _ _ => True) (fun _ U o U' => ∃ v L, o = .returned v ∧ own_len_0_Q Z x0 t kb zCS fm cs h0 n0 v U'.heap L ∧ FrameEnd U o U' L (⟨1, 0, 0, 13⟩ : Room).cells (⟨1, 0, 0, 13⟩ : Room).slots) := by
  refine MetFree.of_bodySF (plainFor_of_name own_pn_java_lang_String) hisR ?_
  intro p e s m args below meth c s₁ Bd hml0 hP hK
  obtain ⟨rfl, hZ, hh⟩ := hP
  have hx := Bd.exec
  have hby := Bd.bytes
  have hml : c.maxLocals = 1 := hml0
  have hown : s.vm.findClass "java/lang/String" = some m.cls := findClass_of_methodNamed Bd.named
  have hnm := (name_of_methodNamed Bd.named Bd.method).1
  have hlk := Bd.notSynchronized
  have X0 : Stand p l e (⟨1, 0, 0, 13⟩ : Room) s m #[(.ref x0)] below meth c s₁ [] 0 0 := Stand.of_body Bd
  have e0 : s₁.heap = h0 := by rw [← hh, Bd.state]; rfl
  have N0 := Fr.nil n0
  refine own_start (Q := own_len_0_Q Z x0 t kb zCS fm cs h0 n0) (own_len_0_ef m x0) ?_
  refine own_g (mkF m 1 #[.val (.ref x0)] [(.ref x0)]) (fun _ q => XS.aloadN X0.here hx rfl (hb hby own_d15_0) rfl rfl q) ?_
  obtain ⟨T1, X1, e1, st1⟩ := getF X0 hx hZ hown (host := "") (Or.inl (own_h hw 96 rfl)) Via.refl e0 V_x (g := (mkF m 1 #[.val (.ref x0)] [(.ref x0)])) rfl rfl (hb hby own_d15_1)
  refine own_by (g' := (mkF m 4 #[.val (.ref x0)] [(.ref t)])) st1 ?_
  obtain ⟨cl2, Ar2, q2, S2, P2, H2, G2⟩ := id K_t
  refine own_by (g' := (mkF m 5 #[.val (.ref x0)] [(.int 0)])) (fun _ kq => X1.arraylength hx (by rw [e1]; exact Ar2.1) (State.isArrayOf_alike hZ.alike Ar2.2.1) (g := (mkF m 4 #[.val (.ref x0)] [(.ref t)])) rfl rfl (hb hby own_d15_4) _ (by rw [len_of S2 P2]; exact kq)) ?_
  refine own_g (mkF m 6 #[.val (.ref x0)] [(.ref x0), (.int 0)]) (fun _ q => XS.aloadN X1.here hx rfl (hb hby own_d15_5) rfl rfl q) ?_
  refine own_callV X1 hx hZ (y := own_y17) (z := own_y17) hown (own_h hw 103 rfl) (own_h hw 104 rfl) (own_nf (own_h hw 106 rfl)) (own_h hw 106 rfl) (own_h hw 105 rfl) (own_h hw 107 rfl) (own_h hw 66 rfl) (by decide) E_x (own_cdr l Z a0 hw [] x0 zCS fm cs h0 n0 Z0 S_CS nCS S_SF hfm S_UT S_IN E_cs O0 C_x) (by decide) (by decide) e1 (g := (mkF m 6 #[.val (.ref x0)] [(.ref x0), (.int 0)])) rfl (by rw [hml]; rfl) (argsL := []) (rest := [(.int 0)]) (lenOf own_pd__28_29B rfl) rfl (W := 1) (Nat.le_of_eq rfl) (hb hby own_d15_6) rfl (by decide) (by decide) ?_
  rintro rv3 T3 L3 X3 ⟨rfl, Nq3, eh3⟩
  have N3 := Fr.app N0 Nq3
  refine own_g (mkF m 10 #[.val (.ref x0)] [(.int 0)]) (fun _ q => XS.ishr X3.here hx rfl (hb hby own_d15_9) rfl q) ?_
  exact own_end X3 (v := some (.int 0)) (fun h => by rw [Bd.returns] at h; cases h) hlk (fun hr => retOut X3 hx Bd.returns rfl (Or.inl ⟨rfl, Or.inl rfl, _, rfl⟩) (hb hby own_d15_10) hr) (by rw [eh3]; exact ⟨rfl, N3, rfl⟩) (by decide) (by decide)
theorem own_len_1_ef (m : MethodId) (x0 : Addr) : entryFrame m #[(.ref x0)] 1 = mkF m 0 #[.val (.ref x0)] [] := by  first | (simp [entryFrame, mkF, argsToLocals, Value.category]; done) | rfl
def own_len_1_Q (Z : State) (x0 : Addr) (t : Addr) (kb : ClassId) (c0 : Int32) (zCS : Int32) (fm : Value) (cs : Addr) (h0 : Heap) (n0 : Nat) (v : Option Value) (h : Heap) (L : List Loc) : Prop := v = some (.int 1) ∧ Fr n0 L ∧ h = h0
set_option maxRecDepth 65536 in
set_option maxHeartbeats 40000000 in
theorem own_len_1 (l : Launch) (Z : State) (a0 : Array Value) (hw : ∀ d ∈ tables_1, d.before a0 Z = true) (ws : List Jvm.Cond) (x0 : Addr) (t : Addr) (kb : ClassId) (c0 : Int32) (zCS : Int32) (fm : Value) (cs : Addr) (h0 : Heap) (n0 : Nat) (Z0 : n0 ≤ h0.size) (S_CS : own_A0 Z zCS) (nCS : ¬ zCS = 0) (S_SF : own_A2 Z fm) (hfm : fm.isRef = true) (S_UT : own_A1 Z cs) (S_IN : own_A3 Z cs) (E_cs : Exa Z Z.heap cs "sun/nio/cs/UTF_8") (O0 : Old Z n0 h0) (E_x : Exa Z h0 x0 "java/lang/String") (V_x : Fld Z h0 x0 "java/lang/String" "value" "[B" (.ref t)) (C_x : Fld Z h0 x0 "java/lang/String" "coder" "B" (.int 0)) (K_t : Arv Z h0 t kb .byte (1 : Int32) [(.int c0)] (.int 0)) :
    MetFree l own_y19 (head1 (Jvm.Cond.code own_y19 jdk_42_method_54_code 1 (some .int) :: ws) (⟨1, 0, 0, 13⟩ : Room)) (fun aa U => aa = #[(.ref x0)] ∧ Z.Warmed39 U.vm ∧ U.heap = h0) (fun _ _ _ _ _ => True) (fun _ U o U' => ∃ v L, o = .returned v ∧ own_len_1_Q Z x0 t kb c0 zCS fm cs h0 n0 v U'.heap L ∧ FrameEnd U o U' L (⟨1, 0, 0, 13⟩ : Room).cells (⟨1, 0, 0, 13⟩ : Room).slots) := by
  refine MetFree.of_bodySF (plainFor_of_name own_pn_java_lang_String) hisR ?_
  intro p e s m args below meth c s₁ Bd hml0 hP hK
  obtain ⟨rfl, hZ, hh⟩ := hP
  have hx := Bd.exec
  have hby := Bd.bytes
  have hml : c.maxLocals = 1 := hml0
  have hown : s.vm.findClass "java/lang/String" = some m.cls := findClass_of_methodNamed Bd.named
  have hnm := (name_of_methodNamed Bd.named Bd.method).1
  have hlk := Bd.notSynchronized
  have X0 : Stand p l e (⟨1, 0, 0, 13⟩ : Room) s m #[(.ref x0)] below meth c s₁ [] 0 0 := Stand.of_body Bd
  have e0 : s₁.heap = h0 := by rw [← hh, Bd.state]; rfl
  have N0 := Fr.nil n0
  refine own_start (Q := own_len_1_Q Z x0 t kb c0 zCS fm cs h0 n0) (own_len_1_ef m x0) ?_
  refine own_g (mkF m 1 #[.val (.ref x0)] [(.ref x0)]) (fun _ q => XS.aloadN X0.here hx rfl (hb hby own_d15_0) rfl rfl q) ?_
  obtain ⟨T1, X1, e1, st1⟩ := getF X0 hx hZ hown (host := "") (Or.inl (own_h hw 96 rfl)) Via.refl e0 V_x (g := (mkF m 1 #[.val (.ref x0)] [(.ref x0)])) rfl rfl (hb hby own_d15_1)
  refine own_by (g' := (mkF m 4 #[.val (.ref x0)] [(.ref t)])) st1 ?_
  obtain ⟨cl2, Ar2, q2, S2, P2, H2, G2⟩ := id K_t
  refine own_by (g' := (mkF m 5 #[.val (.ref x0)] [(.int 1)])) (fun _ kq => X1.arraylength hx (by rw [e1]; exact Ar2.1) (State.isArrayOf_alike hZ.alike Ar2.2.1) (g := (mkF m 4 #[.val (.ref x0)] [(.ref t)])) rfl rfl (hb hby own_d15_4) _ (by rw [len_of S2 P2]; exact kq)) ?_
  refine own_g (mkF m 6 #[.val (.ref x0)] [(.ref x0), (.int 1)]) (fun _ q => XS.aloadN X1.here hx rfl (hb hby own_d15_5) rfl rfl q) ?_
  refine own_callV X1 hx hZ (y := own_y17) (z := own_y17) hown (own_h hw 103 rfl) (own_h hw 104 rfl) (own_nf (own_h hw 106 rfl)) (own_h hw 106 rfl) (own_h hw 105 rfl) (own_h hw 107 rfl) (own_h hw 66 rfl) (by decide) E_x (own_cdr l Z a0 hw [] x0 zCS fm cs h0 n0 Z0 S_CS nCS S_SF hfm S_UT S_IN E_cs O0 C_x) (by decide) (by decide) e1 (g := (mkF m 6 #[.val (.ref x0)] [(.ref x0), (.int 1)])) rfl (by rw [hml]; rfl) (argsL := []) (rest := [(.int 1)]) (lenOf own_pd__28_29B rfl) rfl (W := 1) (Nat.le_of_eq rfl) (hb hby own_d15_6) rfl (by decide) (by decide) ?_
  rintro rv3 T3 L3 X3 ⟨rfl, Nq3, eh3⟩
  have N3 := Fr.app N0 Nq3
  refine own_g (mkF m 10 #[.val (.ref x0)] [(.int 1)]) (fun _ q => XS.ishr X3.here hx rfl (hb hby own_d15_9) rfl q) ?_
  exact own_end X3 (v := some (.int 1)) (fun h => by rw [Bd.returns] at h; cases h) hlk (fun hr => retOut X3 hx Bd.returns rfl (Or.inl ⟨rfl, Or.inl rfl, _, rfl⟩) (hb hby own_d15_10) hr) (by rw [eh3]; exact ⟨rfl, N3, rfl⟩) (by decide) (by decide)
theorem own_len_2_ef (m : MethodId) (x0 : Addr) : entryFrame m #[(.ref x0)] 1 = mkF m 0 #[.val (.ref x0)] [] := by  first | (simp [entryFrame, mkF, argsToLocals, Value.category]; done) | rfl
def own_len_2_Q (Z : State) (x0 : Addr) (t : Addr) (kb : ClassId) (c0 : Int32) (c1 : Int32) (zCS : Int32) (fm : Value) (cs : Addr) (h0 : Heap) (n0 : Nat) (v : Option Value) (h : Heap) (L : List Loc) : Prop := v = some (.int 2) ∧ Fr n0 L ∧ h = h0
set_option maxRecDepth 65536 in
set_option maxHeartbeats 40000000 in
theorem own_len_2 (l : Launch) (Z : State) (a0 : Array Value) (hw : ∀ d ∈ tables_1, d.before a0 Z = true) (ws : List Jvm.Cond) (x0 : Addr) (t : Addr) (kb : ClassId) (c0 : Int32) (c1 : Int32) (zCS : Int32) (fm : Value) (cs : Addr) (h0 : Heap) (n0 : Nat) (Z0 : n0 ≤ h0.size) (S_CS : own_A0 Z zCS) (nCS : ¬ zCS = 0) (S_SF : own_A2 Z fm) (hfm : fm.isRef = true) (S_UT : own_A1 Z cs) (S_IN : own_A3 Z cs) (E_cs : Exa Z Z.heap cs "sun/nio/cs/UTF_8") (O0 : Old Z n0 h0) (E_x : Exa Z h0 x0 "java/lang/String") (V_x : Fld Z h0 x0 "java/lang/String" "value" "[B" (.ref t)) (C_x : Fld Z h0 x0 "java/lang/String" "coder" "B" (.int 0)) (K_t : Arv Z h0 t kb .byte (2 : Int32) [(.int c0), (.int c1)] (.int 0)) :
    MetFree l own_y19 (head1 (Jvm.Cond.code own_y19 jdk_42_method_54_code 1 (some .int) :: ws) (⟨1, 0, 0, 13⟩ : Room)) (fun aa U => aa = #[(.ref x0)] ∧ Z.Warmed39 U.vm ∧ U.heap = h0) (fun _ _ _ _ _ => True) (fun _ U o U' => ∃ v L, o = .returned v ∧ own_len_2_Q Z x0 t kb c0 c1 zCS fm cs h0 n0 v U'.heap L ∧ FrameEnd U o U' L (⟨1, 0, 0, 13⟩ : Room).cells (⟨1, 0, 0, 13⟩ : Room).slots) := by
  refine MetFree.of_bodySF (plainFor_of_name own_pn_java_lang_String) hisR ?_
  intro p e s m args below meth c s₁ Bd hml0 hP hK
  obtain ⟨rfl, hZ, hh⟩ := hP
  have hx := Bd.exec
  have hby := Bd.bytes
  have hml : c.maxLocals = 1 := hml0
  have hown : s.vm.findClass "java/lang/String" = some m.cls := findClass_of_methodNamed Bd.named
  have hnm := (name_of_methodNamed Bd.named Bd.method).1
  have hlk := Bd.notSynchronized
  have X0 : Stand p l e (⟨1, 0, 0, 13⟩ : Room) s m #[(.ref x0)] below meth c s₁ [] 0 0 := Stand.of_body Bd
  have e0 : s₁.heap = h0 := by rw [← hh, Bd.state]; rfl
  have N0 := Fr.nil n0
  refine own_start (Q := own_len_2_Q Z x0 t kb c0 c1 zCS fm cs h0 n0) (own_len_2_ef m x0) ?_
  refine own_g (mkF m 1 #[.val (.ref x0)] [(.ref x0)]) (fun _ q => XS.aloadN X0.here hx rfl (hb hby own_d15_0) rfl rfl q) ?_
  obtain ⟨T1, X1, e1, st1⟩ := getF X0 hx hZ hown (host := "") (Or.inl (own_h hw 96 rfl)) Via.refl e0 V_x (g := (mkF m 1 #[.val (.ref x0)] [(.ref x0)])) rfl rfl (hb hby own_d15_1)
  refine own_by (g' := (mkF m 4 #[.val (.ref x0)] [(.ref t)])) st1 ?_
  obtain ⟨cl2, Ar2, q2, S2, P2, H2, G2⟩ := id K_t
  refine own_by (g' := (mkF m 5 #[.val (.ref x0)] [(.int 2)])) (fun _ kq => X1.arraylength hx (by rw [e1]; exact Ar2.1) (State.isArrayOf_alike hZ.alike Ar2.2.1) (g := (mkF m 4 #[.val (.ref x0)] [(.ref t)])) rfl rfl (hb hby own_d15_4) _ (by rw [len_of S2 P2]; exact kq)) ?_
  refine own_g (mkF m 6 #[.val (.ref x0)] [(.ref x0), (.int 2)]) (fun _ q => XS.aloadN X1.here hx rfl (hb hby own_d15_5) rfl rfl q) ?_
  refine own_callV X1 hx hZ (y := own_y17) (z := own_y17) hown (own_h hw 103 rfl) (own_h hw 104 rfl) (own_nf (own_h hw 106 rfl)) (own_h hw 106 rfl) (own_h hw 105 rfl) (own_h hw 107 rfl) (own_h hw 66 rfl) (by decide) E_x (own_cdr l Z a0 hw [] x0 zCS fm cs h0 n0 Z0 S_CS nCS S_SF hfm S_UT S_IN E_cs O0 C_x) (by decide) (by decide) e1 (g := (mkF m 6 #[.val (.ref x0)] [(.ref x0), (.int 2)])) rfl (by rw [hml]; rfl) (argsL := []) (rest := [(.int 2)]) (lenOf own_pd__28_29B rfl) rfl (W := 1) (Nat.le_of_eq rfl) (hb hby own_d15_6) rfl (by decide) (by decide) ?_
  rintro rv3 T3 L3 X3 ⟨rfl, Nq3, eh3⟩
  have N3 := Fr.app N0 Nq3
  refine own_g (mkF m 10 #[.val (.ref x0)] [(.int 2)]) (fun _ q => XS.ishr X3.here hx rfl (hb hby own_d15_9) rfl q) ?_
  exact own_end X3 (v := some (.int 2)) (fun h => by rw [Bd.returns] at h; cases h) hlk (fun hr => retOut X3 hx Bd.returns rfl (Or.inl ⟨rfl, Or.inl rfl, _, rfl⟩) (hb hby own_d15_10) hr) (by rw [eh3]; exact ⟨rfl, N3, rfl⟩) (by decide) (by decide)
theorem own_len_3_ef (m : MethodId) (x0 : Addr) : entryFrame m #[(.ref x0)] 1 = mkF m 0 #[.val (.ref x0)] [] := by  first | (simp [entryFrame, mkF, argsToLocals, Value.category]; done) | rfl
def own_len_3_Q (Z : State) (x0 : Addr) (t : Addr) (kb : ClassId) (c0 : Int32) (c1 : Int32) (c2 : Int32) (zCS : Int32) (fm : Value) (cs : Addr) (h0 : Heap) (n0 : Nat) (v : Option Value) (h : Heap) (L : List Loc) : Prop := v = some (.int 3) ∧ Fr n0 L ∧ h = h0
set_option maxRecDepth 65536 in
set_option maxHeartbeats 40000000 in
theorem own_len_3 (l : Launch) (Z : State) (a0 : Array Value) (hw : ∀ d ∈ tables_1, d.before a0 Z = true) (ws : List Jvm.Cond) (x0 : Addr) (t : Addr) (kb : ClassId) (c0 : Int32) (c1 : Int32) (c2 : Int32) (zCS : Int32) (fm : Value) (cs : Addr) (h0 : Heap) (n0 : Nat) (Z0 : n0 ≤ h0.size) (S_CS : own_A0 Z zCS) (nCS : ¬ zCS = 0) (S_SF : own_A2 Z fm) (hfm : fm.isRef = true) (S_UT : own_A1 Z cs) (S_IN : own_A3 Z cs) (E_cs : Exa Z Z.heap cs "sun/nio/cs/UTF_8") (O0 : Old Z n0 h0) (E_x : Exa Z h0 x0 "java/lang/String") (V_x : Fld Z h0 x0 "java/lang/String" "value" "[B" (.ref t)) (C_x : Fld Z h0 x0 "java/lang/String" "coder" "B" (.int 0)) (K_t : Arv Z h0 t kb .byte (3 : Int32) [(.int c0), (.int c1), (.int c2)] (.int 0)) :
    MetFree l own_y19 (head1 (Jvm.Cond.code own_y19 jdk_42_method_54_code 1 (some .int) :: ws) (⟨1, 0, 0, 13⟩ : Room)) (fun aa U => aa = #[(.ref x0)] ∧ Z.Warmed39 U.vm ∧ U.heap = h0) (fun _ _ _ _ _ => True) (fun _ U o U' => ∃ v L, o = .returned v ∧ own_len_3_Q Z x0 t kb c0 c1 c2 zCS fm cs h0 n0 v U'.heap L ∧ FrameEnd U o U' L (⟨1, 0, 0, 13⟩ : Room).cells (⟨1, 0, 0, 13⟩ : Room).slots) := by
  refine MetFree.of_bodySF (plainFor_of_name own_pn_java_lang_String) hisR ?_
  intro p e s m args below meth c s₁ Bd hml0 hP hK
  obtain ⟨rfl, hZ, hh⟩ := hP
  have hx := Bd.exec
  have hby := Bd.bytes
  have hml : c.maxLocals = 1 := hml0
  have hown : s.vm.findClass "java/lang/String" = some m.cls := findClass_of_methodNamed Bd.named
  have hnm := (name_of_methodNamed Bd.named Bd.method).1
  have hlk := Bd.notSynchronized
  have X0 : Stand p l e (⟨1, 0, 0, 13⟩ : Room) s m #[(.ref x0)] below meth c s₁ [] 0 0 := Stand.of_body Bd
  have e0 : s₁.heap = h0 := by rw [← hh, Bd.state]; rfl
  have N0 := Fr.nil n0
  refine own_start (Q := own_len_3_Q Z x0 t kb c0 c1 c2 zCS fm cs h0 n0) (own_len_3_ef m x0) ?_
  refine own_g (mkF m 1 #[.val (.ref x0)] [(.ref x0)]) (fun _ q => XS.aloadN X0.here hx rfl (hb hby own_d15_0) rfl rfl q) ?_
  obtain ⟨T1, X1, e1, st1⟩ := getF X0 hx hZ hown (host := "") (Or.inl (own_h hw 96 rfl)) Via.refl e0 V_x (g := (mkF m 1 #[.val (.ref x0)] [(.ref x0)])) rfl rfl (hb hby own_d15_1)
  refine own_by (g' := (mkF m 4 #[.val (.ref x0)] [(.ref t)])) st1 ?_
  obtain ⟨cl2, Ar2, q2, S2, P2, H2, G2⟩ := id K_t
  refine own_by (g' := (mkF m 5 #[.val (.ref x0)] [(.int 3)])) (fun _ kq => X1.arraylength hx (by rw [e1]; exact Ar2.1) (State.isArrayOf_alike hZ.alike Ar2.2.1) (g := (mkF m 4 #[.val (.ref x0)] [(.ref t)])) rfl rfl (hb hby own_d15_4) _ (by rw [len_of S2 P2]; exact kq)) ?_
  refine own_g (mkF m 6 #[.val (.ref x0)] [(.ref x0), (.int 3)]) (fun _ q => XS.aloadN X1.here hx rfl (hb hby own_d15_5) rfl rfl q) ?_
  refine own_callV X1 hx hZ (y := own_y17) (z := own_y17) hown (own_h hw 103 rfl) (own_h hw 104 rfl) (own_nf (own_h hw 106 rfl)) (own_h hw 106 rfl) (own_h hw 105 rfl) (own_h hw 107 rfl) (own_h hw 66 rfl) (by decide) E_x (own_cdr l Z a0 hw [] x0 zCS fm cs h0 n0 Z0 S_CS nCS S_SF hfm S_UT S_IN E_cs O0 C_x) (by decide) (by decide) e1 (g := (mkF m 6 #[.val (.ref x0)] [(.ref x0), (.int 3)])) rfl (by rw [hml]; rfl) (argsL := []) (rest := [(.int 3)]) (lenOf own_pd__28_29B rfl) rfl (W := 1) (Nat.le_of_eq rfl) (hb hby own_d15_6) rfl (by decide) (by decide) ?_
  rintro rv3 T3 L3 X3 ⟨rfl, Nq3, eh3⟩
  have N3 := Fr.app N0 Nq3
  refine own_g (mkF m 10 #[.val (.ref x0)] [(.int 3)]) (fun _ q => XS.ishr X3.here hx rfl (hb hby own_d15_9) rfl q) ?_
  exact own_end X3 (v := some (.int 3)) (fun h => by rw [Bd.returns] at h; cases h) hlk (fun hr => retOut X3 hx Bd.returns rfl (Or.inl ⟨rfl, Or.inl rfl, _, rfl⟩) (hb hby own_d15_10) hr) (by rw [eh3]; exact ⟨rfl, N3, rfl⟩) (by decide) (by decide)
theorem own_len_4_ef (m : MethodId) (x0 : Addr) : entryFrame m #[(.ref x0)] 1 = mkF m 0 #[.val (.ref x0)] [] := by  first | (simp [entryFrame, mkF, argsToLocals, Value.category]; done) | rfl
def own_len_4_Q (Z : State) (x0 : Addr) (t : Addr) (kb : ClassId) (c0 : Int32) (c1 : Int32) (c2 : Int32) (c3 : Int32) (zCS : Int32) (fm : Value) (cs : Addr) (h0 : Heap) (n0 : Nat) (v : Option Value) (h : Heap) (L : List Loc) : Prop := v = some (.int 4) ∧ Fr n0 L ∧ h = h0
set_option maxRecDepth 65536 in
set_option maxHeartbeats 40000000 in
theorem own_len_4 (l : Launch) (Z : State) (a0 : Array Value) (hw : ∀ d ∈ tables_1, d.before a0 Z = true) (ws : List Jvm.Cond) (x0 : Addr) (t : Addr) (kb : ClassId) (c0 : Int32) (c1 : Int32) (c2 : Int32) (c3 : Int32) (zCS : Int32) (fm : Value) (cs : Addr) (h0 : Heap) (n0 : Nat) (Z0 : n0 ≤ h0.size) (S_CS : own_A0 Z zCS) (nCS : ¬ zCS = 0) (S_SF : own_A2 Z fm) (hfm : fm.isRef = true) (S_UT : own_A1 Z cs) (S_IN : own_A3 Z cs) (E_cs : Exa Z Z.heap cs "sun/nio/cs/UTF_8") (O0 : Old Z n0 h0) (E_x : Exa Z h0 x0 "java/lang/String") (V_x : Fld Z h0 x0 "java/lang/String" "value" "[B" (.ref t)) (C_x : Fld Z h0 x0 "java/lang/String" "coder" "B" (.int 0)) (K_t : Arv Z h0 t kb .byte (4 : Int32) [(.int c0), (.int c1), (.int c2), (.int c3)] (.int 0)) :
    MetFree l own_y19 (head1 (Jvm.Cond.code own_y19 jdk_42_method_54_code 1 (some .int) :: ws) (⟨1, 0, 0, 13⟩ : Room)) (fun aa U => aa = #[(.ref x0)] ∧ Z.Warmed39 U.vm ∧ U.heap = h0) (fun _ _ _ _ _ => True) (fun _ U o U' => ∃ v L, o = .returned v ∧ own_len_4_Q Z x0 t kb c0 c1 c2 c3 zCS fm cs h0 n0 v U'.heap L ∧ FrameEnd U o U' L (⟨1, 0, 0, 13⟩ : Room).cells (⟨1, 0, 0, 13⟩ : Room).slots) := by
  refine MetFree.of_bodySF (plainFor_of_name own_pn_java_lang_String) hisR ?_
  intro p e s m args below meth c s₁ Bd hml0 hP hK
  obtain ⟨rfl, hZ, hh⟩ := hP
  have hx := Bd.exec
  have hby := Bd.bytes
  have hml : c.maxLocals = 1 := hml0
  have hown : s.vm.findClass "java/lang/String" = some m.cls := findClass_of_methodNamed Bd.named
  have hnm := (name_of_methodNamed Bd.named Bd.method).1
  have hlk := Bd.notSynchronized
  have X0 : Stand p l e (⟨1, 0, 0, 13⟩ : Room) s m #[(.ref x0)] below meth c s₁ [] 0 0 := Stand.of_body Bd
  have e0 : s₁.heap = h0 := by rw [← hh, Bd.state]; rfl
  have N0 := Fr.nil n0
  refine own_start (Q := own_len_4_Q Z x0 t kb c0 c1 c2 c3 zCS fm cs h0 n0) (own_len_4_ef m x0) ?_
  refine own_g (mkF m 1 #[.val (.ref x0)] [(.ref x0)]) (fun _ q => XS.aloadN X0.here hx rfl (hb hby own_d15_0) rfl rfl q) ?_
  obtain ⟨T1, X1, e1, st1⟩ := getF X0 hx hZ hown (host := "") (Or.inl (own_h hw 96 rfl)) Via.refl e0 V_x (g := (mkF m 1 #[.val (.ref x0)] [(.ref x0)])) rfl rfl (hb hby own_d15_1)
  refine own_by (g' := (mkF m 4 #[.val (.ref x0)] [(.ref t)])) st1 ?_
  obtain ⟨cl2, Ar2, q2, S2, P2, H2, G2⟩ := id K_t
  refine own_by (g' := (mkF m 5 #[.val (.ref x0)] [(.int 4)])) (fun _ kq => X1.arraylength hx (by rw [e1]; exact Ar2.1) (State.isArrayOf_alike hZ.alike Ar2.2.1) (g := (mkF m 4 #[.val (.ref x0)] [(.ref t)])) rfl rfl (hb hby own_d15_4) _ (by rw [len_of S2 P2]; exact kq)) ?_
  refine own_g (mkF m 6 #[.val (.ref x0)] [(.ref x0), (.int 4)]) (fun _ q => XS.aloadN X1.here hx rfl (hb hby own_d15_5) rfl rfl q) ?_
  refine own_callV X1 hx hZ (y := own_y17) (z := own_y17) hown (own_h hw 103 rfl) (own_h hw 104 rfl) (own_nf (own_h hw 106 rfl)) (own_h hw 106 rfl) (own_h hw 105 rfl) (own_h hw 107 rfl) (own_h hw 66 rfl) (by decide) E_x (own_cdr l Z a0 hw [] x0 zCS fm cs h0 n0 Z0 S_CS nCS S_SF hfm S_UT S_IN E_cs O0 C_x) (by decide) (by decide) e1 (g := (mkF m 6 #[.val (.ref x0)] [(.ref x0), (.int 4)])) rfl (by rw [hml]; rfl) (argsL := []) (rest := [(.int 4)]) (lenOf own_pd__28_29B rfl) rfl (W := 1) (Nat.le_of_eq rfl) (hb hby own_d15_6) rfl (by decide) (by decide) ?_
  rintro rv3 T3 L3 X3 ⟨rfl, Nq3, eh3⟩
  have N3 := Fr.app N0 Nq3
  refine own_g (mkF m 10 #[.val (.ref x0)] [(.int 4)]) (fun _ q => XS.ishr X3.here hx rfl (hb hby own_d15_9) rfl q) ?_
  exact own_end X3 (v := some (.int 4)) (fun h => by rw [Bd.returns] at h; cases h) hlk (fun hr => retOut X3 hx Bd.returns rfl (Or.inl ⟨rfl, Or.inl rfl, _, rfl⟩) (hb hby own_d15_10) hr) (by rw [eh3]; exact ⟨rfl, N3, rfl⟩) (by decide) (by decide)
theorem own_d25_0 : decode jdk_43_method_2_code 0 = .ok (.iload_n 1, 1) := by decide +kernel
theorem own_d25_1 : decode jdk_43_method_2_code 1 = .ok (.aload_n 0, 1) := by decide +kernel
theorem own_d25_2 : decode jdk_43_method_2_code 2 = .ok (.arraylength, 1) := by decide +kernel
theorem own_d25_3 : decode jdk_43_method_2_code 3 = .ok (.invokestatic 9, 3) := by decide +kernel
theorem own_pd__28II_29V : parseMethodDescriptor "(II)V" = some ⟨[.int, .int], none⟩ := by decide +kernel
theorem own_d25_6 : decode jdk_43_method_2_code 6 = .ok (.aload_n 0, 1) := by decide +kernel
theorem own_d25_7 : decode jdk_43_method_2_code 7 = .ok (.iload_n 1, 1) := by decide +kernel
theorem own_d25_8 : decode jdk_43_method_2_code 8 = .ok (.baload, 1) := by decide +kernel
theorem own_d25_9 : decode jdk_43_method_2_code 9 = .ok (.sipush 255, 3) := by decide +kernel
theorem own_d25_12 : decode jdk_43_method_2_code 12 = .ok (.iand, 1) := by decide +kernel
theorem own_d25_13 : decode jdk_43_method_2_code 13 = .ok (.i2c, 1) := by decide +kernel
theorem own_d25_14 : decode jdk_43_method_2_code 14 = .ok (.ireturn, 1) := by decide +kernel
theorem own_lc_1_0_ef (m : MethodId) (b : Addr) : entryFrame m #[(.ref b), (.int 0)] 2 = mkF m 0 #[.val (.ref b), .val (.int 0)] [] := by  first | (simp [entryFrame, mkF, argsToLocals, Value.category]; done) | rfl
def own_lc_1_0_Q (Z : State) (b : Addr) (kb : ClassId) (c0 : Int32) (zCS : Int32) (fm : Value) (cs : Addr) (h0 : Heap) (n0 : Nat) (v : Option Value) (h : Heap) (L : List Loc) : Prop := v = some (.int (nar .char (StrChars.chr8 c0))) ∧ Fr n0 L ∧ h = h0
theorem own_pn_java_lang_StringLatin1 : plainName "java/lang/StringLatin1" = true := by first | (simp [plainName, overriddenIn]; done) | decide +kernel
set_option maxRecDepth 65536 in
set_option maxHeartbeats 40000000 in
theorem own_lc_1_0 (l : Launch) (Z : State) (a0 : Array Value) (hw : ∀ d ∈ tables_1, d.before a0 Z = true) (ws : List Jvm.Cond) (b : Addr) (kb : ClassId) (c0 : Int32) (zCS : Int32) (fm : Value) (cs : Addr) (h0 : Heap) (n0 : Nat) (Z0 : n0 ≤ h0.size) (S_CS : own_A0 Z zCS) (nCS : ¬ zCS = 0) (S_SF : own_A2 Z fm) (hfm : fm.isRef = true) (S_UT : own_A1 Z cs) (S_IN : own_A3 Z cs) (E_cs : Exa Z Z.heap cs "sun/nio/cs/UTF_8") (O0 : Old Z n0 h0) (K_b : Arv Z h0 b kb .byte (1 : Int32) [(.int c0)] (.int 0)) :
    MetFree l own_y22 (head1 (Jvm.Cond.code own_y22 jdk_43_method_2_code 2 (some .char) :: ws) (⟨2, 0, 0, 27⟩ : Room)) (fun aa U => aa = #[(.ref b), (.int 0)] ∧ Z.Warmed39 U.vm ∧ U.heap = h0) (fun _ _ _ _ _ => True) (fun _ U o U' => ∃ v L, o = .returned v ∧ own_lc_1_0_Q Z b kb c0 zCS fm cs h0 n0 v U'.heap L ∧ FrameEnd U o U' L (⟨2, 0, 0, 27⟩ : Room).cells (⟨2, 0, 0, 27⟩ : Room).slots) := by
  refine MetFree.of_bodySF (plainFor_of_name own_pn_java_lang_StringLatin1) hisR ?_
  intro p e s m args below meth c s₁ Bd hml0 hP hK
  obtain ⟨rfl, hZ, hh⟩ := hP
  have hx := Bd.exec
  have hby := Bd.bytes
  have hml : c.maxLocals = 2 := hml0
  have hown : s.vm.findClass "java/lang/StringLatin1" = some m.cls := findClass_of_methodNamed Bd.named
  have hnm := (name_of_methodNamed Bd.named Bd.method).1
  have hlk := Bd.notSynchronized
  have X0 : Stand p l e (⟨2, 0, 0, 27⟩ : Room) s m #[(.ref b), (.int 0)] below meth c s₁ [] 0 0 := Stand.of_body Bd
  have e0 : s₁.heap = h0 := by rw [← hh, Bd.state]; rfl
  have N0 := Fr.nil n0
  refine own_start (Q := own_lc_1_0_Q Z b kb c0 zCS fm cs h0 n0) (own_lc_1_0_ef m b) ?_
  refine own_g (mkF m 2 #[.val (.ref b), .val (.int 0)] [(.ref b), (.int 0)]) (fun _ q => XS.iloadN X0.here hx rfl (hb hby own_d25_0) rfl (XS.aloadN X0.here hx rfl (hb hby own_d25_1) rfl rfl q)) ?_
  obtain ⟨cl1, Ar1, q1, S1, P1, H1, G1⟩ := id K_b
  refine own_by (g' := (mkF m 3 #[.val (.ref b), .val (.int 0)] [(.int 1), (.int 0)])) (fun _ kq => X0.arraylength hx (by rw [e0]; exact Ar1.1) (State.isArrayOf_alike hZ.alike Ar1.2.1) (g := (mkF m 2 #[.val (.ref b), .val (.int 0)] [(.ref b), (.int 0)])) rfl rfl (hb hby own_d25_2) _ (by rw [len_of S1 P1]; exact kq)) ?_
  refine own_callS X0 hx hZ (y := own_y16) hown (own_h hw 151 rfl) (own_h hw 152 rfl) (own_h hw 66 rfl) (own_h hw 153 rfl) (by decide) (own_sci_1_0 l Z a0 hw []  zCS fm cs h0 n0 Z0 S_CS nCS S_SF hfm S_UT S_IN E_cs O0 ) (by decide) (by decide) e0 (g := (mkF m 3 #[.val (.ref b), .val (.int 0)] [(.int 1), (.int 0)])) rfl (by rw [hml]; rfl) (argsL := [(.int 0), (.int 1)]) (rest := []) (lenOf own_pd__28II_29V rfl) rfl (W := 0) (Nat.le_of_eq rfl) (hb hby own_d25_3) rfl (by decide) (by decide) ?_
  rintro rv2 T2 L2 X2 ⟨rfl, Nq2, eh2⟩
  have N2 := Fr.app N0 Nq2
  refine own_g (mkF m 8 #[.val (.ref b), .val (.int 0)] [(.int 0), (.ref b)]) (fun _ q => XS.aloadN X2.here hx rfl (hb hby own_d25_6) rfl rfl (XS.iloadN X2.here hx rfl (hb hby own_d25_7) rfl q)) ?_
  obtain ⟨cl3, Ar3, q3, S3, P3, H3, G3⟩ := id K_b
  have hin3 : ¬ ((0 : Int32) < 0 ∨ cl3.slots.size ≤ ((0 : Int32)).toNatClampNeg) := inb_of S3 ⟨by decide, by decide⟩
  refine own_by (g' := (mkF m 9 #[.val (.ref b), .val (.int 0)] [(.int c0)])) (fun _ kq => X2.baloadBytes hx (j := (0 : Int32)) (v := (.int c0)) (by rw [eh2]; exact Ar3.1) (State.isArrayOf_alike hZ.alike Ar3.2.1) Ar3.2.2 hin3 (H3.at hin3 rfl) (g := (mkF m 8 #[.val (.ref b), .val (.int 0)] [(.int 0), (.ref b)])) rfl rfl (hb hby own_d25_8) _ kq) ?_
  refine own_g (mkF m 14 #[.val (.ref b), .val (.int 0)] [(.int ((c0 &&& (255 : Int32)).toUInt32.toUInt16.toUInt32.toInt32))]) (fun _ q => XS.sipush X2.here hx rfl (hb hby own_d25_9) (XS.iand X2.here hx rfl (hb hby own_d25_12) rfl (XS.i2c X2.here hx rfl (hb hby own_d25_13) rfl q))) ?_
  exact own_end X2 (v := some (.int (nar .char ((c0 &&& (255 : Int32)).toUInt32.toUInt16.toUInt32.toInt32)))) (fun h => by rw [Bd.returns] at h; cases h) hlk (fun hr => retN X2 hx (t := .char) Bd.returns (by simp) (hb hby own_d25_14) hr) (by rw [eh2]; exact ⟨rfl, N2, rfl⟩) (by decide) (by decide)
theorem own_d23_0 : decode jdk_42_method_56_code 0 = .ok (.aload_n 0, 1) := by decide +kernel
theorem own_d23_1 : decode jdk_42_method_56_code 1 = .ok (.invokevirtual 492, 3) := by decide +kernel
theorem own_pd__28_29Z : parseMethodDescriptor "()Z" = some ⟨[], some .boolean⟩ := by decide +kernel
theorem own_d23_4 : decode jdk_42_method_56_code 4 = .ok (.ifCond .eq 12, 3) := by decide +kernel
theorem own_d23_7 : decode jdk_42_method_56_code 7 = .ok (.aload_n 0, 1) := by decide +kernel
theorem own_d23_8 : decode jdk_42_method_56_code 8 = .ok (.getfield 9, 3) := by decide +kernel
theorem own_d23_11 : decode jdk_42_method_56_code 11 = .ok (.iload_n 1, 1) := by decide +kernel
theorem own_d23_12 : decode jdk_42_method_56_code 12 = .ok (.invokestatic 495, 3) := by decide +kernel
theorem own_pd__28_5bBI_29C : parseMethodDescriptor "([BI)C" = some ⟨[(.array .byte), .int], some .char⟩ := by decide +kernel
theorem own_d23_15 : decode jdk_42_method_56_code 15 = .ok (.ireturn, 1) := by decide +kernel
theorem own_ch_1_0_ef (m : MethodId) (x0 : Addr) : entryFrame m #[(.ref x0), (.int 0)] 2 = mkF m 0 #[.val (.ref x0), .val (.int 0)] [] := by  first | (simp [entryFrame, mkF, argsToLocals, Value.category]; done) | rfl
def own_ch_1_0_Q (Z : State) (x0 : Addr) (t : Addr) (kb : ClassId) (c0 : Int32) (zCS : Int32) (fm : Value) (cs : Addr) (h0 : Heap) (n0 : Nat) (v : Option Value) (h : Heap) (L : List Loc) : Prop := v = some (.int c0) ∧ Fr n0 L ∧ h = h0
set_option maxRecDepth 65536 in
set_option maxHeartbeats 40000000 in
theorem own_ch_1_0 (l : Launch) (Z : State) (a0 : Array Value) (hw : ∀ d ∈ tables_1, d.before a0 Z = true) (ws : List Jvm.Cond) (x0 : Addr) (t : Addr) (kb : ClassId) (c0 : Int32) (zCS : Int32) (fm : Value) (cs : Addr) (h0 : Heap) (n0 : Nat) (Z0 : n0 ≤ h0.size) (S_CS : own_A0 Z zCS) (nCS : ¬ zCS = 0) (S_SF : own_A2 Z fm) (hfm : fm.isRef = true) (S_UT : own_A1 Z cs) (S_IN : own_A3 Z cs) (E_cs : Exa Z Z.heap cs "sun/nio/cs/UTF_8") (O0 : Old Z n0 h0) (E_x : Exa Z h0 x0 "java/lang/String") (V_x : Fld Z h0 x0 "java/lang/String" "value" "[B" (.ref t)) (C_x : Fld Z h0 x0 "java/lang/String" "coder" "B" (.int 0)) (K_t : Arv Z h0 t kb .byte (1 : Int32) [(.int c0)] (.int 0)) (hbd : ¬ c0 < 0 ∧ ¬ (127 : Int32) < c0) :
    MetFree l own_y14 (head1 (Jvm.Cond.code own_y14 jdk_42_method_56_code 2 (some .char) :: ws) (⟨3, 0, 0, 40⟩ : Room)) (fun aa U => aa = #[(.ref x0), (.int 0)] ∧ Z.Warmed39 U.vm ∧ U.heap = h0) (fun _ _ _ _ _ => True) (fun _ U o U' => ∃ v L, o = .returned v ∧ own_ch_1_0_Q Z x0 t kb c0 zCS fm cs h0 n0 v U'.heap L ∧ FrameEnd U o U' L (⟨3, 0, 0, 40⟩ : Room).cells (⟨3, 0, 0, 40⟩ : Room).slots) := by
  refine MetFree.of_bodySF (plainFor_of_name own_pn_java_lang_String) hisR ?_
  intro p e s m args below meth c s₁ Bd hml0 hP hK
  obtain ⟨rfl, hZ, hh⟩ := hP
  have hx := Bd.exec
  have hby := Bd.bytes
  have hml : c.maxLocals = 2 := hml0
  have hown : s.vm.findClass "java/lang/String" = some m.cls := findClass_of_methodNamed Bd.named
  have hnm := (name_of_methodNamed Bd.named Bd.method).1
  have hlk := Bd.notSynchronized
  have X0 : Stand p l e (⟨3, 0, 0, 40⟩ : Room) s m #[(.ref x0), (.int 0)] below meth c s₁ [] 0 0 := Stand.of_body Bd
  have e0 : s₁.heap = h0 := by rw [← hh, Bd.state]; rfl
  have N0 := Fr.nil n0
  refine own_start (Q := own_ch_1_0_Q Z x0 t kb c0 zCS fm cs h0 n0) (own_ch_1_0_ef m x0) ?_
  refine own_g (mkF m 1 #[.val (.ref x0), .val (.int 0)] [(.ref x0)]) (fun _ q => XS.aloadN X0.here hx rfl (hb hby own_d23_0) rfl rfl q) ?_
  refine own_callV X0 hx hZ (y := own_y18) (z := own_y18) hown (own_h hw 142 rfl) (own_h hw 143 rfl) (own_nf (own_h hw 145 rfl)) (own_h hw 145 rfl) (own_h hw 144 rfl) (own_h hw 146 rfl) (own_h hw 66 rfl) (by decide) E_x (own_il l Z a0 hw [] x0 zCS fm cs h0 n0 Z0 S_CS nCS S_SF hfm S_UT S_IN E_cs O0 C_x) (by decide) (by decide) e0 (g := (mkF m 1 #[.val (.ref x0), .val (.int 0)] [(.ref x0)])) rfl (by rw [hml]; rfl) (argsL := []) (rest := []) (lenOf own_pd__28_29Z rfl) rfl (W := 0) (Nat.le_of_eq rfl) (hb hby own_d23_1) rfl (by decide) (by decide) ?_
  rintro rv1 T1 L1 X1 ⟨rfl, Nq1, eh1⟩
  have N1 := Fr.app N0 Nq1
  refine own_g (mkF m 8 #[.val (.ref x0), .val (.int 0)] [(.ref x0)]) (fun _ q => XS.ifNo X1.here hx rfl (hb hby own_d23_4) rfl ((if0 _ _).trans (feq (by decide : ¬ ((1 : Int32) = (0 : Int32)))).1) (XS.aloadN X1.here hx rfl (hb hby own_d23_7) rfl rfl q)) ?_
  obtain ⟨T2, X2, e2, st2⟩ := getF X1 hx hZ hown (host := "") (Or.inl (own_h hw 96 rfl)) Via.refl eh1 V_x (g := (mkF m 8 #[.val (.ref x0), .val (.int 0)] [(.ref x0)])) rfl rfl (hb hby own_d23_8)
  refine own_by (g' := (mkF m 11 #[.val (.ref x0), .val (.int 0)] [(.ref t)])) st2 ?_
  refine own_g (mkF m 12 #[.val (.ref x0), .val (.int 0)] [(.int 0), (.ref t)]) (fun _ q => XS.iloadN X2.here hx rfl (hb hby own_d23_11) rfl q) ?_
  refine own_callS X2 hx hZ (y := own_y22) hown (own_h hw 147 rfl) (own_h hw 148 rfl) (own_h hw 149 rfl) (own_h hw 150 rfl) (by decide) (own_lc_1_0 l Z a0 hw [] t kb c0 zCS fm cs h0 n0 Z0 S_CS nCS S_SF hfm S_UT S_IN E_cs O0 K_t) (by decide) (by decide) e2 (g := (mkF m 12 #[.val (.ref x0), .val (.int 0)] [(.int 0), (.ref t)])) rfl (by rw [hml]; rfl) (argsL := [(.ref t), (.int 0)]) (rest := []) (lenOf own_pd__28_5bBI_29C rfl) rfl (W := 0) (Nat.le_of_eq rfl) (hb hby own_d23_12) rfl (by decide) (by decide) ?_
  rintro rv3 T3 L3 X3 ⟨hv3, Nq3, eh3⟩
  have N3 := Fr.app N1 Nq3
  rw [(own_c7 hbd).1] at hv3
  subst hv3
  show own_Fin p e below _ T3 (mkF m 15 #[.val (.ref x0), .val (.int 0)] [(.int c0)])
  exact own_end X3 (v := some (.int (nar .char c0))) (fun h => by rw [Bd.returns] at h; cases h) hlk (fun hr => retN X3 hx (t := .char) Bd.returns (by simp) (hb hby own_d23_15) hr) (by rw [eh3]; exact ⟨by rw [(own_c7 hbd).2], N3, rfl⟩) (by decide) (by decide)
theorem own_lc_2_0_ef (m : MethodId) (b : Addr) : entryFrame m #[(.ref b), (.int 0)] 2 = mkF m 0 #[.val (.ref b), .val (.int 0)] [] := by  first | (simp [entryFrame, mkF, argsToLocals, Value.category]; done) | rfl
def own_lc_2_0_Q (Z : State) (b : Addr) (kb : ClassId) (c0 : Int32) (c1 : Int32) (zCS : Int32) (fm : Value) (cs : Addr) (h0 : Heap) (n0 : Nat) (v : Option Value) (h : Heap) (L : List Loc) : Prop := v = some (.int (nar .char (StrChars.chr8 c0))) ∧ Fr n0 L ∧ h = h0
set_option maxRecDepth 65536 in
set_option maxHeartbeats 40000000 in
theorem own_lc_2_0 (l : Launch) (Z : State) (a0 : Array Value) (hw : ∀ d ∈ tables_1, d.before a0 Z = true) (ws : List Jvm.Cond) (b : Addr) (kb : ClassId) (c0 : Int32) (c1 : Int32) (zCS : Int32) (fm : Value) (cs : Addr) (h0 : Heap) (n0 : Nat) (Z0 : n0 ≤ h0.size) (S_CS : own_A0 Z zCS) (nCS : ¬ zCS = 0) (S_SF : own_A2 Z fm) (hfm : fm.isRef = true) (S_UT : own_A1 Z cs) (S_IN : own_A3 Z cs) (E_cs : Exa Z Z.heap cs "sun/nio/cs/UTF_8") (O0 : Old Z n0 h0) (K_b : Arv Z h0 b kb .byte (2 : Int32) [(.int c0), (.int c1)] (.int 0)) :
    MetFree l own_y22 (head1 (Jvm.Cond.code own_y22 jdk_43_method_2_code 2 (some .char) :: ws) (⟨2, 0, 0, 27⟩ : Room)) (fun aa U => aa = #[(.ref b), (.int 0)] ∧ Z.Warmed39 U.vm ∧ U.heap = h0) (fun _ _ _ _ _ => True) (fun _ U o U' => ∃ v L, o = .returned v ∧ own_lc_2_0_Q Z b kb c0 c1 zCS fm cs h0 n0 v U'.heap L ∧ FrameEnd U o U' L (⟨2, 0, 0, 27⟩ : Room).cells (⟨2, 0, 0, 27⟩ : Room).slots) := by
  refine MetFree.of_bodySF (plainFor_of_name own_pn_java_lang_StringLatin1) hisR ?_
  intro p e s m args below meth c s₁ Bd hml0 hP hK
  obtain ⟨rfl, hZ, hh⟩ := hP
  have hx := Bd.exec
  have hby := Bd.bytes
  have hml : c.maxLocals = 2 := hml0
  have hown : s.vm.findClass "java/lang/StringLatin1" = some m.cls := findClass_of_methodNamed Bd.named
  have hnm := (name_of_methodNamed Bd.named Bd.method).1
  have hlk := Bd.notSynchronized
  have X0 : Stand p l e (⟨2, 0, 0, 27⟩ : Room) s m #[(.ref b), (.int 0)] below meth c s₁ [] 0 0 := Stand.of_body Bd
  have e0 : s₁.heap = h0 := by rw [← hh, Bd.state]; rfl
  have N0 := Fr.nil n0
  refine own_start (Q := own_lc_2_0_Q Z b kb c0 c1 zCS fm cs h0 n0) (own_lc_2_0_ef m b) ?_
  refine own_g (mkF m 2 #[.val (.ref b), .val (.int 0)] [(.ref b), (.int 0)]) (fun _ q => XS.iloadN X0.here hx rfl (hb hby own_d25_0) rfl (XS.aloadN X0.here hx rfl (hb hby own_d25_1) rfl rfl q)) ?_
  obtain ⟨cl1, Ar1, q1, S1, P1, H1, G1⟩ := id K_b
  refine own_by (g' := (mkF m 3 #[.val (.ref b), .val (.int 0)] [(.int 2), (.int 0)])) (fun _ kq => X0.arraylength hx (by rw [e0]; exact Ar1.1) (State.isArrayOf_alike hZ.alike Ar1.2.1) (g := (mkF m 2 #[.val (.ref b), .val (.int 0)] [(.ref b), (.int 0)])) rfl rfl (hb hby own_d25_2) _ (by rw [len_of S1 P1]; exact kq)) ?_
  refine own_callS X0 hx hZ (y := own_y16) hown (own_h hw 151 rfl) (own_h hw 152 rfl) (own_h hw 66 rfl) (own_h hw 153 rfl) (by decide) (own_sci_2_0 l Z a0 hw []  zCS fm cs h0 n0 Z0 S_CS nCS S_SF hfm S_UT S_IN E_cs O0 ) (by decide) (by decide) e0 (g := (mkF m 3 #[.val (.ref b), .val (.int 0)] [(.int 2), (.int 0)])) rfl (by rw [hml]; rfl) (argsL := [(.int 0), (.int 2)]) (rest := []) (lenOf own_pd__28II_29V rfl) rfl (W := 0) (Nat.le_of_eq rfl) (hb hby own_d25_3) rfl (by decide) (by decide) ?_
  rintro rv2 T2 L2 X2 ⟨rfl, Nq2, eh2⟩
  have N2 := Fr.app N0 Nq2
  refine own_g (mkF m 8 #[.val (.ref b), .val (.int 0)] [(.int 0), (.ref b)]) (fun _ q => XS.aloadN X2.here hx rfl (hb hby own_d25_6) rfl rfl (XS.iloadN X2.here hx rfl (hb hby own_d25_7) rfl q)) ?_
  obtain ⟨cl3, Ar3, q3, S3, P3, H3, G3⟩ := id K_b
  have hin3 : ¬ ((0 : Int32) < 0 ∨ cl3.slots.size ≤ ((0 : Int32)).toNatClampNeg) := inb_of S3 ⟨by decide, by decide⟩
  refine own_by (g' := (mkF m 9 #[.val (.ref b), .val (.int 0)] [(.int c0)])) (fun _ kq => X2.baloadBytes hx (j := (0 : Int32)) (v := (.int c0)) (by rw [eh2]; exact Ar3.1) (State.isArrayOf_alike hZ.alike Ar3.2.1) Ar3.2.2 hin3 (H3.at hin3 rfl) (g := (mkF m 8 #[.val (.ref b), .val (.int 0)] [(.int 0), (.ref b)])) rfl rfl (hb hby own_d25_8) _ kq) ?_
  refine own_g (mkF m 14 #[.val (.ref b), .val (.int 0)] [(.int ((c0 &&& (255 : Int32)).toUInt32.toUInt16.toUInt32.toInt32))]) (fun _ q => XS.sipush X2.here hx rfl (hb hby own_d25_9) (XS.iand X2.here hx rfl (hb hby own_d25_12) rfl (XS.i2c X2.here hx rfl (hb hby own_d25_13) rfl q))) ?_
  exact own_end X2 (v := some (.int (nar .char ((c0 &&& (255 : Int32)).toUInt32.toUInt16.toUInt32.toInt32)))) (fun h => by rw [Bd.returns] at h; cases h) hlk (fun hr => retN X2 hx (t := .char) Bd.returns (by simp) (hb hby own_d25_14) hr) (by rw [eh2]; exact ⟨rfl, N2, rfl⟩) (by decide) (by decide)
theorem own_ch_2_0_ef (m : MethodId) (x0 : Addr) : entryFrame m #[(.ref x0), (.int 0)] 2 = mkF m 0 #[.val (.ref x0), .val (.int 0)] [] := by  first | (simp [entryFrame, mkF, argsToLocals, Value.category]; done) | rfl
def own_ch_2_0_Q (Z : State) (x0 : Addr) (t : Addr) (kb : ClassId) (c0 : Int32) (c1 : Int32) (zCS : Int32) (fm : Value) (cs : Addr) (h0 : Heap) (n0 : Nat) (v : Option Value) (h : Heap) (L : List Loc) : Prop := v = some (.int c0) ∧ Fr n0 L ∧ h = h0
set_option maxRecDepth 65536 in
set_option maxHeartbeats 40000000 in
theorem own_ch_2_0 (l : Launch) (Z : State) (a0 : Array Value) (hw : ∀ d ∈ tables_1, d.before a0 Z = true) (ws : List Jvm.Cond) (x0 : Addr) (t : Addr) (kb : ClassId) (c0 : Int32) (c1 : Int32) (zCS : Int32) (fm : Value) (cs : Addr) (h0 : Heap) (n0 : Nat) (Z0 : n0 ≤ h0.size) (S_CS : own_A0 Z zCS) (nCS : ¬ zCS = 0) (S_SF : own_A2 Z fm) (hfm : fm.isRef = true) (S_UT : own_A1 Z cs) (S_IN : own_A3 Z cs) (E_cs : Exa Z Z.heap cs "sun/nio/cs/UTF_8") (O0 : Old Z n0 h0) (E_x : Exa Z h0 x0 "java/lang/String") (V_x : Fld Z h0 x0 "java/lang/String" "value" "[B" (.ref t)) (C_x : Fld Z h0 x0 "java/lang/String" "coder" "B" (.int 0)) (K_t : Arv Z h0 t kb .byte (2 : Int32) [(.int c0), (.int c1)] (.int 0)) (hbd : ¬ c0 < 0 ∧ ¬ (127 : Int32) < c0) :
    MetFree l own_y14 (head1 (Jvm.Cond.code own_y14 jdk_42_method_56_code 2 (some .char) :: ws) (⟨3, 0, 0, 40⟩ : Room)) (fun aa U => aa = #[(.ref x0), (.int 0)] ∧ Z.Warmed39 U.vm ∧ U.heap = h0) (fun _ _ _ _ _ => True) (fun _ U o U' => ∃ v L, o = .returned v ∧ own_ch_2_0_Q Z x0 t kb c0 c1 zCS fm cs h0 n0 v U'.heap L ∧ FrameEnd U o U' L (⟨3, 0, 0, 40⟩ : Room).cells (⟨3, 0, 0, 40⟩ : Room).slots) := by
  refine MetFree.of_bodySF (plainFor_of_name own_pn_java_lang_String) hisR ?_
  intro p e s m args below meth c s₁ Bd hml0 hP hK
  obtain ⟨rfl, hZ, hh⟩ := hP
  have hx := Bd.exec
  have hby := Bd.bytes
  have hml : c.maxLocals = 2 := hml0
  have hown : s.vm.findClass "java/lang/String" = some m.cls := findClass_of_methodNamed Bd.named
  have hnm := (name_of_methodNamed Bd.named Bd.method).1
  have hlk := Bd.notSynchronized
  have X0 : Stand p l e (⟨3, 0, 0, 40⟩ : Room) s m #[(.ref x0), (.int 0)] below meth c s₁ [] 0 0 := Stand.of_body Bd
  have e0 : s₁.heap = h0 := by rw [← hh, Bd.state]; rfl
  have N0 := Fr.nil n0
  refine own_start (Q := own_ch_2_0_Q Z x0 t kb c0 c1 zCS fm cs h0 n0) (own_ch_2_0_ef m x0) ?_
  refine own_g (mkF m 1 #[.val (.ref x0), .val (.int 0)] [(.ref x0)]) (fun _ q => XS.aloadN X0.here hx rfl (hb hby own_d23_0) rfl rfl q) ?_
  refine own_callV X0 hx hZ (y := own_y18) (z := own_y18) hown (own_h hw 142 rfl) (own_h hw 143 rfl) (own_nf (own_h hw 145 rfl)) (own_h hw 145 rfl) (own_h hw 144 rfl) (own_h hw 146 rfl) (own_h hw 66 rfl) (by decide) E_x (own_il l Z a0 hw [] x0 zCS fm cs h0 n0 Z0 S_CS nCS S_SF hfm S_UT S_IN E_cs O0 C_x) (by decide) (by decide) e0 (g := (mkF m 1 #[.val (.ref x0), .val (.int 0)] [(.ref x0)])) rfl (by rw [hml]; rfl) (argsL := []) (rest := []) (lenOf own_pd__28_29Z rfl) rfl (W := 0) (Nat.le_of_eq rfl) (hb hby own_d23_1) rfl (by decide) (by decide) ?_
  rintro rv1 T1 L1 X1 ⟨rfl, Nq1, eh1⟩
  have N1 := Fr.app N0 Nq1
  refine own_g (mkF m 8 #[.val (.ref x0), .val (.int 0)] [(.ref x0)]) (fun _ q => XS.ifNo X1.here hx rfl (hb hby own_d23_4) rfl ((if0 _ _).trans (feq (by decide : ¬ ((1 : Int32) = (0 : Int32)))).1) (XS.aloadN X1.here hx rfl (hb hby own_d23_7) rfl rfl q)) ?_
  obtain ⟨T2, X2, e2, st2⟩ := getF X1 hx hZ hown (host := "") (Or.inl (own_h hw 96 rfl)) Via.refl eh1 V_x (g := (mkF m 8 #[.val (.ref x0), .val (.int 0)] [(.ref x0)])) rfl rfl (hb hby own_d23_8)
  refine own_by (g' := (mkF m 11 #[.val (.ref x0), .val (.int 0)] [(.ref t)])) st2 ?_
  refine own_g (mkF m 12 #[.val (.ref x0), .val (.int 0)] [(.int 0), (.ref t)]) (fun _ q => XS.iloadN X2.here hx rfl (hb hby own_d23_11) rfl q) ?_
  refine own_callS X2 hx hZ (y := own_y22) hown (own_h hw 147 rfl) (own_h hw 148 rfl) (own_h hw 149 rfl) (own_h hw 150 rfl) (by decide) (own_lc_2_0 l Z a0 hw [] t kb c0 c1 zCS fm cs h0 n0 Z0 S_CS nCS S_SF hfm S_UT S_IN E_cs O0 K_t) (by decide) (by decide) e2 (g := (mkF m 12 #[.val (.ref x0), .val (.int 0)] [(.int 0), (.ref t)])) rfl (by rw [hml]; rfl) (argsL := [(.ref t), (.int 0)]) (rest := []) (lenOf own_pd__28_5bBI_29C rfl) rfl (W := 0) (Nat.le_of_eq rfl) (hb hby own_d23_12) rfl (by decide) (by decide) ?_
  rintro rv3 T3 L3 X3 ⟨hv3, Nq3, eh3⟩
  have N3 := Fr.app N1 Nq3
  rw [(own_c7 hbd).1] at hv3
  subst hv3
  show own_Fin p e below _ T3 (mkF m 15 #[.val (.ref x0), .val (.int 0)] [(.int c0)])
  exact own_end X3 (v := some (.int (nar .char c0))) (fun h => by rw [Bd.returns] at h; cases h) hlk (fun hr => retN X3 hx (t := .char) Bd.returns (by simp) (hb hby own_d23_15) hr) (by rw [eh3]; exact ⟨by rw [(own_c7 hbd).2], N3, rfl⟩) (by decide) (by decide)
theorem own_lc_2_1_ef (m : MethodId) (b : Addr) : entryFrame m #[(.ref b), (.int 1)] 2 = mkF m 0 #[.val (.ref b), .val (.int 1)] [] := by  first | (simp [entryFrame, mkF, argsToLocals, Value.category]; done) | rfl
def own_lc_2_1_Q (Z : State) (b : Addr) (kb : ClassId) (c0 : Int32) (c1 : Int32) (zCS : Int32) (fm : Value) (cs : Addr) (h0 : Heap) (n0 : Nat) (v : Option Value) (h : Heap) (L : List Loc) : Prop := v = some (.int (nar .char (StrChars.chr8 c1))) ∧ Fr n0 L ∧ h = h0
set_option maxRecDepth 65536 in
set_option maxHeartbeats 40000000 in
theorem own_lc_2_1 (l : Launch) (Z : State) (a0 : Array Value) (hw : ∀ d ∈ tables_1, d.before a0 Z = true) (ws : List Jvm.Cond) (b : Addr) (kb : ClassId) (c0 : Int32) (c1 : Int32) (zCS : Int32) (fm : Value) (cs : Addr) (h0 : Heap) (n0 : Nat) (Z0 : n0 ≤ h0.size) (S_CS : own_A0 Z zCS) (nCS : ¬ zCS = 0) (S_SF : own_A2 Z fm) (hfm : fm.isRef = true) (S_UT : own_A1 Z cs) (S_IN : own_A3 Z cs) (E_cs : Exa Z Z.heap cs "sun/nio/cs/UTF_8") (O0 : Old Z n0 h0) (K_b : Arv Z h0 b kb .byte (2 : Int32) [(.int c0), (.int c1)] (.int 0)) :
    MetFree l own_y22 (head1 (Jvm.Cond.code own_y22 jdk_43_method_2_code 2 (some .char) :: ws) (⟨2, 0, 0, 27⟩ : Room)) (fun aa U => aa = #[(.ref b), (.int 1)] ∧ Z.Warmed39 U.vm ∧ U.heap = h0) (fun _ _ _ _ _ => True) (fun _ U o U' => ∃ v L, o = .returned v ∧ own_lc_2_1_Q Z b kb c0 c1 zCS fm cs h0 n0 v U'.heap L ∧ FrameEnd U o U' L (⟨2, 0, 0, 27⟩ : Room).cells (⟨2, 0, 0, 27⟩ : Room).slots) := by
  refine MetFree.of_bodySF (plainFor_of_name own_pn_java_lang_StringLatin1) hisR ?_
  intro p e s m args below meth c s₁ Bd hml0 hP hK
  obtain ⟨rfl, hZ, hh⟩ := hP
  have hx := Bd.exec
  have hby := Bd.bytes
  have hml : c.maxLocals = 2 := hml0
  have hown : s.vm.findClass "java/lang/StringLatin1" = some m.cls := findClass_of_methodNamed Bd.named
  have hnm := (name_of_methodNamed Bd.named Bd.method).1
  have hlk := Bd.notSynchronized
  have X0 : Stand p l e (⟨2, 0, 0, 27⟩ : Room) s m #[(.ref b), (.int 1)] below meth c s₁ [] 0 0 := Stand.of_body Bd
  have e0 : s₁.heap = h0 := by rw [← hh, Bd.state]; rfl
  have N0 := Fr.nil n0
  refine own_start (Q := own_lc_2_1_Q Z b kb c0 c1 zCS fm cs h0 n0) (own_lc_2_1_ef m b) ?_
  refine own_g (mkF m 2 #[.val (.ref b), .val (.int 1)] [(.ref b), (.int 1)]) (fun _ q => XS.iloadN X0.here hx rfl (hb hby own_d25_0) rfl (XS.aloadN X0.here hx rfl (hb hby own_d25_1) rfl rfl q)) ?_
  obtain ⟨cl1, Ar1, q1, S1, P1, H1, G1⟩ := id K_b
  refine own_by (g' := (mkF m 3 #[.val (.ref b), .val (.int 1)] [(.int 2), (.int 1)])) (fun _ kq => X0.arraylength hx (by rw [e0]; exact Ar1.1) (State.isArrayOf_alike hZ.alike Ar1.2.1) (g := (mkF m 2 #[.val (.ref b), .val (.int 1)] [(.ref b), (.int 1)])) rfl rfl (hb hby own_d25_2) _ (by rw [len_of S1 P1]; exact kq)) ?_
  refine own_callS X0 hx hZ (y := own_y16) hown (own_h hw 151 rfl) (own_h hw 152 rfl) (own_h hw 66 rfl) (own_h hw 153 rfl) (by decide) (own_sci_2_1 l Z a0 hw []  zCS fm cs h0 n0 Z0 S_CS nCS S_SF hfm S_UT S_IN E_cs O0 ) (by decide) (by decide) e0 (g := (mkF m 3 #[.val (.ref b), .val (.int 1)] [(.int 2), (.int 1)])) rfl (by rw [hml]; rfl) (argsL := [(.int 1), (.int 2)]) (rest := []) (lenOf own_pd__28II_29V rfl) rfl (W := 0) (Nat.le_of_eq rfl) (hb hby own_d25_3) rfl (by decide) (by decide) ?_
  rintro rv2 T2 L2 X2 ⟨rfl, Nq2, eh2⟩
  have N2 := Fr.app N0 Nq2
  refine own_g (mkF m 8 #[.val (.ref b), .val (.int 1)] [(.int 1), (.ref b)]) (fun _ q => XS.aloadN X2.here hx rfl (hb hby own_d25_6) rfl rfl (XS.iloadN X2.here hx rfl (hb hby own_d25_7) rfl q)) ?_
  obtain ⟨cl3, Ar3, q3, S3, P3, H3, G3⟩ := id K_b
  have hin3 : ¬ ((1 : Int32) < 0 ∨ cl3.slots.size ≤ ((1 : Int32)).toNatClampNeg) := inb_of S3 ⟨by decide, by decide⟩
  refine own_by (g' := (mkF m 9 #[.val (.ref b), .val (.int 1)] [(.int c1)])) (fun _ kq => X2.baloadBytes hx (j := (1 : Int32)) (v := (.int c1)) (by rw [eh2]; exact Ar3.1) (State.isArrayOf_alike hZ.alike Ar3.2.1) Ar3.2.2 hin3 (H3.at hin3 rfl) (g := (mkF m 8 #[.val (.ref b), .val (.int 1)] [(.int 1), (.ref b)])) rfl rfl (hb hby own_d25_8) _ kq) ?_
  refine own_g (mkF m 14 #[.val (.ref b), .val (.int 1)] [(.int ((c1 &&& (255 : Int32)).toUInt32.toUInt16.toUInt32.toInt32))]) (fun _ q => XS.sipush X2.here hx rfl (hb hby own_d25_9) (XS.iand X2.here hx rfl (hb hby own_d25_12) rfl (XS.i2c X2.here hx rfl (hb hby own_d25_13) rfl q))) ?_
  exact own_end X2 (v := some (.int (nar .char ((c1 &&& (255 : Int32)).toUInt32.toUInt16.toUInt32.toInt32)))) (fun h => by rw [Bd.returns] at h; cases h) hlk (fun hr => retN X2 hx (t := .char) Bd.returns (by simp) (hb hby own_d25_14) hr) (by rw [eh2]; exact ⟨rfl, N2, rfl⟩) (by decide) (by decide)
theorem own_ch_2_1_ef (m : MethodId) (x0 : Addr) : entryFrame m #[(.ref x0), (.int 1)] 2 = mkF m 0 #[.val (.ref x0), .val (.int 1)] [] := by  first | (simp [entryFrame, mkF, argsToLocals, Value.category]; done) | rfl
def own_ch_2_1_Q (Z : State) (x0 : Addr) (t : Addr) (kb : ClassId) (c0 : Int32) (c1 : Int32) (zCS : Int32) (fm : Value) (cs : Addr) (h0 : Heap) (n0 : Nat) (v : Option Value) (h : Heap) (L : List Loc) : Prop := v = some (.int c1) ∧ Fr n0 L ∧ h = h0
set_option maxRecDepth 65536 in
set_option maxHeartbeats 40000000 in
theorem own_ch_2_1 (l : Launch) (Z : State) (a0 : Array Value) (hw : ∀ d ∈ tables_1, d.before a0 Z = true) (ws : List Jvm.Cond) (x0 : Addr) (t : Addr) (kb : ClassId) (c0 : Int32) (c1 : Int32) (zCS : Int32) (fm : Value) (cs : Addr) (h0 : Heap) (n0 : Nat) (Z0 : n0 ≤ h0.size) (S_CS : own_A0 Z zCS) (nCS : ¬ zCS = 0) (S_SF : own_A2 Z fm) (hfm : fm.isRef = true) (S_UT : own_A1 Z cs) (S_IN : own_A3 Z cs) (E_cs : Exa Z Z.heap cs "sun/nio/cs/UTF_8") (O0 : Old Z n0 h0) (E_x : Exa Z h0 x0 "java/lang/String") (V_x : Fld Z h0 x0 "java/lang/String" "value" "[B" (.ref t)) (C_x : Fld Z h0 x0 "java/lang/String" "coder" "B" (.int 0)) (K_t : Arv Z h0 t kb .byte (2 : Int32) [(.int c0), (.int c1)] (.int 0)) (hbd : ¬ c1 < 0 ∧ ¬ (127 : Int32) < c1) :
    MetFree l own_y14 (head1 (Jvm.Cond.code own_y14 jdk_42_method_56_code 2 (some .char) :: ws) (⟨3, 0, 0, 40⟩ : Room)) (fun aa U => aa = #[(.ref x0), (.int 1)] ∧ Z.Warmed39 U.vm ∧ U.heap = h0) (fun _ _ _ _ _ => True) (fun _ U o U' => ∃ v L, o = .returned v ∧ own_ch_2_1_Q Z x0 t kb c0 c1 zCS fm cs h0 n0 v U'.heap L ∧ FrameEnd U o U' L (⟨3, 0, 0, 40⟩ : Room).cells (⟨3, 0, 0, 40⟩ : Room).slots) := by
  refine MetFree.of_bodySF (plainFor_of_name own_pn_java_lang_String) hisR ?_
  intro p e s m args below meth c s₁ Bd hml0 hP hK
  obtain ⟨rfl, hZ, hh⟩ := hP
  have hx := Bd.exec
  have hby := Bd.bytes
  have hml : c.maxLocals = 2 := hml0
  have hown : s.vm.findClass "java/lang/String" = some m.cls := findClass_of_methodNamed Bd.named
  have hnm := (name_of_methodNamed Bd.named Bd.method).1
  have hlk := Bd.notSynchronized
  have X0 : Stand p l e (⟨3, 0, 0, 40⟩ : Room) s m #[(.ref x0), (.int 1)] below meth c s₁ [] 0 0 := Stand.of_body Bd
  have e0 : s₁.heap = h0 := by rw [← hh, Bd.state]; rfl
  have N0 := Fr.nil n0
  refine own_start (Q := own_ch_2_1_Q Z x0 t kb c0 c1 zCS fm cs h0 n0) (own_ch_2_1_ef m x0) ?_
  refine own_g (mkF m 1 #[.val (.ref x0), .val (.int 1)] [(.ref x0)]) (fun _ q => XS.aloadN X0.here hx rfl (hb hby own_d23_0) rfl rfl q) ?_
  refine own_callV X0 hx hZ (y := own_y18) (z := own_y18) hown (own_h hw 142 rfl) (own_h hw 143 rfl) (own_nf (own_h hw 145 rfl)) (own_h hw 145 rfl) (own_h hw 144 rfl) (own_h hw 146 rfl) (own_h hw 66 rfl) (by decide) E_x (own_il l Z a0 hw [] x0 zCS fm cs h0 n0 Z0 S_CS nCS S_SF hfm S_UT S_IN E_cs O0 C_x) (by decide) (by decide) e0 (g := (mkF m 1 #[.val (.ref x0), .val (.int 1)] [(.ref x0)])) rfl (by rw [hml]; rfl) (argsL := []) (rest := []) (lenOf own_pd__28_29Z rfl) rfl (W := 0) (Nat.le_of_eq rfl) (hb hby own_d23_1) rfl (by decide) (by decide) ?_
  rintro rv1 T1 L1 X1 ⟨rfl, Nq1, eh1⟩
  have N1 := Fr.app N0 Nq1
  refine own_g (mkF m 8 #[.val (.ref x0), .val (.int 1)] [(.ref x0)]) (fun _ q => XS.ifNo X1.here hx rfl (hb hby own_d23_4) rfl ((if0 _ _).trans (feq (by decide : ¬ ((1 : Int32) = (0 : Int32)))).1) (XS.aloadN X1.here hx rfl (hb hby own_d23_7) rfl rfl q)) ?_
  obtain ⟨T2, X2, e2, st2⟩ := getF X1 hx hZ hown (host := "") (Or.inl (own_h hw 96 rfl)) Via.refl eh1 V_x (g := (mkF m 8 #[.val (.ref x0), .val (.int 1)] [(.ref x0)])) rfl rfl (hb hby own_d23_8)
  refine own_by (g' := (mkF m 11 #[.val (.ref x0), .val (.int 1)] [(.ref t)])) st2 ?_
  refine own_g (mkF m 12 #[.val (.ref x0), .val (.int 1)] [(.int 1), (.ref t)]) (fun _ q => XS.iloadN X2.here hx rfl (hb hby own_d23_11) rfl q) ?_
  refine own_callS X2 hx hZ (y := own_y22) hown (own_h hw 147 rfl) (own_h hw 148 rfl) (own_h hw 149 rfl) (own_h hw 150 rfl) (by decide) (own_lc_2_1 l Z a0 hw [] t kb c0 c1 zCS fm cs h0 n0 Z0 S_CS nCS S_SF hfm S_UT S_IN E_cs O0 K_t) (by decide) (by decide) e2 (g := (mkF m 12 #[.val (.ref x0), .val (.int 1)] [(.int 1), (.ref t)])) rfl (by rw [hml]; rfl) (argsL := [(.ref t), (.int 1)]) (rest := []) (lenOf own_pd__28_5bBI_29C rfl) rfl (W := 0) (Nat.le_of_eq rfl) (hb hby own_d23_12) rfl (by decide) (by decide) ?_
  rintro rv3 T3 L3 X3 ⟨hv3, Nq3, eh3⟩
  have N3 := Fr.app N1 Nq3
  rw [(own_c7 hbd).1] at hv3
  subst hv3
  show own_Fin p e below _ T3 (mkF m 15 #[.val (.ref x0), .val (.int 1)] [(.int c1)])
  exact own_end X3 (v := some (.int (nar .char c1))) (fun h => by rw [Bd.returns] at h; cases h) hlk (fun hr => retN X3 hx (t := .char) Bd.returns (by simp) (hb hby own_d23_15) hr) (by rw [eh3]; exact ⟨by rw [(own_c7 hbd).2], N3, rfl⟩) (by decide) (by decide)
theorem own_lc_3_0_ef (m : MethodId) (b : Addr) : entryFrame m #[(.ref b), (.int 0)] 2 = mkF m 0 #[.val (.ref b), .val (.int 0)] [] := by  first | (simp [entryFrame, mkF, argsToLocals, Value.category]; done) | rfl
def own_lc_3_0_Q (Z : State) (b : Addr) (kb : ClassId) (c0 : Int32) (c1 : Int32) (c2 : Int32) (zCS : Int32) (fm : Value) (cs : Addr) (h0 : Heap) (n0 : Nat) (v : Option Value) (h : Heap) (L : List Loc) : Prop := v = some (.int (nar .char (StrChars.chr8 c0))) ∧ Fr n0 L ∧ h = h0
set_option maxRecDepth 65536 in
set_option maxHeartbeats 40000000 in
theorem own_lc_3_0 (l : Launch) (Z : State) (a0 : Array Value) (hw : ∀ d ∈ tables_1, d.before a0 Z = true) (ws : List Jvm.Cond) (b : Addr) (kb : ClassId) (c0 : Int32) (c1 : Int32) (c2 : Int32) (zCS : Int32) (fm : Value) (cs : Addr) (h0 : Heap) (n0 : Nat) (Z0 : n0 ≤ h0.size) (S_CS : own_A0 Z zCS) (nCS : ¬ zCS = 0) (S_SF : own_A2 Z fm) (hfm : fm.isRef = true) (S_UT : own_A1 Z cs) (S_IN : own_A3 Z cs) (E_cs : Exa Z Z.heap cs "sun/nio/cs/UTF_8") (O0 : Old Z n0 h0) (K_b : Arv Z h0 b kb .byte (3 : Int32) [(.int c0), (.int c1), (.int c2)] (.int 0)) :
    MetFree l own_y22 (head1 (Jvm.Cond.code own_y22 jdk_43_method_2_code 2 (some .char) :: ws) (⟨2, 0, 0, 27⟩ : Room)) (fun aa U => aa = #[(.ref b), (.int 0)] ∧ Z.Warmed39 U.vm ∧ U.heap = h0) (fun _ _ _ _ _ => True) (fun _ U o U' => ∃ v L, o = .returned v ∧ own_lc_3_0_Q Z b kb c0 c1 c2 zCS fm cs h0 n0 v U'.heap L ∧ FrameEnd U o U' L (⟨2, 0, 0, 27⟩ : Room).cells (⟨2, 0, 0, 27⟩ : Room).slots) := by
  refine MetFree.of_bodySF (plainFor_of_name own_pn_java_lang_StringLatin1) hisR ?_
  intro p e s m args below meth c s₁ Bd hml0 hP hK
  obtain ⟨rfl, hZ, hh⟩ := hP
  have hx := Bd.exec
  have hby := Bd.bytes
  have hml : c.maxLocals = 2 := hml0
  have hown : s.vm.findClass "java/lang/StringLatin1" = some m.cls := findClass_of_methodNamed Bd.named
  have hnm := (name_of_methodNamed Bd.named Bd.method).1
  have hlk := Bd.notSynchronized
  have X0 : Stand p l e (⟨2, 0, 0, 27⟩ : Room) s m #[(.ref b), (.int 0)] below meth c s₁ [] 0 0 := Stand.of_body Bd
  have e0 : s₁.heap = h0 := by rw [← hh, Bd.state]; rfl
  have N0 := Fr.nil n0
  refine own_start (Q := own_lc_3_0_Q Z b kb c0 c1 c2 zCS fm cs h0 n0) (own_lc_3_0_ef m b) ?_
  refine own_g (mkF m 2 #[.val (.ref b), .val (.int 0)] [(.ref b), (.int 0)]) (fun _ q => XS.iloadN X0.here hx rfl (hb hby own_d25_0) rfl (XS.aloadN X0.here hx rfl (hb hby own_d25_1) rfl rfl q)) ?_
  obtain ⟨cl1, Ar1, q1, S1, P1, H1, G1⟩ := id K_b
  refine own_by (g' := (mkF m 3 #[.val (.ref b), .val (.int 0)] [(.int 3), (.int 0)])) (fun _ kq => X0.arraylength hx (by rw [e0]; exact Ar1.1) (State.isArrayOf_alike hZ.alike Ar1.2.1) (g := (mkF m 2 #[.val (.ref b), .val (.int 0)] [(.ref b), (.int 0)])) rfl rfl (hb hby own_d25_2) _ (by rw [len_of S1 P1]; exact kq)) ?_
  refine own_callS X0 hx hZ (y := own_y16) hown (own_h hw 151 rfl) (own_h hw 152 rfl) (own_h hw 66 rfl) (own_h hw 153 rfl) (by decide) (own_sci_3_0 l Z a0 hw []  zCS fm cs h0 n0 Z0 S_CS nCS S_SF hfm S_UT S_IN E_cs O0 ) (by decide) (by decide) e0 (g := (mkF m 3 #[.val (.ref b), .val (.int 0)] [(.int 3), (.int 0)])) rfl (by rw [hml]; rfl) (argsL := [(.int 0), (.int 3)]) (rest := []) (lenOf own_pd__28II_29V rfl) rfl (W := 0) (Nat.le_of_eq rfl) (hb hby own_d25_3) rfl (by decide) (by decide) ?_
  rintro rv2 T2 L2 X2 ⟨rfl, Nq2, eh2⟩
  have N2 := Fr.app N0 Nq2
  refine own_g (mkF m 8 #[.val (.ref b), .val (.int 0)] [(.int 0), (.ref b)]) (fun _ q => XS.aloadN X2.here hx rfl (hb hby own_d25_6) rfl rfl (XS.iloadN X2.here hx rfl (hb hby own_d25_7) rfl q)) ?_
  obtain ⟨cl3, Ar3, q3, S3, P3, H3, G3⟩ := id K_b
  have hin3 : ¬ ((0 : Int32) < 0 ∨ cl3.slots.size ≤ ((0 : Int32)).toNatClampNeg) := inb_of S3 ⟨by decide, by decide⟩
  refine own_by (g' := (mkF m 9 #[.val (.ref b), .val (.int 0)] [(.int c0)])) (fun _ kq => X2.baloadBytes hx (j := (0 : Int32)) (v := (.int c0)) (by rw [eh2]; exact Ar3.1) (State.isArrayOf_alike hZ.alike Ar3.2.1) Ar3.2.2 hin3 (H3.at hin3 rfl) (g := (mkF m 8 #[.val (.ref b), .val (.int 0)] [(.int 0), (.ref b)])) rfl rfl (hb hby own_d25_8) _ kq) ?_
  refine own_g (mkF m 14 #[.val (.ref b), .val (.int 0)] [(.int ((c0 &&& (255 : Int32)).toUInt32.toUInt16.toUInt32.toInt32))]) (fun _ q => XS.sipush X2.here hx rfl (hb hby own_d25_9) (XS.iand X2.here hx rfl (hb hby own_d25_12) rfl (XS.i2c X2.here hx rfl (hb hby own_d25_13) rfl q))) ?_
  exact own_end X2 (v := some (.int (nar .char ((c0 &&& (255 : Int32)).toUInt32.toUInt16.toUInt32.toInt32)))) (fun h => by rw [Bd.returns] at h; cases h) hlk (fun hr => retN X2 hx (t := .char) Bd.returns (by simp) (hb hby own_d25_14) hr) (by rw [eh2]; exact ⟨rfl, N2, rfl⟩) (by decide) (by decide)
theorem own_ch_3_0_ef (m : MethodId) (x0 : Addr) : entryFrame m #[(.ref x0), (.int 0)] 2 = mkF m 0 #[.val (.ref x0), .val (.int 0)] [] := by  first | (simp [entryFrame, mkF, argsToLocals, Value.category]; done) | rfl
def own_ch_3_0_Q (Z : State) (x0 : Addr) (t : Addr) (kb : ClassId) (c0 : Int32) (c1 : Int32) (c2 : Int32) (zCS : Int32) (fm : Value) (cs : Addr) (h0 : Heap) (n0 : Nat) (v : Option Value) (h : Heap) (L : List Loc) : Prop := v = some (.int c0) ∧ Fr n0 L ∧ h = h0
set_option maxRecDepth 65536 in
set_option maxHeartbeats 40000000 in
theorem own_ch_3_0 (l : Launch) (Z : State) (a0 : Array Value) (hw : ∀ d ∈ tables_1, d.before a0 Z = true) (ws : List Jvm.Cond) (x0 : Addr) (t : Addr) (kb : ClassId) (c0 : Int32) (c1 : Int32) (c2 : Int32) (zCS : Int32) (fm : Value) (cs : Addr) (h0 : Heap) (n0 : Nat) (Z0 : n0 ≤ h0.size) (S_CS : own_A0 Z zCS) (nCS : ¬ zCS = 0) (S_SF : own_A2 Z fm) (hfm : fm.isRef = true) (S_UT : own_A1 Z cs) (S_IN : own_A3 Z cs) (E_cs : Exa Z Z.heap cs "sun/nio/cs/UTF_8") (O0 : Old Z n0 h0) (E_x : Exa Z h0 x0 "java/lang/String") (V_x : Fld Z h0 x0 "java/lang/String" "value" "[B" (.ref t)) (C_x : Fld Z h0 x0 "java/lang/String" "coder" "B" (.int 0)) (K_t : Arv Z h0 t kb .byte (3 : Int32) [(.int c0), (.int c1), (.int c2)] (.int 0)) (hbd : ¬ c0 < 0 ∧ ¬ (127 : Int32) < c0) :
    MetFree l own_y14 (head1 (Jvm.Cond.code own_y14 jdk_42_method_56_code 2 (some .char) :: ws) (⟨3, 0, 0, 40⟩ : Room)) (fun aa U => aa = #[(.ref x0), (.int 0)] ∧ Z.Warmed39 U.vm ∧ U.heap = h0) (fun _ _ _ _ _ => True) (fun _ U o U' => ∃ v L, o = .returned v ∧ own_ch_3_0_Q Z x0 t kb c0 c1 c2 zCS fm cs h0 n0 v U'.heap L ∧ FrameEnd U o U' L (⟨3, 0, 0, 40⟩ : Room).cells (⟨3, 0, 0, 40⟩ : Room).slots) := by
  refine MetFree.of_bodySF (plainFor_of_name own_pn_java_lang_String) hisR ?_
  intro p e s m args below meth c s₁ Bd hml0 hP hK
  obtain ⟨rfl, hZ, hh⟩ := hP
  have hx := Bd.exec
  have hby := Bd.bytes
  have hml : c.maxLocals = 2 := hml0
  have hown : s.vm.findClass "java/lang/String" = some m.cls := findClass_of_methodNamed Bd.named
  have hnm := (name_of_methodNamed Bd.named Bd.method).1
  have hlk := Bd.notSynchronized
  have X0 : Stand p l e (⟨3, 0, 0, 40⟩ : Room) s m #[(.ref x0), (.int 0)] below meth c s₁ [] 0 0 := Stand.of_body Bd
  have e0 : s₁.heap = h0 := by rw [← hh, Bd.state]; rfl
  have N0 := Fr.nil n0
  refine own_start (Q := own_ch_3_0_Q Z x0 t kb c0 c1 c2 zCS fm cs h0 n0) (own_ch_3_0_ef m x0) ?_
  refine own_g (mkF m 1 #[.val (.ref x0), .val (.int 0)] [(.ref x0)]) (fun _ q => XS.aloadN X0.here hx rfl (hb hby own_d23_0) rfl rfl q) ?_
  refine own_callV X0 hx hZ (y := own_y18) (z := own_y18) hown (own_h hw 142 rfl) (own_h hw 143 rfl) (own_nf (own_h hw 145 rfl)) (own_h hw 145 rfl) (own_h hw 144 rfl) (own_h hw 146 rfl) (own_h hw 66 rfl) (by decide) E_x (own_il l Z a0 hw [] x0 zCS fm cs h0 n0 Z0 S_CS nCS S_SF hfm S_UT S_IN E_cs O0 C_x) (by decide) (by decide) e0 (g := (mkF m 1 #[.val (.ref x0), .val (.int 0)] [(.ref x0)])) rfl (by rw [hml]; rfl) (argsL := []) (rest := []) (lenOf own_pd__28_29Z rfl) rfl (W := 0) (Nat.le_of_eq rfl) (hb hby own_d23_1) rfl (by decide) (by decide) ?_
  rintro rv1 T1 L1 X1 ⟨rfl, Nq1, eh1⟩
  have N1 := Fr.app N0 Nq1
  refine own_g (mkF m 8 #[.val (.ref x0), .val (.int 0)] [(.ref x0)]) (fun _ q => XS.ifNo X1.here hx rfl (hb hby own_d23_4) rfl ((if0 _ _).trans (feq (by decide : ¬ ((1 : Int32) = (0 : Int32)))).1) (XS.aloadN X1.here hx rfl (hb hby own_d23_7) rfl rfl q)) ?_
  obtain ⟨T2, X2, e2, st2⟩ := getF X1 hx hZ hown (host := "") (Or.inl (own_h hw 96 rfl)) Via.refl eh1 V_x (g := (mkF m 8 #[.val (.ref x0), .val (.int 0)] [(.ref x0)])) rfl rfl (hb hby own_d23_8)
  refine own_by (g' := (mkF m 11 #[.val (.ref x0), .val (.int 0)] [(.ref t)])) st2 ?_
  refine own_g (mkF m 12 #[.val (.ref x0), .val (.int 0)] [(.int 0), (.ref t)]) (fun _ q => XS.iloadN X2.here hx rfl (hb hby own_d23_11) rfl q) ?_
  refine own_callS X2 hx hZ (y := own_y22) hown (own_h hw 147 rfl) (own_h hw 148 rfl) (own_h hw 149 rfl) (own_h hw 150 rfl) (by decide) (own_lc_3_0 l Z a0 hw [] t kb c0 c1 c2 zCS fm cs h0 n0 Z0 S_CS nCS S_SF hfm S_UT S_IN E_cs O0 K_t) (by decide) (by decide) e2 (g := (mkF m 12 #[.val (.ref x0), .val (.int 0)] [(.int 0), (.ref t)])) rfl (by rw [hml]; rfl) (argsL := [(.ref t), (.int 0)]) (rest := []) (lenOf own_pd__28_5bBI_29C rfl) rfl (W := 0) (Nat.le_of_eq rfl) (hb hby own_d23_12) rfl (by decide) (by decide) ?_
  rintro rv3 T3 L3 X3 ⟨hv3, Nq3, eh3⟩
  have N3 := Fr.app N1 Nq3
  rw [(own_c7 hbd).1] at hv3
  subst hv3
  show own_Fin p e below _ T3 (mkF m 15 #[.val (.ref x0), .val (.int 0)] [(.int c0)])
  exact own_end X3 (v := some (.int (nar .char c0))) (fun h => by rw [Bd.returns] at h; cases h) hlk (fun hr => retN X3 hx (t := .char) Bd.returns (by simp) (hb hby own_d23_15) hr) (by rw [eh3]; exact ⟨by rw [(own_c7 hbd).2], N3, rfl⟩) (by decide) (by decide)
theorem own_lc_3_1_ef (m : MethodId) (b : Addr) : entryFrame m #[(.ref b), (.int 1)] 2 = mkF m 0 #[.val (.ref b), .val (.int 1)] [] := by  first | (simp [entryFrame, mkF, argsToLocals, Value.category]; done) | rfl
def own_lc_3_1_Q (Z : State) (b : Addr) (kb : ClassId) (c0 : Int32) (c1 : Int32) (c2 : Int32) (zCS : Int32) (fm : Value) (cs : Addr) (h0 : Heap) (n0 : Nat) (v : Option Value) (h : Heap) (L : List Loc) : Prop := v = some (.int (nar .char (StrChars.chr8 c1))) ∧ Fr n0 L ∧ h = h0
set_option maxRecDepth 65536 in
set_option maxHeartbeats 40000000 in
theorem own_lc_3_1 (l : Launch) (Z : State) (a0 : Array Value) (hw : ∀ d ∈ tables_1, d.before a0 Z = true) (ws : List Jvm.Cond) (b : Addr) (kb : ClassId) (c0 : Int32) (c1 : Int32) (c2 : Int32) (zCS : Int32) (fm : Value) (cs : Addr) (h0 : Heap) (n0 : Nat) (Z0 : n0 ≤ h0.size) (S_CS : own_A0 Z zCS) (nCS : ¬ zCS = 0) (S_SF : own_A2 Z fm) (hfm : fm.isRef = true) (S_UT : own_A1 Z cs) (S_IN : own_A3 Z cs) (E_cs : Exa Z Z.heap cs "sun/nio/cs/UTF_8") (O0 : Old Z n0 h0) (K_b : Arv Z h0 b kb .byte (3 : Int32) [(.int c0), (.int c1), (.int c2)] (.int 0)) :
    MetFree l own_y22 (head1 (Jvm.Cond.code own_y22 jdk_43_method_2_code 2 (some .char) :: ws) (⟨2, 0, 0, 27⟩ : Room)) (fun aa U => aa = #[(.ref b), (.int 1)] ∧ Z.Warmed39 U.vm ∧ U.heap = h0) (fun _ _ _ _ _ => True) (fun _ U o U' => ∃ v L, o = .returned v ∧ own_lc_3_1_Q Z b kb c0 c1 c2 zCS fm cs h0 n0 v U'.heap L ∧ FrameEnd U o U' L (⟨2, 0, 0, 27⟩ : Room).cells (⟨2, 0, 0, 27⟩ : Room).slots) := by
  refine MetFree.of_bodySF (plainFor_of_name own_pn_java_lang_StringLatin1) hisR ?_
  intro p e s m args below meth c s₁ Bd hml0 hP hK
  obtain ⟨rfl, hZ, hh⟩ := hP
  have hx := Bd.exec
  have hby := Bd.bytes
  have hml : c.maxLocals = 2 := hml0
  have hown : s.vm.findClass "java/lang/StringLatin1" = some m.cls := findClass_of_methodNamed Bd.named
  have hnm := (name_of_methodNamed Bd.named Bd.method).1
  have hlk := Bd.notSynchronized
  have X0 : Stand p l e (⟨2, 0, 0, 27⟩ : Room) s m #[(.ref b), (.int 1)] below meth c s₁ [] 0 0 := Stand.of_body Bd
  have e0 : s₁.heap = h0 := by rw [← hh, Bd.state]; rfl
  have N0 := Fr.nil n0
  refine own_start (Q := own_lc_3_1_Q Z b kb c0 c1 c2 zCS fm cs h0 n0) (own_lc_3_1_ef m b) ?_
  refine own_g (mkF m 2 #[.val (.ref b), .val (.int 1)] [(.ref b), (.int 1)]) (fun _ q => XS.iloadN X0.here hx rfl (hb hby own_d25_0) rfl (XS.aloadN X0.here hx rfl (hb hby own_d25_1) rfl rfl q)) ?_
  obtain ⟨cl1, Ar1, q1, S1, P1, H1, G1⟩ := id K_b
  refine own_by (g' := (mkF m 3 #[.val (.ref b), .val (.int 1)] [(.int 3), (.int 1)])) (fun _ kq => X0.arraylength hx (by rw [e0]; exact Ar1.1) (State.isArrayOf_alike hZ.alike Ar1.2.1) (g := (mkF m 2 #[.val (.ref b), .val (.int 1)] [(.ref b), (.int 1)])) rfl rfl (hb hby own_d25_2) _ (by rw [len_of S1 P1]; exact kq)) ?_
  refine own_callS X0 hx hZ (y := own_y16) hown (own_h hw 151 rfl) (own_h hw 152 rfl) (own_h hw 66 rfl) (own_h hw 153 rfl) (by decide) (own_sci_3_1 l Z a0 hw []  zCS fm cs h0 n0 Z0 S_CS nCS S_SF hfm S_UT S_IN E_cs O0 ) (by decide) (by decide) e0 (g := (mkF m 3 #[.val (.ref b), .val (.int 1)] [(.int 3), (.int 1)])) rfl (by rw [hml]; rfl) (argsL := [(.int 1), (.int 3)]) (rest := []) (lenOf own_pd__28II_29V rfl) rfl (W := 0) (Nat.le_of_eq rfl) (hb hby own_d25_3) rfl (by decide) (by decide) ?_
  rintro rv2 T2 L2 X2 ⟨rfl, Nq2, eh2⟩
  have N2 := Fr.app N0 Nq2
  refine own_g (mkF m 8 #[.val (.ref b), .val (.int 1)] [(.int 1), (.ref b)]) (fun _ q => XS.aloadN X2.here hx rfl (hb hby own_d25_6) rfl rfl (XS.iloadN X2.here hx rfl (hb hby own_d25_7) rfl q)) ?_
  obtain ⟨cl3, Ar3, q3, S3, P3, H3, G3⟩ := id K_b
  have hin3 : ¬ ((1 : Int32) < 0 ∨ cl3.slots.size ≤ ((1 : Int32)).toNatClampNeg) := inb_of S3 ⟨by decide, by decide⟩
  refine own_by (g' := (mkF m 9 #[.val (.ref b), .val (.int 1)] [(.int c1)])) (fun _ kq => X2.baloadBytes hx (j := (1 : Int32)) (v := (.int c1)) (by rw [eh2]; exact Ar3.1) (State.isArrayOf_alike hZ.alike Ar3.2.1) Ar3.2.2 hin3 (H3.at hin3 rfl) (g := (mkF m 8 #[.val (.ref b), .val (.int 1)] [(.int 1), (.ref b)])) rfl rfl (hb hby own_d25_8) _ kq) ?_
  refine own_g (mkF m 14 #[.val (.ref b), .val (.int 1)] [(.int ((c1 &&& (255 : Int32)).toUInt32.toUInt16.toUInt32.toInt32))]) (fun _ q => XS.sipush X2.here hx rfl (hb hby own_d25_9) (XS.iand X2.here hx rfl (hb hby own_d25_12) rfl (XS.i2c X2.here hx rfl (hb hby own_d25_13) rfl q))) ?_
  exact own_end X2 (v := some (.int (nar .char ((c1 &&& (255 : Int32)).toUInt32.toUInt16.toUInt32.toInt32)))) (fun h => by rw [Bd.returns] at h; cases h) hlk (fun hr => retN X2 hx (t := .char) Bd.returns (by simp) (hb hby own_d25_14) hr) (by rw [eh2]; exact ⟨rfl, N2, rfl⟩) (by decide) (by decide)
theorem own_ch_3_1_ef (m : MethodId) (x0 : Addr) : entryFrame m #[(.ref x0), (.int 1)] 2 = mkF m 0 #[.val (.ref x0), .val (.int 1)] [] := by  first | (simp [entryFrame, mkF, argsToLocals, Value.category]; done) | rfl
def own_ch_3_1_Q (Z : State) (x0 : Addr) (t : Addr) (kb : ClassId) (c0 : Int32) (c1 : Int32) (c2 : Int32) (zCS : Int32) (fm : Value) (cs : Addr) (h0 : Heap) (n0 : Nat) (v : Option Value) (h : Heap) (L : List Loc) : Prop := v = some (.int c1) ∧ Fr n0 L ∧ h = h0
set_option maxRecDepth 65536 in
set_option maxHeartbeats 40000000 in
theorem own_ch_3_1 (l : Launch) (Z : State) (a0 : Array Value) (hw : ∀ d ∈ tables_1, d.before a0 Z = true) (ws : List Jvm.Cond) (x0 : Addr) (t : Addr) (kb : ClassId) (c0 : Int32) (c1 : Int32) (c2 : Int32) (zCS : Int32) (fm : Value) (cs : Addr) (h0 : Heap) (n0 : Nat) (Z0 : n0 ≤ h0.size) (S_CS : own_A0 Z zCS) (nCS : ¬ zCS = 0) (S_SF : own_A2 Z fm) (hfm : fm.isRef = true) (S_UT : own_A1 Z cs) (S_IN : own_A3 Z cs) (E_cs : Exa Z Z.heap cs "sun/nio/cs/UTF_8") (O0 : Old Z n0 h0) (E_x : Exa Z h0 x0 "java/lang/String") (V_x : Fld Z h0 x0 "java/lang/String" "value" "[B" (.ref t)) (C_x : Fld Z h0 x0 "java/lang/String" "coder" "B" (.int 0)) (K_t : Arv Z h0 t kb .byte (3 : Int32) [(.int c0), (.int c1), (.int c2)] (.int 0)) (hbd : ¬ c1 < 0 ∧ ¬ (127 : Int32) < c1) :
    MetFree l own_y14 (head1 (Jvm.Cond.code own_y14 jdk_42_method_56_code 2 (some .char) :: ws) (⟨3, 0, 0, 40⟩ : Room)) (fun aa U => aa = #[(.ref x0), (.int 1)] ∧ Z.Warmed39 U.vm ∧ U.heap = h0) (fun _ _ _ _ _ => True) (fun _ U o U' => ∃ v L, o = .returned v ∧ own_ch_3_1_Q Z x0 t kb c0 c1 c2 zCS fm cs h0 n0 v U'.heap L ∧ FrameEnd U o U' L (⟨3, 0, 0, 40⟩ : Room).cells (⟨3, 0, 0, 40⟩ : Room).slots) := by
  refine MetFree.of_bodySF (plainFor_of_name own_pn_java_lang_String) hisR ?_
  intro p e s m args below meth c s₁ Bd hml0 hP hK
  obtain ⟨rfl, hZ, hh⟩ := hP
  have hx := Bd.exec
  have hby := Bd.bytes
  have hml : c.maxLocals = 2 := hml0
  have hown : s.vm.findClass "java/lang/String" = some m.cls := findClass_of_methodNamed Bd.named
  have hnm := (name_of_methodNamed Bd.named Bd.method).1
  have hlk := Bd.notSynchronized
  have X0 : Stand p l e (⟨3, 0, 0, 40⟩ : Room) s m #[(.ref x0), (.int 1)] below meth c s₁ [] 0 0 := Stand.of_body Bd
  have e0 : s₁.heap = h0 := by rw [← hh, Bd.state]; rfl
  have N0 := Fr.nil n0
  refine own_start (Q := own_ch_3_1_Q Z x0 t kb c0 c1 c2 zCS fm cs h0 n0) (own_ch_3_1_ef m x0) ?_
  refine own_g (mkF m 1 #[.val (.ref x0), .val (.int 1)] [(.ref x0)]) (fun _ q => XS.aloadN X0.here hx rfl (hb hby own_d23_0) rfl rfl q) ?_
  refine own_callV X0 hx hZ (y := own_y18) (z := own_y18) hown (own_h hw 142 rfl) (own_h hw 143 rfl) (own_nf (own_h hw 145 rfl)) (own_h hw 145 rfl) (own_h hw 144 rfl) (own_h hw 146 rfl) (own_h hw 66 rfl) (by decide) E_x (own_il l Z a0 hw [] x0 zCS fm cs h0 n0 Z0 S_CS nCS S_SF hfm S_UT S_IN E_cs O0 C_x) (by decide) (by decide) e0 (g := (mkF m 1 #[.val (.ref x0), .val (.int 1)] [(.ref x0)])) rfl (by rw [hml]; rfl) (argsL := []) (rest := []) (lenOf own_pd__28_29Z rfl) rfl (W := 0) (Nat.le_of_eq rfl) (hb hby own_d23_1) rfl (by decide) (by decide) ?_
  rintro rv1 T1 L1 X1 ⟨rfl, Nq1, eh1⟩
  have N1 := Fr.app N0 Nq1
  refine own_g (mkF m 8 #[.val (.ref x0), .val (.int 1)] [(.ref x0)]) (fun _ q => XS.ifNo X1.here hx rfl (hb hby own_d23_4) rfl ((if0 _ _).trans (feq (by decide : ¬ ((1 : Int32) = (0 : Int32)))).1) (XS.aloadN X1.here hx rfl (hb hby own_d23_7) rfl rfl q)) ?_
  obtain ⟨T2, X2, e2, st2⟩ := getF X1 hx hZ hown (host := "") (Or.inl (own_h hw 96 rfl)) Via.refl eh1 V_x (g := (mkF m 8 #[.val (.ref x0), .val (.int 1)] [(.ref x0)])) rfl rfl (hb hby own_d23_8)
  refine own_by (g' := (mkF m 11 #[.val (.ref x0), .val (.int 1)] [(.ref t)])) st2 ?_
  refine own_g (mkF m 12 #[.val (.ref x0), .val (.int 1)] [(.int 1), (.ref t)]) (fun _ q => XS.iloadN X2.here hx rfl (hb hby own_d23_11) rfl q) ?_
  refine own_callS X2 hx hZ (y := own_y22) hown (own_h hw 147 rfl) (own_h hw 148 rfl) (own_h hw 149 rfl) (own_h hw 150 rfl) (by decide) (own_lc_3_1 l Z a0 hw [] t kb c0 c1 c2 zCS fm cs h0 n0 Z0 S_CS nCS S_SF hfm S_UT S_IN E_cs O0 K_t) (by decide) (by decide) e2 (g := (mkF m 12 #[.val (.ref x0), .val (.int 1)] [(.int 1), (.ref t)])) rfl (by rw [hml]; rfl) (argsL := [(.ref t), (.int 1)]) (rest := []) (lenOf own_pd__28_5bBI_29C rfl) rfl (W := 0) (Nat.le_of_eq rfl) (hb hby own_d23_12) rfl (by decide) (by decide) ?_
  rintro rv3 T3 L3 X3 ⟨hv3, Nq3, eh3⟩
  have N3 := Fr.app N1 Nq3
  rw [(own_c7 hbd).1] at hv3
  subst hv3
  show own_Fin p e below _ T3 (mkF m 15 #[.val (.ref x0), .val (.int 1)] [(.int c1)])
  exact own_end X3 (v := some (.int (nar .char c1))) (fun h => by rw [Bd.returns] at h; cases h) hlk (fun hr => retN X3 hx (t := .char) Bd.returns (by simp) (hb hby own_d23_15) hr) (by rw [eh3]; exact ⟨by rw [(own_c7 hbd).2], N3, rfl⟩) (by decide) (by decide)
theorem own_lc_3_2_ef (m : MethodId) (b : Addr) : entryFrame m #[(.ref b), (.int 2)] 2 = mkF m 0 #[.val (.ref b), .val (.int 2)] [] := by  first | (simp [entryFrame, mkF, argsToLocals, Value.category]; done) | rfl
def own_lc_3_2_Q (Z : State) (b : Addr) (kb : ClassId) (c0 : Int32) (c1 : Int32) (c2 : Int32) (zCS : Int32) (fm : Value) (cs : Addr) (h0 : Heap) (n0 : Nat) (v : Option Value) (h : Heap) (L : List Loc) : Prop := v = some (.int (nar .char (StrChars.chr8 c2))) ∧ Fr n0 L ∧ h = h0
set_option maxRecDepth 65536 in
set_option maxHeartbeats 40000000 in
theorem own_lc_3_2 (l : Launch) (Z : State) (a0 : Array Value) (hw : ∀ d ∈ tables_1, d.before a0 Z = true) (ws : List Jvm.Cond) (b : Addr) (kb : ClassId) (c0 : Int32) (c1 : Int32) (c2 : Int32) (zCS : Int32) (fm : Value) (cs : Addr) (h0 : Heap) (n0 : Nat) (Z0 : n0 ≤ h0.size) (S_CS : own_A0 Z zCS) (nCS : ¬ zCS = 0) (S_SF : own_A2 Z fm) (hfm : fm.isRef = true) (S_UT : own_A1 Z cs) (S_IN : own_A3 Z cs) (E_cs : Exa Z Z.heap cs "sun/nio/cs/UTF_8") (O0 : Old Z n0 h0) (K_b : Arv Z h0 b kb .byte (3 : Int32) [(.int c0), (.int c1), (.int c2)] (.int 0)) :
    MetFree l own_y22 (head1 (Jvm.Cond.code own_y22 jdk_43_method_2_code 2 (some .char) :: ws) (⟨2, 0, 0, 27⟩ : Room)) (fun aa U => aa = #[(.ref b), (.int 2)] ∧ Z.Warmed39 U.vm ∧ U.heap = h0) (fun _ _ _ _ _ => True) (fun _ U o U' => ∃ v L, o = .returned v ∧ own_lc_3_2_Q Z b kb c0 c1 c2 zCS fm cs h0 n0 v U'.heap L ∧ FrameEnd U o U' L (⟨2, 0, 0, 27⟩ : Room).cells (⟨2, 0, 0, 27⟩ : Room).slots) := by
  refine MetFree.of_bodySF (plainFor_of_name own_pn_java_lang_StringLatin1) hisR ?_
  intro p e s m args below meth c s₁ Bd hml0 hP hK
  obtain ⟨rfl, hZ, hh⟩ := hP
  have hx := Bd.exec
  have hby := Bd.bytes
  have hml : c.maxLocals = 2 := hml0
  have hown : s.vm.findClass "java/lang/StringLatin1" = some m.cls := findClass_of_methodNamed Bd.named
  have hnm := (name_of_methodNamed Bd.named Bd.method).1
  have hlk := Bd.notSynchronized
  have X0 : Stand p l e (⟨2, 0, 0, 27⟩ : Room) s m #[(.ref b), (.int 2)] below meth c s₁ [] 0 0 := Stand.of_body Bd
  have e0 : s₁.heap = h0 := by rw [← hh, Bd.state]; rfl
  have N0 := Fr.nil n0
  refine own_start (Q := own_lc_3_2_Q Z b kb c0 c1 c2 zCS fm cs h0 n0) (own_lc_3_2_ef m b) ?_
  refine own_g (mkF m 2 #[.val (.ref b), .val (.int 2)] [(.ref b), (.int 2)]) (fun _ q => XS.iloadN X0.here hx rfl (hb hby own_d25_0) rfl (XS.aloadN X0.here hx rfl (hb hby own_d25_1) rfl rfl q)) ?_
  obtain ⟨cl1, Ar1, q1, S1, P1, H1, G1⟩ := id K_b
  refine own_by (g' := (mkF m 3 #[.val (.ref b), .val (.int 2)] [(.int 3), (.int 2)])) (fun _ kq => X0.arraylength hx (by rw [e0]; exact Ar1.1) (State.isArrayOf_alike hZ.alike Ar1.2.1) (g := (mkF m 2 #[.val (.ref b), .val (.int 2)] [(.ref b), (.int 2)])) rfl rfl (hb hby own_d25_2) _ (by rw [len_of S1 P1]; exact kq)) ?_
  refine own_callS X0 hx hZ (y := own_y16) hown (own_h hw 151 rfl) (own_h hw 152 rfl) (own_h hw 66 rfl) (own_h hw 153 rfl) (by decide) (own_sci_3_2 l Z a0 hw []  zCS fm cs h0 n0 Z0 S_CS nCS S_SF hfm S_UT S_IN E_cs O0 ) (by decide) (by decide) e0 (g := (mkF m 3 #[.val (.ref b), .val (.int 2)] [(.int 3), (.int 2)])) rfl (by rw [hml]; rfl) (argsL := [(.int 2), (.int 3)]) (rest := []) (lenOf own_pd__28II_29V rfl) rfl (W := 0) (Nat.le_of_eq rfl) (hb hby own_d25_3) rfl (by decide) (by decide) ?_
  rintro rv2 T2 L2 X2 ⟨rfl, Nq2, eh2⟩
  have N2 := Fr.app N0 Nq2
  refine own_g (mkF m 8 #[.val (.ref b), .val (.int 2)] [(.int 2), (.ref b)]) (fun _ q => XS.aloadN X2.here hx rfl (hb hby own_d25_6) rfl rfl (XS.iloadN X2.here hx rfl (hb hby own_d25_7) rfl q)) ?_
  obtain ⟨cl3, Ar3, q3, S3, P3, H3, G3⟩ := id K_b
  have hin3 : ¬ ((2 : Int32) < 0 ∨ cl3.slots.size ≤ ((2 : Int32)).toNatClampNeg) := inb_of S3 ⟨by decide, by decide⟩
  refine own_by (g' := (mkF m 9 #[.val (.ref b), .val (.int 2)] [(.int c2)])) (fun _ kq => X2.baloadBytes hx (j := (2 : Int32)) (v := (.int c2)) (by rw [eh2]; exact Ar3.1) (State.isArrayOf_alike hZ.alike Ar3.2.1) Ar3.2.2 hin3 (H3.at hin3 rfl) (g := (mkF m 8 #[.val (.ref b), .val (.int 2)] [(.int 2), (.ref b)])) rfl rfl (hb hby own_d25_8) _ kq) ?_
  refine own_g (mkF m 14 #[.val (.ref b), .val (.int 2)] [(.int ((c2 &&& (255 : Int32)).toUInt32.toUInt16.toUInt32.toInt32))]) (fun _ q => XS.sipush X2.here hx rfl (hb hby own_d25_9) (XS.iand X2.here hx rfl (hb hby own_d25_12) rfl (XS.i2c X2.here hx rfl (hb hby own_d25_13) rfl q))) ?_
  exact own_end X2 (v := some (.int (nar .char ((c2 &&& (255 : Int32)).toUInt32.toUInt16.toUInt32.toInt32)))) (fun h => by rw [Bd.returns] at h; cases h) hlk (fun hr => retN X2 hx (t := .char) Bd.returns (by simp) (hb hby own_d25_14) hr) (by rw [eh2]; exact ⟨rfl, N2, rfl⟩) (by decide) (by decide)
theorem own_ch_3_2_ef (m : MethodId) (x0 : Addr) : entryFrame m #[(.ref x0), (.int 2)] 2 = mkF m 0 #[.val (.ref x0), .val (.int 2)] [] := by  first | (simp [entryFrame, mkF, argsToLocals, Value.category]; done) | rfl
def own_ch_3_2_Q (Z : State) (x0 : Addr) (t : Addr) (kb : ClassId) (c0 : Int32) (c1 : Int32) (c2 : Int32) (zCS : Int32) (fm : Value) (cs : Addr) (h0 : Heap) (n0 : Nat) (v : Option Value) (h : Heap) (L : List Loc) : Prop := v = some (.int c2) ∧ Fr n0 L ∧ h = h0
set_option maxRecDepth 65536 in
set_option maxHeartbeats 40000000 in
theorem own_ch_3_2 (l : Launch) (Z : State) (a0 : Array Value) (hw : ∀ d ∈ tables_1, d.before a0 Z = true) (ws : List Jvm.Cond) (x0 : Addr) (t : Addr) (kb : ClassId) (c0 : Int32) (c1 : Int32) (c2 : Int32) (zCS : Int32) (fm : Value) (cs : Addr) (h0 : Heap) (n0 : Nat) (Z0 : n0 ≤ h0.size) (S_CS : own_A0 Z zCS) (nCS : ¬ zCS = 0) (S_SF : own_A2 Z fm) (hfm : fm.isRef = true) (S_UT : own_A1 Z cs) (S_IN : own_A3 Z cs) (E_cs : Exa Z Z.heap cs "sun/nio/cs/UTF_8") (O0 : Old Z n0 h0) (E_x : Exa Z h0 x0 "java/lang/String") (V_x : Fld Z h0 x0 "java/lang/String" "value" "[B" (.ref t)) (C_x : Fld Z h0 x0 "java/lang/String" "coder" "B" (.int 0)) (K_t : Arv Z h0 t kb .byte (3 : Int32) [(.int c0), (.int c1), (.int c2)] (.int 0)) (hbd : ¬ c2 < 0 ∧ ¬ (127 : Int32) < c2) :
    MetFree l own_y14 (head1 (Jvm.Cond.code own_y14 jdk_42_method_56_code 2 (some .char) :: ws) (⟨3, 0, 0, 40⟩ : Room)) (fun aa U => aa = #[(.ref x0), (.int 2)] ∧ Z.Warmed39 U.vm ∧ U.heap = h0) (fun _ _ _ _ _ => True) (fun _ U o U' => ∃ v L, o = .returned v ∧ own_ch_3_2_Q Z x0 t kb c0 c1 c2 zCS fm cs h0 n0 v U'.heap L ∧ FrameEnd U o U' L (⟨3, 0, 0, 40⟩ : Room).cells (⟨3, 0, 0, 40⟩ : Room).slots) := by
  refine MetFree.of_bodySF (plainFor_of_name own_pn_java_lang_String) hisR ?_
  intro p e s m args below meth c s₁ Bd hml0 hP hK
  obtain ⟨rfl, hZ, hh⟩ := hP
  have hx := Bd.exec
  have hby := Bd.bytes
  have hml : c.maxLocals = 2 := hml0
  have hown : s.vm.findClass "java/lang/String" = some m.cls := findClass_of_methodNamed Bd.named
  have hnm := (name_of_methodNamed Bd.named Bd.method).1
  have hlk := Bd.notSynchronized
  have X0 : Stand p l e (⟨3, 0, 0, 40⟩ : Room) s m #[(.ref x0), (.int 2)] below meth c s₁ [] 0 0 := Stand.of_body Bd
  have e0 : s₁.heap = h0 := by rw [← hh, Bd.state]; rfl
  have N0 := Fr.nil n0
  refine own_start (Q := own_ch_3_2_Q Z x0 t kb c0 c1 c2 zCS fm cs h0 n0) (own_ch_3_2_ef m x0) ?_
  refine own_g (mkF m 1 #[.val (.ref x0), .val (.int 2)] [(.ref x0)]) (fun _ q => XS.aloadN X0.here hx rfl (hb hby own_d23_0) rfl rfl q) ?_
  refine own_callV X0 hx hZ (y := own_y18) (z := own_y18) hown (own_h hw 142 rfl) (own_h hw 143 rfl) (own_nf (own_h hw 145 rfl)) (own_h hw 145 rfl) (own_h hw 144 rfl) (own_h hw 146 rfl) (own_h hw 66 rfl) (by decide) E_x (own_il l Z a0 hw [] x0 zCS fm cs h0 n0 Z0 S_CS nCS S_SF hfm S_UT S_IN E_cs O0 C_x) (by decide) (by decide) e0 (g := (mkF m 1 #[.val (.ref x0), .val (.int 2)] [(.ref x0)])) rfl (by rw [hml]; rfl) (argsL := []) (rest := []) (lenOf own_pd__28_29Z rfl) rfl (W := 0) (Nat.le_of_eq rfl) (hb hby own_d23_1) rfl (by decide) (by decide) ?_
  rintro rv1 T1 L1 X1 ⟨rfl, Nq1, eh1⟩
  have N1 := Fr.app N0 Nq1
  refine own_g (mkF m 8 #[.val (.ref x0), .val (.int 2)] [(.ref x0)]) (fun _ q => XS.ifNo X1.here hx rfl (hb hby own_d23_4) rfl ((if0 _ _).trans (feq (by decide : ¬ ((1 : Int32) = (0 : Int32)))).1) (XS.aloadN X1.here hx rfl (hb hby own_d23_7) rfl rfl q)) ?_
  obtain ⟨T2, X2, e2, st2⟩ := getF X1 hx hZ hown (host := "") (Or.inl (own_h hw 96 rfl)) Via.refl eh1 V_x (g := (mkF m 8 #[.val (.ref x0), .val (.int 2)] [(.ref x0)])) rfl rfl (hb hby own_d23_8)
  refine own_by (g' := (mkF m 11 #[.val (.ref x0), .val (.int 2)] [(.ref t)])) st2 ?_
  refine own_g (mkF m 12 #[.val (.ref x0), .val (.int 2)] [(.int 2), (.ref t)]) (fun _ q => XS.iloadN X2.here hx rfl (hb hby own_d23_11) rfl q) ?_
  refine own_callS X2 hx hZ (y := own_y22) hown (own_h hw 147 rfl) (own_h hw 148 rfl) (own_h hw 149 rfl) (own_h hw 150 rfl) (by decide) (own_lc_3_2 l Z a0 hw [] t kb c0 c1 c2 zCS fm cs h0 n0 Z0 S_CS nCS S_SF hfm S_UT S_IN E_cs O0 K_t) (by decide) (by decide) e2 (g := (mkF m 12 #[.val (.ref x0), .val (.int 2)] [(.int 2), (.ref t)])) rfl (by rw [hml]; rfl) (argsL := [(.ref t), (.int 2)]) (rest := []) (lenOf own_pd__28_5bBI_29C rfl) rfl (W := 0) (Nat.le_of_eq rfl) (hb hby own_d23_12) rfl (by decide) (by decide) ?_
  rintro rv3 T3 L3 X3 ⟨hv3, Nq3, eh3⟩
  have N3 := Fr.app N1 Nq3
  rw [(own_c7 hbd).1] at hv3
  subst hv3
  show own_Fin p e below _ T3 (mkF m 15 #[.val (.ref x0), .val (.int 2)] [(.int c2)])
  exact own_end X3 (v := some (.int (nar .char c2))) (fun h => by rw [Bd.returns] at h; cases h) hlk (fun hr => retN X3 hx (t := .char) Bd.returns (by simp) (hb hby own_d23_15) hr) (by rw [eh3]; exact ⟨by rw [(own_c7 hbd).2], N3, rfl⟩) (by decide) (by decide)
theorem own_lc_4_0_ef (m : MethodId) (b : Addr) : entryFrame m #[(.ref b), (.int 0)] 2 = mkF m 0 #[.val (.ref b), .val (.int 0)] [] := by  first | (simp [entryFrame, mkF, argsToLocals, Value.category]; done) | rfl
def own_lc_4_0_Q (Z : State) (b : Addr) (kb : ClassId) (c0 : Int32) (c1 : Int32) (c2 : Int32) (c3 : Int32) (zCS : Int32) (fm : Value) (cs : Addr) (h0 : Heap) (n0 : Nat) (v : Option Value) (h : Heap) (L : List Loc) : Prop := v = some (.int (nar .char (StrChars.chr8 c0))) ∧ Fr n0 L ∧ h = h0
set_option maxRecDepth 65536 in
set_option maxHeartbeats 40000000 in
theorem own_lc_4_0 (l : Launch) (Z : State) (a0 : Array Value) (hw : ∀ d ∈ tables_1, d.before a0 Z = true) (ws : List Jvm.Cond) (b : Addr) (kb : ClassId) (c0 : Int32) (c1 : Int32) (c2 : Int32) (c3 : Int32) (zCS : Int32) (fm : Value) (cs : Addr) (h0 : Heap) (n0 : Nat) (Z0 : n0 ≤ h0.size) (S_CS : own_A0 Z zCS) (nCS : ¬ zCS = 0) (S_SF : own_A2 Z fm) (hfm : fm.isRef = true) (S_UT : own_A1 Z cs) (S_IN : own_A3 Z cs) (E_cs : Exa Z Z.heap cs "sun/nio/cs/UTF_8") (O0 : Old Z n0 h0) (K_b : Arv Z h0 b kb .byte (4 : Int32) [(.int c0), (.int c1), (.int c2), (.int c3)] (.int 0)) :
    MetFree l own_y22 (head1 (Jvm.Cond.code own_y22 jdk_43_method_2_code 2 (some .char) :: ws) (⟨2, 0, 0, 27⟩ : Room)) (fun aa U => aa = #[(.ref b), (.int 0)] ∧ Z.Warmed39 U.vm ∧ U.heap = h0) (fun _ _ _ _ _ => True) (fun _ U o U' => ∃ v L, o = .returned v ∧ own_lc_4_0_Q Z b kb c0 c1 c2 c3 zCS fm cs h0 n0 v U'.heap L ∧ FrameEnd U o U' L (⟨2, 0, 0, 27⟩ : Room).cells (⟨2, 0, 0, 27⟩ : Room).slots) := by
  refine MetFree.of_bodySF (plainFor_of_name own_pn_java_lang_StringLatin1) hisR ?_
  intro p e s m args below meth c s₁ Bd hml0 hP hK
  obtain ⟨rfl, hZ, hh⟩ := hP
  have hx := Bd.exec
  have hby := Bd.bytes
  have hml : c.maxLocals = 2 := hml0
  have hown : s.vm.findClass "java/lang/StringLatin1" = some m.cls := findClass_of_methodNamed Bd.named
  have hnm := (name_of_methodNamed Bd.named Bd.method).1
  have hlk := Bd.notSynchronized
  have X0 : Stand p l e (⟨2, 0, 0, 27⟩ : Room) s m #[(.ref b), (.int 0)] below meth c s₁ [] 0 0 := Stand.of_body Bd
  have e0 : s₁.heap = h0 := by rw [← hh, Bd.state]; rfl
  have N0 := Fr.nil n0
  refine own_start (Q := own_lc_4_0_Q Z b kb c0 c1 c2 c3 zCS fm cs h0 n0) (own_lc_4_0_ef m b) ?_
  refine own_g (mkF m 2 #[.val (.ref b), .val (.int 0)] [(.ref b), (.int 0)]) (fun _ q => XS.iloadN X0.here hx rfl (hb hby own_d25_0) rfl (XS.aloadN X0.here hx rfl (hb hby own_d25_1) rfl rfl q)) ?_
  obtain ⟨cl1, Ar1, q1, S1, P1, H1, G1⟩ := id K_b
  refine own_by (g' := (mkF m 3 #[.val (.ref b), .val (.int 0)] [(.int 4), (.int 0)])) (fun _ kq => X0.arraylength hx (by rw [e0]; exact Ar1.1) (State.isArrayOf_alike hZ.alike Ar1.2.1) (g := (mkF m 2 #[.val (.ref b), .val (.int 0)] [(.ref b), (.int 0)])) rfl rfl (hb hby own_d25_2) _ (by rw [len_of S1 P1]; exact kq)) ?_
  refine own_callS X0 hx hZ (y := own_y16) hown (own_h hw 151 rfl) (own_h hw 152 rfl) (own_h hw 66 rfl) (own_h hw 153 rfl) (by decide) (own_sci_4_0 l Z a0 hw []  zCS fm cs h0 n0 Z0 S_CS nCS S_SF hfm S_UT S_IN E_cs O0 ) (by decide) (by decide) e0 (g := (mkF m 3 #[.val (.ref b), .val (.int 0)] [(.int 4), (.int 0)])) rfl (by rw [hml]; rfl) (argsL := [(.int 0), (.int 4)]) (rest := []) (lenOf own_pd__28II_29V rfl) rfl (W := 0) (Nat.le_of_eq rfl) (hb hby own_d25_3) rfl (by decide) (by decide) ?_
  rintro rv2 T2 L2 X2 ⟨rfl, Nq2, eh2⟩
  have N2 := Fr.app N0 Nq2
  refine own_g (mkF m 8 #[.val (.ref b), .val (.int 0)] [(.int 0), (.ref b)]) (fun _ q => XS.aloadN X2.here hx rfl (hb hby own_d25_6) rfl rfl (XS.iloadN X2.here hx rfl (hb hby own_d25_7) rfl q)) ?_
  obtain ⟨cl3, Ar3, q3, S3, P3, H3, G3⟩ := id K_b
  have hin3 : ¬ ((0 : Int32) < 0 ∨ cl3.slots.size ≤ ((0 : Int32)).toNatClampNeg) := inb_of S3 ⟨by decide, by decide⟩
  refine own_by (g' := (mkF m 9 #[.val (.ref b), .val (.int 0)] [(.int c0)])) (fun _ kq => X2.baloadBytes hx (j := (0 : Int32)) (v := (.int c0)) (by rw [eh2]; exact Ar3.1) (State.isArrayOf_alike hZ.alike Ar3.2.1) Ar3.2.2 hin3 (H3.at hin3 rfl) (g := (mkF m 8 #[.val (.ref b), .val (.int 0)] [(.int 0), (.ref b)])) rfl rfl (hb hby own_d25_8) _ kq) ?_
  refine own_g (mkF m 14 #[.val (.ref b), .val (.int 0)] [(.int ((c0 &&& (255 : Int32)).toUInt32.toUInt16.toUInt32.toInt32))]) (fun _ q => XS.sipush X2.here hx rfl (hb hby own_d25_9) (XS.iand X2.here hx rfl (hb hby own_d25_12) rfl (XS.i2c X2.here hx rfl (hb hby own_d25_13) rfl q))) ?_
  exact own_end X2 (v := some (.int (nar .char ((c0 &&& (255 : Int32)).toUInt32.toUInt16.toUInt32.toInt32)))) (fun h => by rw [Bd.returns] at h; cases h) hlk (fun hr => retN X2 hx (t := .char) Bd.returns (by simp) (hb hby own_d25_14) hr) (by rw [eh2]; exact ⟨rfl, N2, rfl⟩) (by decide) (by decide)
theorem own_ch_4_0_ef (m : MethodId) (x0 : Addr) : entryFrame m #[(.ref x0), (.int 0)] 2 = mkF m 0 #[.val (.ref x0), .val (.int 0)] [] := by  first | (simp [entryFrame, mkF, argsToLocals, Value.category]; done) | rfl
def own_ch_4_0_Q (Z : State) (x0 : Addr) (t : Addr) (kb : ClassId) (c0 : Int32) (c1 : Int32) (c2 : Int32) (c3 : Int32) (zCS : Int32) (fm : Value) (cs : Addr) (h0 : Heap) (n0 : Nat) (v : Option Value) (h : Heap) (L : List Loc) : Prop := v = some (.int c0) ∧ Fr n0 L ∧ h = h0
set_option maxRecDepth 65536 in
set_option maxHeartbeats 40000000 in
theorem own_ch_4_0 (l : Launch) (Z : State) (a0 : Array Value) (hw : ∀ d ∈ tables_1, d.before a0 Z = true) (ws : List Jvm.Cond) (x0 : Addr) (t : Addr) (kb : ClassId) (c0 : Int32) (c1 : Int32) (c2 : Int32) (c3 : Int32) (zCS : Int32) (fm : Value) (cs : Addr) (h0 : Heap) (n0 : Nat) (Z0 : n0 ≤ h0.size) (S_CS : own_A0 Z zCS) (nCS : ¬ zCS = 0) (S_SF : own_A2 Z fm) (hfm : fm.isRef = true) (S_UT : own_A1 Z cs) (S_IN : own_A3 Z cs) (E_cs : Exa Z Z.heap cs "sun/nio/cs/UTF_8") (O0 : Old Z n0 h0) (E_x : Exa Z h0 x0 "java/lang/String") (V_x : Fld Z h0 x0 "java/lang/String" "value" "[B" (.ref t)) (C_x : Fld Z h0 x0 "java/lang/String" "coder" "B" (.int 0)) (K_t : Arv Z h0 t kb .byte (4 : Int32) [(.int c0), (.int c1), (.int c2), (.int c3)] (.int 0)) (hbd : ¬ c0 < 0 ∧ ¬ (127 : Int32) < c0) :
    MetFree l own_y14 (head1 (Jvm.Cond.code own_y14 jdk_42_method_56_code 2 (some .char) :: ws) (⟨3, 0, 0, 40⟩ : Room)) (fun aa U => aa = #[(.ref x0), (.int 0)] ∧ Z.Warmed39 U.vm ∧ U.heap = h0) (fun _ _ _ _ _ => True) (fun _ U o U' => ∃ v L, o = .returned v ∧ own_ch_4_0_Q Z x0 t kb c0 c1 c2 c3 zCS fm cs h0 n0 v U'.heap L ∧ FrameEnd U o U' L (⟨3, 0, 0, 40⟩ : Room).cells (⟨3, 0, 0, 40⟩ : Room).slots) := by
  refine MetFree.of_bodySF (plainFor_of_name own_pn_java_lang_String) hisR ?_
  intro p e s m args below meth c s₁ Bd hml0 hP hK
  obtain ⟨rfl, hZ, hh⟩ := hP
  have hx := Bd.exec
  have hby := Bd.bytes
  have hml : c.maxLocals = 2 := hml0
  have hown : s.vm.findClass "java/lang/String" = some m.cls := findClass_of_methodNamed Bd.named
  have hnm := (name_of_methodNamed Bd.named Bd.method).1
  have hlk := Bd.notSynchronized
  have X0 : Stand p l e (⟨3, 0, 0, 40⟩ : Room) s m #[(.ref x0), (.int 0)] below meth c s₁ [] 0 0 := Stand.of_body Bd
  have e0 : s₁.heap = h0 := by rw [← hh, Bd.state]; rfl
  have N0 := Fr.nil n0
  refine own_start (Q := own_ch_4_0_Q Z x0 t kb c0 c1 c2 c3 zCS fm cs h0 n0) (own_ch_4_0_ef m x0) ?_
  refine own_g (mkF m 1 #[.val (.ref x0), .val (.int 0)] [(.ref x0)]) (fun _ q => XS.aloadN X0.here hx rfl (hb hby own_d23_0) rfl rfl q) ?_
  refine own_callV X0 hx hZ (y := own_y18) (z := own_y18) hown (own_h hw 142 rfl) (own_h hw 143 rfl) (own_nf (own_h hw 145 rfl)) (own_h hw 145 rfl) (own_h hw 144 rfl) (own_h hw 146 rfl) (own_h hw 66 rfl) (by decide) E_x (own_il l Z a0 hw [] x0 zCS fm cs h0 n0 Z0 S_CS nCS S_SF hfm S_UT S_IN E_cs O0 C_x) (by decide) (by decide) e0 (g := (mkF m 1 #[.val (.ref x0), .val (.int 0)] [(.ref x0)])) rfl (by rw [hml]; rfl) (argsL := []) (rest := []) (lenOf own_pd__28_29Z rfl) rfl (W := 0) (Nat.le_of_eq rfl) (hb hby own_d23_1) rfl (by decide) (by decide) ?_
  rintro rv1 T1 L1 X1 ⟨rfl, Nq1, eh1⟩
  have N1 := Fr.app N0 Nq1
  refine own_g (mkF m 8 #[.val (.ref x0), .val (.int 0)] [(.ref x0)]) (fun _ q => XS.ifNo X1.here hx rfl (hb hby own_d23_4) rfl ((if0 _ _).trans (feq (by decide : ¬ ((1 : Int32) = (0 : Int32)))).1) (XS.aloadN X1.here hx rfl (hb hby own_d23_7) rfl rfl q)) ?_
  obtain ⟨T2, X2, e2, st2⟩ := getF X1 hx hZ hown (host := "") (Or.inl (own_h hw 96 rfl)) Via.refl eh1 V_x (g := (mkF m 8 #[.val (.ref x0), .val (.int 0)] [(.ref x0)])) rfl rfl (hb hby own_d23_8)
  refine own_by (g' := (mkF m 11 #[.val (.ref x0), .val (.int 0)] [(.ref t)])) st2 ?_
  refine own_g (mkF m 12 #[.val (.ref x0), .val (.int 0)] [(.int 0), (.ref t)]) (fun _ q => XS.iloadN X2.here hx rfl (hb hby own_d23_11) rfl q) ?_
  refine own_callS X2 hx hZ (y := own_y22) hown (own_h hw 147 rfl) (own_h hw 148 rfl) (own_h hw 149 rfl) (own_h hw 150 rfl) (by decide) (own_lc_4_0 l Z a0 hw [] t kb c0 c1 c2 c3 zCS fm cs h0 n0 Z0 S_CS nCS S_SF hfm S_UT S_IN E_cs O0 K_t) (by decide) (by decide) e2 (g := (mkF m 12 #[.val (.ref x0), .val (.int 0)] [(.int 0), (.ref t)])) rfl (by rw [hml]; rfl) (argsL := [(.ref t), (.int 0)]) (rest := []) (lenOf own_pd__28_5bBI_29C rfl) rfl (W := 0) (Nat.le_of_eq rfl) (hb hby own_d23_12) rfl (by decide) (by decide) ?_
  rintro rv3 T3 L3 X3 ⟨hv3, Nq3, eh3⟩
  have N3 := Fr.app N1 Nq3
  rw [(own_c7 hbd).1] at hv3
  subst hv3
  show own_Fin p e below _ T3 (mkF m 15 #[.val (.ref x0), .val (.int 0)] [(.int c0)])
  exact own_end X3 (v := some (.int (nar .char c0))) (fun h => by rw [Bd.returns] at h; cases h) hlk (fun hr => retN X3 hx (t := .char) Bd.returns (by simp) (hb hby own_d23_15) hr) (by rw [eh3]; exact ⟨by rw [(own_c7 hbd).2], N3, rfl⟩) (by decide) (by decide)
theorem own_lc_4_1_ef (m : MethodId) (b : Addr) : entryFrame m #[(.ref b), (.int 1)] 2 = mkF m 0 #[.val (.ref b), .val (.int 1)] [] := by  first | (simp [entryFrame, mkF, argsToLocals, Value.category]; done) | rfl
def own_lc_4_1_Q (Z : State) (b : Addr) (kb : ClassId) (c0 : Int32) (c1 : Int32) (c2 : Int32) (c3 : Int32) (zCS : Int32) (fm : Value) (cs : Addr) (h0 : Heap) (n0 : Nat) (v : Option Value) (h : Heap) (L : List Loc) : Prop := v = some (.int (nar .char (StrChars.chr8 c1))) ∧ Fr n0 L ∧ h = h0
set_option maxRecDepth 65536 in
set_option maxHeartbeats 40000000 in
theorem own_lc_4_1 (l : Launch) (Z : State) (a0 : Array Value) (hw : ∀ d ∈ tables_1, d.before a0 Z = true) (ws : List Jvm.Cond) (b : Addr) (kb : ClassId) (c0 : Int32) (c1 : Int32) (c2 : Int32) (c3 : Int32) (zCS : Int32) (fm : Value) (cs : Addr) (h0 : Heap) (n0 : Nat) (Z0 : n0 ≤ h0.size) (S_CS : own_A0 Z zCS) (nCS : ¬ zCS = 0) (S_SF : own_A2 Z fm) (hfm : fm.isRef = true) (S_UT : own_A1 Z cs) (S_IN : own_A3 Z cs) (E_cs : Exa Z Z.heap cs "sun/nio/cs/UTF_8") (O0 : Old Z n0 h0) (K_b : Arv Z h0 b kb .byte (4 : Int32) [(.int c0), (.int c1), (.int c2), (.int c3)] (.int 0)) :
    MetFree l own_y22 (head1 (Jvm.Cond.code own_y22 jdk_43_method_2_code 2 (some .char) :: ws) (⟨2, 0, 0, 27⟩ : Room)) (fun aa U => aa = #[(.ref b), (.int 1)] ∧ Z.Warmed39 U.vm ∧ U.heap = h0) (fun _ _ _ _ _ => True) (fun _ U o U' => ∃ v L, o = .returned v ∧ own_lc_4_1_Q Z b kb c0 c1 c2 c3 zCS fm cs h0 n0 v U'.heap L ∧ FrameEnd U o U' L (⟨2, 0, 0, 27⟩ : Room).cells (⟨2, 0, 0, 27⟩ : Room).slots) := by
  refine MetFree.of_bodySF (plainFor_of_name own_pn_java_lang_StringLatin1) hisR ?_
  intro p e s m args below meth c s₁ Bd hml0 hP hK
  obtain ⟨rfl, hZ, hh⟩ := hP
  have hx := Bd.exec
  have hby := Bd.bytes
  have hml : c.maxLocals = 2 := hml0
  have hown : s.vm.findClass "java/lang/StringLatin1" = some m.cls := findClass_of_methodNamed Bd.named
  have hnm := (name_of_methodNamed Bd.named Bd.method).1
  have hlk := Bd.notSynchronized
  have X0 : Stand p l e (⟨2, 0, 0, 27⟩ : Room) s m #[(.ref b), (.int 1)] below meth c s₁ [] 0 0 := Stand.of_body Bd
  have e0 : s₁.heap = h0 := by rw [← hh, Bd.state]; rfl
  have N0 := Fr.nil n0
  refine own_start (Q := own_lc_4_1_Q Z b kb c0 c1 c2 c3 zCS fm cs h0 n0) (own_lc_4_1_ef m b) ?_
  refine own_g (mkF m 2 #[.val (.ref b), .val (.int 1)] [(.ref b), (.int 1)]) (fun _ q => XS.iloadN X0.here hx rfl (hb hby own_d25_0) rfl (XS.aloadN X0.here hx rfl (hb hby own_d25_1) rfl rfl q)) ?_
  obtain ⟨cl1, Ar1, q1, S1, P1, H1, G1⟩ := id K_b
  refine own_by (g' := (mkF m 3 #[.val (.ref b), .val (.int 1)] [(.int 4), (.int 1)])) (fun _ kq => X0.arraylength hx (by rw [e0]; exact Ar1.1) (State.isArrayOf_alike hZ.alike Ar1.2.1) (g := (mkF m 2 #[.val (.ref b), .val (.int 1)] [(.ref b), (.int 1)])) rfl rfl (hb hby own_d25_2) _ (by rw [len_of S1 P1]; exact kq)) ?_
  refine own_callS X0 hx hZ (y := own_y16) hown (own_h hw 151 rfl) (own_h hw 152 rfl) (own_h hw 66 rfl) (own_h hw 153 rfl) (by decide) (own_sci_4_1 l Z a0 hw []  zCS fm cs h0 n0 Z0 S_CS nCS S_SF hfm S_UT S_IN E_cs O0 ) (by decide) (by decide) e0 (g := (mkF m 3 #[.val (.ref b), .val (.int 1)] [(.int 4), (.int 1)])) rfl (by rw [hml]; rfl) (argsL := [(.int 1), (.int 4)]) (rest := []) (lenOf own_pd__28II_29V rfl) rfl (W := 0) (Nat.le_of_eq rfl) (hb hby own_d25_3) rfl (by decide) (by decide) ?_
  rintro rv2 T2 L2 X2 ⟨rfl, Nq2, eh2⟩
  have N2 := Fr.app N0 Nq2
  refine own_g (mkF m 8 #[.val (.ref b), .val (.int 1)] [(.int 1), (.ref b)]) (fun _ q => XS.aloadN X2.here hx rfl (hb hby own_d25_6) rfl rfl (XS.iloadN X2.here hx rfl (hb hby own_d25_7) rfl q)) ?_
  obtain ⟨cl3, Ar3, q3, S3, P3, H3, G3⟩ := id K_b
  have hin3 : ¬ ((1 : Int32) < 0 ∨ cl3.slots.size ≤ ((1 : Int32)).toNatClampNeg) := inb_of S3 ⟨by decide, by decide⟩
  refine own_by (g' := (mkF m 9 #[.val (.ref b), .val (.int 1)] [(.int c1)])) (fun _ kq => X2.baloadBytes hx (j := (1 : Int32)) (v := (.int c1)) (by rw [eh2]; exact Ar3.1) (State.isArrayOf_alike hZ.alike Ar3.2.1) Ar3.2.2 hin3 (H3.at hin3 rfl) (g := (mkF m 8 #[.val (.ref b), .val (.int 1)] [(.int 1), (.ref b)])) rfl rfl (hb hby own_d25_8) _ kq) ?_
  refine own_g (mkF m 14 #[.val (.ref b), .val (.int 1)] [(.int ((c1 &&& (255 : Int32)).toUInt32.toUInt16.toUInt32.toInt32))]) (fun _ q => XS.sipush X2.here hx rfl (hb hby own_d25_9) (XS.iand X2.here hx rfl (hb hby own_d25_12) rfl (XS.i2c X2.here hx rfl (hb hby own_d25_13) rfl q))) ?_
  exact own_end X2 (v := some (.int (nar .char ((c1 &&& (255 : Int32)).toUInt32.toUInt16.toUInt32.toInt32)))) (fun h => by rw [Bd.returns] at h; cases h) hlk (fun hr => retN X2 hx (t := .char) Bd.returns (by simp) (hb hby own_d25_14) hr) (by rw [eh2]; exact ⟨rfl, N2, rfl⟩) (by decide) (by decide)
theorem own_ch_4_1_ef (m : MethodId) (x0 : Addr) : entryFrame m #[(.ref x0), (.int 1)] 2 = mkF m 0 #[.val (.ref x0), .val (.int 1)] [] := by  first | (simp [entryFrame, mkF, argsToLocals, Value.category]; done) | rfl
def own_ch_4_1_Q (Z : State) (x0 : Addr) (t : Addr) (kb : ClassId) (c0 : Int32) (c1 : Int32) (c2 : Int32) (c3 : Int32) (zCS : Int32) (fm : Value) (cs : Addr) (h0 : Heap) (n0 : Nat) (v : Option Value) (h : Heap) (L : List Loc) : Prop := v = some (.int c1) ∧ Fr n0 L ∧ h = h0
set_option maxRecDepth 65536 in
set_option maxHeartbeats 40000000 in
theorem own_ch_4_1 (l : Launch) (Z : State) (a0 : Array Value) (hw : ∀ d ∈ tables_1, d.before a0 Z = true) (ws : List Jvm.Cond) (x0 : Addr) (t : Addr) (kb : ClassId) (c0 : Int32) (c1 : Int32) (c2 : Int32) (c3 : Int32) (zCS : Int32) (fm : Value) (cs : Addr) (h0 : Heap) (n0 : Nat) (Z0 : n0 ≤ h0.size) (S_CS : own_A0 Z zCS) (nCS : ¬ zCS = 0) (S_SF : own_A2 Z fm) (hfm : fm.isRef = true) (S_UT : own_A1 Z cs) (S_IN : own_A3 Z cs) (E_cs : Exa Z Z.heap cs "sun/nio/cs/UTF_8") (O0 : Old Z n0 h0) (E_x : Exa Z h0 x0 "java/lang/String") (V_x : Fld Z h0 x0 "java/lang/String" "value" "[B" (.ref t)) (C_x : Fld Z h0 x0 "java/lang/String" "coder" "B" (.int 0)) (K_t : Arv Z h0 t kb .byte (4 : Int32) [(.int c0), (.int c1), (.int c2), (.int c3)] (.int 0)) (hbd : ¬ c1 < 0 ∧ ¬ (127 : Int32) < c1) :
    MetFree l own_y14 (head1 (Jvm.Cond.code own_y14 jdk_42_method_56_code 2 (some .char) :: ws) (⟨3, 0, 0, 40⟩ : Room)) (fun aa U => aa = #[(.ref x0), (.int 1)] ∧ Z.Warmed39 U.vm ∧ U.heap = h0) (fun _ _ _ _ _ => True) (fun _ U o U' => ∃ v L, o = .returned v ∧ own_ch_4_1_Q Z x0 t kb c0 c1 c2 c3 zCS fm cs h0 n0 v U'.heap L ∧ FrameEnd U o U' L (⟨3, 0, 0, 40⟩ : Room).cells (⟨3, 0, 0, 40⟩ : Room).slots) := by
  refine MetFree.of_bodySF (plainFor_of_name own_pn_java_lang_String) hisR ?_
  intro p e s m args below meth c s₁ Bd hml0 hP hK
  obtain ⟨rfl, hZ, hh⟩ := hP
  have hx := Bd.exec
  have hby := Bd.bytes
  have hml : c.maxLocals = 2 := hml0
  have hown : s.vm.findClass "java/lang/String" = some m.cls := findClass_of_methodNamed Bd.named
  have hnm := (name_of_methodNamed Bd.named Bd.method).1
  have hlk := Bd.notSynchronized
  have X0 : Stand p l e (⟨3, 0, 0, 40⟩ : Room) s m #[(.ref x0), (.int 1)] below meth c s₁ [] 0 0 := Stand.of_body Bd
  have e0 : s₁.heap = h0 := by rw [← hh, Bd.state]; rfl
  have N0 := Fr.nil n0
  refine own_start (Q := own_ch_4_1_Q Z x0 t kb c0 c1 c2 c3 zCS fm cs h0 n0) (own_ch_4_1_ef m x0) ?_
  refine own_g (mkF m 1 #[.val (.ref x0), .val (.int 1)] [(.ref x0)]) (fun _ q => XS.aloadN X0.here hx rfl (hb hby own_d23_0) rfl rfl q) ?_
  refine own_callV X0 hx hZ (y := own_y18) (z := own_y18) hown (own_h hw 142 rfl) (own_h hw 143 rfl) (own_nf (own_h hw 145 rfl)) (own_h hw 145 rfl) (own_h hw 144 rfl) (own_h hw 146 rfl) (own_h hw 66 rfl) (by decide) E_x (own_il l Z a0 hw [] x0 zCS fm cs h0 n0 Z0 S_CS nCS S_SF hfm S_UT S_IN E_cs O0 C_x) (by decide) (by decide) e0 (g := (mkF m 1 #[.val (.ref x0), .val (.int 1)] [(.ref x0)])) rfl (by rw [hml]; rfl) (argsL := []) (rest := []) (lenOf own_pd__28_29Z rfl) rfl (W := 0) (Nat.le_of_eq rfl) (hb hby own_d23_1) rfl (by decide) (by decide) ?_
  rintro rv1 T1 L1 X1 ⟨rfl, Nq1, eh1⟩
  have N1 := Fr.app N0 Nq1
  refine own_g (mkF m 8 #[.val (.ref x0), .val (.int 1)] [(.ref x0)]) (fun _ q => XS.ifNo X1.here hx rfl (hb hby own_d23_4) rfl ((if0 _ _).trans (feq (by decide : ¬ ((1 : Int32) = (0 : Int32)))).1) (XS.aloadN X1.here hx rfl (hb hby own_d23_7) rfl rfl q)) ?_
  obtain ⟨T2, X2, e2, st2⟩ := getF X1 hx hZ hown (host := "") (Or.inl (own_h hw 96 rfl)) Via.refl eh1 V_x (g := (mkF m 8 #[.val (.ref x0), .val (.int 1)] [(.ref x0)])) rfl rfl (hb hby own_d23_8)
  refine own_by (g' := (mkF m 11 #[.val (.ref x0), .val (.int 1)] [(.ref t)])) st2 ?_
  refine own_g (mkF m 12 #[.val (.ref x0), .val (.int 1)] [(.int 1), (.ref t)]) (fun _ q => XS.iloadN X2.here hx rfl (hb hby own_d23_11) rfl q) ?_
  refine own_callS X2 hx hZ (y := own_y22) hown (own_h hw 147 rfl) (own_h hw 148 rfl) (own_h hw 149 rfl) (own_h hw 150 rfl) (by decide) (own_lc_4_1 l Z a0 hw [] t kb c0 c1 c2 c3 zCS fm cs h0 n0 Z0 S_CS nCS S_SF hfm S_UT S_IN E_cs O0 K_t) (by decide) (by decide) e2 (g := (mkF m 12 #[.val (.ref x0), .val (.int 1)] [(.int 1), (.ref t)])) rfl (by rw [hml]; rfl) (argsL := [(.ref t), (.int 1)]) (rest := []) (lenOf own_pd__28_5bBI_29C rfl) rfl (W := 0) (Nat.le_of_eq rfl) (hb hby own_d23_12) rfl (by decide) (by decide) ?_
  rintro rv3 T3 L3 X3 ⟨hv3, Nq3, eh3⟩
  have N3 := Fr.app N1 Nq3
  rw [(own_c7 hbd).1] at hv3
  subst hv3
  show own_Fin p e below _ T3 (mkF m 15 #[.val (.ref x0), .val (.int 1)] [(.int c1)])
  exact own_end X3 (v := some (.int (nar .char c1))) (fun h => by rw [Bd.returns] at h; cases h) hlk (fun hr => retN X3 hx (t := .char) Bd.returns (by simp) (hb hby own_d23_15) hr) (by rw [eh3]; exact ⟨by rw [(own_c7 hbd).2], N3, rfl⟩) (by decide) (by decide)
theorem own_lc_4_2_ef (m : MethodId) (b : Addr) : entryFrame m #[(.ref b), (.int 2)] 2 = mkF m 0 #[.val (.ref b), .val (.int 2)] [] := by  first | (simp [entryFrame, mkF, argsToLocals, Value.category]; done) | rfl
def own_lc_4_2_Q (Z : State) (b : Addr) (kb : ClassId) (c0 : Int32) (c1 : Int32) (c2 : Int32) (c3 : Int32) (zCS : Int32) (fm : Value) (cs : Addr) (h0 : Heap) (n0 : Nat) (v : Option Value) (h : Heap) (L : List Loc) : Prop := v = some (.int (nar .char (StrChars.chr8 c2))) ∧ Fr n0 L ∧ h = h0
set_option maxRecDepth 65536 in
set_option maxHeartbeats 40000000 in
theorem own_lc_4_2 (l : Launch) (Z : State) (a0 : Array Value) (hw : ∀ d ∈ tables_1, d.before a0 Z = true) (ws : List Jvm.Cond) (b : Addr) (kb : ClassId) (c0 : Int32) (c1 : Int32) (c2 : Int32) (c3 : Int32) (zCS : Int32) (fm : Value) (cs : Addr) (h0 : Heap) (n0 : Nat) (Z0 : n0 ≤ h0.size) (S_CS : own_A0 Z zCS) (nCS : ¬ zCS = 0) (S_SF : own_A2 Z fm) (hfm : fm.isRef = true) (S_UT : own_A1 Z cs) (S_IN : own_A3 Z cs) (E_cs : Exa Z Z.heap cs "sun/nio/cs/UTF_8") (O0 : Old Z n0 h0) (K_b : Arv Z h0 b kb .byte (4 : Int32) [(.int c0), (.int c1), (.int c2), (.int c3)] (.int 0)) :
    MetFree l own_y22 (head1 (Jvm.Cond.code own_y22 jdk_43_method_2_code 2 (some .char) :: ws) (⟨2, 0, 0, 27⟩ : Room)) (fun aa U => aa = #[(.ref b), (.int 2)] ∧ Z.Warmed39 U.vm ∧ U.heap = h0) (fun _ _ _ _ _ => True) (fun _ U o U' => ∃ v L, o = .returned v ∧ own_lc_4_2_Q Z b kb c0 c1 c2 c3 zCS fm cs h0 n0 v U'.heap L ∧ FrameEnd U o U' L (⟨2, 0, 0, 27⟩ : Room).cells (⟨2, 0, 0, 27⟩ : Room).slots) := by
  refine MetFree.of_bodySF (plainFor_of_name own_pn_java_lang_StringLatin1) hisR ?_
  intro p e s m args below meth c s₁ Bd hml0 hP hK
  obtain ⟨rfl, hZ, hh⟩ := hP
  have hx := Bd.exec
  have hby := Bd.bytes
  have hml : c.maxLocals = 2 := hml0
  have hown : s.vm.findClass "java/lang/StringLatin1" = some m.cls := findClass_of_methodNamed Bd.named
  have hnm := (name_of_methodNamed Bd.named Bd.method).1
  have hlk := Bd.notSynchronized
  have X0 : Stand p l e (⟨2, 0, 0, 27⟩ : Room) s m #[(.ref b), (.int 2)] below meth c s₁ [] 0 0 := Stand.of_body Bd
  have e0 : s₁.heap = h0 := by rw [← hh, Bd.state]; rfl
  have N0 := Fr.nil n0
  refine own_start (Q := own_lc_4_2_Q Z b kb c0 c1 c2 c3 zCS fm cs h0 n0) (own_lc_4_2_ef m b) ?_
  refine own_g (mkF m 2 #[.val (.ref b), .val (.int 2)] [(.ref b), (.int 2)]) (fun _ q => XS.iloadN X0.here hx rfl (hb hby own_d25_0) rfl (XS.aloadN X0.here hx rfl (hb hby own_d25_1) rfl rfl q)) ?_
  obtain ⟨cl1, Ar1, q1, S1, P1, H1, G1⟩ := id K_b
  refine own_by (g' := (mkF m 3 #[.val (.ref b), .val (.int 2)] [(.int 4), (.int 2)])) (fun _ kq => X0.arraylength hx (by rw [e0]; exact Ar1.1) (State.isArrayOf_alike hZ.alike Ar1.2.1) (g := (mkF m 2 #[.val (.ref b), .val (.int 2)] [(.ref b), (.int 2)])) rfl rfl (hb hby own_d25_2) _ (by rw [len_of S1 P1]; exact kq)) ?_
  refine own_callS X0 hx hZ (y := own_y16) hown (own_h hw 151 rfl) (own_h hw 152 rfl) (own_h hw 66 rfl) (own_h hw 153 rfl) (by decide) (own_sci_4_2 l Z a0 hw []  zCS fm cs h0 n0 Z0 S_CS nCS S_SF hfm S_UT S_IN E_cs O0 ) (by decide) (by decide) e0 (g := (mkF m 3 #[.val (.ref b), .val (.int 2)] [(.int 4), (.int 2)])) rfl (by rw [hml]; rfl) (argsL := [(.int 2), (.int 4)]) (rest := []) (lenOf own_pd__28II_29V rfl) rfl (W := 0) (Nat.le_of_eq rfl) (hb hby own_d25_3) rfl (by decide) (by decide) ?_
  rintro rv2 T2 L2 X2 ⟨rfl, Nq2, eh2⟩
  have N2 := Fr.app N0 Nq2
  refine own_g (mkF m 8 #[.val (.ref b), .val (.int 2)] [(.int 2), (.ref b)]) (fun _ q => XS.aloadN X2.here hx rfl (hb hby own_d25_6) rfl rfl (XS.iloadN X2.here hx rfl (hb hby own_d25_7) rfl q)) ?_
  obtain ⟨cl3, Ar3, q3, S3, P3, H3, G3⟩ := id K_b
  have hin3 : ¬ ((2 : Int32) < 0 ∨ cl3.slots.size ≤ ((2 : Int32)).toNatClampNeg) := inb_of S3 ⟨by decide, by decide⟩
  refine own_by (g' := (mkF m 9 #[.val (.ref b), .val (.int 2)] [(.int c2)])) (fun _ kq => X2.baloadBytes hx (j := (2 : Int32)) (v := (.int c2)) (by rw [eh2]; exact Ar3.1) (State.isArrayOf_alike hZ.alike Ar3.2.1) Ar3.2.2 hin3 (H3.at hin3 rfl) (g := (mkF m 8 #[.val (.ref b), .val (.int 2)] [(.int 2), (.ref b)])) rfl rfl (hb hby own_d25_8) _ kq) ?_
  refine own_g (mkF m 14 #[.val (.ref b), .val (.int 2)] [(.int ((c2 &&& (255 : Int32)).toUInt32.toUInt16.toUInt32.toInt32))]) (fun _ q => XS.sipush X2.here hx rfl (hb hby own_d25_9) (XS.iand X2.here hx rfl (hb hby own_d25_12) rfl (XS.i2c X2.here hx rfl (hb hby own_d25_13) rfl q))) ?_
  exact own_end X2 (v := some (.int (nar .char ((c2 &&& (255 : Int32)).toUInt32.toUInt16.toUInt32.toInt32)))) (fun h => by rw [Bd.returns] at h; cases h) hlk (fun hr => retN X2 hx (t := .char) Bd.returns (by simp) (hb hby own_d25_14) hr) (by rw [eh2]; exact ⟨rfl, N2, rfl⟩) (by decide) (by decide)
theorem own_ch_4_2_ef (m : MethodId) (x0 : Addr) : entryFrame m #[(.ref x0), (.int 2)] 2 = mkF m 0 #[.val (.ref x0), .val (.int 2)] [] := by  first | (simp [entryFrame, mkF, argsToLocals, Value.category]; done) | rfl
def own_ch_4_2_Q (Z : State) (x0 : Addr) (t : Addr) (kb : ClassId) (c0 : Int32) (c1 : Int32) (c2 : Int32) (c3 : Int32) (zCS : Int32) (fm : Value) (cs : Addr) (h0 : Heap) (n0 : Nat) (v : Option Value) (h : Heap) (L : List Loc) : Prop := v = some (.int c2) ∧ Fr n0 L ∧ h = h0
set_option maxRecDepth 65536 in
set_option maxHeartbeats 40000000 in
theorem own_ch_4_2 (l : Launch) (Z : State) (a0 : Array Value) (hw : ∀ d ∈ tables_1, d.before a0 Z = true) (ws : List Jvm.Cond) (x0 : Addr) (t : Addr) (kb : ClassId) (c0 : Int32) (c1 : Int32) (c2 : Int32) (c3 : Int32) (zCS : Int32) (fm : Value) (cs : Addr) (h0 : Heap) (n0 : Nat) (Z0 : n0 ≤ h0.size) (S_CS : own_A0 Z zCS) (nCS : ¬ zCS = 0) (S_SF : own_A2 Z fm) (hfm : fm.isRef = true) (S_UT : own_A1 Z cs) (S_IN : own_A3 Z cs) (E_cs : Exa Z Z.heap cs "sun/nio/cs/UTF_8") (O0 : Old Z n0 h0) (E_x : Exa Z h0 x0 "java/lang/String") (V_x : Fld Z h0 x0 "java/lang/String" "value" "[B" (.ref t)) (C_x : Fld Z h0 x0 "java/lang/String" "coder" "B" (.int 0)) (K_t : Arv Z h0 t kb .byte (4 : Int32) [(.int c0), (.int c1), (.int c2), (.int c3)] (.int 0)) (hbd : ¬ c2 < 0 ∧ ¬ (127 : Int32) < c2) :
    MetFree l own_y14 (head1 (Jvm.Cond.code own_y14 jdk_42_method_56_code 2 (some .char) :: ws) (⟨3, 0, 0, 40⟩ : Room)) (fun aa U => aa = #[(.ref x0), (.int 2)] ∧ Z.Warmed39 U.vm ∧ U.heap = h0) (fun _ _ _ _ _ => True) (fun _ U o U' => ∃ v L, o = .returned v ∧ own_ch_4_2_Q Z x0 t kb c0 c1 c2 c3 zCS fm cs h0 n0 v U'.heap L ∧ FrameEnd U o U' L (⟨3, 0, 0, 40⟩ : Room).cells (⟨3, 0, 0, 40⟩ : Room).slots) := by
  refine MetFree.of_bodySF (plainFor_of_name own_pn_java_lang_String) hisR ?_
  intro p e s m args below meth c s₁ Bd hml0 hP hK
  obtain ⟨rfl, hZ, hh⟩ := hP
  have hx := Bd.exec
  have hby := Bd.bytes
  have hml : c.maxLocals = 2 := hml0
  have hown : s.vm.findClass "java/lang/String" = some m.cls := findClass_of_methodNamed Bd.named
  have hnm := (name_of_methodNamed Bd.named Bd.method).1
  have hlk := Bd.notSynchronized
  have X0 : Stand p l e (⟨3, 0, 0, 40⟩ : Room) s m #[(.ref x0), (.int 2)] below meth c s₁ [] 0 0 := Stand.of_body Bd
  have e0 : s₁.heap = h0 := by rw [← hh, Bd.state]; rfl
  have N0 := Fr.nil n0
  refine own_start (Q := own_ch_4_2_Q Z x0 t kb c0 c1 c2 c3 zCS fm cs h0 n0) (own_ch_4_2_ef m x0) ?_
  refine own_g (mkF m 1 #[.val (.ref x0), .val (.int 2)] [(.ref x0)]) (fun _ q => XS.aloadN X0.here hx rfl (hb hby own_d23_0) rfl rfl q) ?_
  refine own_callV X0 hx hZ (y := own_y18) (z := own_y18) hown (own_h hw 142 rfl) (own_h hw 143 rfl) (own_nf (own_h hw 145 rfl)) (own_h hw 145 rfl) (own_h hw 144 rfl) (own_h hw 146 rfl) (own_h hw 66 rfl) (by decide) E_x (own_il l Z a0 hw [] x0 zCS fm cs h0 n0 Z0 S_CS nCS S_SF hfm S_UT S_IN E_cs O0 C_x) (by decide) (by decide) e0 (g := (mkF m 1 #[.val (.ref x0), .val (.int 2)] [(.ref x0)])) rfl (by rw [hml]; rfl) (argsL := []) (rest := []) (lenOf own_pd__28_29Z rfl) rfl (W := 0) (Nat.le_of_eq rfl) (hb hby own_d23_1) rfl (by decide) (by decide) ?_
  rintro rv1 T1 L1 X1 ⟨rfl, Nq1, eh1⟩
  have N1 := Fr.app N0 Nq1
  refine own_g (mkF m 8 #[.val (.ref x0), .val (.int 2)] [(.ref x0)]) (fun _ q => XS.ifNo X1.here hx rfl (hb hby own_d23_4) rfl ((if0 _ _).trans (feq (by decide : ¬ ((1 : Int32) = (0 : Int32)))).1) (XS.aloadN X1.here hx rfl (hb hby own_d23_7) rfl rfl q)) ?_
  obtain ⟨T2, X2, e2, st2⟩ := getF X1 hx hZ hown (host := "") (Or.inl (own_h hw 96 rfl)) Via.refl eh1 V_x (g := (mkF m 8 #[.val (.ref x0), .val (.int 2)] [(.ref x0)])) rfl rfl (hb hby own_d23_8)
  refine own_by (g' := (mkF m 11 #[.val (.ref x0), .val (.int 2)] [(.ref t)])) st2 ?_
  refine own_g (mkF m 12 #[.val (.ref x0), .val (.int 2)] [(.int 2), (.ref t)]) (fun _ q => XS.iloadN X2.here hx rfl (hb hby own_d23_11) rfl q) ?_
  refine own_callS X2 hx hZ (y := own_y22) hown (own_h hw 147 rfl) (own_h hw 148 rfl) (own_h hw 149 rfl) (own_h hw 150 rfl) (by decide) (own_lc_4_2 l Z a0 hw [] t kb c0 c1 c2 c3 zCS fm cs h0 n0 Z0 S_CS nCS S_SF hfm S_UT S_IN E_cs O0 K_t) (by decide) (by decide) e2 (g := (mkF m 12 #[.val (.ref x0), .val (.int 2)] [(.int 2), (.ref t)])) rfl (by rw [hml]; rfl) (argsL := [(.ref t), (.int 2)]) (rest := []) (lenOf own_pd__28_5bBI_29C rfl) rfl (W := 0) (Nat.le_of_eq rfl) (hb hby own_d23_12) rfl (by decide) (by decide) ?_
  rintro rv3 T3 L3 X3 ⟨hv3, Nq3, eh3⟩
  have N3 := Fr.app N1 Nq3
  rw [(own_c7 hbd).1] at hv3
  subst hv3
  show own_Fin p e below _ T3 (mkF m 15 #[.val (.ref x0), .val (.int 2)] [(.int c2)])
  exact own_end X3 (v := some (.int (nar .char c2))) (fun h => by rw [Bd.returns] at h; cases h) hlk (fun hr => retN X3 hx (t := .char) Bd.returns (by simp) (hb hby own_d23_15) hr) (by rw [eh3]; exact ⟨by rw [(own_c7 hbd).2], N3, rfl⟩) (by decide) (by decide)
theorem own_lc_4_3_ef (m : MethodId) (b : Addr) : entryFrame m #[(.ref b), (.int 3)] 2 = mkF m 0 #[.val (.ref b), .val (.int 3)] [] := by  first | (simp [entryFrame, mkF, argsToLocals, Value.category]; done) | rfl
def own_lc_4_3_Q (Z : State) (b : Addr) (kb : ClassId) (c0 : Int32) (c1 : Int32) (c2 : Int32) (c3 : Int32) (zCS : Int32) (fm : Value) (cs : Addr) (h0 : Heap) (n0 : Nat) (v : Option Value) (h : Heap) (L : List Loc) : Prop := v = some (.int (nar .char (StrChars.chr8 c3))) ∧ Fr n0 L ∧ h = h0
set_option maxRecDepth 65536 in
set_option maxHeartbeats 40000000 in
theorem own_lc_4_3 (l : Launch) (Z : State) (a0 : Array Value) (hw : ∀ d ∈ tables_1, d.before a0 Z = true) (ws : List Jvm.Cond) (b : Addr) (kb : ClassId) (c0 : Int32) (c1 : Int32) (c2 : Int32) (c3 : Int32) (zCS : Int32) (fm : Value) (cs : Addr) (h0 : Heap) (n0 : Nat) (Z0 : n0 ≤ h0.size) (S_CS : own_A0 Z zCS) (nCS : ¬ zCS = 0) (S_SF : own_A2 Z fm) (hfm : fm.isRef = true) (S_UT : own_A1 Z cs) (S_IN : own_A3 Z cs) (E_cs : Exa Z Z.heap cs "sun/nio/cs/UTF_8") (O0 : Old Z n0 h0) (K_b : Arv Z h0 b kb .byte (4 : Int32) [(.int c0), (.int c1), (.int c2), (.int c3)] (.int 0)) :
    MetFree l own_y22 (head1 (Jvm.Cond.code own_y22 jdk_43_method_2_code 2 (some .char) :: ws) (⟨2, 0, 0, 27⟩ : Room)) (fun aa U => aa = #[(.ref b), (.int 3)] ∧ Z.Warmed39 U.vm ∧ U.heap = h0) (fun _ _ _ _ _ => True) (fun _ U o U' => ∃ v L, o = .returned v ∧ own_lc_4_3_Q Z b kb c0 c1 c2 c3 zCS fm cs h0 n0 v U'.heap L ∧ FrameEnd U o U' L (⟨2, 0, 0, 27⟩ : Room).cells (⟨2, 0, 0, 27⟩ : Room).slots) := by
  refine MetFree.of_bodySF (plainFor_of_name own_pn_java_lang_StringLatin1) hisR ?_
  intro p e s m args below meth c s₁ Bd hml0 hP hK
  obtain ⟨rfl, hZ, hh⟩ := hP
  have hx := Bd.exec
  have hby := Bd.bytes
  have hml : c.maxLocals = 2 := hml0
  have hown : s.vm.findClass "java/lang/StringLatin1" = some m.cls := findClass_of_methodNamed Bd.named
  have hnm := (name_of_methodNamed Bd.named Bd.method).1
  have hlk := Bd.notSynchronized
  have X0 : Stand p l e (⟨2, 0, 0, 27⟩ : Room) s m #[(.ref b), (.int 3)] below meth c s₁ [] 0 0 := Stand.of_body Bd
  have e0 : s₁.heap = h0 := by rw [← hh, Bd.state]; rfl
  have N0 := Fr.nil n0
  refine own_start (Q := own_lc_4_3_Q Z b kb c0 c1 c2 c3 zCS fm cs h0 n0) (own_lc_4_3_ef m b) ?_
  refine own_g (mkF m 2 #[.val (.ref b), .val (.int 3)] [(.ref b), (.int 3)]) (fun _ q => XS.iloadN X0.here hx rfl (hb hby own_d25_0) rfl (XS.aloadN X0.here hx rfl (hb hby own_d25_1) rfl rfl q)) ?_
  obtain ⟨cl1, Ar1, q1, S1, P1, H1, G1⟩ := id K_b
  refine own_by (g' := (mkF m 3 #[.val (.ref b), .val (.int 3)] [(.int 4), (.int 3)])) (fun _ kq => X0.arraylength hx (by rw [e0]; exact Ar1.1) (State.isArrayOf_alike hZ.alike Ar1.2.1) (g := (mkF m 2 #[.val (.ref b), .val (.int 3)] [(.ref b), (.int 3)])) rfl rfl (hb hby own_d25_2) _ (by rw [len_of S1 P1]; exact kq)) ?_
  refine own_callS X0 hx hZ (y := own_y16) hown (own_h hw 151 rfl) (own_h hw 152 rfl) (own_h hw 66 rfl) (own_h hw 153 rfl) (by decide) (own_sci_4_3 l Z a0 hw []  zCS fm cs h0 n0 Z0 S_CS nCS S_SF hfm S_UT S_IN E_cs O0 ) (by decide) (by decide) e0 (g := (mkF m 3 #[.val (.ref b), .val (.int 3)] [(.int 4), (.int 3)])) rfl (by rw [hml]; rfl) (argsL := [(.int 3), (.int 4)]) (rest := []) (lenOf own_pd__28II_29V rfl) rfl (W := 0) (Nat.le_of_eq rfl) (hb hby own_d25_3) rfl (by decide) (by decide) ?_
  rintro rv2 T2 L2 X2 ⟨rfl, Nq2, eh2⟩
  have N2 := Fr.app N0 Nq2
  refine own_g (mkF m 8 #[.val (.ref b), .val (.int 3)] [(.int 3), (.ref b)]) (fun _ q => XS.aloadN X2.here hx rfl (hb hby own_d25_6) rfl rfl (XS.iloadN X2.here hx rfl (hb hby own_d25_7) rfl q)) ?_
  obtain ⟨cl3, Ar3, q3, S3, P3, H3, G3⟩ := id K_b
  have hin3 : ¬ ((3 : Int32) < 0 ∨ cl3.slots.size ≤ ((3 : Int32)).toNatClampNeg) := inb_of S3 ⟨by decide, by decide⟩
  refine own_by (g' := (mkF m 9 #[.val (.ref b), .val (.int 3)] [(.int c3)])) (fun _ kq => X2.baloadBytes hx (j := (3 : Int32)) (v := (.int c3)) (by rw [eh2]; exact Ar3.1) (State.isArrayOf_alike hZ.alike Ar3.2.1) Ar3.2.2 hin3 (H3.at hin3 rfl) (g := (mkF m 8 #[.val (.ref b), .val (.int 3)] [(.int 3), (.ref b)])) rfl rfl (hb hby own_d25_8) _ kq) ?_
  refine own_g (mkF m 14 #[.val (.ref b), .val (.int 3)] [(.int ((c3 &&& (255 : Int32)).toUInt32.toUInt16.toUInt32.toInt32))]) (fun _ q => XS.sipush X2.here hx rfl (hb hby own_d25_9) (XS.iand X2.here hx rfl (hb hby own_d25_12) rfl (XS.i2c X2.here hx rfl (hb hby own_d25_13) rfl q))) ?_
  exact own_end X2 (v := some (.int (nar .char ((c3 &&& (255 : Int32)).toUInt32.toUInt16.toUInt32.toInt32)))) (fun h => by rw [Bd.returns] at h; cases h) hlk (fun hr => retN X2 hx (t := .char) Bd.returns (by simp) (hb hby own_d25_14) hr) (by rw [eh2]; exact ⟨rfl, N2, rfl⟩) (by decide) (by decide)
theorem own_ch_4_3_ef (m : MethodId) (x0 : Addr) : entryFrame m #[(.ref x0), (.int 3)] 2 = mkF m 0 #[.val (.ref x0), .val (.int 3)] [] := by  first | (simp [entryFrame, mkF, argsToLocals, Value.category]; done) | rfl
def own_ch_4_3_Q (Z : State) (x0 : Addr) (t : Addr) (kb : ClassId) (c0 : Int32) (c1 : Int32) (c2 : Int32) (c3 : Int32) (zCS : Int32) (fm : Value) (cs : Addr) (h0 : Heap) (n0 : Nat) (v : Option Value) (h : Heap) (L : List Loc) : Prop := v = some (.int c3) ∧ Fr n0 L ∧ h = h0
set_option maxRecDepth 65536 in
set_option maxHeartbeats 40000000 in
theorem own_ch_4_3 (l : Launch) (Z : State) (a0 : Array Value) (hw : ∀ d ∈ tables_1, d.before a0 Z = true) (ws : List Jvm.Cond) (x0 : Addr) (t : Addr) (kb : ClassId) (c0 : Int32) (c1 : Int32) (c2 : Int32) (c3 : Int32) (zCS : Int32) (fm : Value) (cs : Addr) (h0 : Heap) (n0 : Nat) (Z0 : n0 ≤ h0.size) (S_CS : own_A0 Z zCS) (nCS : ¬ zCS = 0) (S_SF : own_A2 Z fm) (hfm : fm.isRef = true) (S_UT : own_A1 Z cs) (S_IN : own_A3 Z cs) (E_cs : Exa Z Z.heap cs "sun/nio/cs/UTF_8") (O0 : Old Z n0 h0) (E_x : Exa Z h0 x0 "java/lang/String") (V_x : Fld Z h0 x0 "java/lang/String" "value" "[B" (.ref t)) (C_x : Fld Z h0 x0 "java/lang/String" "coder" "B" (.int 0)) (K_t : Arv Z h0 t kb .byte (4 : Int32) [(.int c0), (.int c1), (.int c2), (.int c3)] (.int 0)) (hbd : ¬ c3 < 0 ∧ ¬ (127 : Int32) < c3) :
    MetFree l own_y14 (head1 (Jvm.Cond.code own_y14 jdk_42_method_56_code 2 (some .char) :: ws) (⟨3, 0, 0, 40⟩ : Room)) (fun aa U => aa = #[(.ref x0), (.int 3)] ∧ Z.Warmed39 U.vm ∧ U.heap = h0) (fun _ _ _ _ _ => True) (fun _ U o U' => ∃ v L, o = .returned v ∧ own_ch_4_3_Q Z x0 t kb c0 c1 c2 c3 zCS fm cs h0 n0 v U'.heap L ∧ FrameEnd U o U' L (⟨3, 0, 0, 40⟩ : Room).cells (⟨3, 0, 0, 40⟩ : Room).slots) := by
  refine MetFree.of_bodySF (plainFor_of_name own_pn_java_lang_String) hisR ?_
  intro p e s m args below meth c s₁ Bd hml0 hP hK
  obtain ⟨rfl, hZ, hh⟩ := hP
  have hx := Bd.exec
  have hby := Bd.bytes
  have hml : c.maxLocals = 2 := hml0
  have hown : s.vm.findClass "java/lang/String" = some m.cls := findClass_of_methodNamed Bd.named
  have hnm := (name_of_methodNamed Bd.named Bd.method).1
  have hlk := Bd.notSynchronized
  have X0 : Stand p l e (⟨3, 0, 0, 40⟩ : Room) s m #[(.ref x0), (.int 3)] below meth c s₁ [] 0 0 := Stand.of_body Bd
  have e0 : s₁.heap = h0 := by rw [← hh, Bd.state]; rfl
  have N0 := Fr.nil n0
  refine own_start (Q := own_ch_4_3_Q Z x0 t kb c0 c1 c2 c3 zCS fm cs h0 n0) (own_ch_4_3_ef m x0) ?_
  refine own_g (mkF m 1 #[.val (.ref x0), .val (.int 3)] [(.ref x0)]) (fun _ q => XS.aloadN X0.here hx rfl (hb hby own_d23_0) rfl rfl q) ?_
  refine own_callV X0 hx hZ (y := own_y18) (z := own_y18) hown (own_h hw 142 rfl) (own_h hw 143 rfl) (own_nf (own_h hw 145 rfl)) (own_h hw 145 rfl) (own_h hw 144 rfl) (own_h hw 146 rfl) (own_h hw 66 rfl) (by decide) E_x (own_il l Z a0 hw [] x0 zCS fm cs h0 n0 Z0 S_CS nCS S_SF hfm S_UT S_IN E_cs O0 C_x) (by decide) (by decide) e0 (g := (mkF m 1 #[.val (.ref x0), .val (.int 3)] [(.ref x0)])) rfl (by rw [hml]; rfl) (argsL := []) (rest := []) (lenOf own_pd__28_29Z rfl) rfl (W := 0) (Nat.le_of_eq rfl) (hb hby own_d23_1) rfl (by decide) (by decide) ?_
  rintro rv1 T1 L1 X1 ⟨rfl, Nq1, eh1⟩
  have N1 := Fr.app N0 Nq1
  refine own_g (mkF m 8 #[.val (.ref x0), .val (.int 3)] [(.ref x0)]) (fun _ q => XS.ifNo X1.here hx rfl (hb hby own_d23_4) rfl ((if0 _ _).trans (feq (by decide : ¬ ((1 : Int32) = (0 : Int32)))).1) (XS.aloadN X1.here hx rfl (hb hby own_d23_7) rfl rfl q)) ?_
  obtain ⟨T2, X2, e2, st2⟩ := getF X1 hx hZ hown (host := "") (Or.inl (own_h hw 96 rfl)) Via.refl eh1 V_x (g := (mkF m 8 #[.val (.ref x0), .val (.int 3)] [(.ref x0)])) rfl rfl (hb hby own_d23_8)
  refine own_by (g' := (mkF m 11 #[.val (.ref x0), .val (.int 3)] [(.ref t)])) st2 ?_
  refine own_g (mkF m 12 #[.val (.ref x0), .val (.int 3)] [(.int 3), (.ref t)]) (fun _ q => XS.iloadN X2.here hx rfl (hb hby own_d23_11) rfl q) ?_
  refine own_callS X2 hx hZ (y := own_y22) hown (own_h hw 147 rfl) (own_h hw 148 rfl) (own_h hw 149 rfl) (own_h hw 150 rfl) (by decide) (own_lc_4_3 l Z a0 hw [] t kb c0 c1 c2 c3 zCS fm cs h0 n0 Z0 S_CS nCS S_SF hfm S_UT S_IN E_cs O0 K_t) (by decide) (by decide) e2 (g := (mkF m 12 #[.val (.ref x0), .val (.int 3)] [(.int 3), (.ref t)])) rfl (by rw [hml]; rfl) (argsL := [(.ref t), (.int 3)]) (rest := []) (lenOf own_pd__28_5bBI_29C rfl) rfl (W := 0) (Nat.le_of_eq rfl) (hb hby own_d23_12) rfl (by decide) (by decide) ?_
  rintro rv3 T3 L3 X3 ⟨hv3, Nq3, eh3⟩
  have N3 := Fr.app N1 Nq3
  rw [(own_c7 hbd).1] at hv3
  subst hv3
  show own_Fin p e below _ T3 (mkF m 15 #[.val (.ref x0), .val (.int 3)] [(.int c3)])
  exact own_end X3 (v := some (.int (nar .char c3))) (fun h => by rw [Bd.returns] at h; cases h) hlk (fun hr => retN X3 hx (t := .char) Bd.returns (by simp) (hb hby own_d23_15) hr) (by rw [eh3]; exact ⟨by rw [(own_c7 hbd).2], N3, rfl⟩) (by decide) (by decide)
theorem own_d17_0 : decode method_2_code 0 = .ok (.iload_n 1, 1) := by decide +kernel
theorem own_d17_1 : decode method_2_code 1 = .ok (.iload_n 2, 1) := by decide +kernel
theorem own_d17_2 : decode method_2_code 2 = .ok (.if_icmp .ge 18, 3) := by decide +kernel
theorem own_d17_5 : decode method_2_code 5 = .ok (.aload_n 0, 1) := by decide +kernel
theorem own_d17_6 : decode method_2_code 6 = .ok (.iload_n 1, 1) := by decide +kernel
theorem own_d17_7 : decode method_2_code 7 = .ok (.invokevirtual 7, 3) := by decide +kernel
theorem own_pd__28I_29C : parseMethodDescriptor "(I)C" = some ⟨[.int], some .char⟩ := by decide +kernel
theorem own_d17_10 : decode method_2_code 10 = .ok (.aload_n 3, 1) := by decide +kernel
theorem own_d17_11 : decode method_2_code 11 = .ok (.iload 4, 2) := by decide +kernel
theorem own_d17_13 : decode method_2_code 13 = .ok (.iload_n 1, 1) := by decide +kernel
theorem own_d17_14 : decode method_2_code 14 = .ok (.iadd, 1) := by decide +kernel
theorem own_d17_15 : decode method_2_code 15 = .ok (.baload, 1) := by decide +kernel
theorem own_d17_16 : decode method_2_code 16 = .ok (.i2c, 1) := by decide +kernel
theorem own_d17_17 : decode method_2_code 17 = .ok (.if_icmp .ne 7, 3) := by decide +kernel
theorem own_d17_20 : decode method_2_code 20 = .ok (.iconst 1, 1) := by decide +kernel
theorem own_d17_21 : decode method_2_code 21 = .ok (.goto 4, 3) := by decide +kernel
theorem own_d17_25 : decode method_2_code 25 = .ok (.ireturn, 1) := by decide +kernel
theorem own_ck_0_1_0_ef (m : MethodId) (x0 : Addr) (yb : Addr) : entryFrame m #[(.ref x0), (.int 0), (.int 1), (.ref yb), (.int 0)] 5 = mkF m 0 #[.val (.ref x0), .val (.int 0), .val (.int 1), .val (.ref yb), .val (.int 0)] [] := by  first | (simp [entryFrame, mkF, argsToLocals, Value.category]; done) | rfl
def own_ck_0_1_0_Q (Z : State) (x0 : Addr) (yb : Addr) (t : Addr) (kb : ClassId) (ky : ClassId) (b0 : Int32) (b1 : Int32) (b2 : Int32) (b3 : Int32) (zCS : Int32) (fm : Value) (cs : Addr) (h0 : Heap) (n0 : Nat) (v : Option Value) (h : Heap) (L : List Loc) : Prop := v = some (.int 1) ∧ Fr n0 L ∧ h = h0
theorem own_pn_com_example_rowtide_rowtide_event_RowSetUtf8PinLaw : plainName "com/example/rowtide/rowtide/event/RowSetUtf8PinLaw" = true := by first | (simp [plainName, overriddenIn]; done) | decide +kernel
set_option maxRecDepth 65536 in
set_option maxHeartbeats 40000000 in
theorem own_ck_0_1_0 (l : Launch) (Z : State) (a0 : Array Value) (hw : ∀ d ∈ tables_1, d.before a0 Z = true) (ws : List Jvm.Cond) (x0 : Addr) (yb : Addr) (t : Addr) (kb : ClassId) (ky : ClassId) (b0 : Int32) (b1 : Int32) (b2 : Int32) (b3 : Int32) (zCS : Int32) (fm : Value) (cs : Addr) (h0 : Heap) (n0 : Nat) (Z0 : n0 ≤ h0.size) (S_CS : own_A0 Z zCS) (nCS : ¬ zCS = 0) (S_SF : own_A2 Z fm) (hfm : fm.isRef = true) (S_UT : own_A1 Z cs) (S_IN : own_A3 Z cs) (E_cs : Exa Z Z.heap cs "sun/nio/cs/UTF_8") (O0 : Old Z n0 h0) (E_x : Exa Z h0 x0 "java/lang/String") (V_x : Fld Z h0 x0 "java/lang/String" "value" "[B" (.ref t)) (C_x : Fld Z h0 x0 "java/lang/String" "coder" "B" (.int 0)) (K_t : Arv Z h0 t kb .byte (1 : Int32) [(.int b0)] (.int 0)) (A_y : Arv Z h0 yb ky .byte (4 : Int32) [(.int b0), (.int b1), (.int b2), (.int b3)] (.int 0)) (hbd : ¬ b0 < 0 ∧ ¬ (127 : Int32) < b0) :
    MetFree l own_y10 (head1 (Jvm.Cond.code own_y10 method_2_code 5 (some .boolean) :: ws) (⟨4, 0, 0, 53⟩ : Room)) (fun aa U => aa = #[(.ref x0), (.int 0), (.int 1), (.ref yb), (.int 0)] ∧ Z.Warmed39 U.vm ∧ U.heap = h0) (fun _ _ _ _ _ => True) (fun _ U o U' => ∃ v L, o = .returned v ∧ own_ck_0_1_0_Q Z x0 yb t kb ky b0 b1 b2 b3 zCS fm cs h0 n0 v U'.heap L ∧ FrameEnd U o U' L (⟨4, 0, 0, 53⟩ : Room).cells (⟨4, 0, 0, 53⟩ : Room).slots) := by
  refine MetFree.of_bodySF (plainFor_of_name own_pn_com_example_rowtide_rowtide_event_RowSetUtf8PinLaw) hisR ?_
  intro p e s m args below meth c s₁ Bd hml0 hP hK
  obtain ⟨rfl, hZ, hh⟩ := hP
  have hx := Bd.exec
  have hby := Bd.bytes
  have hml : c.maxLocals = 5 := hml0
  have hown : s.vm.findClass "com/example/rowtide/rowtide/event/RowSetUtf8PinLaw" = some m.cls := findClass_of_methodNamed Bd.named
  have hnm := (name_of_methodNamed Bd.named Bd.method).1
  have hlk := Bd.notSynchronized
  have X0 : Stand p l e (⟨4, 0, 0, 53⟩ : Room) s m #[(.ref x0), (.int 0), (.int 1), (.ref yb), (.int 0)] below meth c s₁ [] 0 0 := Stand.of_body Bd
  have e0 : s₁.heap = h0 := by rw [← hh, Bd.state]; rfl
  have N0 := Fr.nil n0
  refine own_start (Q := own_ck_0_1_0_Q Z x0 yb t kb ky b0 b1 b2 b3 zCS fm cs h0 n0) (own_ck_0_1_0_ef m x0 yb) ?_
  refine own_g (mkF m 7 #[.val (.ref x0), .val (.int 0), .val (.int 1), .val (.ref yb), .val (.int 0)] [(.int 0), (.ref x0)]) (fun _ q => XS.iloadN X0.here hx rfl (hb hby own_d17_0) rfl (XS.iloadN X0.here hx rfl (hb hby own_d17_1) rfl (XS.icmpNo X0.here hx rfl (hb hby own_d17_2) rfl (tlt (by decide : (0 : Int32) < (1 : Int32))).2.1 (XS.aloadN X0.here hx rfl (hb hby own_d17_5) rfl rfl (XS.iloadN X0.here hx rfl (hb hby own_d17_6) rfl q))))) ?_
  refine own_callV X0 hx hZ (y := own_y14) (z := own_y14) hown (own_h hw 137 rfl) (own_h hw 138 rfl) (own_nf (own_h hw 140 rfl)) (own_h hw 140 rfl) (own_h hw 139 rfl) (own_h hw 141 rfl) (own_h hw 66 rfl) (by decide) E_x (own_ch_1_0 l Z a0 hw [] x0 t kb b0 zCS fm cs h0 n0 Z0 S_CS nCS S_SF hfm S_UT S_IN E_cs O0 E_x V_x C_x K_t hbd) (by decide) (by decide) e0 (g := (mkF m 7 #[.val (.ref x0), .val (.int 0), .val (.int 1), .val (.ref yb), .val (.int 0)] [(.int 0), (.ref x0)])) rfl (by rw [hml]; rfl) (argsL := [(.int 0)]) (rest := []) (lenOf own_pd__28I_29C rfl) rfl (W := 0) (Nat.le_of_eq rfl) (hb hby own_d17_7) rfl (by decide) (by decide) ?_
  rintro rv1 T1 L1 X1 ⟨rfl, Nq1, eh1⟩
  have N1 := Fr.app N0 Nq1
  refine own_g (mkF m 15 #[.val (.ref x0), .val (.int 0), .val (.int 1), .val (.ref yb), .val (.int 0)] [(.int 0), (.ref yb), (.int b0)]) (fun _ q => XS.aloadN X1.here hx rfl (hb hby own_d17_10) rfl rfl (XS.iload X1.here hx rfl (hb hby own_d17_11) rfl (XS.iloadN X1.here hx rfl (hb hby own_d17_13) rfl (XS.iadd X1.here hx rfl (hb hby own_d17_14) rfl q)))) ?_
  obtain ⟨cl2, Ar2, q2, S2, P2, H2, G2⟩ := id A_y
  have hin2 : ¬ ((0 : Int32) < 0 ∨ cl2.slots.size ≤ ((0 : Int32)).toNatClampNeg) := inb_of S2 ⟨by decide, by decide⟩
  refine own_by (g' := (mkF m 16 #[.val (.ref x0), .val (.int 0), .val (.int 1), .val (.ref yb), .val (.int 0)] [(.int b0), (.int b0)])) (fun _ kq => X1.baloadBytes hx (j := (0 : Int32)) (v := (.int b0)) (by rw [eh1]; exact Ar2.1) (State.isArrayOf_alike hZ.alike Ar2.2.1) Ar2.2.2 hin2 (H2.at hin2 rfl) (g := (mkF m 15 #[.val (.ref x0), .val (.int 0), .val (.int 1), .val (.ref yb), .val (.int 0)] [(.int 0), (.ref yb), (.int b0)])) rfl rfl (hb hby own_d17_15) _ kq) ?_
  refine own_g (mkF m 25 #[.val (.ref x0), .val (.int 0), .val (.int 1), .val (.ref yb), .val (.int 0)] [(.int 1)]) (fun _ q => XS.i2c X1.here hx rfl (hb hby own_d17_16) rfl (XS.icmpNo X1.here hx rfl (hb hby own_d17_17) rfl (teq (own_c7 hbd).2.symm).2 (XS.iconst X1.here hx rfl (hb hby own_d17_20) (XS.goto X1.here hx rfl (pc0 := 21) (pc' := 25) rfl (hb hby own_d17_21) (by decide) (by decide) q)))) ?_
  exact own_end X1 (v := some (.int (nar .boolean (1 : Int32)))) (fun h => by rw [Bd.returns] at h; cases h) hlk (fun hr => retN X1 hx (t := .boolean) Bd.returns (by simp) (hb hby own_d17_25) hr) (by rw [eh1]; exact ⟨rfl, N1, rfl⟩) (by decide) (by decide)
theorem own_ck_0_2_0_ef (m : MethodId) (x0 : Addr) (yb : Addr) : entryFrame m #[(.ref x0), (.int 0), (.int 2), (.ref yb), (.int 0)] 5 = mkF m 0 #[.val (.ref x0), .val (.int 0), .val (.int 2), .val (.ref yb), .val (.int 0)] [] := by  first | (simp [entryFrame, mkF, argsToLocals, Value.category]; done) | rfl
def own_ck_0_2_0_Q (Z : State) (x0 : Addr) (yb : Addr) (t : Addr) (kb : ClassId) (ky : ClassId) (b0 : Int32) (b1 : Int32) (b2 : Int32) (b3 : Int32) (zCS : Int32) (fm : Value) (cs : Addr) (h0 : Heap) (n0 : Nat) (v : Option Value) (h : Heap) (L : List Loc) : Prop := v = some (.int 1) ∧ Fr n0 L ∧ h = h0
set_option maxRecDepth 65536 in
set_option maxHeartbeats 40000000 in
theorem own_ck_0_2_0 (l : Launch) (Z : State) (a0 : Array Value) (hw : ∀ d ∈ tables_1, d.before a0 Z = true) (ws : List Jvm.Cond) (x0 : Addr) (yb : Addr) (t : Addr) (kb : ClassId) (ky : ClassId) (b0 : Int32) (b1 : Int32) (b2 : Int32) (b3 : Int32) (zCS : Int32) (fm : Value) (cs : Addr) (h0 : Heap) (n0 : Nat) (Z0 : n0 ≤ h0.size) (S_CS : own_A0 Z zCS) (nCS : ¬ zCS = 0) (S_SF : own_A2 Z fm) (hfm : fm.isRef = true) (S_UT : own_A1 Z cs) (S_IN : own_A3 Z cs) (E_cs : Exa Z Z.heap cs "sun/nio/cs/UTF_8") (O0 : Old Z n0 h0) (E_x : Exa Z h0 x0 "java/lang/String") (V_x : Fld Z h0 x0 "java/lang/String" "value" "[B" (.ref t)) (C_x : Fld Z h0 x0 "java/lang/String" "coder" "B" (.int 0)) (K_t : Arv Z h0 t kb .byte (2 : Int32) [(.int b0), (.int b1)] (.int 0)) (A_y : Arv Z h0 yb ky .byte (4 : Int32) [(.int b0), (.int b1), (.int b2), (.int b3)] (.int 0)) (hbd : ¬ b0 < 0 ∧ ¬ (127 : Int32) < b0) :
    MetFree l own_y10 (head1 (Jvm.Cond.code own_y10 method_2_code 5 (some .boolean) :: ws) (⟨4, 0, 0, 53⟩ : Room)) (fun aa U => aa = #[(.ref x0), (.int 0), (.int 2), (.ref yb), (.int 0)] ∧ Z.Warmed39 U.vm ∧ U.heap = h0) (fun _ _ _ _ _ => True) (fun _ U o U' => ∃ v L, o = .returned v ∧ own_ck_0_2_0_Q Z x0 yb t kb ky b0 b1 b2 b3 zCS fm cs h0 n0 v U'.heap L ∧ FrameEnd U o U' L (⟨4, 0, 0, 53⟩ : Room).cells (⟨4, 0, 0, 53⟩ : Room).slots) := by
  refine MetFree.of_bodySF (plainFor_of_name own_pn_com_example_rowtide_rowtide_event_RowSetUtf8PinLaw) hisR ?_
  intro p e s m args below meth c s₁ Bd hml0 hP hK
  obtain ⟨rfl, hZ, hh⟩ := hP
  have hx := Bd.exec
  have hby := Bd.bytes
  have hml : c.maxLocals = 5 := hml0
  have hown : s.vm.findClass "com/example/rowtide/rowtide/event/RowSetUtf8PinLaw" = some m.cls := findClass_of_methodNamed Bd.named
  have hnm := (name_of_methodNamed Bd.named Bd.method).1
  have hlk := Bd.notSynchronized
  have X0 : Stand p l e (⟨4, 0, 0, 53⟩ : Room) s m #[(.ref x0), (.int 0), (.int 2), (.ref yb), (.int 0)] below meth c s₁ [] 0 0 := Stand.of_body Bd
  have e0 : s₁.heap = h0 := by rw [← hh, Bd.state]; rfl
  have N0 := Fr.nil n0
  refine own_start (Q := own_ck_0_2_0_Q Z x0 yb t kb ky b0 b1 b2 b3 zCS fm cs h0 n0) (own_ck_0_2_0_ef m x0 yb) ?_
  refine own_g (mkF m 7 #[.val (.ref x0), .val (.int 0), .val (.int 2), .val (.ref yb), .val (.int 0)] [(.int 0), (.ref x0)]) (fun _ q => XS.iloadN X0.here hx rfl (hb hby own_d17_0) rfl (XS.iloadN X0.here hx rfl (hb hby own_d17_1) rfl (XS.icmpNo X0.here hx rfl (hb hby own_d17_2) rfl (tlt (by decide : (0 : Int32) < (2 : Int32))).2.1 (XS.aloadN X0.here hx rfl (hb hby own_d17_5) rfl rfl (XS.iloadN X0.here hx rfl (hb hby own_d17_6) rfl q))))) ?_
  refine own_callV X0 hx hZ (y := own_y14) (z := own_y14) hown (own_h hw 137 rfl) (own_h hw 138 rfl) (own_nf (own_h hw 140 rfl)) (own_h hw 140 rfl) (own_h hw 139 rfl) (own_h hw 141 rfl) (own_h hw 66 rfl) (by decide) E_x (own_ch_2_0 l Z a0 hw [] x0 t kb b0 b1 zCS fm cs h0 n0 Z0 S_CS nCS S_SF hfm S_UT S_IN E_cs O0 E_x V_x C_x K_t hbd) (by decide) (by decide) e0 (g := (mkF m 7 #[.val (.ref x0), .val (.int 0), .val (.int 2), .val (.ref yb), .val (.int 0)] [(.int 0), (.ref x0)])) rfl (by rw [hml]; rfl) (argsL := [(.int 0)]) (rest := []) (lenOf own_pd__28I_29C rfl) rfl (W := 0) (Nat.le_of_eq rfl) (hb hby own_d17_7) rfl (by decide) (by decide) ?_
  rintro rv1 T1 L1 X1 ⟨rfl, Nq1, eh1⟩
  have N1 := Fr.app N0 Nq1
  refine own_g (mkF m 15 #[.val (.ref x0), .val (.int 0), .val (.int 2), .val (.ref yb), .val (.int 0)] [(.int 0), (.ref yb), (.int b0)]) (fun _ q => XS.aloadN X1.here hx rfl (hb hby own_d17_10) rfl rfl (XS.iload X1.here hx rfl (hb hby own_d17_11) rfl (XS.iloadN X1.here hx rfl (hb hby own_d17_13) rfl (XS.iadd X1.here hx rfl (hb hby own_d17_14) rfl q)))) ?_
  obtain ⟨cl2, Ar2, q2, S2, P2, H2, G2⟩ := id A_y
  have hin2 : ¬ ((0 : Int32) < 0 ∨ cl2.slots.size ≤ ((0 : Int32)).toNatClampNeg) := inb_of S2 ⟨by decide, by decide⟩
  refine own_by (g' := (mkF m 16 #[.val (.ref x0), .val (.int 0), .val (.int 2), .val (.ref yb), .val (.int 0)] [(.int b0), (.int b0)])) (fun _ kq => X1.baloadBytes hx (j := (0 : Int32)) (v := (.int b0)) (by rw [eh1]; exact Ar2.1) (State.isArrayOf_alike hZ.alike Ar2.2.1) Ar2.2.2 hin2 (H2.at hin2 rfl) (g := (mkF m 15 #[.val (.ref x0), .val (.int 0), .val (.int 2), .val (.ref yb), .val (.int 0)] [(.int 0), (.ref yb), (.int b0)])) rfl rfl (hb hby own_d17_15) _ kq) ?_
  refine own_g (mkF m 25 #[.val (.ref x0), .val (.int 0), .val (.int 2), .val (.ref yb), .val (.int 0)] [(.int 1)]) (fun _ q => XS.i2c X1.here hx rfl (hb hby own_d17_16) rfl (XS.icmpNo X1.here hx rfl (hb hby own_d17_17) rfl (teq (own_c7 hbd).2.symm).2 (XS.iconst X1.here hx rfl (hb hby own_d17_20) (XS.goto X1.here hx rfl (pc0 := 21) (pc' := 25) rfl (hb hby own_d17_21) (by decide) (by decide) q)))) ?_
  exact own_end X1 (v := some (.int (nar .boolean (1 : Int32)))) (fun h => by rw [Bd.returns] at h; cases h) hlk (fun hr => retN X1 hx (t := .boolean) Bd.returns (by simp) (hb hby own_d17_25) hr) (by rw [eh1]; exact ⟨rfl, N1, rfl⟩) (by decide) (by decide)
theorem own_ck_0_2_1_ef (m : MethodId) (x0 : Addr) (yb : Addr) : entryFrame m #[(.ref x0), (.int 1), (.int 2), (.ref yb), (.int 0)] 5 = mkF m 0 #[.val (.ref x0), .val (.int 1), .val (.int 2), .val (.ref yb), .val (.int 0)] [] := by  first | (simp [entryFrame, mkF, argsToLocals, Value.category]; done) | rfl
def own_ck_0_2_1_Q (Z : State) (x0 : Addr) (yb : Addr) (t : Addr) (kb : ClassId) (ky : ClassId) (b0 : Int32) (b1 : Int32) (b2 : Int32) (b3 : Int32) (zCS : Int32) (fm : Value) (cs : Addr) (h0 : Heap) (n0 : Nat) (v : Option Value) (h : Heap) (L : List Loc) : Prop := v = some (.int 1) ∧ Fr n0 L ∧ h = h0
set_option maxRecDepth 65536 in
set_option maxHeartbeats 40000000 in
theorem own_ck_0_2_1 (l : Launch) (Z : State) (a0 : Array Value) (hw : ∀ d ∈ tables_1, d.before a0 Z = true) (ws : List Jvm.Cond) (x0 : Addr) (yb : Addr) (t : Addr) (kb : ClassId) (ky : ClassId) (b0 : Int32) (b1 : Int32) (b2 : Int32) (b3 : Int32) (zCS : Int32) (fm : Value) (cs : Addr) (h0 : Heap) (n0 : Nat) (Z0 : n0 ≤ h0.size) (S_CS : own_A0 Z zCS) (nCS : ¬ zCS = 0) (S_SF : own_A2 Z fm) (hfm : fm.isRef = true) (S_UT : own_A1 Z cs) (S_IN : own_A3 Z cs) (E_cs : Exa Z Z.heap cs "sun/nio/cs/UTF_8") (O0 : Old Z n0 h0) (E_x : Exa Z h0 x0 "java/lang/String") (V_x : Fld Z h0 x0 "java/lang/String" "value" "[B" (.ref t)) (C_x : Fld Z h0 x0 "java/lang/String" "coder" "B" (.int 0)) (K_t : Arv Z h0 t kb .byte (2 : Int32) [(.int b0), (.int b1)] (.int 0)) (A_y : Arv Z h0 yb ky .byte (4 : Int32) [(.int b0), (.int b1), (.int b2), (.int b3)] (.int 0)) (hbd : ¬ b1 < 0 ∧ ¬ (127 : Int32) < b1) :
    MetFree l own_y10 (head1 (Jvm.Cond.code own_y10 method_2_code 5 (some .boolean) :: ws) (⟨4, 0, 0, 53⟩ : Room)) (fun aa U => aa = #[(.ref x0), (.int 1), (.int 2), (.ref yb), (.int 0)] ∧ Z.Warmed39 U.vm ∧ U.heap = h0) (fun _ _ _ _ _ => True) (fun _ U o U' => ∃ v L, o = .returned v ∧ own_ck_0_2_1_Q Z x0 yb t kb ky b0 b1 b2 b3 zCS fm cs h0 n0 v U'.heap L ∧ FrameEnd U o U' L (⟨4, 0, 0, 53⟩ : Room).cells (⟨4, 0, 0, 53⟩ : Room).slots) := by
  refine MetFree.of_bodySF (plainFor_of_name own_pn_com_example_rowtide_rowtide_event_RowSetUtf8PinLaw) hisR ?_
  intro p e s m args below meth c s₁ Bd hml0 hP hK
  obtain ⟨rfl, hZ, hh⟩ := hP
  have hx := Bd.exec
  have hby := Bd.bytes
  have hml : c.maxLocals = 5 := hml0
  have hown : s.vm.findClass "com/example/rowtide/rowtide/event/RowSetUtf8PinLaw" = some m.cls := findClass_of_methodNamed Bd.named
  have hnm := (name_of_methodNamed Bd.named Bd.method).1
  have hlk := Bd.notSynchronized
  have X0 : Stand p l e (⟨4, 0, 0, 53⟩ : Room) s m #[(.ref x0), (.int 1), (.int 2), (.ref yb), (.int 0)] below meth c s₁ [] 0 0 := Stand.of_body Bd
  have e0 : s₁.heap = h0 := by rw [← hh, Bd.state]; rfl
  have N0 := Fr.nil n0
  refine own_start (Q := own_ck_0_2_1_Q Z x0 yb t kb ky b0 b1 b2 b3 zCS fm cs h0 n0) (own_ck_0_2_1_ef m x0 yb) ?_
  refine own_g (mkF m 7 #[.val (.ref x0), .val (.int 1), .val (.int 2), .val (.ref yb), .val (.int 0)] [(.int 1), (.ref x0)]) (fun _ q => XS.iloadN X0.here hx rfl (hb hby own_d17_0) rfl (XS.iloadN X0.here hx rfl (hb hby own_d17_1) rfl (XS.icmpNo X0.here hx rfl (hb hby own_d17_2) rfl (tlt (by decide : (1 : Int32) < (2 : Int32))).2.1 (XS.aloadN X0.here hx rfl (hb hby own_d17_5) rfl rfl (XS.iloadN X0.here hx rfl (hb hby own_d17_6) rfl q))))) ?_
  refine own_callV X0 hx hZ (y := own_y14) (z := own_y14) hown (own_h hw 137 rfl) (own_h hw 138 rfl) (own_nf (own_h hw 140 rfl)) (own_h hw 140 rfl) (own_h hw 139 rfl) (own_h hw 141 rfl) (own_h hw 66 rfl) (by decide) E_x (own_ch_2_1 l Z a0 hw [] x0 t kb b0 b1 zCS fm cs h0 n0 Z0 S_CS nCS S_SF hfm S_UT S_IN E_cs O0 E_x V_x C_x K_t hbd) (by decide) (by decide) e0 (g := (mkF m 7 #[.val (.ref x0), .val (.int 1), .val (.int 2), .val (.ref yb), .val (.int 0)] [(.int 1), (.ref x0)])) rfl (by rw [hml]; rfl) (argsL := [(.int 1)]) (rest := []) (lenOf own_pd__28I_29C rfl) rfl (W := 0) (Nat.le_of_eq rfl) (hb hby own_d17_7) rfl (by decide) (by decide) ?_
  rintro rv1 T1 L1 X1 ⟨rfl, Nq1, eh1⟩
  have N1 := Fr.app N0 Nq1
  refine own_g (mkF m 15 #[.val (.ref x0), .val (.int 1), .val (.int 2), .val (.ref yb), .val (.int 0)] [(.int 1), (.ref yb), (.int b1)]) (fun _ q => XS.aloadN X1.here hx rfl (hb hby own_d17_10) rfl rfl (XS.iload X1.here hx rfl (hb hby own_d17_11) rfl (XS.iloadN X1.here hx rfl (hb hby own_d17_13) rfl (XS.iadd X1.here hx rfl (hb hby own_d17_14) rfl q)))) ?_
  obtain ⟨cl2, Ar2, q2, S2, P2, H2, G2⟩ := id A_y
  have hin2 : ¬ ((1 : Int32) < 0 ∨ cl2.slots.size ≤ ((1 : Int32)).toNatClampNeg) := inb_of S2 ⟨by decide, by decide⟩
  refine own_by (g' := (mkF m 16 #[.val (.ref x0), .val (.int 1), .val (.int 2), .val (.ref yb), .val (.int 0)] [(.int b1), (.int b1)])) (fun _ kq => X1.baloadBytes hx (j := (1 : Int32)) (v := (.int b1)) (by rw [eh1]; exact Ar2.1) (State.isArrayOf_alike hZ.alike Ar2.2.1) Ar2.2.2 hin2 (H2.at hin2 rfl) (g := (mkF m 15 #[.val (.ref x0), .val (.int 1), .val (.int 2), .val (.ref yb), .val (.int 0)] [(.int 1), (.ref yb), (.int b1)])) rfl rfl (hb hby own_d17_15) _ kq) ?_
  refine own_g (mkF m 25 #[.val (.ref x0), .val (.int 1), .val (.int 2), .val (.ref yb), .val (.int 0)] [(.int 1)]) (fun _ q => XS.i2c X1.here hx rfl (hb hby own_d17_16) rfl (XS.icmpNo X1.here hx rfl (hb hby own_d17_17) rfl (teq (own_c7 hbd).2.symm).2 (XS.iconst X1.here hx rfl (hb hby own_d17_20) (XS.goto X1.here hx rfl (pc0 := 21) (pc' := 25) rfl (hb hby own_d17_21) (by decide) (by decide) q)))) ?_
  exact own_end X1 (v := some (.int (nar .boolean (1 : Int32)))) (fun h => by rw [Bd.returns] at h; cases h) hlk (fun hr => retN X1 hx (t := .boolean) Bd.returns (by simp) (hb hby own_d17_25) hr) (by rw [eh1]; exact ⟨rfl, N1, rfl⟩) (by decide) (by decide)
theorem own_ck_0_3_0_ef (m : MethodId) (x0 : Addr) (yb : Addr) : entryFrame m #[(.ref x0), (.int 0), (.int 3), (.ref yb), (.int 0)] 5 = mkF m 0 #[.val (.ref x0), .val (.int 0), .val (.int 3), .val (.ref yb), .val (.int 0)] [] := by  first | (simp [entryFrame, mkF, argsToLocals, Value.category]; done) | rfl
def own_ck_0_3_0_Q (Z : State) (x0 : Addr) (yb : Addr) (t : Addr) (kb : ClassId) (ky : ClassId) (b0 : Int32) (b1 : Int32) (b2 : Int32) (b3 : Int32) (zCS : Int32) (fm : Value) (cs : Addr) (h0 : Heap) (n0 : Nat) (v : Option Value) (h : Heap) (L : List Loc) : Prop := v = some (.int 1) ∧ Fr n0 L ∧ h = h0
set_option maxRecDepth 65536 in
set_option maxHeartbeats 40000000 in
theorem own_ck_0_3_0 (l : Launch) (Z : State) (a0 : Array Value) (hw : ∀ d ∈ tables_1, d.before a0 Z = true) (ws : List Jvm.Cond) (x0 : Addr) (yb : Addr) (t : Addr) (kb : ClassId) (ky : ClassId) (b0 : Int32) (b1 : Int32) (b2 : Int32) (b3 : Int32) (zCS : Int32) (fm : Value) (cs : Addr) (h0 : Heap) (n0 : Nat) (Z0 : n0 ≤ h0.size) (S_CS : own_A0 Z zCS) (nCS : ¬ zCS = 0) (S_SF : own_A2 Z fm) (hfm : fm.isRef = true) (S_UT : own_A1 Z cs) (S_IN : own_A3 Z cs) (E_cs : Exa Z Z.heap cs "sun/nio/cs/UTF_8") (O0 : Old Z n0 h0) (E_x : Exa Z h0 x0 "java/lang/String") (V_x : Fld Z h0 x0 "java/lang/String" "value" "[B" (.ref t)) (C_x : Fld Z h0 x0 "java/lang/String" "coder" "B" (.int 0)) (K_t : Arv Z h0 t kb .byte (3 : Int32) [(.int b0), (.int b1), (.int b2)] (.int 0)) (A_y : Arv Z h0 yb ky .byte (4 : Int32) [(.int b0), (.int b1), (.int b2), (.int b3)] (.int 0)) (hbd : ¬ b0 < 0 ∧ ¬ (127 : Int32) < b0) :
    MetFree l own_y10 (head1 (Jvm.Cond.code own_y10 method_2_code 5 (some .boolean) :: ws) (⟨4, 0, 0, 53⟩ : Room)) (fun aa U => aa = #[(.ref x0), (.int 0), (.int 3), (.ref yb), (.int 0)] ∧ Z.Warmed39 U.vm ∧ U.heap = h0) (fun _ _ _ _ _ => True) (fun _ U o U' => ∃ v L, o = .returned v ∧ own_ck_0_3_0_Q Z x0 yb t kb ky b0 b1 b2 b3 zCS fm cs h0 n0 v U'.heap L ∧ FrameEnd U o U' L (⟨4, 0, 0, 53⟩ : Room).cells (⟨4, 0, 0, 53⟩ : Room).slots) := by
  refine MetFree.of_bodySF (plainFor_of_name own_pn_com_example_rowtide_rowtide_event_RowSetUtf8PinLaw) hisR ?_
  intro p e s m args below meth c s₁ Bd hml0 hP hK
  obtain ⟨rfl, hZ, hh⟩ := hP
  have hx := Bd.exec
  have hby := Bd.bytes
  have hml : c.maxLocals = 5 := hml0
  have hown : s.vm.findClass "com/example/rowtide/rowtide/event/RowSetUtf8PinLaw" = some m.cls := findClass_of_methodNamed Bd.named
  have hnm := (name_of_methodNamed Bd.named Bd.method).1
  have hlk := Bd.notSynchronized
  have X0 : Stand p l e (⟨4, 0, 0, 53⟩ : Room) s m #[(.ref x0), (.int 0), (.int 3), (.ref yb), (.int 0)] below meth c s₁ [] 0 0 := Stand.of_body Bd
  have e0 : s₁.heap = h0 := by rw [← hh, Bd.state]; rfl
  have N0 := Fr.nil n0
  refine own_start (Q := own_ck_0_3_0_Q Z x0 yb t kb ky b0 b1 b2 b3 zCS fm cs h0 n0) (own_ck_0_3_0_ef m x0 yb) ?_
  refine own_g (mkF m 7 #[.val (.ref x0), .val (.int 0), .val (.int 3), .val (.ref yb), .val (.int 0)] [(.int 0), (.ref x0)]) (fun _ q => XS.iloadN X0.here hx rfl (hb hby own_d17_0) rfl (XS.iloadN X0.here hx rfl (hb hby own_d17_1) rfl (XS.icmpNo X0.here hx rfl (hb hby own_d17_2) rfl (tlt (by decide : (0 : Int32) < (3 : Int32))).2.1 (XS.aloadN X0.here hx rfl (hb hby own_d17_5) rfl rfl (XS.iloadN X0.here hx rfl (hb hby own_d17_6) rfl q))))) ?_
  refine own_callV X0 hx hZ (y := own_y14) (z := own_y14) hown (own_h hw 137 rfl) (own_h hw 138 rfl) (own_nf (own_h hw 140 rfl)) (own_h hw 140 rfl) (own_h hw 139 rfl) (own_h hw 141 rfl) (own_h hw 66 rfl) (by decide) E_x (own_ch_3_0 l Z a0 hw [] x0 t kb b0 b1 b2 zCS fm cs h0 n0 Z0 S_CS nCS S_SF hfm S_UT S_IN E_cs O0 E_x V_x C_x K_t hbd) (by decide) (by decide) e0 (g := (mkF m 7 #[.val (.ref x0), .val (.int 0), .val (.int 3), .val (.ref yb), .val (.int 0)] [(.int 0), (.ref x0)])) rfl (by rw [hml]; rfl) (argsL := [(.int 0)]) (rest := []) (lenOf own_pd__28I_29C rfl) rfl (W := 0) (Nat.le_of_eq rfl) (hb hby own_d17_7) rfl (by decide) (by decide) ?_
  rintro rv1 T1 L1 X1 ⟨rfl, Nq1, eh1⟩
  have N1 := Fr.app N0 Nq1
  refine own_g (mkF m 15 #[.val (.ref x0), .val (.int 0), .val (.int 3), .val (.ref yb), .val (.int 0)] [(.int 0), (.ref yb), (.int b0)]) (fun _ q => XS.aloadN X1.here hx rfl (hb hby own_d17_10) rfl rfl (XS.iload X1.here hx rfl (hb hby own_d17_11) rfl (XS.iloadN X1.here hx rfl (hb hby own_d17_13) rfl (XS.iadd X1.here hx rfl (hb hby own_d17_14) rfl q)))) ?_
  obtain ⟨cl2, Ar2, q2, S2, P2, H2, G2⟩ := id A_y
  have hin2 : ¬ ((0 : Int32) < 0 ∨ cl2.slots.size ≤ ((0 : Int32)).toNatClampNeg) := inb_of S2 ⟨by decide, by decide⟩
  refine own_by (g' := (mkF m 16 #[.val (.ref x0), .val (.int 0), .val (.int 3), .val (.ref yb), .val (.int 0)] [(.int b0), (.int b0)])) (fun _ kq => X1.baloadBytes hx (j := (0 : Int32)) (v := (.int b0)) (by rw [eh1]; exact Ar2.1) (State.isArrayOf_alike hZ.alike Ar2.2.1) Ar2.2.2 hin2 (H2.at hin2 rfl) (g := (mkF m 15 #[.val (.ref x0), .val (.int 0), .val (.int 3), .val (.ref yb), .val (.int 0)] [(.int 0), (.ref yb), (.int b0)])) rfl rfl (hb hby own_d17_15) _ kq) ?_
  refine own_g (mkF m 25 #[.val (.ref x0), .val (.int 0), .val (.int 3), .val (.ref yb), .val (.int 0)] [(.int 1)]) (fun _ q => XS.i2c X1.here hx rfl (hb hby own_d17_16) rfl (XS.icmpNo X1.here hx rfl (hb hby own_d17_17) rfl (teq (own_c7 hbd).2.symm).2 (XS.iconst X1.here hx rfl (hb hby own_d17_20) (XS.goto X1.here hx rfl (pc0 := 21) (pc' := 25) rfl (hb hby own_d17_21) (by decide) (by decide) q)))) ?_
  exact own_end X1 (v := some (.int (nar .boolean (1 : Int32)))) (fun h => by rw [Bd.returns] at h; cases h) hlk (fun hr => retN X1 hx (t := .boolean) Bd.returns (by simp) (hb hby own_d17_25) hr) (by rw [eh1]; exact ⟨rfl, N1, rfl⟩) (by decide) (by decide)
theorem own_ck_0_3_1_ef (m : MethodId) (x0 : Addr) (yb : Addr) : entryFrame m #[(.ref x0), (.int 1), (.int 3), (.ref yb), (.int 0)] 5 = mkF m 0 #[.val (.ref x0), .val (.int 1), .val (.int 3), .val (.ref yb), .val (.int 0)] [] := by  first | (simp [entryFrame, mkF, argsToLocals, Value.category]; done) | rfl
def own_ck_0_3_1_Q (Z : State) (x0 : Addr) (yb : Addr) (t : Addr) (kb : ClassId) (ky : ClassId) (b0 : Int32) (b1 : Int32) (b2 : Int32) (b3 : Int32) (zCS : Int32) (fm : Value) (cs : Addr) (h0 : Heap) (n0 : Nat) (v : Option Value) (h : Heap) (L : List Loc) : Prop := v = some (.int 1) ∧ Fr n0 L ∧ h = h0
set_option maxRecDepth 65536 in
set_option maxHeartbeats 40000000 in
theorem own_ck_0_3_1 (l : Launch) (Z : State) (a0 : Array Value) (hw : ∀ d ∈ tables_1, d.before a0 Z = true) (ws : List Jvm.Cond) (x0 : Addr) (yb : Addr) (t : Addr) (kb : ClassId) (ky : ClassId) (b0 : Int32) (b1 : Int32) (b2 : Int32) (b3 : Int32) (zCS : Int32) (fm : Value) (cs : Addr) (h0 : Heap) (n0 : Nat) (Z0 : n0 ≤ h0.size) (S_CS : own_A0 Z zCS) (nCS : ¬ zCS = 0) (S_SF : own_A2 Z fm) (hfm : fm.isRef = true) (S_UT : own_A1 Z cs) (S_IN : own_A3 Z cs) (E_cs : Exa Z Z.heap cs "sun/nio/cs/UTF_8") (O0 : Old Z n0 h0) (E_x : Exa Z h0 x0 "java/lang/String") (V_x : Fld Z h0 x0 "java/lang/String" "value" "[B" (.ref t)) (C_x : Fld Z h0 x0 "java/lang/String" "coder" "B" (.int 0)) (K_t : Arv Z h0 t kb .byte (3 : Int32) [(.int b0), (.int b1), (.int b2)] (.int 0)) (A_y : Arv Z h0 yb ky .byte (4 : Int32) [(.int b0), (.int b1), (.int b2), (.int b3)] (.int 0)) (hbd : ¬ b1 < 0 ∧ ¬ (127 : Int32) < b1) :
    MetFree l own_y10 (head1 (Jvm.Cond.code own_y10 method_2_code 5 (some .boolean) :: ws) (⟨4, 0, 0, 53⟩ : Room)) (fun aa U => aa = #[(.ref x0), (.int 1), (.int 3), (.ref yb), (.int 0)] ∧ Z.Warmed39 U.vm ∧ U.heap = h0) (fun _ _ _ _ _ => True) (fun _ U o U' => ∃ v L, o = .returned v ∧ own_ck_0_3_1_Q Z x0 yb t kb ky b0 b1 b2 b3 zCS fm cs h0 n0 v U'.heap L ∧ FrameEnd U o U' L (⟨4, 0, 0, 53⟩ : Room).cells (⟨4, 0, 0, 53⟩ : Room).slots) := by
  refine MetFree.of_bodySF (plainFor_of_name own_pn_com_example_rowtide_rowtide_event_RowSetUtf8PinLaw) hisR ?_
  intro p e s m args below meth c s₁ Bd hml0 hP hK
  obtain ⟨rfl, hZ, hh⟩ := hP
  have hx := Bd.exec
  have hby := Bd.bytes
  have hml : c.maxLocals = 5 := hml0
  have hown : s.vm.findClass "com/example/rowtide/rowtide/event/RowSetUtf8PinLaw" = some m.cls := findClass_of_methodNamed Bd.named
  have hnm := (name_of_methodNamed Bd.named Bd.method).1
  have hlk := Bd.notSynchronized
  have X0 : Stand p l e (⟨4, 0, 0, 53⟩ : Room) s m #[(.ref x0), (.int 1), (.int 3), (.ref yb), (.int 0)] below meth c s₁ [] 0 0 := Stand.of_body Bd
  have e0 : s₁.heap = h0 := by rw [← hh, Bd.state]; rfl
  have N0 := Fr.nil n0
  refine own_start (Q := own_ck_0_3_1_Q Z x0 yb t kb ky b0 b1 b2 b3 zCS fm cs h0 n0) (own_ck_0_3_1_ef m x0 yb) ?_
  refine own_g (mkF m 7 #[.val (.ref x0), .val (.int 1), .val (.int 3), .val (.ref yb), .val (.int 0)] [(.int 1), (.ref x0)]) (fun _ q => XS.iloadN X0.here hx rfl (hb hby own_d17_0) rfl (XS.iloadN X0.here hx rfl (hb hby own_d17_1) rfl (XS.icmpNo X0.here hx rfl (hb hby own_d17_2) rfl (tlt (by decide : (1 : Int32) < (3 : Int32))).2.1 (XS.aloadN X0.here hx rfl (hb hby own_d17_5) rfl rfl (XS.iloadN X0.here hx rfl (hb hby own_d17_6) rfl q))))) ?_
  refine own_callV X0 hx hZ (y := own_y14) (z := own_y14) hown (own_h hw 137 rfl) (own_h hw 138 rfl) (own_nf (own_h hw 140 rfl)) (own_h hw 140 rfl) (own_h hw 139 rfl) (own_h hw 141 rfl) (own_h hw 66 rfl) (by decide) E_x (own_ch_3_1 l Z a0 hw [] x0 t kb b0 b1 b2 zCS fm cs h0 n0 Z0 S_CS nCS S_SF hfm S_UT S_IN E_cs O0 E_x V_x C_x K_t hbd) (by decide) (by decide) e0 (g := (mkF m 7 #[.val (.ref x0), .val (.int 1), .val (.int 3), .val (.ref yb), .val (.int 0)] [(.int 1), (.ref x0)])) rfl (by rw [hml]; rfl) (argsL := [(.int 1)]) (rest := []) (lenOf own_pd__28I_29C rfl) rfl (W := 0) (Nat.le_of_eq rfl) (hb hby own_d17_7) rfl (by decide) (by decide) ?_
  rintro rv1 T1 L1 X1 ⟨rfl, Nq1, eh1⟩
  have N1 := Fr.app N0 Nq1
  refine own_g (mkF m 15 #[.val (.ref x0), .val (.int 1), .val (.int 3), .val (.ref yb), .val (.int 0)] [(.int 1), (.ref yb), (.int b1)]) (fun _ q => XS.aloadN X1.here hx rfl (hb hby own_d17_10) rfl rfl (XS.iload X1.here hx rfl (hb hby own_d17_11) rfl (XS.iloadN X1.here hx rfl (hb hby own_d17_13) rfl (XS.iadd X1.here hx rfl (hb hby own_d17_14) rfl q)))) ?_
  obtain ⟨cl2, Ar2, q2, S2, P2, H2, G2⟩ := id A_y
  have hin2 : ¬ ((1 : Int32) < 0 ∨ cl2.slots.size ≤ ((1 : Int32)).toNatClampNeg) := inb_of S2 ⟨by decide, by decide⟩
  refine own_by (g' := (mkF m 16 #[.val (.ref x0), .val (.int 1), .val (.int 3), .val (.ref yb), .val (.int 0)] [(.int b1), (.int b1)])) (fun _ kq => X1.baloadBytes hx (j := (1 : Int32)) (v := (.int b1)) (by rw [eh1]; exact Ar2.1) (State.isArrayOf_alike hZ.alike Ar2.2.1) Ar2.2.2 hin2 (H2.at hin2 rfl) (g := (mkF m 15 #[.val (.ref x0), .val (.int 1), .val (.int 3), .val (.ref yb), .val (.int 0)] [(.int 1), (.ref yb), (.int b1)])) rfl rfl (hb hby own_d17_15) _ kq) ?_
  refine own_g (mkF m 25 #[.val (.ref x0), .val (.int 1), .val (.int 3), .val (.ref yb), .val (.int 0)] [(.int 1)]) (fun _ q => XS.i2c X1.here hx rfl (hb hby own_d17_16) rfl (XS.icmpNo X1.here hx rfl (hb hby own_d17_17) rfl (teq (own_c7 hbd).2.symm).2 (XS.iconst X1.here hx rfl (hb hby own_d17_20) (XS.goto X1.here hx rfl (pc0 := 21) (pc' := 25) rfl (hb hby own_d17_21) (by decide) (by decide) q)))) ?_
  exact own_end X1 (v := some (.int (nar .boolean (1 : Int32)))) (fun h => by rw [Bd.returns] at h; cases h) hlk (fun hr => retN X1 hx (t := .boolean) Bd.returns (by simp) (hb hby own_d17_25) hr) (by rw [eh1]; exact ⟨rfl, N1, rfl⟩) (by decide) (by decide)
theorem own_ck_0_3_2_ef (m : MethodId) (x0 : Addr) (yb : Addr) : entryFrame m #[(.ref x0), (.int 2), (.int 3), (.ref yb), (.int 0)] 5 = mkF m 0 #[.val (.ref x0), .val (.int 2), .val (.int 3), .val (.ref yb), .val (.int 0)] [] := by  first | (simp [entryFrame, mkF, argsToLocals, Value.category]; done) | rfl
def own_ck_0_3_2_Q (Z : State) (x0 : Addr) (yb : Addr) (t : Addr) (kb : ClassId) (ky : ClassId) (b0 : Int32) (b1 : Int32) (b2 : Int32) (b3 : Int32) (zCS : Int32) (fm : Value) (cs : Addr) (h0 : Heap) (n0 : Nat) (v : Option Value) (h : Heap) (L : List Loc) : Prop := v = some (.int 1) ∧ Fr n0 L ∧ h = h0
set_option maxRecDepth 65536 in
set_option maxHeartbeats 40000000 in
theorem own_ck_0_3_2 (l : Launch) (Z : State) (a0 : Array Value) (hw : ∀ d ∈ tables_1, d.before a0 Z = true) (ws : List Jvm.Cond) (x0 : Addr) (yb : Addr) (t : Addr) (kb : ClassId) (ky : ClassId) (b0 : Int32) (b1 : Int32) (b2 : Int32) (b3 : Int32) (zCS : Int32) (fm : Value) (cs : Addr) (h0 : Heap) (n0 : Nat) (Z0 : n0 ≤ h0.size) (S_CS : own_A0 Z zCS) (nCS : ¬ zCS = 0) (S_SF : own_A2 Z fm) (hfm : fm.isRef = true) (S_UT : own_A1 Z cs) (S_IN : own_A3 Z cs) (E_cs : Exa Z Z.heap cs "sun/nio/cs/UTF_8") (O0 : Old Z n0 h0) (E_x : Exa Z h0 x0 "java/lang/String") (V_x : Fld Z h0 x0 "java/lang/String" "value" "[B" (.ref t)) (C_x : Fld Z h0 x0 "java/lang/String" "coder" "B" (.int 0)) (K_t : Arv Z h0 t kb .byte (3 : Int32) [(.int b0), (.int b1), (.int b2)] (.int 0)) (A_y : Arv Z h0 yb ky .byte (4 : Int32) [(.int b0), (.int b1), (.int b2), (.int b3)] (.int 0)) (hbd : ¬ b2 < 0 ∧ ¬ (127 : Int32) < b2) :
    MetFree l own_y10 (head1 (Jvm.Cond.code own_y10 method_2_code 5 (some .boolean) :: ws) (⟨4, 0, 0, 53⟩ : Room)) (fun aa U => aa = #[(.ref x0), (.int 2), (.int 3), (.ref yb), (.int 0)] ∧ Z.Warmed39 U.vm ∧ U.heap = h0) (fun _ _ _ _ _ => True) (fun _ U o U' => ∃ v L, o = .returned v ∧ own_ck_0_3_2_Q Z x0 yb t kb ky b0 b1 b2 b3 zCS fm cs h0 n0 v U'.heap L ∧ FrameEnd U o U' L (⟨4, 0, 0, 53⟩ : Room).cells (⟨4, 0, 0, 53⟩ : Room).slots) := by
  refine MetFree.of_bodySF (plainFor_of_name own_pn_com_example_rowtide_rowtide_event_RowSetUtf8PinLaw) hisR ?_
  intro p e s m args below meth c s₁ Bd hml0 hP hK
  obtain ⟨rfl, hZ, hh⟩ := hP
  have hx := Bd.exec
  have hby := Bd.bytes
  have hml : c.maxLocals = 5 := hml0
  have hown : s.vm.findClass "com/example/rowtide/rowtide/event/RowSetUtf8PinLaw" = some m.cls := findClass_of_methodNamed Bd.named
  have hnm := (name_of_methodNamed Bd.named Bd.method).1
  have hlk := Bd.notSynchronized
  have X0 : Stand p l e (⟨4, 0, 0, 53⟩ : Room) s m #[(.ref x0), (.int 2), (.int 3), (.ref yb), (.int 0)] below meth c s₁ [] 0 0 := Stand.of_body Bd
  have e0 : s₁.heap = h0 := by rw [← hh, Bd.state]; rfl
  have N0 := Fr.nil n0
  refine own_start (Q := own_ck_0_3_2_Q Z x0 yb t kb ky b0 b1 b2 b3 zCS fm cs h0 n0) (own_ck_0_3_2_ef m x0 yb) ?_
  refine own_g (mkF m 7 #[.val (.ref x0), .val (.int 2), .val (.int 3), .val (.ref yb), .val (.int 0)] [(.int 2), (.ref x0)]) (fun _ q => XS.iloadN X0.here hx rfl (hb hby own_d17_0) rfl (XS.iloadN X0.here hx rfl (hb hby own_d17_1) rfl (XS.icmpNo X0.here hx rfl (hb hby own_d17_2) rfl (tlt (by decide : (2 : Int32) < (3 : Int32))).2.1 (XS.aloadN X0.here hx rfl (hb hby own_d17_5) rfl rfl (XS.iloadN X0.here hx rfl (hb hby own_d17_6) rfl q))))) ?_
  refine own_callV X0 hx hZ (y := own_y14) (z := own_y14) hown (own_h hw 137 rfl) (own_h hw 138 rfl) (own_nf (own_h hw 140 rfl)) (own_h hw 140 rfl) (own_h hw 139 rfl) (own_h hw 141 rfl) (own_h hw 66 rfl) (by decide) E_x (own_ch_3_2 l Z a0 hw [] x0 t kb b0 b1 b2 zCS fm cs h0 n0 Z0 S_CS nCS S_SF hfm S_UT S_IN E_cs O0 E_x V_x C_x K_t hbd) (by decide) (by decide) e0 (g := (mkF m 7 #[.val (.ref x0), .val (.int 2), .val (.int 3), .val (.ref yb), .val (.int 0)] [(.int 2), (.ref x0)])) rfl (by rw [hml]; rfl) (argsL := [(.int 2)]) (rest := []) (lenOf own_pd__28I_29C rfl) rfl (W := 0) (Nat.le_of_eq rfl) (hb hby own_d17_7) rfl (by decide) (by decide) ?_
  rintro rv1 T1 L1 X1 ⟨rfl, Nq1, eh1⟩
  have N1 := Fr.app N0 Nq1
  refine own_g (mkF m 15 #[.val (.ref x0), .val (.int 2), .val (.int 3), .val (.ref yb), .val (.int 0)] [(.int 2), (.ref yb), (.int b2)]) (fun _ q => XS.aloadN X1.here hx rfl (hb hby own_d17_10) rfl rfl (XS.iload X1.here hx rfl (hb hby own_d17_11) rfl (XS.iloadN X1.here hx rfl (hb hby own_d17_13) rfl (XS.iadd X1.here hx rfl (hb hby own_d17_14) rfl q)))) ?_
  obtain ⟨cl2, Ar2, q2, S2, P2, H2, G2⟩ := id A_y
  have hin2 : ¬ ((2 : Int32) < 0 ∨ cl2.slots.size ≤ ((2 : Int32)).toNatClampNeg) := inb_of S2 ⟨by decide, by decide⟩
  refine own_by (g' := (mkF m 16 #[.val (.ref x0), .val (.int 2), .val (.int 3), .val (.ref yb), .val (.int 0)] [(.int b2), (.int b2)])) (fun _ kq => X1.baloadBytes hx (j := (2 : Int32)) (v := (.int b2)) (by rw [eh1]; exact Ar2.1) (State.isArrayOf_alike hZ.alike Ar2.2.1) Ar2.2.2 hin2 (H2.at hin2 rfl) (g := (mkF m 15 #[.val (.ref x0), .val (.int 2), .val (.int 3), .val (.ref yb), .val (.int 0)] [(.int 2), (.ref yb), (.int b2)])) rfl rfl (hb hby own_d17_15) _ kq) ?_
  refine own_g (mkF m 25 #[.val (.ref x0), .val (.int 2), .val (.int 3), .val (.ref yb), .val (.int 0)] [(.int 1)]) (fun _ q => XS.i2c X1.here hx rfl (hb hby own_d17_16) rfl (XS.icmpNo X1.here hx rfl (hb hby own_d17_17) rfl (teq (own_c7 hbd).2.symm).2 (XS.iconst X1.here hx rfl (hb hby own_d17_20) (XS.goto X1.here hx rfl (pc0 := 21) (pc' := 25) rfl (hb hby own_d17_21) (by decide) (by decide) q)))) ?_
  exact own_end X1 (v := some (.int (nar .boolean (1 : Int32)))) (fun h => by rw [Bd.returns] at h; cases h) hlk (fun hr => retN X1 hx (t := .boolean) Bd.returns (by simp) (hb hby own_d17_25) hr) (by rw [eh1]; exact ⟨rfl, N1, rfl⟩) (by decide) (by decide)
theorem own_ck_0_4_0_ef (m : MethodId) (x0 : Addr) (yb : Addr) : entryFrame m #[(.ref x0), (.int 0), (.int 4), (.ref yb), (.int 0)] 5 = mkF m 0 #[.val (.ref x0), .val (.int 0), .val (.int 4), .val (.ref yb), .val (.int 0)] [] := by  first | (simp [entryFrame, mkF, argsToLocals, Value.category]; done) | rfl
def own_ck_0_4_0_Q (Z : State) (x0 : Addr) (yb : Addr) (t : Addr) (kb : ClassId) (ky : ClassId) (b0 : Int32) (b1 : Int32) (b2 : Int32) (b3 : Int32) (zCS : Int32) (fm : Value) (cs : Addr) (h0 : Heap) (n0 : Nat) (v : Option Value) (h : Heap) (L : List Loc) : Prop := v = some (.int 1) ∧ Fr n0 L ∧ h = h0
set_option maxRecDepth 65536 in
set_option maxHeartbeats 40000000 in
theorem own_ck_0_4_0 (l : Launch) (Z : State) (a0 : Array Value) (hw : ∀ d ∈ tables_1, d.before a0 Z = true) (ws : List Jvm.Cond) (x0 : Addr) (yb : Addr) (t : Addr) (kb : ClassId) (ky : ClassId) (b0 : Int32) (b1 : Int32) (b2 : Int32) (b3 : Int32) (zCS : Int32) (fm : Value) (cs : Addr) (h0 : Heap) (n0 : Nat) (Z0 : n0 ≤ h0.size) (S_CS : own_A0 Z zCS) (nCS : ¬ zCS = 0) (S_SF : own_A2 Z fm) (hfm : fm.isRef = true) (S_UT : own_A1 Z cs) (S_IN : own_A3 Z cs) (E_cs : Exa Z Z.heap cs "sun/nio/cs/UTF_8") (O0 : Old Z n0 h0) (E_x : Exa Z h0 x0 "java/lang/String") (V_x : Fld Z h0 x0 "java/lang/String" "value" "[B" (.ref t)) (C_x : Fld Z h0 x0 "java/lang/String" "coder" "B" (.int 0)) (K_t : Arv Z h0 t kb .byte (4 : Int32) [(.int b0), (.int b1), (.int b2), (.int b3)] (.int 0)) (A_y : Arv Z h0 yb ky .byte (4 : Int32) [(.int b0), (.int b1), (.int b2), (.int b3)] (.int 0)) (hbd : ¬ b0 < 0 ∧ ¬ (127 : Int32) < b0) :
    MetFree l own_y10 (head1 (Jvm.Cond.code own_y10 method_2_code 5 (some .boolean) :: ws) (⟨4, 0, 0, 53⟩ : Room)) (fun aa U => aa = #[(.ref x0), (.int 0), (.int 4), (.ref yb), (.int 0)] ∧ Z.Warmed39 U.vm ∧ U.heap = h0) (fun _ _ _ _ _ => True) (fun _ U o U' => ∃ v L, o = .returned v ∧ own_ck_0_4_0_Q Z x0 yb t kb ky b0 b1 b2 b3 zCS fm cs h0 n0 v U'.heap L ∧ FrameEnd U o U' L (⟨4, 0, 0, 53⟩ : Room).cells (⟨4, 0, 0, 53⟩ : Room).slots) := by
  refine MetFree.of_bodySF (plainFor_of_name own_pn_com_example_rowtide_rowtide_event_RowSetUtf8PinLaw) hisR ?_
  intro p e s m args below meth c s₁ Bd hml0 hP hK
  obtain ⟨rfl, hZ, hh⟩ := hP
  have hx := Bd.exec
  have hby := Bd.bytes
  have hml : c.maxLocals = 5 := hml0
  have hown : s.vm.findClass "com/example/rowtide/rowtide/event/RowSetUtf8PinLaw" = some m.cls := findClass_of_methodNamed Bd.named
  have hnm := (name_of_methodNamed Bd.named Bd.method).1
  have hlk := Bd.notSynchronized
  have X0 : Stand p l e (⟨4, 0, 0, 53⟩ : Room) s m #[(.ref x0), (.int 0), (.int 4), (.ref yb), (.int 0)] below meth c s₁ [] 0 0 := Stand.of_body Bd
  have e0 : s₁.heap = h0 := by rw [← hh, Bd.state]; rfl
  have N0 := Fr.nil n0
  refine own_start (Q := own_ck_0_4_0_Q Z x0 yb t kb ky b0 b1 b2 b3 zCS fm cs h0 n0) (own_ck_0_4_0_ef m x0 yb) ?_
  refine own_g (mkF m 7 #[.val (.ref x0), .val (.int 0), .val (.int 4), .val (.ref yb), .val (.int 0)] [(.int 0), (.ref x0)]) (fun _ q => XS.iloadN X0.here hx rfl (hb hby own_d17_0) rfl (XS.iloadN X0.here hx rfl (hb hby own_d17_1) rfl (XS.icmpNo X0.here hx rfl (hb hby own_d17_2) rfl (tlt (by decide : (0 : Int32) < (4 : Int32))).2.1 (XS.aloadN X0.here hx rfl (hb hby own_d17_5) rfl rfl (XS.iloadN X0.here hx rfl (hb hby own_d17_6) rfl q))))) ?_
  refine own_callV X0 hx hZ (y := own_y14) (z := own_y14) hown (own_h hw 137 rfl) (own_h hw 138 rfl) (own_nf (own_h hw 140 rfl)) (own_h hw 140 rfl) (own_h hw 139 rfl) (own_h hw 141 rfl) (own_h hw 66 rfl) (by decide) E_x (own_ch_4_0 l Z a0 hw [] x0 t kb b0 b1 b2 b3 zCS fm cs h0 n0 Z0 S_CS nCS S_SF hfm S_UT S_IN E_cs O0 E_x V_x C_x K_t hbd) (by decide) (by decide) e0 (g := (mkF m 7 #[.val (.ref x0), .val (.int 0), .val (.int 4), .val (.ref yb), .val (.int 0)] [(.int 0), (.ref x0)])) rfl (by rw [hml]; rfl) (argsL := [(.int 0)]) (rest := []) (lenOf own_pd__28I_29C rfl) rfl (W := 0) (Nat.le_of_eq rfl) (hb hby own_d17_7) rfl (by decide) (by decide) ?_
  rintro rv1 T1 L1 X1 ⟨rfl, Nq1, eh1⟩
  have N1 := Fr.app N0 Nq1
  refine own_g (mkF m 15 #[.val (.ref x0), .val (.int 0), .val (.int 4), .val (.ref yb), .val (.int 0)] [(.int 0), (.ref yb), (.int b0)]) (fun _ q => XS.aloadN X1.here hx rfl (hb hby own_d17_10) rfl rfl (XS.iload X1.here hx rfl (hb hby own_d17_11) rfl (XS.iloadN X1.here hx rfl (hb hby own_d17_13) rfl (XS.iadd X1.here hx rfl (hb hby own_d17_14) rfl q)))) ?_
  obtain ⟨cl2, Ar2, q2, S2, P2, H2, G2⟩ := id A_y
  have hin2 : ¬ ((0 : Int32) < 0 ∨ cl2.slots.size ≤ ((0 : Int32)).toNatClampNeg) := inb_of S2 ⟨by decide, by decide⟩
  refine own_by (g' := (mkF m 16 #[.val (.ref x0), .val (.int 0), .val (.int 4), .val (.ref yb), .val (.int 0)] [(.int b0), (.int b0)])) (fun _ kq => X1.baloadBytes hx (j := (0 : Int32)) (v := (.int b0)) (by rw [eh1]; exact Ar2.1) (State.isArrayOf_alike hZ.alike Ar2.2.1) Ar2.2.2 hin2 (H2.at hin2 rfl) (g := (mkF m 15 #[.val (.ref x0), .val (.int 0), .val (.int 4), .val (.ref yb), .val (.int 0)] [(.int 0), (.ref yb), (.int b0)])) rfl rfl (hb hby own_d17_15) _ kq) ?_
  refine own_g (mkF m 25 #[.val (.ref x0), .val (.int 0), .val (.int 4), .val (.ref yb), .val (.int 0)] [(.int 1)]) (fun _ q => XS.i2c X1.here hx rfl (hb hby own_d17_16) rfl (XS.icmpNo X1.here hx rfl (hb hby own_d17_17) rfl (teq (own_c7 hbd).2.symm).2 (XS.iconst X1.here hx rfl (hb hby own_d17_20) (XS.goto X1.here hx rfl (pc0 := 21) (pc' := 25) rfl (hb hby own_d17_21) (by decide) (by decide) q)))) ?_
  exact own_end X1 (v := some (.int (nar .boolean (1 : Int32)))) (fun h => by rw [Bd.returns] at h; cases h) hlk (fun hr => retN X1 hx (t := .boolean) Bd.returns (by simp) (hb hby own_d17_25) hr) (by rw [eh1]; exact ⟨rfl, N1, rfl⟩) (by decide) (by decide)
theorem own_ck_0_4_1_ef (m : MethodId) (x0 : Addr) (yb : Addr) : entryFrame m #[(.ref x0), (.int 1), (.int 4), (.ref yb), (.int 0)] 5 = mkF m 0 #[.val (.ref x0), .val (.int 1), .val (.int 4), .val (.ref yb), .val (.int 0)] [] := by  first | (simp [entryFrame, mkF, argsToLocals, Value.category]; done) | rfl
def own_ck_0_4_1_Q (Z : State) (x0 : Addr) (yb : Addr) (t : Addr) (kb : ClassId) (ky : ClassId) (b0 : Int32) (b1 : Int32) (b2 : Int32) (b3 : Int32) (zCS : Int32) (fm : Value) (cs : Addr) (h0 : Heap) (n0 : Nat) (v : Option Value) (h : Heap) (L : List Loc) : Prop := v = some (.int 1) ∧ Fr n0 L ∧ h = h0
set_option maxRecDepth 65536 in
set_option maxHeartbeats 40000000 in
theorem own_ck_0_4_1 (l : Launch) (Z : State) (a0 : Array Value) (hw : ∀ d ∈ tables_1, d.before a0 Z = true) (ws : List Jvm.Cond) (x0 : Addr) (yb : Addr) (t : Addr) (kb : ClassId) (ky : ClassId) (b0 : Int32) (b1 : Int32) (b2 : Int32) (b3 : Int32) (zCS : Int32) (fm : Value) (cs : Addr) (h0 : Heap) (n0 : Nat) (Z0 : n0 ≤ h0.size) (S_CS : own_A0 Z zCS) (nCS : ¬ zCS = 0) (S_SF : own_A2 Z fm) (hfm : fm.isRef = true) (S_UT : own_A1 Z cs) (S_IN : own_A3 Z cs) (E_cs : Exa Z Z.heap cs "sun/nio/cs/UTF_8") (O0 : Old Z n0 h0) (E_x : Exa Z h0 x0 "java/lang/String") (V_x : Fld Z h0 x0 "java/lang/String" "value" "[B" (.ref t)) (C_x : Fld Z h0 x0 "java/lang/String" "coder" "B" (.int 0)) (K_t : Arv Z h0 t kb .byte (4 : Int32) [(.int b0), (.int b1), (.int b2), (.int b3)] (.int 0)) (A_y : Arv Z h0 yb ky .byte (4 : Int32) [(.int b0), (.int b1), (.int b2), (.int b3)] (.int 0)) (hbd : ¬ b1 < 0 ∧ ¬ (127 : Int32) < b1) :
    MetFree l own_y10 (head1 (Jvm.Cond.code own_y10 method_2_code 5 (some .boolean) :: ws) (⟨4, 0, 0, 53⟩ : Room)) (fun aa U => aa = #[(.ref x0), (.int 1), (.int 4), (.ref yb), (.int 0)] ∧ Z.Warmed39 U.vm ∧ U.heap = h0) (fun _ _ _ _ _ => True) (fun _ U o U' => ∃ v L, o = .returned v ∧ own_ck_0_4_1_Q Z x0 yb t kb ky b0 b1 b2 b3 zCS fm cs h0 n0 v U'.heap L ∧ FrameEnd U o U' L (⟨4, 0, 0, 53⟩ : Room).cells (⟨4, 0, 0, 53⟩ : Room).slots) := by
  refine MetFree.of_bodySF (plainFor_of_name own_pn_com_example_rowtide_rowtide_event_RowSetUtf8PinLaw) hisR ?_
  intro p e s m args below meth c s₁ Bd hml0 hP hK
  obtain ⟨rfl, hZ, hh⟩ := hP
  have hx := Bd.exec
  have hby := Bd.bytes
  have hml : c.maxLocals = 5 := hml0
  have hown : s.vm.findClass "com/example/rowtide/rowtide/event/RowSetUtf8PinLaw" = some m.cls := findClass_of_methodNamed Bd.named
  have hnm := (name_of_methodNamed Bd.named Bd.method).1
  have hlk := Bd.notSynchronized
  have X0 : Stand p l e (⟨4, 0, 0, 53⟩ : Room) s m #[(.ref x0), (.int 1), (.int 4), (.ref yb), (.int 0)] below meth c s₁ [] 0 0 := Stand.of_body Bd
  have e0 : s₁.heap = h0 := by rw [← hh, Bd.state]; rfl
  have N0 := Fr.nil n0
  refine own_start (Q := own_ck_0_4_1_Q Z x0 yb t kb ky b0 b1 b2 b3 zCS fm cs h0 n0) (own_ck_0_4_1_ef m x0 yb) ?_
  refine own_g (mkF m 7 #[.val (.ref x0), .val (.int 1), .val (.int 4), .val (.ref yb), .val (.int 0)] [(.int 1), (.ref x0)]) (fun _ q => XS.iloadN X0.here hx rfl (hb hby own_d17_0) rfl (XS.iloadN X0.here hx rfl (hb hby own_d17_1) rfl (XS.icmpNo X0.here hx rfl (hb hby own_d17_2) rfl (tlt (by decide : (1 : Int32) < (4 : Int32))).2.1 (XS.aloadN X0.here hx rfl (hb hby own_d17_5) rfl rfl (XS.iloadN X0.here hx rfl (hb hby own_d17_6) rfl q))))) ?_
  refine own_callV X0 hx hZ (y := own_y14) (z := own_y14) hown (own_h hw 137 rfl) (own_h hw 138 rfl) (own_nf (own_h hw 140 rfl)) (own_h hw 140 rfl) (own_h hw 139 rfl) (own_h hw 141 rfl) (own_h hw 66 rfl) (by decide) E_x (own_ch_4_1 l Z a0 hw [] x0 t kb b0 b1 b2 b3 zCS fm cs h0 n0 Z0 S_CS nCS S_SF hfm S_UT S_IN E_cs O0 E_x V_x C_x K_t hbd) (by decide) (by decide) e0 (g := (mkF m 7 #[.val (.ref x0), .val (.int 1), .val (.int 4), .val (.ref yb), .val (.int 0)] [(.int 1), (.ref x0)])) rfl (by rw [hml]; rfl) (argsL := [(.int 1)]) (rest := []) (lenOf own_pd__28I_29C rfl) rfl (W := 0) (Nat.le_of_eq rfl) (hb hby own_d17_7) rfl (by decide) (by decide) ?_
  rintro rv1 T1 L1 X1 ⟨rfl, Nq1, eh1⟩
  have N1 := Fr.app N0 Nq1
  refine own_g (mkF m 15 #[.val (.ref x0), .val (.int 1), .val (.int 4), .val (.ref yb), .val (.int 0)] [(.int 1), (.ref yb), (.int b1)]) (fun _ q => XS.aloadN X1.here hx rfl (hb hby own_d17_10) rfl rfl (XS.iload X1.here hx rfl (hb hby own_d17_11) rfl (XS.iloadN X1.here hx rfl (hb hby own_d17_13) rfl (XS.iadd X1.here hx rfl (hb hby own_d17_14) rfl q)))) ?_
  obtain ⟨cl2, Ar2, q2, S2, P2, H2, G2⟩ := id A_y
  have hin2 : ¬ ((1 : Int32) < 0 ∨ cl2.slots.size ≤ ((1 : Int32)).toNatClampNeg) := inb_of S2 ⟨by decide, by decide⟩
  refine own_by (g' := (mkF m 16 #[.val (.ref x0), .val (.int 1), .val (.int 4), .val (.ref yb), .val (.int 0)] [(.int b1), (.int b1)])) (fun _ kq => X1.baloadBytes hx (j := (1 : Int32)) (v := (.int b1)) (by rw [eh1]; exact Ar2.1) (State.isArrayOf_alike hZ.alike Ar2.2.1) Ar2.2.2 hin2 (H2.at hin2 rfl) (g := (mkF m 15 #[.val (.ref x0), .val (.int 1), .val (.int 4), .val (.ref yb), .val (.int 0)] [(.int 1), (.ref yb), (.int b1)])) rfl rfl (hb hby own_d17_15) _ kq) ?_
  refine own_g (mkF m 25 #[.val (.ref x0), .val (.int 1), .val (.int 4), .val (.ref yb), .val (.int 0)] [(.int 1)]) (fun _ q => XS.i2c X1.here hx rfl (hb hby own_d17_16) rfl (XS.icmpNo X1.here hx rfl (hb hby own_d17_17) rfl (teq (own_c7 hbd).2.symm).2 (XS.iconst X1.here hx rfl (hb hby own_d17_20) (XS.goto X1.here hx rfl (pc0 := 21) (pc' := 25) rfl (hb hby own_d17_21) (by decide) (by decide) q)))) ?_
  exact own_end X1 (v := some (.int (nar .boolean (1 : Int32)))) (fun h => by rw [Bd.returns] at h; cases h) hlk (fun hr => retN X1 hx (t := .boolean) Bd.returns (by simp) (hb hby own_d17_25) hr) (by rw [eh1]; exact ⟨rfl, N1, rfl⟩) (by decide) (by decide)
theorem own_ck_0_4_2_ef (m : MethodId) (x0 : Addr) (yb : Addr) : entryFrame m #[(.ref x0), (.int 2), (.int 4), (.ref yb), (.int 0)] 5 = mkF m 0 #[.val (.ref x0), .val (.int 2), .val (.int 4), .val (.ref yb), .val (.int 0)] [] := by  first | (simp [entryFrame, mkF, argsToLocals, Value.category]; done) | rfl
def own_ck_0_4_2_Q (Z : State) (x0 : Addr) (yb : Addr) (t : Addr) (kb : ClassId) (ky : ClassId) (b0 : Int32) (b1 : Int32) (b2 : Int32) (b3 : Int32) (zCS : Int32) (fm : Value) (cs : Addr) (h0 : Heap) (n0 : Nat) (v : Option Value) (h : Heap) (L : List Loc) : Prop := v = some (.int 1) ∧ Fr n0 L ∧ h = h0
set_option maxRecDepth 65536 in
set_option maxHeartbeats 40000000 in
theorem own_ck_0_4_2 (l : Launch) (Z : State) (a0 : Array Value) (hw : ∀ d ∈ tables_1, d.before a0 Z = true) (ws : List Jvm.Cond) (x0 : Addr) (yb : Addr) (t : Addr) (kb : ClassId) (ky : ClassId) (b0 : Int32) (b1 : Int32) (b2 : Int32) (b3 : Int32) (zCS : Int32) (fm : Value) (cs : Addr) (h0 : Heap) (n0 : Nat) (Z0 : n0 ≤ h0.size) (S_CS : own_A0 Z zCS) (nCS : ¬ zCS = 0) (S_SF : own_A2 Z fm) (hfm : fm.isRef = true) (S_UT : own_A1 Z cs) (S_IN : own_A3 Z cs) (E_cs : Exa Z Z.heap cs "sun/nio/cs/UTF_8") (O0 : Old Z n0 h0) (E_x : Exa Z h0 x0 "java/lang/String") (V_x : Fld Z h0 x0 "java/lang/String" "value" "[B" (.ref t)) (C_x : Fld Z h0 x0 "java/lang/String" "coder" "B" (.int 0)) (K_t : Arv Z h0 t kb .byte (4 : Int32) [(.int b0), (.int b1), (.int b2), (.int b3)] (.int 0)) (A_y : Arv Z h0 yb ky .byte (4 : Int32) [(.int b0), (.int b1), (.int b2), (.int b3)] (.int 0)) (hbd : ¬ b2 < 0 ∧ ¬ (127 : Int32) < b2) :
    MetFree l own_y10 (head1 (Jvm.Cond.code own_y10 method_2_code 5 (some .boolean) :: ws) (⟨4, 0, 0, 53⟩ : Room)) (fun aa U => aa = #[(.ref x0), (.int 2), (.int 4), (.ref yb), (.int 0)] ∧ Z.Warmed39 U.vm ∧ U.heap = h0) (fun _ _ _ _ _ => True) (fun _ U o U' => ∃ v L, o = .returned v ∧ own_ck_0_4_2_Q Z x0 yb t kb ky b0 b1 b2 b3 zCS fm cs h0 n0 v U'.heap L ∧ FrameEnd U o U' L (⟨4, 0, 0, 53⟩ : Room).cells (⟨4, 0, 0, 53⟩ : Room).slots) := by
  refine MetFree.of_bodySF (plainFor_of_name own_pn_com_example_rowtide_rowtide_event_RowSetUtf8PinLaw) hisR ?_
  intro p e s m args below meth c s₁ Bd hml0 hP hK
  obtain ⟨rfl, hZ, hh⟩ := hP
  have hx := Bd.exec
  have hby := Bd.bytes
  have hml : c.maxLocals = 5 := hml0
  have hown : s.vm.findClass "com/example/rowtide/rowtide/event/RowSetUtf8PinLaw" = some m.cls := findClass_of_methodNamed Bd.named
  have hnm := (name_of_methodNamed Bd.named Bd.method).1
  have hlk := Bd.notSynchronized
  have X0 : Stand p l e (⟨4, 0, 0, 53⟩ : Room) s m #[(.ref x0), (.int 2), (.int 4), (.ref yb), (.int 0)] below meth c s₁ [] 0 0 := Stand.of_body Bd
  have e0 : s₁.heap = h0 := by rw [← hh, Bd.state]; rfl
  have N0 := Fr.nil n0
  refine own_start (Q := own_ck_0_4_2_Q Z x0 yb t kb ky b0 b1 b2 b3 zCS fm cs h0 n0) (own_ck_0_4_2_ef m x0 yb) ?_
  refine own_g (mkF m 7 #[.val (.ref x0), .val (.int 2), .val (.int 4), .val (.ref yb), .val (.int 0)] [(.int 2), (.ref x0)]) (fun _ q => XS.iloadN X0.here hx rfl (hb hby own_d17_0) rfl (XS.iloadN X0.here hx rfl (hb hby own_d17_1) rfl (XS.icmpNo X0.here hx rfl (hb hby own_d17_2) rfl (tlt (by decide : (2 : Int32) < (4 : Int32))).2.1 (XS.aloadN X0.here hx rfl (hb hby own_d17_5) rfl rfl (XS.iloadN X0.here hx rfl (hb hby own_d17_6) rfl q))))) ?_
  refine own_callV X0 hx hZ (y := own_y14) (z := own_y14) hown (own_h hw 137 rfl) (own_h hw 138 rfl) (own_nf (own_h hw 140 rfl)) (own_h hw 140 rfl) (own_h hw 139 rfl) (own_h hw 141 rfl) (own_h hw 66 rfl) (by decide) E_x (own_ch_4_2 l Z a0 hw [] x0 t kb b0 b1 b2 b3 zCS fm cs h0 n0 Z0 S_CS nCS S_SF hfm S_UT S_IN E_cs O0 E_x V_x C_x K_t hbd) (by decide) (by decide) e0 (g := (mkF m 7 #[.val (.ref x0), .val (.int 2), .val (.int 4), .val (.ref yb), .val (.int 0)] [(.int 2), (.ref x0)])) rfl (by rw [hml]; rfl) (argsL := [(.int 2)]) (rest := []) (lenOf own_pd__28I_29C rfl) rfl (W := 0) (Nat.le_of_eq rfl) (hb hby own_d17_7) rfl (by decide) (by decide) ?_
  rintro rv1 T1 L1 X1 ⟨rfl, Nq1, eh1⟩
  have N1 := Fr.app N0 Nq1
  refine own_g (mkF m 15 #[.val (.ref x0), .val (.int 2), .val (.int 4), .val (.ref yb), .val (.int 0)] [(.int 2), (.ref yb), (.int b2)]) (fun _ q => XS.aloadN X1.here hx rfl (hb hby own_d17_10) rfl rfl (XS.iload X1.here hx rfl (hb hby own_d17_11) rfl (XS.iloadN X1.here hx rfl (hb hby own_d17_13) rfl (XS.iadd X1.here hx rfl (hb hby own_d17_14) rfl q)))) ?_
  obtain ⟨cl2, Ar2, q2, S2, P2, H2, G2⟩ := id A_y
  have hin2 : ¬ ((2 : Int32) < 0 ∨ cl2.slots.size ≤ ((2 : Int32)).toNatClampNeg) := inb_of S2 ⟨by decide, by decide⟩
  refine own_by (g' := (mkF m 16 #[.val (.ref x0), .val (.int 2), .val (.int 4), .val (.ref yb), .val (.int 0)] [(.int b2), (.int b2)])) (fun _ kq => X1.baloadBytes hx (j := (2 : Int32)) (v := (.int b2)) (by rw [eh1]; exact Ar2.1) (State.isArrayOf_alike hZ.alike Ar2.2.1) Ar2.2.2 hin2 (H2.at hin2 rfl) (g := (mkF m 15 #[.val (.ref x0), .val (.int 2), .val (.int 4), .val (.ref yb), .val (.int 0)] [(.int 2), (.ref yb), (.int b2)])) rfl rfl (hb hby own_d17_15) _ kq) ?_
  refine own_g (mkF m 25 #[.val (.ref x0), .val (.int 2), .val (.int 4), .val (.ref yb), .val (.int 0)] [(.int 1)]) (fun _ q => XS.i2c X1.here hx rfl (hb hby own_d17_16) rfl (XS.icmpNo X1.here hx rfl (hb hby own_d17_17) rfl (teq (own_c7 hbd).2.symm).2 (XS.iconst X1.here hx rfl (hb hby own_d17_20) (XS.goto X1.here hx rfl (pc0 := 21) (pc' := 25) rfl (hb hby own_d17_21) (by decide) (by decide) q)))) ?_
  exact own_end X1 (v := some (.int (nar .boolean (1 : Int32)))) (fun h => by rw [Bd.returns] at h; cases h) hlk (fun hr => retN X1 hx (t := .boolean) Bd.returns (by simp) (hb hby own_d17_25) hr) (by rw [eh1]; exact ⟨rfl, N1, rfl⟩) (by decide) (by decide)
theorem own_ck_0_4_3_ef (m : MethodId) (x0 : Addr) (yb : Addr) : entryFrame m #[(.ref x0), (.int 3), (.int 4), (.ref yb), (.int 0)] 5 = mkF m 0 #[.val (.ref x0), .val (.int 3), .val (.int 4), .val (.ref yb), .val (.int 0)] [] := by  first | (simp [entryFrame, mkF, argsToLocals, Value.category]; done) | rfl
def own_ck_0_4_3_Q (Z : State) (x0 : Addr) (yb : Addr) (t : Addr) (kb : ClassId) (ky : ClassId) (b0 : Int32) (b1 : Int32) (b2 : Int32) (b3 : Int32) (zCS : Int32) (fm : Value) (cs : Addr) (h0 : Heap) (n0 : Nat) (v : Option Value) (h : Heap) (L : List Loc) : Prop := v = some (.int 1) ∧ Fr n0 L ∧ h = h0
set_option maxRecDepth 65536 in
set_option maxHeartbeats 40000000 in
theorem own_ck_0_4_3 (l : Launch) (Z : State) (a0 : Array Value) (hw : ∀ d ∈ tables_1, d.before a0 Z = true) (ws : List Jvm.Cond) (x0 : Addr) (yb : Addr) (t : Addr) (kb : ClassId) (ky : ClassId) (b0 : Int32) (b1 : Int32) (b2 : Int32) (b3 : Int32) (zCS : Int32) (fm : Value) (cs : Addr) (h0 : Heap) (n0 : Nat) (Z0 : n0 ≤ h0.size) (S_CS : own_A0 Z zCS) (nCS : ¬ zCS = 0) (S_SF : own_A2 Z fm) (hfm : fm.isRef = true) (S_UT : own_A1 Z cs) (S_IN : own_A3 Z cs) (E_cs : Exa Z Z.heap cs "sun/nio/cs/UTF_8") (O0 : Old Z n0 h0) (E_x : Exa Z h0 x0 "java/lang/String") (V_x : Fld Z h0 x0 "java/lang/String" "value" "[B" (.ref t)) (C_x : Fld Z h0 x0 "java/lang/String" "coder" "B" (.int 0)) (K_t : Arv Z h0 t kb .byte (4 : Int32) [(.int b0), (.int b1), (.int b2), (.int b3)] (.int 0)) (A_y : Arv Z h0 yb ky .byte (4 : Int32) [(.int b0), (.int b1), (.int b2), (.int b3)] (.int 0)) (hbd : ¬ b3 < 0 ∧ ¬ (127 : Int32) < b3) :
    MetFree l own_y10 (head1 (Jvm.Cond.code own_y10 method_2_code 5 (some .boolean) :: ws) (⟨4, 0, 0, 53⟩ : Room)) (fun aa U => aa = #[(.ref x0), (.int 3), (.int 4), (.ref yb), (.int 0)] ∧ Z.Warmed39 U.vm ∧ U.heap = h0) (fun _ _ _ _ _ => True) (fun _ U o U' => ∃ v L, o = .returned v ∧ own_ck_0_4_3_Q Z x0 yb t kb ky b0 b1 b2 b3 zCS fm cs h0 n0 v U'.heap L ∧ FrameEnd U o U' L (⟨4, 0, 0, 53⟩ : Room).cells (⟨4, 0, 0, 53⟩ : Room).slots) := by
  refine MetFree.of_bodySF (plainFor_of_name own_pn_com_example_rowtide_rowtide_event_RowSetUtf8PinLaw) hisR ?_
  intro p e s m args below meth c s₁ Bd hml0 hP hK
  obtain ⟨rfl, hZ, hh⟩ := hP
  have hx := Bd.exec
  have hby := Bd.bytes
  have hml : c.maxLocals = 5 := hml0
  have hown : s.vm.findClass "com/example/rowtide/rowtide/event/RowSetUtf8PinLaw" = some m.cls := findClass_of_methodNamed Bd.named
  have hnm := (name_of_methodNamed Bd.named Bd.method).1
  have hlk := Bd.notSynchronized
  have X0 : Stand p l e (⟨4, 0, 0, 53⟩ : Room) s m #[(.ref x0), (.int 3), (.int 4), (.ref yb), (.int 0)] below meth c s₁ [] 0 0 := Stand.of_body Bd
  have e0 : s₁.heap = h0 := by rw [← hh, Bd.state]; rfl
  have N0 := Fr.nil n0
  refine own_start (Q := own_ck_0_4_3_Q Z x0 yb t kb ky b0 b1 b2 b3 zCS fm cs h0 n0) (own_ck_0_4_3_ef m x0 yb) ?_
  refine own_g (mkF m 7 #[.val (.ref x0), .val (.int 3), .val (.int 4), .val (.ref yb), .val (.int 0)] [(.int 3), (.ref x0)]) (fun _ q => XS.iloadN X0.here hx rfl (hb hby own_d17_0) rfl (XS.iloadN X0.here hx rfl (hb hby own_d17_1) rfl (XS.icmpNo X0.here hx rfl (hb hby own_d17_2) rfl (tlt (by decide : (3 : Int32) < (4 : Int32))).2.1 (XS.aloadN X0.here hx rfl (hb hby own_d17_5) rfl rfl (XS.iloadN X0.here hx rfl (hb hby own_d17_6) rfl q))))) ?_
  refine own_callV X0 hx hZ (y := own_y14) (z := own_y14) hown (own_h hw 137 rfl) (own_h hw 138 rfl) (own_nf (own_h hw 140 rfl)) (own_h hw 140 rfl) (own_h hw 139 rfl) (own_h hw 141 rfl) (own_h hw 66 rfl) (by decide) E_x (own_ch_4_3 l Z a0 hw [] x0 t kb b0 b1 b2 b3 zCS fm cs h0 n0 Z0 S_CS nCS S_SF hfm S_UT S_IN E_cs O0 E_x V_x C_x K_t hbd) (by decide) (by decide) e0 (g := (mkF m 7 #[.val (.ref x0), .val (.int 3), .val (.int 4), .val (.ref yb), .val (.int 0)] [(.int 3), (.ref x0)])) rfl (by rw [hml]; rfl) (argsL := [(.int 3)]) (rest := []) (lenOf own_pd__28I_29C rfl) rfl (W := 0) (Nat.le_of_eq rfl) (hb hby own_d17_7) rfl (by decide) (by decide) ?_
  rintro rv1 T1 L1 X1 ⟨rfl, Nq1, eh1⟩
  have N1 := Fr.app N0 Nq1
  refine own_g (mkF m 15 #[.val (.ref x0), .val (.int 3), .val (.int 4), .val (.ref yb), .val (.int 0)] [(.int 3), (.ref yb), (.int b3)]) (fun _ q => XS.aloadN X1.here hx rfl (hb hby own_d17_10) rfl rfl (XS.iload X1.here hx rfl (hb hby own_d17_11) rfl (XS.iloadN X1.here hx rfl (hb hby own_d17_13) rfl (XS.iadd X1.here hx rfl (hb hby own_d17_14) rfl q)))) ?_
  obtain ⟨cl2, Ar2, q2, S2, P2, H2, G2⟩ := id A_y
  have hin2 : ¬ ((3 : Int32) < 0 ∨ cl2.slots.size ≤ ((3 : Int32)).toNatClampNeg) := inb_of S2 ⟨by decide, by decide⟩
  refine own_by (g' := (mkF m 16 #[.val (.ref x0), .val (.int 3), .val (.int 4), .val (.ref yb), .val (.int 0)] [(.int b3), (.int b3)])) (fun _ kq => X1.baloadBytes hx (j := (3 : Int32)) (v := (.int b3)) (by rw [eh1]; exact Ar2.1) (State.isArrayOf_alike hZ.alike Ar2.2.1) Ar2.2.2 hin2 (H2.at hin2 rfl) (g := (mkF m 15 #[.val (.ref x0), .val (.int 3), .val (.int 4), .val (.ref yb), .val (.int 0)] [(.int 3), (.ref yb), (.int b3)])) rfl rfl (hb hby own_d17_15) _ kq) ?_
  refine own_g (mkF m 25 #[.val (.ref x0), .val (.int 3), .val (.int 4), .val (.ref yb), .val (.int 0)] [(.int 1)]) (fun _ q => XS.i2c X1.here hx rfl (hb hby own_d17_16) rfl (XS.icmpNo X1.here hx rfl (hb hby own_d17_17) rfl (teq (own_c7 hbd).2.symm).2 (XS.iconst X1.here hx rfl (hb hby own_d17_20) (XS.goto X1.here hx rfl (pc0 := 21) (pc' := 25) rfl (hb hby own_d17_21) (by decide) (by decide) q)))) ?_
  exact own_end X1 (v := some (.int (nar .boolean (1 : Int32)))) (fun h => by rw [Bd.returns] at h; cases h) hlk (fun hr => retN X1 hx (t := .boolean) Bd.returns (by simp) (hb hby own_d17_25) hr) (by rw [eh1]; exact ⟨rfl, N1, rfl⟩) (by decide) (by decide)
theorem own_ck_1_1_0_ef (m : MethodId) (x0 : Addr) (yb : Addr) : entryFrame m #[(.ref x0), (.int 0), (.int 1), (.ref yb), (.int 1)] 5 = mkF m 0 #[.val (.ref x0), .val (.int 0), .val (.int 1), .val (.ref yb), .val (.int 1)] [] := by  first | (simp [entryFrame, mkF, argsToLocals, Value.category]; done) | rfl
def own_ck_1_1_0_Q (Z : State) (x0 : Addr) (yb : Addr) (t : Addr) (kb : ClassId) (ky : ClassId) (b0 : Int32) (b1 : Int32) (b2 : Int32) (b3 : Int32) (zCS : Int32) (fm : Value) (cs : Addr) (h0 : Heap) (n0 : Nat) (v : Option Value) (h : Heap) (L : List Loc) : Prop := v = some (.int 1) ∧ Fr n0 L ∧ h = h0
set_option maxRecDepth 65536 in
set_option maxHeartbeats 40000000 in
theorem own_ck_1_1_0 (l : Launch) (Z : State) (a0 : Array Value) (hw : ∀ d ∈ tables_1, d.before a0 Z = true) (ws : List Jvm.Cond) (x0 : Addr) (yb : Addr) (t : Addr) (kb : ClassId) (ky : ClassId) (b0 : Int32) (b1 : Int32) (b2 : Int32) (b3 : Int32) (zCS : Int32) (fm : Value) (cs : Addr) (h0 : Heap) (n0 : Nat) (Z0 : n0 ≤ h0.size) (S_CS : own_A0 Z zCS) (nCS : ¬ zCS = 0) (S_SF : own_A2 Z fm) (hfm : fm.isRef = true) (S_UT : own_A1 Z cs) (S_IN : own_A3 Z cs) (E_cs : Exa Z Z.heap cs "sun/nio/cs/UTF_8") (O0 : Old Z n0 h0) (E_x : Exa Z h0 x0 "java/lang/String") (V_x : Fld Z h0 x0 "java/lang/String" "value" "[B" (.ref t)) (C_x : Fld Z h0 x0 "java/lang/String" "coder" "B" (.int 0)) (K_t : Arv Z h0 t kb .byte (1 : Int32) [(.int b1)] (.int 0)) (A_y : Arv Z h0 yb ky .byte (4 : Int32) [(.int b0), (.int b1), (.int b2), (.int b3)] (.int 0)) (hbd : ¬ b1 < 0 ∧ ¬ (127 : Int32) < b1) :
    MetFree l own_y10 (head1 (Jvm.Cond.code own_y10 method_2_code 5 (some .boolean) :: ws) (⟨4, 0, 0, 53⟩ : Room)) (fun aa U => aa = #[(.ref x0), (.int 0), (.int 1), (.ref yb), (.int 1)] ∧ Z.Warmed39 U.vm ∧ U.heap = h0) (fun _ _ _ _ _ => True) (fun _ U o U' => ∃ v L, o = .returned v ∧ own_ck_1_1_0_Q Z x0 yb t kb ky b0 b1 b2 b3 zCS fm cs h0 n0 v U'.heap L ∧ FrameEnd U o U' L (⟨4, 0, 0, 53⟩ : Room).cells (⟨4, 0, 0, 53⟩ : Room).slots) := by
  refine MetFree.of_bodySF (plainFor_of_name own_pn_com_example_rowtide_rowtide_event_RowSetUtf8PinLaw) hisR ?_
  intro p e s m args below meth c s₁ Bd hml0 hP hK
  obtain ⟨rfl, hZ, hh⟩ := hP
  have hx := Bd.exec
  have hby := Bd.bytes
  have hml : c.maxLocals = 5 := hml0
  have hown : s.vm.findClass "com/example/rowtide/rowtide/event/RowSetUtf8PinLaw" = some m.cls := findClass_of_methodNamed Bd.named
  have hnm := (name_of_methodNamed Bd.named Bd.method).1
  have hlk := Bd.notSynchronized
  have X0 : Stand p l e (⟨4, 0, 0, 53⟩ : Room) s m #[(.ref x0), (.int 0), (.int 1), (.ref yb), (.int 1)] below meth c s₁ [] 0 0 := Stand.of_body Bd
  have e0 : s₁.heap = h0 := by rw [← hh, Bd.state]; rfl
  have N0 := Fr.nil n0
  refine own_start (Q := own_ck_1_1_0_Q Z x0 yb t kb ky b0 b1 b2 b3 zCS fm cs h0 n0) (own_ck_1_1_0_ef m x0 yb) ?_
  refine own_g (mkF m 7 #[.val (.ref x0), .val (.int 0), .val (.int 1), .val (.ref yb), .val (.int 1)] [(.int 0), (.ref x0)]) (fun _ q => XS.iloadN X0.here hx rfl (hb hby own_d17_0) rfl (XS.iloadN X0.here hx rfl (hb hby own_d17_1) rfl (XS.icmpNo X0.here hx rfl (hb hby own_d17_2) rfl (tlt (by decide : (0 : Int32) < (1 : Int32))).2.1 (XS.aloadN X0.here hx rfl (hb hby own_d17_5) rfl rfl (XS.iloadN X0.here hx rfl (hb hby own_d17_6) rfl q))))) ?_
  refine own_callV X0 hx hZ (y := own_y14) (z := own_y14) hown (own_h hw 137 rfl) (own_h hw 138 rfl) (own_nf (own_h hw 140 rfl)) (own_h hw 140 rfl) (own_h hw 139 rfl) (own_h hw 141 rfl) (own_h hw 66 rfl) (by decide) E_x (own_ch_1_0 l Z a0 hw [] x0 t kb b1 zCS fm cs h0 n0 Z0 S_CS nCS S_SF hfm S_UT S_IN E_cs O0 E_x V_x C_x K_t hbd) (by decide) (by decide) e0 (g := (mkF m 7 #[.val (.ref x0), .val (.int 0), .val (.int 1), .val (.ref yb), .val (.int 1)] [(.int 0), (.ref x0)])) rfl (by rw [hml]; rfl) (argsL := [(.int 0)]) (rest := []) (lenOf own_pd__28I_29C rfl) rfl (W := 0) (Nat.le_of_eq rfl) (hb hby own_d17_7) rfl (by decide) (by decide) ?_
  rintro rv1 T1 L1 X1 ⟨rfl, Nq1, eh1⟩
  have N1 := Fr.app N0 Nq1
  refine own_g (mkF m 15 #[.val (.ref x0), .val (.int 0), .val (.int 1), .val (.ref yb), .val (.int 1)] [(.int 1), (.ref yb), (.int b1)]) (fun _ q => XS.aloadN X1.here hx rfl (hb hby own_d17_10) rfl rfl (XS.iload X1.here hx rfl (hb hby own_d17_11) rfl (XS.iloadN X1.here hx rfl (hb hby own_d17_13) rfl (XS.iadd X1.here hx rfl (hb hby own_d17_14) rfl q)))) ?_
  obtain ⟨cl2, Ar2, q2, S2, P2, H2, G2⟩ := id A_y
  have hin2 : ¬ ((1 : Int32) < 0 ∨ cl2.slots.size ≤ ((1 : Int32)).toNatClampNeg) := inb_of S2 ⟨by decide, by decide⟩
  refine own_by (g' := (mkF m 16 #[.val (.ref x0), .val (.int 0), .val (.int 1), .val (.ref yb), .val (.int 1)] [(.int b1), (.int b1)])) (fun _ kq => X1.baloadBytes hx (j := (1 : Int32)) (v := (.int b1)) (by rw [eh1]; exact Ar2.1) (State.isArrayOf_alike hZ.alike Ar2.2.1) Ar2.2.2 hin2 (H2.at hin2 rfl) (g := (mkF m 15 #[.val (.ref x0), .val (.int 0), .val (.int 1), .val (.ref yb), .val (.int 1)] [(.int 1), (.ref yb), (.int b1)])) rfl rfl (hb hby own_d17_15) _ kq) ?_
  refine own_g (mkF m 25 #[.val (.ref x0), .val (.int 0), .val (.int 1), .val (.ref yb), .val (.int 1)] [(.int 1)]) (fun _ q => XS.i2c X1.here hx rfl (hb hby own_d17_16) rfl (XS.icmpNo X1.here hx rfl (hb hby own_d17_17) rfl (teq (own_c7 hbd).2.symm).2 (XS.iconst X1.here hx rfl (hb hby own_d17_20) (XS.goto X1.here hx rfl (pc0 := 21) (pc' := 25) rfl (hb hby own_d17_21) (by decide) (by decide) q)))) ?_
  exact own_end X1 (v := some (.int (nar .boolean (1 : Int32)))) (fun h => by rw [Bd.returns] at h; cases h) hlk (fun hr => retN X1 hx (t := .boolean) Bd.returns (by simp) (hb hby own_d17_25) hr) (by rw [eh1]; exact ⟨rfl, N1, rfl⟩) (by decide) (by decide)
theorem own_ck_1_2_0_ef (m : MethodId) (x0 : Addr) (yb : Addr) : entryFrame m #[(.ref x0), (.int 0), (.int 2), (.ref yb), (.int 1)] 5 = mkF m 0 #[.val (.ref x0), .val (.int 0), .val (.int 2), .val (.ref yb), .val (.int 1)] [] := by  first | (simp [entryFrame, mkF, argsToLocals, Value.category]; done) | rfl
def own_ck_1_2_0_Q (Z : State) (x0 : Addr) (yb : Addr) (t : Addr) (kb : ClassId) (ky : ClassId) (b0 : Int32) (b1 : Int32) (b2 : Int32) (b3 : Int32) (zCS : Int32) (fm : Value) (cs : Addr) (h0 : Heap) (n0 : Nat) (v : Option Value) (h : Heap) (L : List Loc) : Prop := v = some (.int 1) ∧ Fr n0 L ∧ h = h0
set_option maxRecDepth 65536 in
set_option maxHeartbeats 40000000 in
theorem own_ck_1_2_0 (l : Launch) (Z : State) (a0 : Array Value) (hw : ∀ d ∈ tables_1, d.before a0 Z = true) (ws : List Jvm.Cond) (x0 : Addr) (yb : Addr) (t : Addr) (kb : ClassId) (ky : ClassId) (b0 : Int32) (b1 : Int32) (b2 : Int32) (b3 : Int32) (zCS : Int32) (fm : Value) (cs : Addr) (h0 : Heap) (n0 : Nat) (Z0 : n0 ≤ h0.size) (S_CS : own_A0 Z zCS) (nCS : ¬ zCS = 0) (S_SF : own_A2 Z fm) (hfm : fm.isRef = true) (S_UT : own_A1 Z cs) (S_IN : own_A3 Z cs) (E_cs : Exa Z Z.heap cs "sun/nio/cs/UTF_8") (O0 : Old Z n0 h0) (E_x : Exa Z h0 x0 "java/lang/String") (V_x : Fld Z h0 x0 "java/lang/String" "value" "[B" (.ref t)) (C_x : Fld Z h0 x0 "java/lang/String" "coder" "B" (.int 0)) (K_t : Arv Z h0 t kb .byte (2 : Int32) [(.int b1), (.int b2)] (.int 0)) (A_y : Arv Z h0 yb ky .byte (4 : Int32) [(.int b0), (.int b1), (.int b2), (.int b3)] (.int 0)) (hbd : ¬ b1 < 0 ∧ ¬ (127 : Int32) < b1) :
    MetFree l own_y10 (head1 (Jvm.Cond.code own_y10 method_2_code 5 (some .boolean) :: ws) (⟨4, 0, 0, 53⟩ : Room)) (fun aa U => aa = #[(.ref x0), (.int 0), (.int 2), (.ref yb), (.int 1)] ∧ Z.Warmed39 U.vm ∧ U.heap = h0) (fun _ _ _ _ _ => True) (fun _ U o U' => ∃ v L, o = .returned v ∧ own_ck_1_2_0_Q Z x0 yb t kb ky b0 b1 b2 b3 zCS fm cs h0 n0 v U'.heap L ∧ FrameEnd U o U' L (⟨4, 0, 0, 53⟩ : Room).cells (⟨4, 0, 0, 53⟩ : Room).slots) := by
  refine MetFree.of_bodySF (plainFor_of_name own_pn_com_example_rowtide_rowtide_event_RowSetUtf8PinLaw) hisR ?_
  intro p e s m args below meth c s₁ Bd hml0 hP hK
  obtain ⟨rfl, hZ, hh⟩ := hP
  have hx := Bd.exec
  have hby := Bd.bytes
  have hml : c.maxLocals = 5 := hml0
  have hown : s.vm.findClass "com/example/rowtide/rowtide/event/RowSetUtf8PinLaw" = some m.cls := findClass_of_methodNamed Bd.named
  have hnm := (name_of_methodNamed Bd.named Bd.method).1
  have hlk := Bd.notSynchronized
  have X0 : Stand p l e (⟨4, 0, 0, 53⟩ : Room) s m #[(.ref x0), (.int 0), (.int 2), (.ref yb), (.int 1)] below meth c s₁ [] 0 0 := Stand.of_body Bd
  have e0 : s₁.heap = h0 := by rw [← hh, Bd.state]; rfl
  have N0 := Fr.nil n0
  refine own_start (Q := own_ck_1_2_0_Q Z x0 yb t kb ky b0 b1 b2 b3 zCS fm cs h0 n0) (own_ck_1_2_0_ef m x0 yb) ?_
  refine own_g (mkF m 7 #[.val (.ref x0), .val (.int 0), .val (.int 2), .val (.ref yb), .val (.int 1)] [(.int 0), (.ref x0)]) (fun _ q => XS.iloadN X0.here hx rfl (hb hby own_d17_0) rfl (XS.iloadN X0.here hx rfl (hb hby own_d17_1) rfl (XS.icmpNo X0.here hx rfl (hb hby own_d17_2) rfl (tlt (by decide : (0 : Int32) < (2 : Int32))).2.1 (XS.aloadN X0.here hx rfl (hb hby own_d17_5) rfl rfl (XS.iloadN X0.here hx rfl (hb hby own_d17_6) rfl q))))) ?_
  refine own_callV X0 hx hZ (y := own_y14) (z := own_y14) hown (own_h hw 137 rfl) (own_h hw 138 rfl) (own_nf (own_h hw 140 rfl)) (own_h hw 140 rfl) (own_h hw 139 rfl) (own_h hw 141 rfl) (own_h hw 66 rfl) (by decide) E_x (own_ch_2_0 l Z a0 hw [] x0 t kb b1 b2 zCS fm cs h0 n0 Z0 S_CS nCS S_SF hfm S_UT S_IN E_cs O0 E_x V_x C_x K_t hbd) (by decide) (by decide) e0 (g := (mkF m 7 #[.val (.ref x0), .val (.int 0), .val (.int 2), .val (.ref yb), .val (.int 1)] [(.int 0), (.ref x0)])) rfl (by rw [hml]; rfl) (argsL := [(.int 0)]) (rest := []) (lenOf own_pd__28I_29C rfl) rfl (W := 0) (Nat.le_of_eq rfl) (hb hby own_d17_7) rfl (by decide) (by decide) ?_
  rintro rv1 T1 L1 X1 ⟨rfl, Nq1, eh1⟩
  have N1 := Fr.app N0 Nq1
  refine own_g (mkF m 15 #[.val (.ref x0), .val (.int 0), .val (.int 2), .val (.ref yb), .val (.int 1)] [(.int 1), (.ref yb), (.int b1)]) (fun _ q => XS.aloadN X1.here hx rfl (hb hby own_d17_10) rfl rfl (XS.iload X1.here hx rfl (hb hby own_d17_11) rfl (XS.iloadN X1.here hx rfl (hb hby own_d17_13) rfl (XS.iadd X1.here hx rfl (hb hby own_d17_14) rfl q)))) ?_
  obtain ⟨cl2, Ar2, q2, S2, P2, H2, G2⟩ := id A_y
  have hin2 : ¬ ((1 : Int32) < 0 ∨ cl2.slots.size ≤ ((1 : Int32)).toNatClampNeg) := inb_of S2 ⟨by decide, by decide⟩
  refine own_by (g' := (mkF m 16 #[.val (.ref x0), .val (.int 0), .val (.int 2), .val (.ref yb), .val (.int 1)] [(.int b1), (.int b1)])) (fun _ kq => X1.baloadBytes hx (j := (1 : Int32)) (v := (.int b1)) (by rw [eh1]; exact Ar2.1) (State.isArrayOf_alike hZ.alike Ar2.2.1) Ar2.2.2 hin2 (H2.at hin2 rfl) (g := (mkF m 15 #[.val (.ref x0), .val (.int 0), .val (.int 2), .val (.ref yb), .val (.int 1)] [(.int 1), (.ref yb), (.int b1)])) rfl rfl (hb hby own_d17_15) _ kq) ?_
  refine own_g (mkF m 25 #[.val (.ref x0), .val (.int 0), .val (.int 2), .val (.ref yb), .val (.int 1)] [(.int 1)]) (fun _ q => XS.i2c X1.here hx rfl (hb hby own_d17_16) rfl (XS.icmpNo X1.here hx rfl (hb hby own_d17_17) rfl (teq (own_c7 hbd).2.symm).2 (XS.iconst X1.here hx rfl (hb hby own_d17_20) (XS.goto X1.here hx rfl (pc0 := 21) (pc' := 25) rfl (hb hby own_d17_21) (by decide) (by decide) q)))) ?_
  exact own_end X1 (v := some (.int (nar .boolean (1 : Int32)))) (fun h => by rw [Bd.returns] at h; cases h) hlk (fun hr => retN X1 hx (t := .boolean) Bd.returns (by simp) (hb hby own_d17_25) hr) (by rw [eh1]; exact ⟨rfl, N1, rfl⟩) (by decide) (by decide)
theorem own_ck_1_2_1_ef (m : MethodId) (x0 : Addr) (yb : Addr) : entryFrame m #[(.ref x0), (.int 1), (.int 2), (.ref yb), (.int 1)] 5 = mkF m 0 #[.val (.ref x0), .val (.int 1), .val (.int 2), .val (.ref yb), .val (.int 1)] [] := by  first | (simp [entryFrame, mkF, argsToLocals, Value.category]; done) | rfl
def own_ck_1_2_1_Q (Z : State) (x0 : Addr) (yb : Addr) (t : Addr) (kb : ClassId) (ky : ClassId) (b0 : Int32) (b1 : Int32) (b2 : Int32) (b3 : Int32) (zCS : Int32) (fm : Value) (cs : Addr) (h0 : Heap) (n0 : Nat) (v : Option Value) (h : Heap) (L : List Loc) : Prop := v = some (.int 1) ∧ Fr n0 L ∧ h = h0
set_option maxRecDepth 65536 in
set_option maxHeartbeats 40000000 in
theorem own_ck_1_2_1 (l : Launch) (Z : State) (a0 : Array Value) (hw : ∀ d ∈ tables_1, d.before a0 Z = true) (ws : List Jvm.Cond) (x0 : Addr) (yb : Addr) (t : Addr) (kb : ClassId) (ky : ClassId) (b0 : Int32) (b1 : Int32) (b2 : Int32) (b3 : Int32) (zCS : Int32) (fm : Value) (cs : Addr) (h0 : Heap) (n0 : Nat) (Z0 : n0 ≤ h0.size) (S_CS : own_A0 Z zCS) (nCS : ¬ zCS = 0) (S_SF : own_A2 Z fm) (hfm : fm.isRef = true) (S_UT : own_A1 Z cs) (S_IN : own_A3 Z cs) (E_cs : Exa Z Z.heap cs "sun/nio/cs/UTF_8") (O0 : Old Z n0 h0) (E_x : Exa Z h0 x0 "java/lang/String") (V_x : Fld Z h0 x0 "java/lang/String" "value" "[B" (.ref t)) (C_x : Fld Z h0 x0 "java/lang/String" "coder" "B" (.int 0)) (K_t : Arv Z h0 t kb .byte (2 : Int32) [(.int b1), (.int b2)] (.int 0)) (A_y : Arv Z h0 yb ky .byte (4 : Int32) [(.int b0), (.int b1), (.int b2), (.int b3)] (.int 0)) (hbd : ¬ b2 < 0 ∧ ¬ (127 : Int32) < b2) :
    MetFree l own_y10 (head1 (Jvm.Cond.code own_y10 method_2_code 5 (some .boolean) :: ws) (⟨4, 0, 0, 53⟩ : Room)) (fun aa U => aa = #[(.ref x0), (.int 1), (.int 2), (.ref yb), (.int 1)] ∧ Z.Warmed39 U.vm ∧ U.heap = h0) (fun _ _ _ _ _ => True) (fun _ U o U' => ∃ v L, o = .returned v ∧ own_ck_1_2_1_Q Z x0 yb t kb ky b0 b1 b2 b3 zCS fm cs h0 n0 v U'.heap L ∧ FrameEnd U o U' L (⟨4, 0, 0, 53⟩ : Room).cells (⟨4, 0, 0, 53⟩ : Room).slots) := by
  refine MetFree.of_bodySF (plainFor_of_name own_pn_com_example_rowtide_rowtide_event_RowSetUtf8PinLaw) hisR ?_
  intro p e s m args below meth c s₁ Bd hml0 hP hK
  obtain ⟨rfl, hZ, hh⟩ := hP
  have hx := Bd.exec
  have hby := Bd.bytes
  have hml : c.maxLocals = 5 := hml0
  have hown : s.vm.findClass "com/example/rowtide/rowtide/event/RowSetUtf8PinLaw" = some m.cls := findClass_of_methodNamed Bd.named
  have hnm := (name_of_methodNamed Bd.named Bd.method).1
  have hlk := Bd.notSynchronized
  have X0 : Stand p l e (⟨4, 0, 0, 53⟩ : Room) s m #[(.ref x0), (.int 1), (.int 2), (.ref yb), (.int 1)] below meth c s₁ [] 0 0 := Stand.of_body Bd
  have e0 : s₁.heap = h0 := by rw [← hh, Bd.state]; rfl
  have N0 := Fr.nil n0
  refine own_start (Q := own_ck_1_2_1_Q Z x0 yb t kb ky b0 b1 b2 b3 zCS fm cs h0 n0) (own_ck_1_2_1_ef m x0 yb) ?_
  refine own_g (mkF m 7 #[.val (.ref x0), .val (.int 1), .val (.int 2), .val (.ref yb), .val (.int 1)] [(.int 1), (.ref x0)]) (fun _ q => XS.iloadN X0.here hx rfl (hb hby own_d17_0) rfl (XS.iloadN X0.here hx rfl (hb hby own_d17_1) rfl (XS.icmpNo X0.here hx rfl (hb hby own_d17_2) rfl (tlt (by decide : (1 : Int32) < (2 : Int32))).2.1 (XS.aloadN X0.here hx rfl (hb hby own_d17_5) rfl rfl (XS.iloadN X0.here hx rfl (hb hby own_d17_6) rfl q))))) ?_
  refine own_callV X0 hx hZ (y := own_y14) (z := own_y14) hown (own_h hw 137 rfl) (own_h hw 138 rfl) (own_nf (own_h hw 140 rfl)) (own_h hw 140 rfl) (own_h hw 139 rfl) (own_h hw 141 rfl) (own_h hw 66 rfl) (by decide) E_x (own_ch_2_1 l Z a0 hw [] x0 t kb b1 b2 zCS fm cs h0 n0 Z0 S_CS nCS S_SF hfm S_UT S_IN E_cs O0 E_x V_x C_x K_t hbd) (by decide) (by decide) e0 (g := (mkF m 7 #[.val (.ref x0), .val (.int 1), .val (.int 2), .val (.ref yb), .val (.int 1)] [(.int 1), (.ref x0)])) rfl (by rw [hml]; rfl) (argsL := [(.int 1)]) (rest := []) (lenOf own_pd__28I_29C rfl) rfl (W := 0) (Nat.le_of_eq rfl) (hb hby own_d17_7) rfl (by decide) (by decide) ?_
  rintro rv1 T1 L1 X1 ⟨rfl, Nq1, eh1⟩
  have N1 := Fr.app N0 Nq1
  refine own_g (mkF m 15 #[.val (.ref x0), .val (.int 1), .val (.int 2), .val (.ref yb), .val (.int 1)] [(.int 2), (.ref yb), (.int b2)]) (fun _ q => XS.aloadN X1.here hx rfl (hb hby own_d17_10) rfl rfl (XS.iload X1.here hx rfl (hb hby own_d17_11) rfl (XS.iloadN X1.here hx rfl (hb hby own_d17_13) rfl (XS.iadd X1.here hx rfl (hb hby own_d17_14) rfl q)))) ?_
  obtain ⟨cl2, Ar2, q2, S2, P2, H2, G2⟩ := id A_y
  have hin2 : ¬ ((2 : Int32) < 0 ∨ cl2.slots.size ≤ ((2 : Int32)).toNatClampNeg) := inb_of S2 ⟨by decide, by decide⟩
  refine own_by (g' := (mkF m 16 #[.val (.ref x0), .val (.int 1), .val (.int 2), .val (.ref yb), .val (.int 1)] [(.int b2), (.int b2)])) (fun _ kq => X1.baloadBytes hx (j := (2 : Int32)) (v := (.int b2)) (by rw [eh1]; exact Ar2.1) (State.isArrayOf_alike hZ.alike Ar2.2.1) Ar2.2.2 hin2 (H2.at hin2 rfl) (g := (mkF m 15 #[.val (.ref x0), .val (.int 1), .val (.int 2), .val (.ref yb), .val (.int 1)] [(.int 2), (.ref yb), (.int b2)])) rfl rfl (hb hby own_d17_15) _ kq) ?_
  refine own_g (mkF m 25 #[.val (.ref x0), .val (.int 1), .val (.int 2), .val (.ref yb), .val (.int 1)] [(.int 1)]) (fun _ q => XS.i2c X1.here hx rfl (hb hby own_d17_16) rfl (XS.icmpNo X1.here hx rfl (hb hby own_d17_17) rfl (teq (own_c7 hbd).2.symm).2 (XS.iconst X1.here hx rfl (hb hby own_d17_20) (XS.goto X1.here hx rfl (pc0 := 21) (pc' := 25) rfl (hb hby own_d17_21) (by decide) (by decide) q)))) ?_
  exact own_end X1 (v := some (.int (nar .boolean (1 : Int32)))) (fun h => by rw [Bd.returns] at h; cases h) hlk (fun hr => retN X1 hx (t := .boolean) Bd.returns (by simp) (hb hby own_d17_25) hr) (by rw [eh1]; exact ⟨rfl, N1, rfl⟩) (by decide) (by decide)
theorem own_ck_1_3_0_ef (m : MethodId) (x0 : Addr) (yb : Addr) : entryFrame m #[(.ref x0), (.int 0), (.int 3), (.ref yb), (.int 1)] 5 = mkF m 0 #[.val (.ref x0), .val (.int 0), .val (.int 3), .val (.ref yb), .val (.int 1)] [] := by  first | (simp [entryFrame, mkF, argsToLocals, Value.category]; done) | rfl
def own_ck_1_3_0_Q (Z : State) (x0 : Addr) (yb : Addr) (t : Addr) (kb : ClassId) (ky : ClassId) (b0 : Int32) (b1 : Int32) (b2 : Int32) (b3 : Int32) (zCS : Int32) (fm : Value) (cs : Addr) (h0 : Heap) (n0 : Nat) (v : Option Value) (h : Heap) (L : List Loc) : Prop := v = some (.int 1) ∧ Fr n0 L ∧ h = h0
set_option maxRecDepth 65536 in
set_option maxHeartbeats 40000000 in
theorem own_ck_1_3_0 (l : Launch) (Z : State) (a0 : Array Value) (hw : ∀ d ∈ tables_1, d.before a0 Z = true) (ws : List Jvm.Cond) (x0 : Addr) (yb : Addr) (t : Addr) (kb : ClassId) (ky : ClassId) (b0 : Int32) (b1 : Int32) (b2 : Int32) (b3 : Int32) (zCS : Int32) (fm : Value) (cs : Addr) (h0 : Heap) (n0 : Nat) (Z0 : n0 ≤ h0.size) (S_CS : own_A0 Z zCS) (nCS : ¬ zCS = 0) (S_SF : own_A2 Z fm) (hfm : fm.isRef = true) (S_UT : own_A1 Z cs) (S_IN : own_A3 Z cs) (E_cs : Exa Z Z.heap cs "sun/nio/cs/UTF_8") (O0 : Old Z n0 h0) (E_x : Exa Z h0 x0 "java/lang/String") (V_x : Fld Z h0 x0 "java/lang/String" "value" "[B" (.ref t)) (C_x : Fld Z h0 x0 "java/lang/String" "coder" "B" (.int 0)) (K_t : Arv Z h0 t kb .byte (3 : Int32) [(.int b1), (.int b2), (.int b3)] (.int 0)) (A_y : Arv Z h0 yb ky .byte (4 : Int32) [(.int b0), (.int b1), (.int b2), (.int b3)] (.int 0)) (hbd : ¬ b1 < 0 ∧ ¬ (127 : Int32) < b1) :
    MetFree l own_y10 (head1 (Jvm.Cond.code own_y10 method_2_code 5 (some .boolean) :: ws) (⟨4, 0, 0, 53⟩ : Room)) (fun aa U => aa = #[(.ref x0), (.int 0), (.int 3), (.ref yb), (.int 1)] ∧ Z.Warmed39 U.vm ∧ U.heap = h0) (fun _ _ _ _ _ => True) (fun _ U o U' => ∃ v L, o = .returned v ∧ own_ck_1_3_0_Q Z x0 yb t kb ky b0 b1 b2 b3 zCS fm cs h0 n0 v U'.heap L ∧ FrameEnd U o U' L (⟨4, 0, 0, 53⟩ : Room).cells (⟨4, 0, 0, 53⟩ : Room).slots) := by
  refine MetFree.of_bodySF (plainFor_of_name own_pn_com_example_rowtide_rowtide_event_RowSetUtf8PinLaw) hisR ?_
  intro p e s m args below meth c s₁ Bd hml0 hP hK
  obtain ⟨rfl, hZ, hh⟩ := hP
  have hx := Bd.exec
  have hby := Bd.bytes
  have hml : c.maxLocals = 5 := hml0
  have hown : s.vm.findClass "com/example/rowtide/rowtide/event/RowSetUtf8PinLaw" = some m.cls := findClass_of_methodNamed Bd.named
  have hnm := (name_of_methodNamed Bd.named Bd.method).1
  have hlk := Bd.notSynchronized
  have X0 : Stand p l e (⟨4, 0, 0, 53⟩ : Room) s m #[(.ref x0), (.int 0), (.int 3), (.ref yb), (.int 1)] below meth c s₁ [] 0 0 := Stand.of_body Bd
  have e0 : s₁.heap = h0 := by rw [← hh, Bd.state]; rfl
  have N0 := Fr.nil n0
  refine own_start (Q := own_ck_1_3_0_Q Z x0 yb t kb ky b0 b1 b2 b3 zCS fm cs h0 n0) (own_ck_1_3_0_ef m x0 yb) ?_
  refine own_g (mkF m 7 #[.val (.ref x0), .val (.int 0), .val (.int 3), .val (.ref yb), .val (.int 1)] [(.int 0), (.ref x0)]) (fun _ q => XS.iloadN X0.here hx rfl (hb hby own_d17_0) rfl (XS.iloadN X0.here hx rfl (hb hby own_d17_1) rfl (XS.icmpNo X0.here hx rfl (hb hby own_d17_2) rfl (tlt (by decide : (0 : Int32) < (3 : Int32))).2.1 (XS.aloadN X0.here hx rfl (hb hby own_d17_5) rfl rfl (XS.iloadN X0.here hx rfl (hb hby own_d17_6) rfl q))))) ?_
  refine own_callV X0 hx hZ (y := own_y14) (z := own_y14) hown (own_h hw 137 rfl) (own_h hw 138 rfl) (own_nf (own_h hw 140 rfl)) (own_h hw 140 rfl) (own_h hw 139 rfl) (own_h hw 141 rfl) (own_h hw 66 rfl) (by decide) E_x (own_ch_3_0 l Z a0 hw [] x0 t kb b1 b2 b3 zCS fm cs h0 n0 Z0 S_CS nCS S_SF hfm S_UT S_IN E_cs O0 E_x V_x C_x K_t hbd) (by decide) (by decide) e0 (g := (mkF m 7 #[.val (.ref x0), .val (.int 0), .val (.int 3), .val (.ref yb), .val (.int 1)] [(.int 0), (.ref x0)])) rfl (by rw [hml]; rfl) (argsL := [(.int 0)]) (rest := []) (lenOf own_pd__28I_29C rfl) rfl (W := 0) (Nat.le_of_eq rfl) (hb hby own_d17_7) rfl (by decide) (by decide) ?_
  rintro rv1 T1 L1 X1 ⟨rfl, Nq1, eh1⟩
  have N1 := Fr.app N0 Nq1
  refine own_g (mkF m 15 #[.val (.ref x0), .val (.int 0), .val (.int 3), .val (.ref yb), .val (.int 1)] [(.int 1), (.ref yb), (.int b1)]) (fun _ q => XS.aloadN X1.here hx rfl (hb hby own_d17_10) rfl rfl (XS.iload X1.here hx rfl (hb hby own_d17_11) rfl (XS.iloadN X1.here hx rfl (hb hby own_d17_13) rfl (XS.iadd X1.here hx rfl (hb hby own_d17_14) rfl q)))) ?_
  obtain ⟨cl2, Ar2, q2, S2, P2, H2, G2⟩ := id A_y
  have hin2 : ¬ ((1 : Int32) < 0 ∨ cl2.slots.size ≤ ((1 : Int32)).toNatClampNeg) := inb_of S2 ⟨by decide, by decide⟩
  refine own_by (g' := (mkF m 16 #[.val (.ref x0), .val (.int 0), .val (.int 3), .val (.ref yb), .val (.int 1)] [(.int b1), (.int b1)])) (fun _ kq => X1.baloadBytes hx (j := (1 : Int32)) (v := (.int b1)) (by rw [eh1]; exact Ar2.1) (State.isArrayOf_alike hZ.alike Ar2.2.1) Ar2.2.2 hin2 (H2.at hin2 rfl) (g := (mkF m 15 #[.val (.ref x0), .val (.int 0), .val (.int 3), .val (.ref yb), .val (.int 1)] [(.int 1), (.ref yb), (.int b1)])) rfl rfl (hb hby own_d17_15) _ kq) ?_
  refine own_g (mkF m 25 #[.val (.ref x0), .val (.int 0), .val (.int 3), .val (.ref yb), .val (.int 1)] [(.int 1)]) (fun _ q => XS.i2c X1.here hx rfl (hb hby own_d17_16) rfl (XS.icmpNo X1.here hx rfl (hb hby own_d17_17) rfl (teq (own_c7 hbd).2.symm).2 (XS.iconst X1.here hx rfl (hb hby own_d17_20) (XS.goto X1.here hx rfl (pc0 := 21) (pc' := 25) rfl (hb hby own_d17_21) (by decide) (by decide) q)))) ?_
  exact own_end X1 (v := some (.int (nar .boolean (1 : Int32)))) (fun h => by rw [Bd.returns] at h; cases h) hlk (fun hr => retN X1 hx (t := .boolean) Bd.returns (by simp) (hb hby own_d17_25) hr) (by rw [eh1]; exact ⟨rfl, N1, rfl⟩) (by decide) (by decide)
theorem own_ck_1_3_1_ef (m : MethodId) (x0 : Addr) (yb : Addr) : entryFrame m #[(.ref x0), (.int 1), (.int 3), (.ref yb), (.int 1)] 5 = mkF m 0 #[.val (.ref x0), .val (.int 1), .val (.int 3), .val (.ref yb), .val (.int 1)] [] := by  first | (simp [entryFrame, mkF, argsToLocals, Value.category]; done) | rfl
def own_ck_1_3_1_Q (Z : State) (x0 : Addr) (yb : Addr) (t : Addr) (kb : ClassId) (ky : ClassId) (b0 : Int32) (b1 : Int32) (b2 : Int32) (b3 : Int32) (zCS : Int32) (fm : Value) (cs : Addr) (h0 : Heap) (n0 : Nat) (v : Option Value) (h : Heap) (L : List Loc) : Prop := v = some (.int 1) ∧ Fr n0 L ∧ h = h0
set_option maxRecDepth 65536 in
set_option maxHeartbeats 40000000 in
theorem own_ck_1_3_1 (l : Launch) (Z : State) (a0 : Array Value) (hw : ∀ d ∈ tables_1, d.before a0 Z = true) (ws : List Jvm.Cond) (x0 : Addr) (yb : Addr) (t : Addr) (kb : ClassId) (ky : ClassId) (b0 : Int32) (b1 : Int32) (b2 : Int32) (b3 : Int32) (zCS : Int32) (fm : Value) (cs : Addr) (h0 : Heap) (n0 : Nat) (Z0 : n0 ≤ h0.size) (S_CS : own_A0 Z zCS) (nCS : ¬ zCS = 0) (S_SF : own_A2 Z fm) (hfm : fm.isRef = true) (S_UT : own_A1 Z cs) (S_IN : own_A3 Z cs) (E_cs : Exa Z Z.heap cs "sun/nio/cs/UTF_8") (O0 : Old Z n0 h0) (E_x : Exa Z h0 x0 "java/lang/String") (V_x : Fld Z h0 x0 "java/lang/String" "value" "[B" (.ref t)) (C_x : Fld Z h0 x0 "java/lang/String" "coder" "B" (.int 0)) (K_t : Arv Z h0 t kb .byte (3 : Int32) [(.int b1), (.int b2), (.int b3)] (.int 0)) (A_y : Arv Z h0 yb ky .byte (4 : Int32) [(.int b0), (.int b1), (.int b2), (.int b3)] (.int 0)) (hbd : ¬ b2 < 0 ∧ ¬ (127 : Int32) < b2) :
    MetFree l own_y10 (head1 (Jvm.Cond.code own_y10 method_2_code 5 (some .boolean) :: ws) (⟨4, 0, 0, 53⟩ : Room)) (fun aa U => aa = #[(.ref x0), (.int 1), (.int 3), (.ref yb), (.int 1)] ∧ Z.Warmed39 U.vm ∧ U.heap = h0) (fun _ _ _ _ _ => True) (fun _ U o U' => ∃ v L, o = .returned v ∧ own_ck_1_3_1_Q Z x0 yb t kb ky b0 b1 b2 b3 zCS fm cs h0 n0 v U'.heap L ∧ FrameEnd U o U' L (⟨4, 0, 0, 53⟩ : Room).cells (⟨4, 0, 0, 53⟩ : Room).slots) := by
  refine MetFree.of_bodySF (plainFor_of_name own_pn_com_example_rowtide_rowtide_event_RowSetUtf8PinLaw) hisR ?_
  intro p e s m args below meth c s₁ Bd hml0 hP hK
  obtain ⟨rfl, hZ, hh⟩ := hP
  have hx := Bd.exec
  have hby := Bd.bytes
  have hml : c.maxLocals = 5 := hml0
  have hown : s.vm.findClass "com/example/rowtide/rowtide/event/RowSetUtf8PinLaw" = some m.cls := findClass_of_methodNamed Bd.named
  have hnm := (name_of_methodNamed Bd.named Bd.method).1
  have hlk := Bd.notSynchronized
  have X0 : Stand p l e (⟨4, 0, 0, 53⟩ : Room) s m #[(.ref x0), (.int 1), (.int 3), (.ref yb), (.int 1)] below meth c s₁ [] 0 0 := Stand.of_body Bd
  have e0 : s₁.heap = h0 := by rw [← hh, Bd.state]; rfl
  have N0 := Fr.nil n0
  refine own_start (Q := own_ck_1_3_1_Q Z x0 yb t kb ky b0 b1 b2 b3 zCS fm cs h0 n0) (own_ck_1_3_1_ef m x0 yb) ?_
  refine own_g (mkF m 7 #[.val (.ref x0), .val (.int 1), .val (.int 3), .val (.ref yb), .val (.int 1)] [(.int 1), (.ref x0)]) (fun _ q => XS.iloadN X0.here hx rfl (hb hby own_d17_0) rfl (XS.iloadN X0.here hx rfl (hb hby own_d17_1) rfl (XS.icmpNo X0.here hx rfl (hb hby own_d17_2) rfl (tlt (by decide : (1 : Int32) < (3 : Int32))).2.1 (XS.aloadN X0.here hx rfl (hb hby own_d17_5) rfl rfl (XS.iloadN X0.here hx rfl (hb hby own_d17_6) rfl q))))) ?_
  refine own_callV X0 hx hZ (y := own_y14) (z := own_y14) hown (own_h hw 137 rfl) (own_h hw 138 rfl) (own_nf (own_h hw 140 rfl)) (own_h hw 140 rfl) (own_h hw 139 rfl) (own_h hw 141 rfl) (own_h hw 66 rfl) (by decide) E_x (own_ch_3_1 l Z a0 hw [] x0 t kb b1 b2 b3 zCS fm cs h0 n0 Z0 S_CS nCS S_SF hfm S_UT S_IN E_cs O0 E_x V_x C_x K_t hbd) (by decide) (by decide) e0 (g := (mkF m 7 #[.val (.ref x0), .val (.int 1), .val (.int 3), .val (.ref yb), .val (.int 1)] [(.int 1), (.ref x0)])) rfl (by rw [hml]; rfl) (argsL := [(.int 1)]) (rest := []) (lenOf own_pd__28I_29C rfl) rfl (W := 0) (Nat.le_of_eq rfl) (hb hby own_d17_7) rfl (by decide) (by decide) ?_
  rintro rv1 T1 L1 X1 ⟨rfl, Nq1, eh1⟩
  have N1 := Fr.app N0 Nq1
  refine own_g (mkF m 15 #[.val (.ref x0), .val (.int 1), .val (.int 3), .val (.ref yb), .val (.int 1)] [(.int 2), (.ref yb), (.int b2)]) (fun _ q => XS.aloadN X1.here hx rfl (hb hby own_d17_10) rfl rfl (XS.iload X1.here hx rfl (hb hby own_d17_11) rfl (XS.iloadN X1.here hx rfl (hb hby own_d17_13) rfl (XS.iadd X1.here hx rfl (hb hby own_d17_14) rfl q)))) ?_
  obtain ⟨cl2, Ar2, q2, S2, P2, H2, G2⟩ := id A_y
  have hin2 : ¬ ((2 : Int32) < 0 ∨ cl2.slots.size ≤ ((2 : Int32)).toNatClampNeg) := inb_of S2 ⟨by decide, by decide⟩
  refine own_by (g' := (mkF m 16 #[.val (.ref x0), .val (.int 1), .val (.int 3), .val (.ref yb), .val (.int 1)] [(.int b2), (.int b2)])) (fun _ kq => X1.baloadBytes hx (j := (2 : Int32)) (v := (.int b2)) (by rw [eh1]; exact Ar2.1) (State.isArrayOf_alike hZ.alike Ar2.2.1) Ar2.2.2 hin2 (H2.at hin2 rfl) (g := (mkF m 15 #[.val (.ref x0), .val (.int 1), .val (.int 3), .val (.ref yb), .val (.int 1)] [(.int 2), (.ref yb), (.int b2)])) rfl rfl (hb hby own_d17_15) _ kq) ?_
  refine own_g (mkF m 25 #[.val (.ref x0), .val (.int 1), .val (.int 3), .val (.ref yb), .val (.int 1)] [(.int 1)]) (fun _ q => XS.i2c X1.here hx rfl (hb hby own_d17_16) rfl (XS.icmpNo X1.here hx rfl (hb hby own_d17_17) rfl (teq (own_c7 hbd).2.symm).2 (XS.iconst X1.here hx rfl (hb hby own_d17_20) (XS.goto X1.here hx rfl (pc0 := 21) (pc' := 25) rfl (hb hby own_d17_21) (by decide) (by decide) q)))) ?_
  exact own_end X1 (v := some (.int (nar .boolean (1 : Int32)))) (fun h => by rw [Bd.returns] at h; cases h) hlk (fun hr => retN X1 hx (t := .boolean) Bd.returns (by simp) (hb hby own_d17_25) hr) (by rw [eh1]; exact ⟨rfl, N1, rfl⟩) (by decide) (by decide)
theorem own_ck_1_3_2_ef (m : MethodId) (x0 : Addr) (yb : Addr) : entryFrame m #[(.ref x0), (.int 2), (.int 3), (.ref yb), (.int 1)] 5 = mkF m 0 #[.val (.ref x0), .val (.int 2), .val (.int 3), .val (.ref yb), .val (.int 1)] [] := by  first | (simp [entryFrame, mkF, argsToLocals, Value.category]; done) | rfl
def own_ck_1_3_2_Q (Z : State) (x0 : Addr) (yb : Addr) (t : Addr) (kb : ClassId) (ky : ClassId) (b0 : Int32) (b1 : Int32) (b2 : Int32) (b3 : Int32) (zCS : Int32) (fm : Value) (cs : Addr) (h0 : Heap) (n0 : Nat) (v : Option Value) (h : Heap) (L : List Loc) : Prop := v = some (.int 1) ∧ Fr n0 L ∧ h = h0
set_option maxRecDepth 65536 in
set_option maxHeartbeats 40000000 in
theorem own_ck_1_3_2 (l : Launch) (Z : State) (a0 : Array Value) (hw : ∀ d ∈ tables_1, d.before a0 Z = true) (ws : List Jvm.Cond) (x0 : Addr) (yb : Addr) (t : Addr) (kb : ClassId) (ky : ClassId) (b0 : Int32) (b1 : Int32) (b2 : Int32) (b3 : Int32) (zCS : Int32) (fm : Value) (cs : Addr) (h0 : Heap) (n0 : Nat) (Z0 : n0 ≤ h0.size) (S_CS : own_A0 Z zCS) (nCS : ¬ zCS = 0) (S_SF : own_A2 Z fm) (hfm : fm.isRef = true) (S_UT : own_A1 Z cs) (S_IN : own_A3 Z cs) (E_cs : Exa Z Z.heap cs "sun/nio/cs/UTF_8") (O0 : Old Z n0 h0) (E_x : Exa Z h0 x0 "java/lang/String") (V_x : Fld Z h0 x0 "java/lang/String" "value" "[B" (.ref t)) (C_x : Fld Z h0 x0 "java/lang/String" "coder" "B" (.int 0)) (K_t : Arv Z h0 t kb .byte (3 : Int32) [(.int b1), (.int b2), (.int b3)] (.int 0)) (A_y : Arv Z h0 yb ky .byte (4 : Int32) [(.int b0), (.int b1), (.int b2), (.int b3)] (.int 0)) (hbd : ¬ b3 < 0 ∧ ¬ (127 : Int32) < b3) :
    MetFree l own_y10 (head1 (Jvm.Cond.code own_y10 method_2_code 5 (some .boolean) :: ws) (⟨4, 0, 0, 53⟩ : Room)) (fun aa U => aa = #[(.ref x0), (.int 2), (.int 3), (.ref yb), (.int 1)] ∧ Z.Warmed39 U.vm ∧ U.heap = h0) (fun _ _ _ _ _ => True) (fun _ U o U' => ∃ v L, o = .returned v ∧ own_ck_1_3_2_Q Z x0 yb t kb ky b0 b1 b2 b3 zCS fm cs h0 n0 v U'.heap L ∧ FrameEnd U o U' L (⟨4, 0, 0, 53⟩ : Room).cells (⟨4, 0, 0, 53⟩ : Room).slots) := by
  refine MetFree.of_bodySF (plainFor_of_name own_pn_com_example_rowtide_rowtide_event_RowSetUtf8PinLaw) hisR ?_
  intro p e s m args below meth c s₁ Bd hml0 hP hK
  obtain ⟨rfl, hZ, hh⟩ := hP
  have hx := Bd.exec
  have hby := Bd.bytes
  have hml : c.maxLocals = 5 := hml0
  have hown : s.vm.findClass "com/example/rowtide/rowtide/event/RowSetUtf8PinLaw" = some m.cls := findClass_of_methodNamed Bd.named
  have hnm := (name_of_methodNamed Bd.named Bd.method).1
  have hlk := Bd.notSynchronized
  have X0 : Stand p l e (⟨4, 0, 0, 53⟩ : Room) s m #[(.ref x0), (.int 2), (.int 3), (.ref yb), (.int 1)] below meth c s₁ [] 0 0 := Stand.of_body Bd
  have e0 : s₁.heap = h0 := by rw [← hh, Bd.state]; rfl
  have N0 := Fr.nil n0
  refine own_start (Q := own_ck_1_3_2_Q Z x0 yb t kb ky b0 b1 b2 b3 zCS fm cs h0 n0) (own_ck_1_3_2_ef m x0 yb) ?_
  refine own_g (mkF m 7 #[.val (.ref x0), .val (.int 2), .val (.int 3), .val (.ref yb), .val (.int 1)] [(.int 2), (.ref x0)]) (fun _ q => XS.iloadN X0.here hx rfl (hb hby own_d17_0) rfl (XS.iloadN X0.here hx rfl (hb hby own_d17_1) rfl (XS.icmpNo X0.here hx rfl (hb hby own_d17_2) rfl (tlt (by decide : (2 : Int32) < (3 : Int32))).2.1 (XS.aloadN X0.here hx rfl (hb hby own_d17_5) rfl rfl (XS.iloadN X0.here hx rfl (hb hby own_d17_6) rfl q))))) ?_
  refine own_callV X0 hx hZ (y := own_y14) (z := own_y14) hown (own_h hw 137 rfl) (own_h hw 138 rfl) (own_nf (own_h hw 140 rfl)) (own_h hw 140 rfl) (own_h hw 139 rfl) (own_h hw 141 rfl) (own_h hw 66 rfl) (by decide) E_x (own_ch_3_2 l Z a0 hw [] x0 t kb b1 b2 b3 zCS fm cs h0 n0 Z0 S_CS nCS S_SF hfm S_UT S_IN E_cs O0 E_x V_x C_x K_t hbd) (by decide) (by decide) e0 (g := (mkF m 7 #[.val (.ref x0), .val (.int 2), .val (.int 3), .val (.ref yb), .val (.int 1)] [(.int 2), (.ref x0)])) rfl (by rw [hml]; rfl) (argsL := [(.int 2)]) (rest := []) (lenOf own_pd__28I_29C rfl) rfl (W := 0) (Nat.le_of_eq rfl) (hb hby own_d17_7) rfl (by decide) (by decide) ?_
  rintro rv1 T1 L1 X1 ⟨rfl, Nq1, eh1⟩
  have N1 := Fr.app N0 Nq1
  refine own_g (mkF m 15 #[.val (.ref x0), .val (.int 2), .val (.int 3), .val (.ref yb), .val (.int 1)] [(.int 3), (.ref yb), (.int b3)]) (fun _ q => XS.aloadN X1.here hx rfl (hb hby own_d17_10) rfl rfl (XS.iload X1.here hx rfl (hb hby own_d17_11) rfl (XS.iloadN X1.here hx rfl (hb hby own_d17_13) rfl (XS.iadd X1.here hx rfl (hb hby own_d17_14) rfl q)))) ?_
  obtain ⟨cl2, Ar2, q2, S2, P2, H2, G2⟩ := id A_y
  have hin2 : ¬ ((3 : Int32) < 0 ∨ cl2.slots.size ≤ ((3 : Int32)).toNatClampNeg) := inb_of S2 ⟨by decide, by decide⟩
  refine own_by (g' := (mkF m 16 #[.val (.ref x0), .val (.int 2), .val (.int 3), .val (.ref yb), .val (.int 1)] [(.int b3), (.int b3)])) (fun _ kq => X1.baloadBytes hx (j := (3 : Int32)) (v := (.int b3)) (by rw [eh1]; exact Ar2.1) (State.isArrayOf_alike hZ.alike Ar2.2.1) Ar2.2.2 hin2 (H2.at hin2 rfl) (g := (mkF m 15 #[.val (.ref x0), .val (.int 2), .val (.int 3), .val (.ref yb), .val (.int 1)] [(.int 3), (.ref yb), (.int b3)])) rfl rfl (hb hby own_d17_15) _ kq) ?_
  refine own_g (mkF m 25 #[.val (.ref x0), .val (.int 2), .val (.int 3), .val (.ref yb), .val (.int 1)] [(.int 1)]) (fun _ q => XS.i2c X1.here hx rfl (hb hby own_d17_16) rfl (XS.icmpNo X1.here hx rfl (hb hby own_d17_17) rfl (teq (own_c7 hbd).2.symm).2 (XS.iconst X1.here hx rfl (hb hby own_d17_20) (XS.goto X1.here hx rfl (pc0 := 21) (pc' := 25) rfl (hb hby own_d17_21) (by decide) (by decide) q)))) ?_
  exact own_end X1 (v := some (.int (nar .boolean (1 : Int32)))) (fun h => by rw [Bd.returns] at h; cases h) hlk (fun hr => retN X1 hx (t := .boolean) Bd.returns (by simp) (hb hby own_d17_25) hr) (by rw [eh1]; exact ⟨rfl, N1, rfl⟩) (by decide) (by decide)
theorem own_ck_2_1_0_ef (m : MethodId) (x0 : Addr) (yb : Addr) : entryFrame m #[(.ref x0), (.int 0), (.int 1), (.ref yb), (.int 2)] 5 = mkF m 0 #[.val (.ref x0), .val (.int 0), .val (.int 1), .val (.ref yb), .val (.int 2)] [] := by  first | (simp [entryFrame, mkF, argsToLocals, Value.category]; done) | rfl
def own_ck_2_1_0_Q (Z : State) (x0 : Addr) (yb : Addr) (t : Addr) (kb : ClassId) (ky : ClassId) (b0 : Int32) (b1 : Int32) (b2 : Int32) (b3 : Int32) (zCS : Int32) (fm : Value) (cs : Addr) (h0 : Heap) (n0 : Nat) (v : Option Value) (h : Heap) (L : List Loc) : Prop := v = some (.int 1) ∧ Fr n0 L ∧ h = h0
set_option maxRecDepth 65536 in
set_option maxHeartbeats 40000000 in
theorem own_ck_2_1_0 (l : Launch) (Z : State) (a0 : Array Value) (hw : ∀ d ∈ tables_1, d.before a0 Z = true) (ws : List Jvm.Cond) (x0 : Addr) (yb : Addr) (t : Addr) (kb : ClassId) (ky : ClassId) (b0 : Int32) (b1 : Int32) (b2 : Int32) (b3 : Int32) (zCS : Int32) (fm : Value) (cs : Addr) (h0 : Heap) (n0 : Nat) (Z0 : n0 ≤ h0.size) (S_CS : own_A0 Z zCS) (nCS : ¬ zCS = 0) (S_SF : own_A2 Z fm) (hfm : fm.isRef = true) (S_UT : own_A1 Z cs) (S_IN : own_A3 Z cs) (E_cs : Exa Z Z.heap cs "sun/nio/cs/UTF_8") (O0 : Old Z n0 h0) (E_x : Exa Z h0 x0 "java/lang/String") (V_x : Fld Z h0 x0 "java/lang/String" "value" "[B" (.ref t)) (C_x : Fld Z h0 x0 "java/lang/String" "coder" "B" (.int 0)) (K_t : Arv Z h0 t kb .byte (1 : Int32) [(.int b2)] (.int 0)) (A_y : Arv Z h0 yb ky .byte (4 : Int32) [(.int b0), (.int b1), (.int b2), (.int b3)] (.int 0)) (hbd : ¬ b2 < 0 ∧ ¬ (127 : Int32) < b2) :
    MetFree l own_y10 (head1 (Jvm.Cond.code own_y10 method_2_code 5 (some .boolean) :: ws) (⟨4, 0, 0, 53⟩ : Room)) (fun aa U => aa = #[(.ref x0), (.int 0), (.int 1), (.ref yb), (.int 2)] ∧ Z.Warmed39 U.vm ∧ U.heap = h0) (fun _ _ _ _ _ => True) (fun _ U o U' => ∃ v L, o = .returned v ∧ own_ck_2_1_0_Q Z x0 yb t kb ky b0 b1 b2 b3 zCS fm cs h0 n0 v U'.heap L ∧ FrameEnd U o U' L (⟨4, 0, 0, 53⟩ : Room).cells (⟨4, 0, 0, 53⟩ : Room).slots) := by
  refine MetFree.of_bodySF (plainFor_of_name own_pn_com_example_rowtide_rowtide_event_RowSetUtf8PinLaw) hisR ?_
  intro p e s m args below meth c s₁ Bd hml0 hP hK
  obtain ⟨rfl, hZ, hh⟩ := hP
  have hx := Bd.exec
  have hby := Bd.bytes
  have hml : c.maxLocals = 5 := hml0
  have hown : s.vm.findClass "com/example/rowtide/rowtide/event/RowSetUtf8PinLaw" = some m.cls := findClass_of_methodNamed Bd.named
  have hnm := (name_of_methodNamed Bd.named Bd.method).1
  have hlk := Bd.notSynchronized
  have X0 : Stand p l e (⟨4, 0, 0, 53⟩ : Room) s m #[(.ref x0), (.int 0), (.int 1), (.ref yb), (.int 2)] below meth c s₁ [] 0 0 := Stand.of_body Bd
  have e0 : s₁.heap = h0 := by rw [← hh, Bd.state]; rfl
  have N0 := Fr.nil n0
  refine own_start (Q := own_ck_2_1_0_Q Z x0 yb t kb ky b0 b1 b2 b3 zCS fm cs h0 n0) (own_ck_2_1_0_ef m x0 yb) ?_
  refine own_g (mkF m 7 #[.val (.ref x0), .val (.int 0), .val (.int 1), .val (.ref yb), .val (.int 2)] [(.int 0), (.ref x0)]) (fun _ q => XS.iloadN X0.here hx rfl (hb hby own_d17_0) rfl (XS.iloadN X0.here hx rfl (hb hby own_d17_1) rfl (XS.icmpNo X0.here hx rfl (hb hby own_d17_2) rfl (tlt (by decide : (0 : Int32) < (1 : Int32))).2.1 (XS.aloadN X0.here hx rfl (hb hby own_d17_5) rfl rfl (XS.iloadN X0.here hx rfl (hb hby own_d17_6) rfl q))))) ?_
  refine own_callV X0 hx hZ (y := own_y14) (z := own_y14) hown (own_h hw 137 rfl) (own_h hw 138 rfl) (own_nf (own_h hw 140 rfl)) (own_h hw 140 rfl) (own_h hw 139 rfl) (own_h hw 141 rfl) (own_h hw 66 rfl) (by decide) E_x (own_ch_1_0 l Z a0 hw [] x0 t kb b2 zCS fm cs h0 n0 Z0 S_CS nCS S_SF hfm S_UT S_IN E_cs O0 E_x V_x C_x K_t hbd) (by decide) (by decide) e0 (g := (mkF m 7 #[.val (.ref x0), .val (.int 0), .val (.int 1), .val (.ref yb), .val (.int 2)] [(.int 0), (.ref x0)])) rfl (by rw [hml]; rfl) (argsL := [(.int 0)]) (rest := []) (lenOf own_pd__28I_29C rfl) rfl (W := 0) (Nat.le_of_eq rfl) (hb hby own_d17_7) rfl (by decide) (by decide) ?_
  rintro rv1 T1 L1 X1 ⟨rfl, Nq1, eh1⟩
  have N1 := Fr.app N0 Nq1
  refine own_g (mkF m 15 #[.val (.ref x0), .val (.int 0), .val (.int 1), .val (.ref yb), .val (.int 2)] [(.int 2), (.ref yb), (.int b2)]) (fun _ q => XS.aloadN X1.here hx rfl (hb hby own_d17_10) rfl rfl (XS.iload X1.here hx rfl (hb hby own_d17_11) rfl (XS.iloadN X1.here hx rfl (hb hby own_d17_13) rfl (XS.iadd X1.here hx rfl (hb hby own_d17_14) rfl q)))) ?_
  obtain ⟨cl2, Ar2, q2, S2, P2, H2, G2⟩ := id A_y
  have hin2 : ¬ ((2 : Int32) < 0 ∨ cl2.slots.size ≤ ((2 : Int32)).toNatClampNeg) := inb_of S2 ⟨by decide, by decide⟩
  refine own_by (g' := (mkF m 16 #[.val (.ref x0), .val (.int 0), .val (.int 1), .val (.ref yb), .val (.int 2)] [(.int b2), (.int b2)])) (fun _ kq => X1.baloadBytes hx (j := (2 : Int32)) (v := (.int b2)) (by rw [eh1]; exact Ar2.1) (State.isArrayOf_alike hZ.alike Ar2.2.1) Ar2.2.2 hin2 (H2.at hin2 rfl) (g := (mkF m 15 #[.val (.ref x0), .val (.int 0), .val (.int 1), .val (.ref yb), .val (.int 2)] [(.int 2), (.ref yb), (.int b2)])) rfl rfl (hb hby own_d17_15) _ kq) ?_
  refine own_g (mkF m 25 #[.val (.ref x0), .val (.int 0), .val (.int 1), .val (.ref yb), .val (.int 2)] [(.int 1)]) (fun _ q => XS.i2c X1.here hx rfl (hb hby own_d17_16) rfl (XS.icmpNo X1.here hx rfl (hb hby own_d17_17) rfl (teq (own_c7 hbd).2.symm).2 (XS.iconst X1.here hx rfl (hb hby own_d17_20) (XS.goto X1.here hx rfl (pc0 := 21) (pc' := 25) rfl (hb hby own_d17_21) (by decide) (by decide) q)))) ?_
  exact own_end X1 (v := some (.int (nar .boolean (1 : Int32)))) (fun h => by rw [Bd.returns] at h; cases h) hlk (fun hr => retN X1 hx (t := .boolean) Bd.returns (by simp) (hb hby own_d17_25) hr) (by rw [eh1]; exact ⟨rfl, N1, rfl⟩) (by decide) (by decide)
theorem own_ck_2_2_0_ef (m : MethodId) (x0 : Addr) (yb : Addr) : entryFrame m #[(.ref x0), (.int 0), (.int 2), (.ref yb), (.int 2)] 5 = mkF m 0 #[.val (.ref x0), .val (.int 0), .val (.int 2), .val (.ref yb), .val (.int 2)] [] := by  first | (simp [entryFrame, mkF, argsToLocals, Value.category]; done) | rfl
def own_ck_2_2_0_Q (Z : State) (x0 : Addr) (yb : Addr) (t : Addr) (kb : ClassId) (ky : ClassId) (b0 : Int32) (b1 : Int32) (b2 : Int32) (b3 : Int32) (zCS : Int32) (fm : Value) (cs : Addr) (h0 : Heap) (n0 : Nat) (v : Option Value) (h : Heap) (L : List Loc) : Prop := v = some (.int 1) ∧ Fr n0 L ∧ h = h0
set_option maxRecDepth 65536 in
set_option maxHeartbeats 40000000 in
theorem own_ck_2_2_0 (l : Launch) (Z : State) (a0 : Array Value) (hw : ∀ d ∈ tables_1, d.before a0 Z = true) (ws : List Jvm.Cond) (x0 : Addr) (yb : Addr) (t : Addr) (kb : ClassId) (ky : ClassId) (b0 : Int32) (b1 : Int32) (b2 : Int32) (b3 : Int32) (zCS : Int32) (fm : Value) (cs : Addr) (h0 : Heap) (n0 : Nat) (Z0 : n0 ≤ h0.size) (S_CS : own_A0 Z zCS) (nCS : ¬ zCS = 0) (S_SF : own_A2 Z fm) (hfm : fm.isRef = true) (S_UT : own_A1 Z cs) (S_IN : own_A3 Z cs) (E_cs : Exa Z Z.heap cs "sun/nio/cs/UTF_8") (O0 : Old Z n0 h0) (E_x : Exa Z h0 x0 "java/lang/String") (V_x : Fld Z h0 x0 "java/lang/String" "value" "[B" (.ref t)) (C_x : Fld Z h0 x0 "java/lang/String" "coder" "B" (.int 0)) (K_t : Arv Z h0 t kb .byte (2 : Int32) [(.int b2), (.int b3)] (.int 0)) (A_y : Arv Z h0 yb ky .byte (4 : Int32) [(.int b0), (.int b1), (.int b2), (.int b3)] (.int 0)) (hbd : ¬ b2 < 0 ∧ ¬ (127 : Int32) < b2) :
    MetFree l own_y10 (head1 (Jvm.Cond.code own_y10 method_2_code 5 (some .boolean) :: ws) (⟨4, 0, 0, 53⟩ : Room)) (fun aa U => aa = #[(.ref x0), (.int 0), (.int 2), (.ref yb), (.int 2)] ∧ Z.Warmed39 U.vm ∧ U.heap = h0) (fun _ _ _ _ _ => True) (fun _ U o U' => ∃ v L, o = .returned v ∧ own_ck_2_2_0_Q Z x0 yb t kb ky b0 b1 b2 b3 zCS fm cs h0 n0 v U'.heap L ∧ FrameEnd U o U' L (⟨4, 0, 0, 53⟩ : Room).cells (⟨4, 0, 0, 53⟩ : Room).slots) := by
  refine MetFree.of_bodySF (plainFor_of_name own_pn_com_example_rowtide_rowtide_event_RowSetUtf8PinLaw) hisR ?_
  intro p e s m args below meth c s₁ Bd hml0 hP hK
  obtain ⟨rfl, hZ, hh⟩ := hP
  have hx := Bd.exec
  have hby := Bd.bytes
  have hml : c.maxLocals = 5 := hml0
  have hown : s.vm.findClass "com/example/rowtide/rowtide/event/RowSetUtf8PinLaw" = some m.cls := findClass_of_methodNamed Bd.named
  have hnm := (name_of_methodNamed Bd.named Bd.method).1
  have hlk := Bd.notSynchronized
  have X0 : Stand p l e (⟨4, 0, 0, 53⟩ : Room) s m #[(.ref x0), (.int 0), (.int 2), (.ref yb), (.int 2)] below meth c s₁ [] 0 0 := Stand.of_body Bd
  have e0 : s₁.heap = h0 := by rw [← hh, Bd.state]; rfl
  have N0 := Fr.nil n0
  refine own_start (Q := own_ck_2_2_0_Q Z x0 yb t kb ky b0 b1 b2 b3 zCS fm cs h0 n0) (own_ck_2_2_0_ef m x0 yb) ?_
  refine own_g (mkF m 7 #[.val (.ref x0), .val (.int 0), .val (.int 2), .val (.ref yb), .val (.int 2)] [(.int 0), (.ref x0)]) (fun _ q => XS.iloadN X0.here hx rfl (hb hby own_d17_0) rfl (XS.iloadN X0.here hx rfl (hb hby own_d17_1) rfl (XS.icmpNo X0.here hx rfl (hb hby own_d17_2) rfl (tlt (by decide : (0 : Int32) < (2 : Int32))).2.1 (XS.aloadN X0.here hx rfl (hb hby own_d17_5) rfl rfl (XS.iloadN X0.here hx rfl (hb hby own_d17_6) rfl q))))) ?_
  refine own_callV X0 hx hZ (y := own_y14) (z := own_y14) hown (own_h hw 137 rfl) (own_h hw 138 rfl) (own_nf (own_h hw 140 rfl)) (own_h hw 140 rfl) (own_h hw 139 rfl) (own_h hw 141 rfl) (own_h hw 66 rfl) (by decide) E_x (own_ch_2_0 l Z a0 hw [] x0 t kb b2 b3 zCS fm cs h0 n0 Z0 S_CS nCS S_SF hfm S_UT S_IN E_cs O0 E_x V_x C_x K_t hbd) (by decide) (by decide) e0 (g := (mkF m 7 #[.val (.ref x0), .val (.int 0), .val (.int 2), .val (.ref yb), .val (.int 2)] [(.int 0), (.ref x0)])) rfl (by rw [hml]; rfl) (argsL := [(.int 0)]) (rest := []) (lenOf own_pd__28I_29C rfl) rfl (W := 0) (Nat.le_of_eq rfl) (hb hby own_d17_7) rfl (by decide) (by decide) ?_
  rintro rv1 T1 L1 X1 ⟨rfl, Nq1, eh1⟩
  have N1 := Fr.app N0 Nq1
  refine own_g (mkF m 15 #[.val (.ref x0), .val (.int 0), .val (.int 2), .val (.ref yb), .val (.int 2)] [(.int 2), (.ref yb), (.int b2)]) (fun _ q => XS.aloadN X1.here hx rfl (hb hby own_d17_10) rfl rfl (XS.iload X1.here hx rfl (hb hby own_d17_11) rfl (XS.iloadN X1.here hx rfl (hb hby own_d17_13) rfl (XS.iadd X1.here hx rfl (hb hby own_d17_14) rfl q)))) ?_
  obtain ⟨cl2, Ar2, q2, S2, P2, H2, G2⟩ := id A_y
  have hin2 : ¬ ((2 : Int32) < 0 ∨ cl2.slots.size ≤ ((2 : Int32)).toNatClampNeg) := inb_of S2 ⟨by decide, by decide⟩
  refine own_by (g' := (mkF m 16 #[.val (.ref x0), .val (.int 0), .val (.int 2), .val (.ref yb), .val (.int 2)] [(.int b2), (.int b2)])) (fun _ kq => X1.baloadBytes hx (j := (2 : Int32)) (v := (.int b2)) (by rw [eh1]; exact Ar2.1) (State.isArrayOf_alike hZ.alike Ar2.2.1) Ar2.2.2 hin2 (H2.at hin2 rfl) (g := (mkF m 15 #[.val (.ref x0), .val (.int 0), .val (.int 2), .val (.ref yb), .val (.int 2)] [(.int 2), (.ref yb), (.int b2)])) rfl rfl (hb hby own_d17_15) _ kq) ?_
  refine own_g (mkF m 25 #[.val (.ref x0), .val (.int 0), .val (.int 2), .val (.ref yb), .val (.int 2)] [(.int 1)]) (fun _ q => XS.i2c X1.here hx rfl (hb hby own_d17_16) rfl (XS.icmpNo X1.here hx rfl (hb hby own_d17_17) rfl (teq (own_c7 hbd).2.symm).2 (XS.iconst X1.here hx rfl (hb hby own_d17_20) (XS.goto X1.here hx rfl (pc0 := 21) (pc' := 25) rfl (hb hby own_d17_21) (by decide) (by decide) q)))) ?_
  exact own_end X1 (v := some (.int (nar .boolean (1 : Int32)))) (fun h => by rw [Bd.returns] at h; cases h) hlk (fun hr => retN X1 hx (t := .boolean) Bd.returns (by simp) (hb hby own_d17_25) hr) (by rw [eh1]; exact ⟨rfl, N1, rfl⟩) (by decide) (by decide)
theorem own_ck_2_2_1_ef (m : MethodId) (x0 : Addr) (yb : Addr) : entryFrame m #[(.ref x0), (.int 1), (.int 2), (.ref yb), (.int 2)] 5 = mkF m 0 #[.val (.ref x0), .val (.int 1), .val (.int 2), .val (.ref yb), .val (.int 2)] [] := by  first | (simp [entryFrame, mkF, argsToLocals, Value.category]; done) | rfl
def own_ck_2_2_1_Q (Z : State) (x0 : Addr) (yb : Addr) (t : Addr) (kb : ClassId) (ky : ClassId) (b0 : Int32) (b1 : Int32) (b2 : Int32) (b3 : Int32) (zCS : Int32) (fm : Value) (cs : Addr) (h0 : Heap) (n0 : Nat) (v : Option Value) (h : Heap) (L : List Loc) : Prop := v = some (.int 1) ∧ Fr n0 L ∧ h = h0
set_option maxRecDepth 65536 in
set_option maxHeartbeats 40000000 in
theorem own_ck_2_2_1 (l : Launch) (Z : State) (a0 : Array Value) (hw : ∀ d ∈ tables_1, d.before a0 Z = true) (ws : List Jvm.Cond) (x0 : Addr) (yb : Addr) (t : Addr) (kb : ClassId) (ky : ClassId) (b0 : Int32) (b1 : Int32) (b2 : Int32) (b3 : Int32) (zCS : Int32) (fm : Value) (cs : Addr) (h0 : Heap) (n0 : Nat) (Z0 : n0 ≤ h0.size) (S_CS : own_A0 Z zCS) (nCS : ¬ zCS = 0) (S_SF : own_A2 Z fm) (hfm : fm.isRef = true) (S_UT : own_A1 Z cs) (S_IN : own_A3 Z cs) (E_cs : Exa Z Z.heap cs "sun/nio/cs/UTF_8") (O0 : Old Z n0 h0) (E_x : Exa Z h0 x0 "java/lang/String") (V_x : Fld Z h0 x0 "java/lang/String" "value" "[B" (.ref t)) (C_x : Fld Z h0 x0 "java/lang/String" "coder" "B" (.int 0)) (K_t : Arv Z h0 t kb .byte (2 : Int32) [(.int b2), (.int b3)] (.int 0)) (A_y : Arv Z h0 yb ky .byte (4 : Int32) [(.int b0), (.int b1), (.int b2), (.int b3)] (.int 0)) (hbd : ¬ b3 < 0 ∧ ¬ (127 : Int32) < b3) :
    MetFree l own_y10 (head1 (Jvm.Cond.code own_y10 method_2_code 5 (some .boolean) :: ws) (⟨4, 0, 0, 53⟩ : Room)) (fun aa U => aa = #[(.ref x0), (.int 1), (.int 2), (.ref yb), (.int 2)] ∧ Z.Warmed39 U.vm ∧ U.heap = h0) (fun _ _ _ _ _ => True) (fun _ U o U' => ∃ v L, o = .returned v ∧ own_ck_2_2_1_Q Z x0 yb t kb ky b0 b1 b2 b3 zCS fm cs h0 n0 v U'.heap L ∧ FrameEnd U o U' L (⟨4, 0, 0, 53⟩ : Room).cells (⟨4, 0, 0, 53⟩ : Room).slots) := by
  refine MetFree.of_bodySF (plainFor_of_name own_pn_com_example_rowtide_rowtide_event_RowSetUtf8PinLaw) hisR ?_
  intro p e s m args below meth c s₁ Bd hml0 hP hK
  obtain ⟨rfl, hZ, hh⟩ := hP
  have hx := Bd.exec
  have hby := Bd.bytes
  have hml : c.maxLocals = 5 := hml0
  have hown : s.vm.findClass "com/example/rowtide/rowtide/event/RowSetUtf8PinLaw" = some m.cls := findClass_of_methodNamed Bd.named
  have hnm := (name_of_methodNamed Bd.named Bd.method).1
  have hlk := Bd.notSynchronized
  have X0 : Stand p l e (⟨4, 0, 0, 53⟩ : Room) s m #[(.ref x0), (.int 1), (.int 2), (.ref yb), (.int 2)] below meth c s₁ [] 0 0 := Stand.of_body Bd
  have e0 : s₁.heap = h0 := by rw [← hh, Bd.state]; rfl
  have N0 := Fr.nil n0
  refine own_start (Q := own_ck_2_2_1_Q Z x0 yb t kb ky b0 b1 b2 b3 zCS fm cs h0 n0) (own_ck_2_2_1_ef m x0 yb) ?_
  refine own_g (mkF m 7 #[.val (.ref x0), .val (.int 1), .val (.int 2), .val (.ref yb), .val (.int 2)] [(.int 1), (.ref x0)]) (fun _ q => XS.iloadN X0.here hx rfl (hb hby own_d17_0) rfl (XS.iloadN X0.here hx rfl (hb hby own_d17_1) rfl (XS.icmpNo X0.here hx rfl (hb hby own_d17_2) rfl (tlt (by decide : (1 : Int32) < (2 : Int32))).2.1 (XS.aloadN X0.here hx rfl (hb hby own_d17_5) rfl rfl (XS.iloadN X0.here hx rfl (hb hby own_d17_6) rfl q))))) ?_
  refine own_callV X0 hx hZ (y := own_y14) (z := own_y14) hown (own_h hw 137 rfl) (own_h hw 138 rfl) (own_nf (own_h hw 140 rfl)) (own_h hw 140 rfl) (own_h hw 139 rfl) (own_h hw 141 rfl) (own_h hw 66 rfl) (by decide) E_x (own_ch_2_1 l Z a0 hw [] x0 t kb b2 b3 zCS fm cs h0 n0 Z0 S_CS nCS S_SF hfm S_UT S_IN E_cs O0 E_x V_x C_x K_t hbd) (by decide) (by decide) e0 (g := (mkF m 7 #[.val (.ref x0), .val (.int 1), .val (.int 2), .val (.ref yb), .val (.int 2)] [(.int 1), (.ref x0)])) rfl (by rw [hml]; rfl) (argsL := [(.int 1)]) (rest := []) (lenOf own_pd__28I_29C rfl) rfl (W := 0) (Nat.le_of_eq rfl) (hb hby own_d17_7) rfl (by decide) (by decide) ?_
  rintro rv1 T1 L1 X1 ⟨rfl, Nq1, eh1⟩
  have N1 := Fr.app N0 Nq1
  refine own_g (mkF m 15 #[.val (.ref x0), .val (.int 1), .val (.int 2), .val (.ref yb), .val (.int 2)] [(.int 3), (.ref yb), (.int b3)]) (fun _ q => XS.aloadN X1.here hx rfl (hb hby own_d17_10) rfl rfl (XS.iload X1.here hx rfl (hb hby own_d17_11) rfl (XS.iloadN X1.here hx rfl (hb hby own_d17_13) rfl (XS.iadd X1.here hx rfl (hb hby own_d17_14) rfl q)))) ?_
  obtain ⟨cl2, Ar2, q2, S2, P2, H2, G2⟩ := id A_y
  have hin2 : ¬ ((3 : Int32) < 0 ∨ cl2.slots.size ≤ ((3 : Int32)).toNatClampNeg) := inb_of S2 ⟨by decide, by decide⟩
  refine own_by (g' := (mkF m 16 #[.val (.ref x0), .val (.int 1), .val (.int 2), .val (.ref yb), .val (.int 2)] [(.int b3), (.int b3)])) (fun _ kq => X1.baloadBytes hx (j := (3 : Int32)) (v := (.int b3)) (by rw [eh1]; exact Ar2.1) (State.isArrayOf_alike hZ.alike Ar2.2.1) Ar2.2.2 hin2 (H2.at hin2 rfl) (g := (mkF m 15 #[.val (.ref x0), .val (.int 1), .val (.int 2), .val (.ref yb), .val (.int 2)] [(.int 3), (.ref yb), (.int b3)])) rfl rfl (hb hby own_d17_15) _ kq) ?_
  refine own_g (mkF m 25 #[.val (.ref x0), .val (.int 1), .val (.int 2), .val (.ref yb), .val (.int 2)] [(.int 1)]) (fun _ q => XS.i2c X1.here hx rfl (hb hby own_d17_16) rfl (XS.icmpNo X1.here hx rfl (hb hby own_d17_17) rfl (teq (own_c7 hbd).2.symm).2 (XS.iconst X1.here hx rfl (hb hby own_d17_20) (XS.goto X1.here hx rfl (pc0 := 21) (pc' := 25) rfl (hb hby own_d17_21) (by decide) (by decide) q)))) ?_
  exact own_end X1 (v := some (.int (nar .boolean (1 : Int32)))) (fun h => by rw [Bd.returns] at h; cases h) hlk (fun hr => retN X1 hx (t := .boolean) Bd.returns (by simp) (hb hby own_d17_25) hr) (by rw [eh1]; exact ⟨rfl, N1, rfl⟩) (by decide) (by decide)
theorem own_ck_3_1_0_ef (m : MethodId) (x0 : Addr) (yb : Addr) : entryFrame m #[(.ref x0), (.int 0), (.int 1), (.ref yb), (.int 3)] 5 = mkF m 0 #[.val (.ref x0), .val (.int 0), .val (.int 1), .val (.ref yb), .val (.int 3)] [] := by  first | (simp [entryFrame, mkF, argsToLocals, Value.category]; done) | rfl
def own_ck_3_1_0_Q (Z : State) (x0 : Addr) (yb : Addr) (t : Addr) (kb : ClassId) (ky : ClassId) (b0 : Int32) (b1 : Int32) (b2 : Int32) (b3 : Int32) (zCS : Int32) (fm : Value) (cs : Addr) (h0 : Heap) (n0 : Nat) (v : Option Value) (h : Heap) (L : List Loc) : Prop := v = some (.int 1) ∧ Fr n0 L ∧ h = h0
set_option maxRecDepth 65536 in
set_option maxHeartbeats 40000000 in
theorem own_ck_3_1_0 (l : Launch) (Z : State) (a0 : Array Value) (hw : ∀ d ∈ tables_1, d.before a0 Z = true) (ws : List Jvm.Cond) (x0 : Addr) (yb : Addr) (t : Addr) (kb : ClassId) (ky : ClassId) (b0 : Int32) (b1 : Int32) (b2 : Int32) (b3 : Int32) (zCS : Int32) (fm : Value) (cs : Addr) (h0 : Heap) (n0 : Nat) (Z0 : n0 ≤ h0.size) (S_CS : own_A0 Z zCS) (nCS : ¬ zCS = 0) (S_SF : own_A2 Z fm) (hfm : fm.isRef = true) (S_UT : own_A1 Z cs) (S_IN : own_A3 Z cs) (E_cs : Exa Z Z.heap cs "sun/nio/cs/UTF_8") (O0 : Old Z n0 h0) (E_x : Exa Z h0 x0 "java/lang/String") (V_x : Fld Z h0 x0 "java/lang/String" "value" "[B" (.ref t)) (C_x : Fld Z h0 x0 "java/lang/String" "coder" "B" (.int 0)) (K_t : Arv Z h0 t kb .byte (1 : Int32) [(.int b3)] (.int 0)) (A_y : Arv Z h0 yb ky .byte (4 : Int32) [(.int b0), (.int b1), (.int b2), (.int b3)] (.int 0)) (hbd : ¬ b3 < 0 ∧ ¬ (127 : Int32) < b3) :
    MetFree l own_y10 (head1 (Jvm.Cond.code own_y10 method_2_code 5 (some .boolean) :: ws) (⟨4, 0, 0, 53⟩ : Room)) (fun aa U => aa = #[(.ref x0), (.int 0), (.int 1), (.ref yb), (.int 3)] ∧ Z.Warmed39 U.vm ∧ U.heap = h0) (fun _ _ _ _ _ => True) (fun _ U o U' => ∃ v L, o = .returned v ∧ own_ck_3_1_0_Q Z x0 yb t kb ky b0 b1 b2 b3 zCS fm cs h0 n0 v U'.heap L ∧ FrameEnd U o U' L (⟨4, 0, 0, 53⟩ : Room).cells (⟨4, 0, 0, 53⟩ : Room).slots) := by
  refine MetFree.of_bodySF (plainFor_of_name own_pn_com_example_rowtide_rowtide_event_RowSetUtf8PinLaw) hisR ?_
  intro p e s m args below meth c s₁ Bd hml0 hP hK
  obtain ⟨rfl, hZ, hh⟩ := hP
  have hx := Bd.exec
  have hby := Bd.bytes
  have hml : c.maxLocals = 5 := hml0
  have hown : s.vm.findClass "com/example/rowtide/rowtide/event/RowSetUtf8PinLaw" = some m.cls := findClass_of_methodNamed Bd.named
  have hnm := (name_of_methodNamed Bd.named Bd.method).1
  have hlk := Bd.notSynchronized
  have X0 : Stand p l e (⟨4, 0, 0, 53⟩ : Room) s m #[(.ref x0), (.int 0), (.int 1), (.ref yb), (.int 3)] below meth c s₁ [] 0 0 := Stand.of_body Bd
  have e0 : s₁.heap = h0 := by rw [← hh, Bd.state]; rfl
  have N0 := Fr.nil n0
  refine own_start (Q := own_ck_3_1_0_Q Z x0 yb t kb ky b0 b1 b2 b3 zCS fm cs h0 n0) (own_ck_3_1_0_ef m x0 yb) ?_
  refine own_g (mkF m 7 #[.val (.ref x0), .val (.int 0), .val (.int 1), .val (.ref yb), .val (.int 3)] [(.int 0), (.ref x0)]) (fun _ q => XS.iloadN X0.here hx rfl (hb hby own_d17_0) rfl (XS.iloadN X0.here hx rfl (hb hby own_d17_1) rfl (XS.icmpNo X0.here hx rfl (hb hby own_d17_2) rfl (tlt (by decide : (0 : Int32) < (1 : Int32))).2.1 (XS.aloadN X0.here hx rfl (hb hby own_d17_5) rfl rfl (XS.iloadN X0.here hx rfl (hb hby own_d17_6) rfl q))))) ?_
  refine own_callV X0 hx hZ (y := own_y14) (z := own_y14) hown (own_h hw 137 rfl) (own_h hw 138 rfl) (own_nf (own_h hw 140 rfl)) (own_h hw 140 rfl) (own_h hw 139 rfl) (own_h hw 141 rfl) (own_h hw 66 rfl) (by decide) E_x (own_ch_1_0 l Z a0 hw [] x0 t kb b3 zCS fm cs h0 n0 Z0 S_CS nCS S_SF hfm S_UT S_IN E_cs O0 E_x V_x C_x K_t hbd) (by decide) (by decide) e0 (g := (mkF m 7 #[.val (.ref x0), .val (.int 0), .val (.int 1), .val (.ref yb), .val (.int 3)] [(.int 0), (.ref x0)])) rfl (by rw [hml]; rfl) (argsL := [(.int 0)]) (rest := []) (lenOf own_pd__28I_29C rfl) rfl (W := 0) (Nat.le_of_eq rfl) (hb hby own_d17_7) rfl (by decide) (by decide) ?_
  rintro rv1 T1 L1 X1 ⟨rfl, Nq1, eh1⟩
  have N1 := Fr.app N0 Nq1
  refine own_g (mkF m 15 #[.val (.ref x0), .val (.int 0), .val (.int 1), .val (.ref yb), .val (.int 3)] [(.int 3), (.ref yb), (.int b3)]) (fun _ q => XS.aloadN X1.here hx rfl (hb hby own_d17_10) rfl rfl (XS.iload X1.here hx rfl (hb hby own_d17_11) rfl (XS.iloadN X1.here hx rfl (hb hby own_d17_13) rfl (XS.iadd X1.here hx rfl (hb hby own_d17_14) rfl q)))) ?_
  obtain ⟨cl2, Ar2, q2, S2, P2, H2, G2⟩ := id A_y
  have hin2 : ¬ ((3 : Int32) < 0 ∨ cl2.slots.size ≤ ((3 : Int32)).toNatClampNeg) := inb_of S2 ⟨by decide, by decide⟩
  refine own_by (g' := (mkF m 16 #[.val (.ref x0), .val (.int 0), .val (.int 1), .val (.ref yb), .val (.int 3)] [(.int b3), (.int b3)])) (fun _ kq => X1.baloadBytes hx (j := (3 : Int32)) (v := (.int b3)) (by rw [eh1]; exact Ar2.1) (State.isArrayOf_alike hZ.alike Ar2.2.1) Ar2.2.2 hin2 (H2.at hin2 rfl) (g := (mkF m 15 #[.val (.ref x0), .val (.int 0), .val (.int 1), .val (.ref yb), .val (.int 3)] [(.int 3), (.ref yb), (.int b3)])) rfl rfl (hb hby own_d17_15) _ kq) ?_
  refine own_g (mkF m 25 #[.val (.ref x0), .val (.int 0), .val (.int 1), .val (.ref yb), .val (.int 3)] [(.int 1)]) (fun _ q => XS.i2c X1.here hx rfl (hb hby own_d17_16) rfl (XS.icmpNo X1.here hx rfl (hb hby own_d17_17) rfl (teq (own_c7 hbd).2.symm).2 (XS.iconst X1.here hx rfl (hb hby own_d17_20) (XS.goto X1.here hx rfl (pc0 := 21) (pc' := 25) rfl (hb hby own_d17_21) (by decide) (by decide) q)))) ?_
  exact own_end X1 (v := some (.int (nar .boolean (1 : Int32)))) (fun h => by rw [Bd.returns] at h; cases h) hlk (fun hr => retN X1 hx (t := .boolean) Bd.returns (by simp) (hb hby own_d17_25) hr) (by rw [eh1]; exact ⟨rfl, N1, rfl⟩) (by decide) (by decide)
theorem own_ckN_ef (m : MethodId) (x0 : Addr) (i : Int32) (n : Int32) (yb : Addr) (of : Int32) : entryFrame m #[(.ref x0), (.int i), (.int n), (.ref yb), (.int of)] 5 = mkF m 0 #[.val (.ref x0), .val (.int i), .val (.int n), .val (.ref yb), .val (.int of)] [] := by  first | (simp [entryFrame, mkF, argsToLocals, Value.category]; done) | rfl
def own_ckN_Q (Z : State) (x0 : Addr) (i : Int32) (n : Int32) (yb : Addr) (of : Int32) (zCS : Int32) (fm : Value) (cs : Addr) (h0 : Heap) (n0 : Nat) (v : Option Value) (h : Heap) (L : List Loc) : Prop := v = some (.int 1) ∧ Fr n0 L ∧ h = h0
set_option maxRecDepth 65536 in
set_option maxHeartbeats 40000000 in
theorem own_ckN (l : Launch) (Z : State) (a0 : Array Value) (hw : ∀ d ∈ tables_1, d.before a0 Z = true) (ws : List Jvm.Cond) (x0 : Addr) (i : Int32) (n : Int32) (yb : Addr) (of : Int32) (zCS : Int32) (fm : Value) (cs : Addr) (h0 : Heap) (n0 : Nat) (Z0 : n0 ≤ h0.size) (S_CS : own_A0 Z zCS) (nCS : ¬ zCS = 0) (S_SF : own_A2 Z fm) (hfm : fm.isRef = true) (S_UT : own_A1 Z cs) (S_IN : own_A3 Z cs) (E_cs : Exa Z Z.heap cs "sun/nio/cs/UTF_8") (O0 : Old Z n0 h0) (hin : ¬ i < n) :
    MetFree l own_y10 (head1 (Jvm.Cond.code own_y10 method_2_code 5 (some .boolean) :: ws) (⟨4, 0, 0, 53⟩ : Room)) (fun aa U => aa = #[(.ref x0), (.int i), (.int n), (.ref yb), (.int of)] ∧ Z.Warmed39 U.vm ∧ U.heap = h0) (fun _ _ _ _ _ => True) (fun _ U o U' => ∃ v L, o = .returned v ∧ own_ckN_Q Z x0 i n yb of zCS fm cs h0 n0 v U'.heap L ∧ FrameEnd U o U' L (⟨4, 0, 0, 53⟩ : Room).cells (⟨4, 0, 0, 53⟩ : Room).slots) := by
  refine MetFree.of_bodySF (plainFor_of_name own_pn_com_example_rowtide_rowtide_event_RowSetUtf8PinLaw) hisR ?_
  intro p e s m args below meth c s₁ Bd hml0 hP hK
  obtain ⟨rfl, hZ, hh⟩ := hP
  have hx := Bd.exec
  have hby := Bd.bytes
  have hml : c.maxLocals = 5 := hml0
  have hown : s.vm.findClass "com/example/rowtide/rowtide/event/RowSetUtf8PinLaw" = some m.cls := findClass_of_methodNamed Bd.named
  have hnm := (name_of_methodNamed Bd.named Bd.method).1
  have hlk := Bd.notSynchronized
  have X0 : Stand p l e (⟨4, 0, 0, 53⟩ : Room) s m #[(.ref x0), (.int i), (.int n), (.ref yb), (.int of)] below meth c s₁ [] 0 0 := Stand.of_body Bd
  have e0 : s₁.heap = h0 := by rw [← hh, Bd.state]; rfl
  have N0 := Fr.nil n0
  refine own_start (Q := own_ckN_Q Z x0 i n yb of zCS fm cs h0 n0) (own_ckN_ef m x0 i n yb of) ?_
  refine own_g (mkF m 25 #[.val (.ref x0), .val (.int i), .val (.int n), .val (.ref yb), .val (.int of)] [(.int 1)]) (fun _ q => XS.iloadN X0.here hx rfl (hb hby own_d17_0) rfl (XS.iloadN X0.here hx rfl (hb hby own_d17_1) rfl (XS.icmpYes X0.here hx rfl (pc0 := 2) (pc' := 20) rfl (hb hby own_d17_2) rfl (flt hin).2.1 (by decide) (by decide) (XS.iconst X0.here hx rfl (hb hby own_d17_20) (XS.goto X0.here hx rfl (pc0 := 21) (pc' := 25) rfl (hb hby own_d17_21) (by decide) (by decide) q))))) ?_
  exact own_end X0 (v := some (.int (nar .boolean (1 : Int32)))) (fun h => by rw [Bd.returns] at h; cases h) hlk (fun hr => retN X0 hx (t := .boolean) Bd.returns (by simp) (hb hby own_d17_25) hr) (by rw [e0]; exact ⟨rfl, N0, rfl⟩) (by decide) (by decide)
def own_OL (o l : Int32) : Prop := (o = (0 : Int32) ∧ l = (0 : Int32)) ∨ (o = (0 : Int32) ∧ l = (1 : Int32)) ∨ (o = (0 : Int32) ∧ l = (2 : Int32)) ∨ (o = (0 : Int32) ∧ l = (3 : Int32)) ∨ (o = (0 : Int32) ∧ l = (4 : Int32)) ∨ (o = (1 : Int32) ∧ l = (0 : Int32)) ∨ (o = (1 : Int32) ∧ l = (1 : Int32)) ∨ (o = (1 : Int32) ∧ l = (2 : Int32)) ∨ (o = (1 : Int32) ∧ l = (3 : Int32)) ∨ (o = (2 : Int32) ∧ l = (0 : Int32)) ∨ (o = (2 : Int32) ∧ l = (1 : Int32)) ∨ (o = (2 : Int32) ∧ l = (2 : Int32)) ∨ (o = (3 : Int32) ∧ l = (0 : Int32)) ∨ (o = (3 : Int32) ∧ l = (1 : Int32)) ∨ (o = (4 : Int32) ∧ l = (0 : Int32))
def own_five (o : Int32) : Prop := o = (0 : Int32) ∨ o = (1 : Int32) ∨ o = (2 : Int32) ∨ o = (3 : Int32) ∨ o = (4 : Int32)
theorem own_in1 {k : Int32} (h0 : 0 ≤ k.toInt) (h1 : k.toInt < 1) : k = (0 : Int32) := by
  have q : k.toInt = 0 := by omega
  rcases q with q
  · exact (own_eqI (by rw [q]; decide))
theorem own_in2 {k : Int32} (h0 : 0 ≤ k.toInt) (h1 : k.toInt < 2) : k = (0 : Int32) ∨ k = (1 : Int32) := by
  have q : k.toInt = 0 ∨ k.toInt = 1 := by omega
  rcases q with q | q
  · exact Or.inl (own_eqI (by rw [q]; decide))
  · exact Or.inr ((own_eqI (by rw [q]; decide)))
theorem own_in3 {k : Int32} (h0 : 0 ≤ k.toInt) (h1 : k.toInt < 3) : k = (0 : Int32) ∨ k = (1 : Int32) ∨ k = (2 : Int32) := by
  have q : k.toInt = 0 ∨ k.toInt = 1 ∨ k.toInt = 2 := by omega
  rcases q with q | q | q
  · exact Or.inl (own_eqI (by rw [q]; decide))
  · exact Or.inr (Or.inl (own_eqI (by rw [q]; decide)))
  · exact Or.inr (Or.inr ((own_eqI (by rw [q]; decide))))
theorem own_in4 {k : Int32} (h0 : 0 ≤ k.toInt) (h1 : k.toInt < 4) : k = (0 : Int32) ∨ k = (1 : Int32) ∨ k = (2 : Int32) ∨ k = (3 : Int32) := by
  have q : k.toInt = 0 ∨ k.toInt = 1 ∨ k.toInt = 2 ∨ k.toInt = 3 := by omega
  rcases q with q | q | q | q
  · exact Or.inl (own_eqI (by rw [q]; decide))
  · exact Or.inr (Or.inl (own_eqI (by rw [q]; decide)))
  · exact Or.inr (Or.inr (Or.inl (own_eqI (by rw [q]; decide))))
  · exact Or.inr (Or.inr (Or.inr ((own_eqI (by rw [q]; decide)))))
theorem own_in5 {k : Int32} (h0 : 0 ≤ k.toInt) (h1 : k.toInt < 5) : k = (0 : Int32) ∨ k = (1 : Int32) ∨ k = (2 : Int32) ∨ k = (3 : Int32) ∨ k = (4 : Int32) := by
  have q : k.toInt = 0 ∨ k.toInt = 1 ∨ k.toInt = 2 ∨ k.toInt = 3 ∨ k.toInt = 4 := by omega
  rcases q with q | q | q | q | q
  · exact Or.inl (own_eqI (by rw [q]; decide))
  · exact Or.inr (Or.inl (own_eqI (by rw [q]; decide)))
  · exact Or.inr (Or.inr (Or.inl (own_eqI (by rw [q]; decide))))
  · exact Or.inr (Or.inr (Or.inr (Or.inl (own_eqI (by rw [q]; decide)))))
  · exact Or.inr (Or.inr (Or.inr (Or.inr ((own_eqI (by rw [q]; decide))))))
theorem own_off5 (x : Int32) : own_five ((x &&& (2147483647 : Int32)) % (5 : Int32)) := by
  have a := c_and x 2147483647 (by decide)
  have b := (c_irem (x &&& (2147483647 : Int32)) 5 5 (by decide)).1 a.1
  exact own_in5 (by rw [b]; omega) (by rw [b]; omega)
theorem own_nz5 {o : Int32} (h : own_five o) : ¬ (5 : Int32) - o = 0 := by rcases h with rfl | rfl | rfl | rfl | rfl <;> decide
theorem own_ol {o x : Int32} (h : own_five o) (hx : 0 ≤ x.toInt) : own_OL o (x % ((5 : Int32) - o)) := by
  rcases h with rfl | rfl | rfl | rfl | rfl
  · have b := (c_irem x ((5 : Int32) - (0 : Int32)) 5 (by decide)).1 hx
    have q := own_in5 (k := x % ((5 : Int32) - (0 : Int32))) (by rw [b]; omega) (by rw [b]; omega)
    unfold own_OL
    rcases q with q | q | q | q | q <;> (rw [q]; decide)
  · have b := (c_irem x ((5 : Int32) - (1 : Int32)) 4 (by decide)).1 hx
    have q := own_in4 (k := x % ((5 : Int32) - (1 : Int32))) (by rw [b]; omega) (by rw [b]; omega)
    unfold own_OL
    rcases q with q | q | q | q <;> (rw [q]; decide)
  · have b := (c_irem x ((5 : Int32) - (2 : Int32)) 3 (by decide)).1 hx
    have q := own_in3 (k := x % ((5 : Int32) - (2 : Int32))) (by rw [b]; omega) (by rw [b]; omega)
    unfold own_OL
    rcases q with q | q | q <;> (rw [q]; decide)
  · have b := (c_irem x ((5 : Int32) - (3 : Int32)) 2 (by decide)).1 hx
    have q := own_in2 (k := x % ((5 : Int32) - (3 : Int32))) (by rw [b]; omega) (by rw [b]; omega)
    unfold own_OL
    rcases q with q | q <;> (rw [q]; decide)
  · have b := (c_irem x ((5 : Int32) - (4 : Int32)) 1 (by decide)).1 hx
    have q := own_in1 (k := x % ((5 : Int32) - (4 : Int32))) (by rw [b]; omega) (by rw [b]; omega)
    unfold own_OL
    rw [q]; decide
theorem own_c01 (x : Int32) : (x &&& (1 : Int32)) = 0 ∨ (x &&& (1 : Int32)) = 1 := by
  have a := c_and x 1 (by decide)
  have e1 : (1 : Int32).toInt = 1 := by decide
  exact own_in2 a.1 (by omega)
theorem own_c255 (x : Int32) : ¬ (255 : Int32) < (x &&& (255 : Int32)).toUInt32.toUInt16.toUInt32.toInt32 := by
  have h := c_and x 255 (by decide)
  have e1 : (255 : Int32).toInt = 255 := by decide
  rw [i2c_mask]
  intro q; have := Int32.lt_iff_toInt_lt.mp q; omega
theorem own_hp {b0 b1 b2 b3 : Int32} (h0 : ¬ b0 < 0 ∧ ¬ (127 : Int32) < b0) (h1 : ¬ b1 < 0 ∧ ¬ (127 : Int32) < b1) (h2 : ¬ b2 < 0 ∧ ¬ (127 : Int32) < b2) (h3 : ¬ b3 < 0 ∧ ¬ (127 : Int32) < b3) : ∀ c ∈ ([b0, b1, b2, b3] : List Int32), ¬ c < 0 := by
  intro c hc
  simp only [List.mem_cons, List.not_mem_nil, or_false] at hc
  rcases hc with rfl | rfl | rfl | rfl
  · exact h0.1
  · exact h1.1
  · exact h2.1
  · exact h3.1
theorem own_eqR {s : State} {args : Array Value} {t u : Term} {a b : Addr} (hv : (Jvm.Cond.eq t u).value args s none s [] = some true) (e1 : t.eval args s none [] s = some (.ref a)) (e2 : u.eval args s none [] s = some (.ref b)) : a = b := by
  simpa [Jvm.Cond.value, e1, e2] using hv
theorem own_lenG_ef (m : MethodId) (x0 : Addr) : entryFrame m #[(.ref x0)] 1 = mkF m 0 #[.val (.ref x0)] [] := by  first | (simp [entryFrame, mkF, argsToLocals, Value.category]; done) | rfl
def own_lenG_Q (Z : State) (x0 : Addr) (t : Addr) (kb : ClassId) (of : Int32) (ln : Int32) (b0 : Int32) (b1 : Int32) (b2 : Int32) (b3 : Int32) (zCS : Int32) (fm : Value) (cs : Addr) (h0 : Heap) (n0 : Nat) (v : Option Value) (h : Heap) (L : List Loc) : Prop := v = some (.int ln) ∧ Fr n0 L ∧ h = h0
set_option maxRecDepth 65536 in
set_option maxHeartbeats 40000000 in
theorem own_lenG (l : Launch) (Z : State) (a0 : Array Value) (hw : ∀ d ∈ tables_1, d.before a0 Z = true) (ws : List Jvm.Cond) (x0 : Addr) (t : Addr) (kb : ClassId) (of : Int32) (ln : Int32) (b0 : Int32) (b1 : Int32) (b2 : Int32) (b3 : Int32) (zCS : Int32) (fm : Value) (cs : Addr) (h0 : Heap) (n0 : Nat) (Z0 : n0 ≤ h0.size) (S_CS : own_A0 Z zCS) (nCS : ¬ zCS = 0) (S_SF : own_A2 Z fm) (hfm : fm.isRef = true) (S_UT : own_A1 Z cs) (S_IN : own_A3 Z cs) (E_cs : Exa Z Z.heap cs "sun/nio/cs/UTF_8") (O0 : Old Z n0 h0) (E_x : Exa Z h0 x0 "java/lang/String") (V_x : Fld Z h0 x0 "java/lang/String" "value" "[B" (.ref t)) (C_x : Fld Z h0 x0 "java/lang/String" "coder" "B" (.int 0)) (K_t : Arv Z h0 t kb .byte ln (((([b0, b1, b2, b3] : List Int32).drop of.toNatClampNeg).take ln.toNatClampNeg).map Value.int) (.int 0)) (hOL : own_OL of ln) :
    MetFree l own_y19 (head1 (Jvm.Cond.code own_y19 jdk_42_method_54_code 1 (some .int) :: ws) (⟨1, 0, 0, 13⟩ : Room)) (fun aa U => aa = #[(.ref x0)] ∧ Z.Warmed39 U.vm ∧ U.heap = h0) (fun _ _ _ _ _ => True) (fun _ U o U' => ∃ v L, o = .returned v ∧ own_lenG_Q Z x0 t kb of ln b0 b1 b2 b3 zCS fm cs h0 n0 v U'.heap L ∧ FrameEnd U o U' L (⟨1, 0, 0, 13⟩ : Room).cells (⟨1, 0, 0, 13⟩ : Room).slots) := by
  rcases hOL with ⟨rfl, rfl⟩ | ⟨rfl, rfl⟩ | ⟨rfl, rfl⟩ | ⟨rfl, rfl⟩ | ⟨rfl, rfl⟩ | ⟨rfl, rfl⟩ | ⟨rfl, rfl⟩ | ⟨rfl, rfl⟩ | ⟨rfl, rfl⟩ | ⟨rfl, rfl⟩ | ⟨rfl, rfl⟩ | ⟨rfl, rfl⟩ | ⟨rfl, rfl⟩ | ⟨rfl, rfl⟩ | ⟨rfl, rfl⟩
  · exact own_len_0 l Z a0 hw ws x0 t kb  zCS fm cs h0 n0 Z0 S_CS nCS S_SF hfm S_UT S_IN E_cs O0 E_x V_x C_x K_t
  · exact own_len_1 l Z a0 hw ws x0 t kb b0 zCS fm cs h0 n0 Z0 S_CS nCS S_SF hfm S_UT S_IN E_cs O0 E_x V_x C_x K_t
  · exact own_len_2 l Z a0 hw ws x0 t kb b0 b1 zCS fm cs h0 n0 Z0 S_CS nCS S_SF hfm S_UT S_IN E_cs O0 E_x V_x C_x K_t
  · exact own_len_3 l Z a0 hw ws x0 t kb b0 b1 b2 zCS fm cs h0 n0 Z0 S_CS nCS S_SF hfm S_UT S_IN E_cs O0 E_x V_x C_x K_t
  · exact own_len_4 l Z a0 hw ws x0 t kb b0 b1 b2 b3 zCS fm cs h0 n0 Z0 S_CS nCS S_SF hfm S_UT S_IN E_cs O0 E_x V_x C_x K_t
  · exact own_len_0 l Z a0 hw ws x0 t kb  zCS fm cs h0 n0 Z0 S_CS nCS S_SF hfm S_UT S_IN E_cs O0 E_x V_x C_x K_t
  · exact own_len_1 l Z a0 hw ws x0 t kb b1 zCS fm cs h0 n0 Z0 S_CS nCS S_SF hfm S_UT S_IN E_cs O0 E_x V_x C_x K_t
  · exact own_len_2 l Z a0 hw ws x0 t kb b1 b2 zCS fm cs h0 n0 Z0 S_CS nCS S_SF hfm S_UT S_IN E_cs O0 E_x V_x C_x K_t
  · exact own_len_3 l Z a0 hw ws x0 t kb b1 b2 b3 zCS fm cs h0 n0 Z0 S_CS nCS S_SF hfm S_UT S_IN E_cs O0 E_x V_x C_x K_t
  · exact own_len_0 l Z a0 hw ws x0 t kb  zCS fm cs h0 n0 Z0 S_CS nCS S_SF hfm S_UT S_IN E_cs O0 E_x V_x C_x K_t
  · exact own_len_1 l Z a0 hw ws x0 t kb b2 zCS fm cs h0 n0 Z0 S_CS nCS S_SF hfm S_UT S_IN E_cs O0 E_x V_x C_x K_t
  · exact own_len_2 l Z a0 hw ws x0 t kb b2 b3 zCS fm cs h0 n0 Z0 S_CS nCS S_SF hfm S_UT S_IN E_cs O0 E_x V_x C_x K_t
  · exact own_len_0 l Z a0 hw ws x0 t kb  zCS fm cs h0 n0 Z0 S_CS nCS S_SF hfm S_UT S_IN E_cs O0 E_x V_x C_x K_t
  · exact own_len_1 l Z a0 hw ws x0 t kb b3 zCS fm cs h0 n0 Z0 S_CS nCS S_SF hfm S_UT S_IN E_cs O0 E_x V_x C_x K_t
  · exact own_len_0 l Z a0 hw ws x0 t kb  zCS fm cs h0 n0 Z0 S_CS nCS S_SF hfm S_UT S_IN E_cs O0 E_x V_x C_x K_t
theorem own_ckG_0_ef (m : MethodId) (x0 : Addr) (ln : Int32) (yb : Addr) (of : Int32) : entryFrame m #[(.ref x0), (.int 0), (.int ln), (.ref yb), (.int of)] 5 = mkF m 0 #[.val (.ref x0), .val (.int 0), .val (.int ln), .val (.ref yb), .val (.int of)] [] := by  first | (simp [entryFrame, mkF, argsToLocals, Value.category]; done) | rfl
def own_ckG_0_Q (Z : State) (x0 : Addr) (ln : Int32) (yb : Addr) (of : Int32) (t : Addr) (kb : ClassId) (ky : ClassId) (b0 : Int32) (b1 : Int32) (b2 : Int32) (b3 : Int32) (zCS : Int32) (fm : Value) (cs : Addr) (h0 : Heap) (n0 : Nat) (v : Option Value) (h : Heap) (L : List Loc) : Prop := v = some (.int 1) ∧ Fr n0 L ∧ h = h0
set_option maxRecDepth 65536 in
set_option maxHeartbeats 40000000 in
theorem own_ckG_0 (l : Launch) (Z : State) (a0 : Array Value) (hw : ∀ d ∈ tables_1, d.before a0 Z = true) (ws : List Jvm.Cond) (x0 : Addr) (ln : Int32) (yb : Addr) (of : Int32) (t : Addr) (kb : ClassId) (ky : ClassId) (b0 : Int32) (b1 : Int32) (b2 : Int32) (b3 : Int32) (zCS : Int32) (fm : Value) (cs : Addr) (h0 : Heap) (n0 : Nat) (Z0 : n0 ≤ h0.size) (S_CS : own_A0 Z zCS) (nCS : ¬ zCS = 0) (S_SF : own_A2 Z fm) (hfm : fm.isRef = true) (S_UT : own_A1 Z cs) (S_IN : own_A3 Z cs) (E_cs : Exa Z Z.heap cs "sun/nio/cs/UTF_8") (O0 : Old Z n0 h0) (E_x : Exa Z h0 x0 "java/lang/String") (V_x : Fld Z h0 x0 "java/lang/String" "value" "[B" (.ref t)) (C_x : Fld Z h0 x0 "java/lang/String" "coder" "B" (.int 0)) (K_t : Arv Z h0 t kb .byte ln (((([b0, b1, b2, b3] : List Int32).drop of.toNatClampNeg).take ln.toNatClampNeg).map Value.int) (.int 0)) (hOL : own_OL of ln) (A_y : Arv Z h0 yb ky .byte (4 : Int32) [(.int b0), (.int b1), (.int b2), (.int b3)] (.int 0)) (hb0 : ¬ b0 < 0 ∧ ¬ (127 : Int32) < b0) (hb1 : ¬ b1 < 0 ∧ ¬ (127 : Int32) < b1) (hb2 : ¬ b2 < 0 ∧ ¬ (127 : Int32) < b2) (hb3 : ¬ b3 < 0 ∧ ¬ (127 : Int32) < b3) :
    MetFree l own_y10 (head1 (Jvm.Cond.code own_y10 method_2_code 5 (some .boolean) :: ws) (⟨4, 0, 0, 53⟩ : Room)) (fun aa U => aa = #[(.ref x0), (.int 0), (.int ln), (.ref yb), (.int of)] ∧ Z.Warmed39 U.vm ∧ U.heap = h0) (fun _ _ _ _ _ => True) (fun _ U o U' => ∃ v L, o = .returned v ∧ own_ckG_0_Q Z x0 ln yb of t kb ky b0 b1 b2 b3 zCS fm cs h0 n0 v U'.heap L ∧ FrameEnd U o U' L (⟨4, 0, 0, 53⟩ : Room).cells (⟨4, 0, 0, 53⟩ : Room).slots) := by
  rcases hOL with ⟨rfl, rfl⟩ | ⟨rfl, rfl⟩ | ⟨rfl, rfl⟩ | ⟨rfl, rfl⟩ | ⟨rfl, rfl⟩ | ⟨rfl, rfl⟩ | ⟨rfl, rfl⟩ | ⟨rfl, rfl⟩ | ⟨rfl, rfl⟩ | ⟨rfl, rfl⟩ | ⟨rfl, rfl⟩ | ⟨rfl, rfl⟩ | ⟨rfl, rfl⟩ | ⟨rfl, rfl⟩ | ⟨rfl, rfl⟩
  · exact own_ckN l Z a0 hw ws x0 0 0 yb 0 zCS fm cs h0 n0 Z0 S_CS nCS S_SF hfm S_UT S_IN E_cs O0 (by decide)
  · exact own_ck_0_1_0 l Z a0 hw ws x0 yb t kb ky b0 b1 b2 b3 zCS fm cs h0 n0 Z0 S_CS nCS S_SF hfm S_UT S_IN E_cs O0 E_x V_x C_x K_t A_y hb0
  · exact own_ck_0_2_0 l Z a0 hw ws x0 yb t kb ky b0 b1 b2 b3 zCS fm cs h0 n0 Z0 S_CS nCS S_SF hfm S_UT S_IN E_cs O0 E_x V_x C_x K_t A_y hb0
  · exact own_ck_0_3_0 l Z a0 hw ws x0 yb t kb ky b0 b1 b2 b3 zCS fm cs h0 n0 Z0 S_CS nCS S_SF hfm S_UT S_IN E_cs O0 E_x V_x C_x K_t A_y hb0
  · exact own_ck_0_4_0 l Z a0 hw ws x0 yb t kb ky b0 b1 b2 b3 zCS fm cs h0 n0 Z0 S_CS nCS S_SF hfm S_UT S_IN E_cs O0 E_x V_x C_x K_t A_y hb0
  · exact own_ckN l Z a0 hw ws x0 0 0 yb 1 zCS fm cs h0 n0 Z0 S_CS nCS S_SF hfm S_UT S_IN E_cs O0 (by decide)
  · exact own_ck_1_1_0 l Z a0 hw ws x0 yb t kb ky b0 b1 b2 b3 zCS fm cs h0 n0 Z0 S_CS nCS S_SF hfm S_UT S_IN E_cs O0 E_x V_x C_x K_t A_y hb1
  · exact own_ck_1_2_0 l Z a0 hw ws x0 yb t kb ky b0 b1 b2 b3 zCS fm cs h0 n0 Z0 S_CS nCS S_SF hfm S_UT S_IN E_cs O0 E_x V_x C_x K_t A_y hb1
  · exact own_ck_1_3_0 l Z a0 hw ws x0 yb t kb ky b0 b1 b2 b3 zCS fm cs h0 n0 Z0 S_CS nCS S_SF hfm S_UT S_IN E_cs O0 E_x V_x C_x K_t A_y hb1
  · exact own_ckN l Z a0 hw ws x0 0 0 yb 2 zCS fm cs h0 n0 Z0 S_CS nCS S_SF hfm S_UT S_IN E_cs O0 (by decide)
  · exact own_ck_2_1_0 l Z a0 hw ws x0 yb t kb ky b0 b1 b2 b3 zCS fm cs h0 n0 Z0 S_CS nCS S_SF hfm S_UT S_IN E_cs O0 E_x V_x C_x K_t A_y hb2
  · exact own_ck_2_2_0 l Z a0 hw ws x0 yb t kb ky b0 b1 b2 b3 zCS fm cs h0 n0 Z0 S_CS nCS S_SF hfm S_UT S_IN E_cs O0 E_x V_x C_x K_t A_y hb2
  · exact own_ckN l Z a0 hw ws x0 0 0 yb 3 zCS fm cs h0 n0 Z0 S_CS nCS S_SF hfm S_UT S_IN E_cs O0 (by decide)
  · exact own_ck_3_1_0 l Z a0 hw ws x0 yb t kb ky b0 b1 b2 b3 zCS fm cs h0 n0 Z0 S_CS nCS S_SF hfm S_UT S_IN E_cs O0 E_x V_x C_x K_t A_y hb3
  · exact own_ckN l Z a0 hw ws x0 0 0 yb 4 zCS fm cs h0 n0 Z0 S_CS nCS S_SF hfm S_UT S_IN E_cs O0 (by decide)
theorem own_ckG_1_ef (m : MethodId) (x0 : Addr) (ln : Int32) (yb : Addr) (of : Int32) : entryFrame m #[(.ref x0), (.int 1), (.int ln), (.ref yb), (.int of)] 5 = mkF m 0 #[.val (.ref x0), .val (.int 1), .val (.int ln), .val (.ref yb), .val (.int of)] [] := by  first | (simp [entryFrame, mkF, argsToLocals, Value.category]; done) | rfl
def own_ckG_1_Q (Z : State) (x0 : Addr) (ln : Int32) (yb : Addr) (of : Int32) (t : Addr) (kb : ClassId) (ky : ClassId) (b0 : Int32) (b1 : Int32) (b2 : Int32) (b3 : Int32) (zCS : Int32) (fm : Value) (cs : Addr) (h0 : Heap) (n0 : Nat) (v : Option Value) (h : Heap) (L : List Loc) : Prop := v = some (.int 1) ∧ Fr n0 L ∧ h = h0
set_option maxRecDepth 65536 in
set_option maxHeartbeats 40000000 in
theorem own_ckG_1 (l : Launch) (Z : State) (a0 : Array Value) (hw : ∀ d ∈ tables_1, d.before a0 Z = true) (ws : List Jvm.Cond) (x0 : Addr) (ln : Int32) (yb : Addr) (of : Int32) (t : Addr) (kb : ClassId) (ky : ClassId) (b0 : Int32) (b1 : Int32) (b2 : Int32) (b3 : Int32) (zCS : Int32) (fm : Value) (cs : Addr) (h0 : Heap) (n0 : Nat) (Z0 : n0 ≤ h0.size) (S_CS : own_A0 Z zCS) (nCS : ¬ zCS = 0) (S_SF : own_A2 Z fm) (hfm : fm.isRef = true) (S_UT : own_A1 Z cs) (S_IN : own_A3 Z cs) (E_cs : Exa Z Z.heap cs "sun/nio/cs/UTF_8") (O0 : Old Z n0 h0) (E_x : Exa Z h0 x0 "java/lang/String") (V_x : Fld Z h0 x0 "java/lang/String" "value" "[B" (.ref t)) (C_x : Fld Z h0 x0 "java/lang/String" "coder" "B" (.int 0)) (K_t : Arv Z h0 t kb .byte ln (((([b0, b1, b2, b3] : List Int32).drop of.toNatClampNeg).take ln.toNatClampNeg).map Value.int) (.int 0)) (hOL : own_OL of ln) (A_y : Arv Z h0 yb ky .byte (4 : Int32) [(.int b0), (.int b1), (.int b2), (.int b3)] (.int 0)) (hb0 : ¬ b0 < 0 ∧ ¬ (127 : Int32) < b0) (hb1 : ¬ b1 < 0 ∧ ¬ (127 : Int32) < b1) (hb2 : ¬ b2 < 0 ∧ ¬ (127 : Int32) < b2) (hb3 : ¬ b3 < 0 ∧ ¬ (127 : Int32) < b3) :
    MetFree l own_y10 (head1 (Jvm.Cond.code own_y10 method_2_code 5 (some .boolean) :: ws) (⟨4, 0, 0, 53⟩ : Room)) (fun aa U => aa = #[(.ref x0), (.int 1), (.int ln), (.ref yb), (.int of)] ∧ Z.Warmed39 U.vm ∧ U.heap = h0) (fun _ _ _ _ _ => True) (fun _ U o U' => ∃ v L, o = .returned v ∧ own_ckG_1_Q Z x0 ln yb of t kb ky b0 b1 b2 b3 zCS fm cs h0 n0 v U'.heap L ∧ FrameEnd U o U' L (⟨4, 0, 0, 53⟩ : Room).cells (⟨4, 0, 0, 53⟩ : Room).slots) := by
  rcases hOL with ⟨rfl, rfl⟩ | ⟨rfl, rfl⟩ | ⟨rfl, rfl⟩ | ⟨rfl, rfl⟩ | ⟨rfl, rfl⟩ | ⟨rfl, rfl⟩ | ⟨rfl, rfl⟩ | ⟨rfl, rfl⟩ | ⟨rfl, rfl⟩ | ⟨rfl, rfl⟩ | ⟨rfl, rfl⟩ | ⟨rfl, rfl⟩ | ⟨rfl, rfl⟩ | ⟨rfl, rfl⟩ | ⟨rfl, rfl⟩
  · exact own_ckN l Z a0 hw ws x0 1 0 yb 0 zCS fm cs h0 n0 Z0 S_CS nCS S_SF hfm S_UT S_IN E_cs O0 (by decide)
  · exact own_ckN l Z a0 hw ws x0 1 1 yb 0 zCS fm cs h0 n0 Z0 S_CS nCS S_SF hfm S_UT S_IN E_cs O0 (by decide)
  · exact own_ck_0_2_1 l Z a0 hw ws x0 yb t kb ky b0 b1 b2 b3 zCS fm cs h0 n0 Z0 S_CS nCS S_SF hfm S_UT S_IN E_cs O0 E_x V_x C_x K_t A_y hb1
  · exact own_ck_0_3_1 l Z a0 hw ws x0 yb t kb ky b0 b1 b2 b3 zCS fm cs h0 n0 Z0 S_CS nCS S_SF hfm S_UT S_IN E_cs O0 E_x V_x C_x K_t A_y hb1
  · exact own_ck_0_4_1 l Z a0 hw ws x0 yb t kb ky b0 b1 b2 b3 zCS fm cs h0 n0 Z0 S_CS nCS S_SF hfm S_UT S_IN E_cs O0 E_x V_x C_x K_t A_y hb1
  · exact own_ckN l Z a0 hw ws x0 1 0 yb 1 zCS fm cs h0 n0 Z0 S_CS nCS S_SF hfm S_UT S_IN E_cs O0 (by decide)
  · exact own_ckN l Z a0 hw ws x0 1 1 yb 1 zCS fm cs h0 n0 Z0 S_CS nCS S_SF hfm S_UT S_IN E_cs O0 (by decide)
  · exact own_ck_1_2_1 l Z a0 hw ws x0 yb t kb ky b0 b1 b2 b3 zCS fm cs h0 n0 Z0 S_CS nCS S_SF hfm S_UT S_IN E_cs O0 E_x V_x C_x K_t A_y hb2
  · exact own_ck_1_3_1 l Z a0 hw ws x0 yb t kb ky b0 b1 b2 b3 zCS fm cs h0 n0 Z0 S_CS nCS S_SF hfm S_UT S_IN E_cs O0 E_x V_x C_x K_t A_y hb2
  · exact own_ckN l Z a0 hw ws x0 1 0 yb 2 zCS fm cs h0 n0 Z0 S_CS nCS S_SF hfm S_UT S_IN E_cs O0 (by decide)
  · exact own_ckN l Z a0 hw ws x0 1 1 yb 2 zCS fm cs h0 n0 Z0 S_CS nCS S_SF hfm S_UT S_IN E_cs O0 (by decide)
  · exact own_ck_2_2_1 l Z a0 hw ws x0 yb t kb ky b0 b1 b2 b3 zCS fm cs h0 n0 Z0 S_CS nCS S_SF hfm S_UT S_IN E_cs O0 E_x V_x C_x K_t A_y hb3
  · exact own_ckN l Z a0 hw ws x0 1 0 yb 3 zCS fm cs h0 n0 Z0 S_CS nCS S_SF hfm S_UT S_IN E_cs O0 (by decide)
  · exact own_ckN l Z a0 hw ws x0 1 1 yb 3 zCS fm cs h0 n0 Z0 S_CS nCS S_SF hfm S_UT S_IN E_cs O0 (by decide)
  · exact own_ckN l Z a0 hw ws x0 1 0 yb 4 zCS fm cs h0 n0 Z0 S_CS nCS S_SF hfm S_UT S_IN E_cs O0 (by decide)
theorem own_ckG_2_ef (m : MethodId) (x0 : Addr) (ln : Int32) (yb : Addr) (of : Int32) : entryFrame m #[(.ref x0), (.int 2), (.int ln), (.ref yb), (.int of)] 5 = mkF m 0 #[.val (.ref x0), .val (.int 2), .val (.int ln), .val (.ref yb), .val (.int of)] [] := by  first | (simp [entryFrame, mkF, argsToLocals, Value.category]; done) | rfl
def own_ckG_2_Q (Z : State) (x0 : Addr) (ln : Int32) (yb : Addr) (of : Int32) (t : Addr) (kb : ClassId) (ky : ClassId) (b0 : Int32) (b1 : Int32) (b2 : Int32) (b3 : Int32) (zCS : Int32) (fm : Value) (cs : Addr) (h0 : Heap) (n0 : Nat) (v : Option Value) (h : Heap) (L : List Loc) : Prop := v = some (.int 1) ∧ Fr n0 L ∧ h = h0
set_option maxRecDepth 65536 in
set_option maxHeartbeats 40000000 in
theorem own_ckG_2 (l : Launch) (Z : State) (a0 : Array Value) (hw : ∀ d ∈ tables_1, d.before a0 Z = true) (ws : List Jvm.Cond) (x0 : Addr) (ln : Int32) (yb : Addr) (of : Int32) (t : Addr) (kb : ClassId) (ky : ClassId) (b0 : Int32) (b1 : Int32) (b2 : Int32) (b3 : Int32) (zCS : Int32) (fm : Value) (cs : Addr) (h0 : Heap) (n0 : Nat) (Z0 : n0 ≤ h0.size) (S_CS : own_A0 Z zCS) (nCS : ¬ zCS = 0) (S_SF : own_A2 Z fm) (hfm : fm.isRef = true) (S_UT : own_A1 Z cs) (S_IN : own_A3 Z cs) (E_cs : Exa Z Z.heap cs "sun/nio/cs/UTF_8") (O0 : Old Z n0 h0) (E_x : Exa Z h0 x0 "java/lang/String") (V_x : Fld Z h0 x0 "java/lang/String" "value" "[B" (.ref t)) (C_x : Fld Z h0 x0 "java/lang/String" "coder" "B" (.int 0)) (K_t : Arv Z h0 t kb .byte ln (((([b0, b1, b2, b3] : List Int32).drop of.toNatClampNeg).take ln.toNatClampNeg).map Value.int) (.int 0)) (hOL : own_OL of ln) (A_y : Arv Z h0 yb ky .byte (4 : Int32) [(.int b0), (.int b1), (.int b2), (.int b3)] (.int 0)) (hb0 : ¬ b0 < 0 ∧ ¬ (127 : Int32) < b0) (hb1 : ¬ b1 < 0 ∧ ¬ (127 : Int32) < b1) (hb2 : ¬ b2 < 0 ∧ ¬ (127 : Int32) < b2) (hb3 : ¬ b3 < 0 ∧ ¬ (127 : Int32) < b3) :
    MetFree l own_y10 (head1 (Jvm.Cond.code own_y10 method_2_code 5 (some .boolean) :: ws) (⟨4, 0, 0, 53⟩ : Room)) (fun aa U => aa = #[(.ref x0), (.int 2), (.int ln), (.ref yb), (.int of)] ∧ Z.Warmed39 U.vm ∧ U.heap = h0) (fun _ _ _ _ _ => True) (fun _ U o U' => ∃ v L, o = .returned v ∧ own_ckG_2_Q Z x0 ln yb of t kb ky b0 b1 b2 b3 zCS fm cs h0 n0 v U'.heap L ∧ FrameEnd U o U' L (⟨4, 0, 0, 53⟩ : Room).cells (⟨4, 0, 0, 53⟩ : Room).slots) := by
  rcases hOL with ⟨rfl, rfl⟩ | ⟨rfl, rfl⟩ | ⟨rfl, rfl⟩ | ⟨rfl, rfl⟩ | ⟨rfl, rfl⟩ | ⟨rfl, rfl⟩ | ⟨rfl, rfl⟩ | ⟨rfl, rfl⟩ | ⟨rfl, rfl⟩ | ⟨rfl, rfl⟩ | ⟨rfl, rfl⟩ | ⟨rfl, rfl⟩ | ⟨rfl, rfl⟩ | ⟨rfl, rfl⟩ | ⟨rfl, rfl⟩
  · exact own_ckN l Z a0 hw ws x0 2 0 yb 0 zCS fm cs h0 n0 Z0 S_CS nCS S_SF hfm S_UT S_IN E_cs O0 (by decide)
  · exact own_ckN l Z a0 hw ws x0 2 1 yb 0 zCS fm cs h0 n0 Z0 S_CS nCS S_SF hfm S_UT S_IN E_cs O0 (by decide)
  · exact own_ckN l Z a0 hw ws x0 2 2 yb 0 zCS fm cs h0 n0 Z0 S_CS nCS S_SF hfm S_UT S_IN E_cs O0 (by decide)
  · exact own_ck_0_3_2 l Z a0 hw ws x0 yb t kb ky b0 b1 b2 b3 zCS fm cs h0 n0 Z0 S_CS nCS S_SF hfm S_UT S_IN E_cs O0 E_x V_x C_x K_t A_y hb2
  · exact own_ck_0_4_2 l Z a0 hw ws x0 yb t kb ky b0 b1 b2 b3 zCS fm cs h0 n0 Z0 S_CS nCS S_SF hfm S_UT S_IN E_cs O0 E_x V_x C_x K_t A_y hb2
  · exact own_ckN l Z a0 hw ws x0 2 0 yb 1 zCS fm cs h0 n0 Z0 S_CS nCS S_SF hfm S_UT S_IN E_cs O0 (by decide)
  · exact own_ckN l Z a0 hw ws x0 2 1 yb 1 zCS fm cs h0 n0 Z0 S_CS nCS S_SF hfm S_UT S_IN E_cs O0 (by decide)
  · exact own_ckN l Z a0 hw ws x0 2 2 yb 1 zCS fm cs h0 n0 Z0 S_CS nCS S_SF hfm S_UT S_IN E_cs O0 (by decide)
  · exact own_ck_1_3_2 l Z a0 hw ws x0 yb t kb ky b0 b1 b2 b3 zCS fm cs h0 n0 Z0 S_CS nCS S_SF hfm S_UT S_IN E_cs O0 E_x V_x C_x K_t A_y hb3
  · exact own_ckN l Z a0 hw ws x0 2 0 yb 2 zCS fm cs h0 n0 Z0 S_CS nCS S_SF hfm S_UT S_IN E_cs O0 (by decide)
  · exact own_ckN l Z a0 hw ws x0 2 1 yb 2 zCS fm cs h0 n0 Z0 S_CS nCS S_SF hfm S_UT S_IN E_cs O0 (by decide)
  · exact own_ckN l Z a0 hw ws x0 2 2 yb 2 zCS fm cs h0 n0 Z0 S_CS nCS S_SF hfm S_UT S_IN E_cs O0 (by decide)
  · exact own_ckN l Z a0 hw ws x0 2 0 yb 3 zCS fm cs h0 n0 Z0 S_CS nCS S_SF hfm S_UT S_IN E_cs O0 (by decide)
  · exact own_ckN l Z a0 hw ws x0 2 1 yb 3 zCS fm cs h0 n0 Z0 S_CS nCS S_SF hfm S_UT S_IN E_cs O0 (by decide)
  · exact own_ckN l Z a0 hw ws x0 2 0 yb 4 zCS fm cs h0 n0 Z0 S_CS nCS S_SF hfm S_UT S_IN E_cs O0 (by decide)
theorem own_ckG_3_ef (m : MethodId) (x0 : Addr) (ln : Int32) (yb : Addr) (of : Int32) : entryFrame m #[(.ref x0), (.int 3), (.int ln), (.ref yb), (.int of)] 5 = mkF m 0 #[.val (.ref x0), .val (.int 3), .val (.int ln), .val (.ref yb), .val (.int of)] [] := by  first | (simp [entryFrame, mkF, argsToLocals, Value.category]; done) | rfl
def own_ckG_3_Q (Z : State) (x0 : Addr) (ln : Int32) (yb : Addr) (of : Int32) (t : Addr) (kb : ClassId) (ky : ClassId) (b0 : Int32) (b1 : Int32) (b2 : Int32) (b3 : Int32) (zCS : Int32) (fm : Value) (cs : Addr) (h0 : Heap) (n0 : Nat) (v : Option Value) (h : Heap) (L : List Loc) : Prop := v = some (.int 1) ∧ Fr n0 L ∧ h = h0
set_option maxRecDepth 65536 in
set_option maxHeartbeats 40000000 in
theorem own_ckG_3 (l : Launch) (Z : State) (a0 : Array Value) (hw : ∀ d ∈ tables_1, d.before a0 Z = true) (ws : List Jvm.Cond) (x0 : Addr) (ln : Int32) (yb : Addr) (of : Int32) (t : Addr) (kb : ClassId) (ky : ClassId) (b0 : Int32) (b1 : Int32) (b2 : Int32) (b3 : Int32) (zCS : Int32) (fm : Value) (cs : Addr) (h0 : Heap) (n0 : Nat) (Z0 : n0 ≤ h0.size) (S_CS : own_A0 Z zCS) (nCS : ¬ zCS = 0) (S_SF : own_A2 Z fm) (hfm : fm.isRef = true) (S_UT : own_A1 Z cs) (S_IN : own_A3 Z cs) (E_cs : Exa Z Z.heap cs "sun/nio/cs/UTF_8") (O0 : Old Z n0 h0) (E_x : Exa Z h0 x0 "java/lang/String") (V_x : Fld Z h0 x0 "java/lang/String" "value" "[B" (.ref t)) (C_x : Fld Z h0 x0 "java/lang/String" "coder" "B" (.int 0)) (K_t : Arv Z h0 t kb .byte ln (((([b0, b1, b2, b3] : List Int32).drop of.toNatClampNeg).take ln.toNatClampNeg).map Value.int) (.int 0)) (hOL : own_OL of ln) (A_y : Arv Z h0 yb ky .byte (4 : Int32) [(.int b0), (.int b1), (.int b2), (.int b3)] (.int 0)) (hb0 : ¬ b0 < 0 ∧ ¬ (127 : Int32) < b0) (hb1 : ¬ b1 < 0 ∧ ¬ (127 : Int32) < b1) (hb2 : ¬ b2 < 0 ∧ ¬ (127 : Int32) < b2) (hb3 : ¬ b3 < 0 ∧ ¬ (127 : Int32) < b3) :
    MetFree l own_y10 (head1 (Jvm.Cond.code own_y10 method_2_code 5 (some .boolean) :: ws) (⟨4, 0, 0, 53⟩ : Room)) (fun aa U => aa = #[(.ref x0), (.int 3), (.int ln), (.ref yb), (.int of)] ∧ Z.Warmed39 U.vm ∧ U.heap = h0) (fun _ _ _ _ _ => True) (fun _ U o U' => ∃ v L, o = .returned v ∧ own_ckG_3_Q Z x0 ln yb of t kb ky b0 b1 b2 b3 zCS fm cs h0 n0 v U'.heap L ∧ FrameEnd U o U' L (⟨4, 0, 0, 53⟩ : Room).cells (⟨4, 0, 0, 53⟩ : Room).slots) := by
  rcases hOL with ⟨rfl, rfl⟩ | ⟨rfl, rfl⟩ | ⟨rfl, rfl⟩ | ⟨rfl, rfl⟩ | ⟨rfl, rfl⟩ | ⟨rfl, rfl⟩ | ⟨rfl, rfl⟩ | ⟨rfl, rfl⟩ | ⟨rfl, rfl⟩ | ⟨rfl, rfl⟩ | ⟨rfl, rfl⟩ | ⟨rfl, rfl⟩ | ⟨rfl, rfl⟩ | ⟨rfl, rfl⟩ | ⟨rfl, rfl⟩
  · exact own_ckN l Z a0 hw ws x0 3 0 yb 0 zCS fm cs h0 n0 Z0 S_CS nCS S_SF hfm S_UT S_IN E_cs O0 (by decide)
  · exact own_ckN l Z a0 hw ws x0 3 1 yb 0 zCS fm cs h0 n0 Z0 S_CS nCS S_SF hfm S_UT S_IN E_cs O0 (by decide)
  · exact own_ckN l Z a0 hw ws x0 3 2 yb 0 zCS fm cs h0 n0 Z0 S_CS nCS S_SF hfm S_UT S_IN E_cs O0 (by decide)
  · exact own_ckN l Z a0 hw ws x0 3 3 yb 0 zCS fm cs h0 n0 Z0 S_CS nCS S_SF hfm S_UT S_IN E_cs O0 (by decide)
  · exact own_ck_0_4_3 l Z a0 hw ws x0 yb t kb ky b0 b1 b2 b3 zCS fm cs h0 n0 Z0 S_CS nCS S_SF hfm S_UT S_IN E_cs O0 E_x V_x C_x K_t A_y hb3
  · exact own_ckN l Z a0 hw ws x0 3 0 yb 1 zCS fm cs h0 n0 Z0 S_CS nCS S_SF hfm S_UT S_IN E_cs O0 (by decide)
  · exact own_ckN l Z a0 hw ws x0 3 1 yb 1 zCS fm cs h0 n0 Z0 S_CS nCS S_SF hfm S_UT S_IN E_cs O0 (by decide)
  · exact own_ckN l Z a0 hw ws x0 3 2 yb 1 zCS fm cs h0 n0 Z0 S_CS nCS S_SF hfm S_UT S_IN E_cs O0 (by decide)
  · exact own_ckN l Z a0 hw ws x0 3 3 yb 1 zCS fm cs h0 n0 Z0 S_CS nCS S_SF hfm S_UT S_IN E_cs O0 (by decide)
  · exact own_ckN l Z a0 hw ws x0 3 0 yb 2 zCS fm cs h0 n0 Z0 S_CS nCS S_SF hfm S_UT S_IN E_cs O0 (by decide)
  · exact own_ckN l Z a0 hw ws x0 3 1 yb 2 zCS fm cs h0 n0 Z0 S_CS nCS S_SF hfm S_UT S_IN E_cs O0 (by decide)
  · exact own_ckN l Z a0 hw ws x0 3 2 yb 2 zCS fm cs h0 n0 Z0 S_CS nCS S_SF hfm S_UT S_IN E_cs O0 (by decide)
  · exact own_ckN l Z a0 hw ws x0 3 0 yb 3 zCS fm cs h0 n0 Z0 S_CS nCS S_SF hfm S_UT S_IN E_cs O0 (by decide)
  · exact own_ckN l Z a0 hw ws x0 3 1 yb 3 zCS fm cs h0 n0 Z0 S_CS nCS S_SF hfm S_UT S_IN E_cs O0 (by decide)
  · exact own_ckN l Z a0 hw ws x0 3 0 yb 4 zCS fm cs h0 n0 Z0 S_CS nCS S_SF hfm S_UT S_IN E_cs O0 (by decide)
def own_Row (Z : State) (h : Heap) (r : Addr) (tx : Addr) (u8 : Addr) (ofs : Addr) (les : Addr) (un : Addr) (kt : ClassId) (ku : ClassId) (ko : ClassId) (kl : ClassId) (kn : ClassId) (t0 : Value) (t1 : Value) (b0 : Value) (b1 : Value) (o0 : Int32) (o1 : Int32) (l0 : Int32) (l1 : Int32) (m0 : Int32) (m1 : Int32) : Prop :=
  Exa Z h r "com/example/rowtide/rowtide/event/Row" ∧ Fld Z h r "com/example/rowtide/rowtide/event/Row" "texts" "[Ljava/lang/String;" (.ref tx) ∧ Fld Z h r "com/example/rowtide/rowtide/event/Row" "utf8" "[[B" (.ref u8) ∧ Fld Z h r "com/example/rowtide/rowtide/event/Row" "utf8Offsets" "[I" (.ref ofs) ∧ Fld Z h r "com/example/rowtide/rowtide/event/Row" "utf8Lengths" "[I" (.ref les) ∧ Fld Z h r "com/example/rowtide/rowtide/event/Row" "unavailable" "[Z" (.ref un) ∧
  Arv Z h tx kt (.object "java/lang/String") (2 : Int32) [t0, t1] .null ∧ Arv Z h u8 ku (.array .byte) (2 : Int32) [b0, b1] .null ∧ Arv Z h ofs ko .int (2 : Int32) [(.int o0), (.int o1)] (.int 0) ∧ Arv Z h les kl .int (2 : Int32) [(.int l0), (.int l1)] (.int 0) ∧ Arv Z h un kn .boolean (2 : Int32) [(.int m0), (.int m1)] (.int 0)
def own_RowA (Z : State) (n0 : Nat) (r : Addr) (tx : Addr) (u8 : Addr) (ofs : Addr) (les : Addr) (un : Addr) (kt : ClassId) (ku : ClassId) (ko : ClassId) (kl : ClassId) (kn : ClassId) : Prop :=
  Ovr Z kt "java/lang/String" ∧ OvrA Z ku .byte "[B" ∧ n0 ≤ tx ∧ n0 ≤ u8 ∧ n0 ≤ ofs ∧ n0 ≤ les ∧ n0 ≤ un ∧ r ≠ tx ∧ r ≠ u8 ∧ r ≠ ofs ∧ r ≠ les ∧ r ≠ un ∧ tx ≠ u8 ∧ tx ≠ ofs ∧ tx ≠ les ∧ tx ≠ un ∧ u8 ≠ ofs ∧ u8 ≠ les ∧ u8 ≠ un ∧ ofs ≠ les ∧ ofs ≠ un ∧ les ≠ un
def own_isn (t b : Value) (n : Int32) : Bool := decide (t = .null) && decide (b = .null) && decide (n = 0)
def own_b (f : Bool) : Int32 := if f then 1 else 0
theorem own_d1_0 : decode prog_10_method_1_code 0 = .ok (.aload_n 0, 1) := by decide +kernel
theorem own_d1_1 : decode prog_10_method_1_code 1 = .ok (.invokespecial 1, 3) := by decide +kernel
theorem own_d1_4 : decode prog_10_method_1_code 4 = .ok (.aload_n 0, 1) := by decide +kernel
theorem own_d1_5 : decode prog_10_method_1_code 5 = .ok (.iload_n 1, 1) := by decide +kernel
theorem own_d1_6 : decode prog_10_method_1_code 6 = .ok (.anewarray 7, 3) := by decide +kernel
theorem own_d1_9 : decode prog_10_method_1_code 9 = .ok (.putfield 9, 3) := by decide +kernel
theorem own_d1_12 : decode prog_10_method_1_code 12 = .ok (.aload_n 0, 1) := by decide +kernel
theorem own_d1_13 : decode prog_10_method_1_code 13 = .ok (.iload_n 1, 1) := by decide +kernel
theorem own_d1_14 : decode prog_10_method_1_code 14 = .ok (.anewarray 15, 3) := by decide +kernel
theorem own_d1_17 : decode prog_10_method_1_code 17 = .ok (.putfield 17, 3) := by decide +kernel
theorem own_d1_20 : decode prog_10_method_1_code 20 = .ok (.aload_n 0, 1) := by decide +kernel
theorem own_d1_21 : decode prog_10_method_1_code 21 = .ok (.iload_n 1, 1) := by decide +kernel
theorem own_d1_22 : decode prog_10_method_1_code 22 = .ok (.newarray .int, 2) := by decide +kernel
theorem own_d1_24 : decode prog_10_method_1_code 24 = .ok (.putfield 21, 3) := by decide +kernel
theorem own_d1_27 : decode prog_10_method_1_code 27 = .ok (.aload_n 0, 1) := by decide +kernel
theorem own_d1_28 : decode prog_10_method_1_code 28 = .ok (.iload_n 1, 1) := by decide +kernel
theorem own_d1_29 : decode prog_10_method_1_code 29 = .ok (.newarray .int, 2) := by decide +kernel
theorem own_d1_31 : decode prog_10_method_1_code 31 = .ok (.putfield 25, 3) := by decide +kernel
theorem own_d1_34 : decode prog_10_method_1_code 34 = .ok (.aload_n 0, 1) := by decide +kernel
theorem own_d1_35 : decode prog_10_method_1_code 35 = .ok (.iload_n 1, 1) := by decide +kernel
theorem own_d1_36 : decode prog_10_method_1_code 36 = .ok (.newarray .boolean, 2) := by decide +kernel
theorem own_d1_38 : decode prog_10_method_1_code 38 = .ok (.putfield 28, 3) := by decide +kernel
theorem own_d1_41 : decode prog_10_method_1_code 41 = .ok (.return_, 1) := by decide +kernel
theorem own_rowInit_ef (m : MethodId) (r : Addr) : entryFrame m #[(.ref r), (.int 2)] 2 = mkF m 0 #[.val (.ref r), .val (.int 2)] [] := by  first | (simp [entryFrame, mkF, argsToLocals, Value.category]; done) | rfl
def own_rowInit_Q (Z : State) (r : Addr) (h0 : Heap) (n0 : Nat) (v : Option Value) (h : Heap) (L : List Loc) : Prop := v = none ∧ Fr n0 L ∧ Keep h0 h [r] ∧ ∃ (tx : Addr) (u8 : Addr) (ofs : Addr) (les : Addr) (un : Addr) (kt : ClassId) (ku : ClassId) (ko : ClassId) (kl : ClassId) (kn : ClassId), own_RowA Z n0 r tx u8 ofs les un kt ku ko kl kn ∧ own_Row Z h r tx u8 ofs les un kt ku ko kl kn .null .null .null .null (0 : Int32) (0 : Int32) (0 : Int32) (0 : Int32) (0 : Int32) (0 : Int32) ∧ h0.size ≤ tx ∧ h0.size ≤ u8 ∧ h0.size ≤ ofs ∧ h0.size ≤ les ∧ h0.size ≤ un
theorem own_pn_com_example_rowtide_rowtide_event_Row : plainName "com/example/rowtide/rowtide/event/Row" = true := by first | (simp [plainName, overriddenIn]; done) | decide +kernel
set_option maxRecDepth 65536 in
set_option maxHeartbeats 40000000 in
theorem own_rowInit (l : Launch) (Z : State) (a0 : Array Value) (hw : ∀ d ∈ tables_1, d.before a0 Z = true) (ws : List Jvm.Cond) (r : Addr) (h0 : Heap) (n0 : Nat) (Z0 : n0 ≤ h0.size) (E_r : Exa Z h0 r "com/example/rowtide/rowtide/event/Row") (g_r : n0 ≤ r) (F_texts : Fld Z h0 r "com/example/rowtide/rowtide/event/Row" "texts" "[Ljava/lang/String;" .null) (F_utf8 : Fld Z h0 r "com/example/rowtide/rowtide/event/Row" "utf8" "[[B" .null) (F_utf8Offsets : Fld Z h0 r "com/example/rowtide/rowtide/event/Row" "utf8Offsets" "[I" .null) (F_utf8Lengths : Fld Z h0 r "com/example/rowtide/rowtide/event/Row" "utf8Lengths" "[I" .null) (F_unavailable : Fld Z h0 r "com/example/rowtide/rowtide/event/Row" "unavailable" "[Z" .null) :
    MetFree l (⟨"com/example/rowtide/rowtide/event/Row", "<init>", "(I)V"⟩ : MethodName) (head1 (Jvm.Cond.code (⟨"com/example/rowtide/rowtide/event/Row", "<init>", "(I)V"⟩ : MethodName) prog_10_method_1_code 2 none :: ws) (⟨1, 5, 10, 12⟩ : Room)) (fun aa U => aa = #[(.ref r), (.int 2)] ∧ Z.Warmed39 U.vm ∧ U.heap = h0) (fun _ _ _ _ _ => True) (fun _ U o U' => ∃ v L, o = .returned v ∧ own_rowInit_Q Z r h0 n0 v U'.heap L ∧ FrameEnd U o U' L (⟨1, 5, 10, 12⟩ : Room).cells (⟨1, 5, 10, 12⟩ : Room).slots) := by
  refine MetFree.of_bodySF (plainFor_of_name own_pn_com_example_rowtide_rowtide_event_Row) hisR ?_
  intro p e s m args below meth c s₁ Bd hml0 hP hK
  obtain ⟨rfl, hZ, hh⟩ := hP
  have hx := Bd.exec
  have hby := Bd.bytes
  have hml : c.maxLocals = 2 := hml0
  have hown : s.vm.findClass "com/example/rowtide/rowtide/event/Row" = some m.cls := findClass_of_methodNamed Bd.named
  have hnm := (name_of_methodNamed Bd.named Bd.method).1
  have hlk := Bd.notSynchronized
  have X0 : Stand p l e (⟨1, 5, 10, 12⟩ : Room) s m #[(.ref r), (.int 2)] below meth c s₁ [] 0 0 := Stand.of_body Bd
  have e0 : s₁.heap = h0 := by rw [← hh, Bd.state]; rfl
  have N0 := Fr.nil n0
  refine own_start (Q := own_rowInit_Q Z r h0 n0) (own_rowInit_ef m r) ?_
  refine own_g (mkF m 1 #[.val (.ref r), .val (.int 2)] [(.ref r)]) (fun _ q => XS.aloadN X0.here hx rfl (hb hby own_d1_0) rfl rfl q) ?_
  obtain ⟨T1, X1, e1, st1⟩ := initO X0 hx hZ hown (own_h hw 10 rfl) (own_h hw 11 rfl) (own_h hw 12 rfl) e0 (g := (mkF m 1 #[.val (.ref r), .val (.int 2)] [(.ref r)])) rfl (by rw [hml]; rfl) rfl (hb hby own_d1_1) (by decide) (W := 0) (Nat.le_of_eq rfl) (by decide)
  refine own_by (g' := (mkF m 4 #[.val (.ref r), .val (.int 2)] [])) st1 ?_
  refine own_g (mkF m 6 #[.val (.ref r), .val (.int 2)] [(.int 2), (.ref r)]) (fun _ q => XS.aloadN X1.here hx rfl (hb hby own_d1_4) rfl rfl (XS.iloadN X1.here hx rfl (hb hby own_d1_5) rfl q)) ?_
  obtain ⟨T2, h2, k2, X2, e2, E2, A2, O2, st2⟩ := newR X1 hx hZ hown (own_h hw 13 rfl) (own_h hw 14 rfl) e1 (g := (mkF m 6 #[.val (.ref r), .val (.int 2)] [(.int 2), (.ref r)])) rfl (hb hby own_d1_6) rfl (by decide) (cap := 2) (by decide) (by decide) (by decide) (by decide)
  obtain ⟨b2, g2⟩ : ∃ z, z = h0.size := ⟨_, rfl⟩
  rw [← g2] at A2 st2
  have g_b2 : n0 ≤ b2 := Nat.le_trans (Nat.le_trans Z0 (Keep.refl h0 [r]).1) (Nat.le_of_eq g2.symm)
  have sz_b2 : h0.size ≤ b2 := Nat.le_trans (Keep.refl h0 [r]).1 (Nat.le_of_eq g2.symm)
  have ne_r_b2 : r ≠ b2 := Nat.ne_of_lt (Nat.lt_of_lt_of_le E_r.lt (Nat.le_of_eq g2.symm))
  have V_b2 : Arv Z h2 b2 k2 (.object "java/lang/String") (2 : Int32) [.null, .null] .null := (Arv.new A2 (by decide)).pad (pad_rep [] .null 2)
  refine own_by (g' := (mkF m 9 #[.val (.ref r), .val (.int 2)] [(.ref b2), (.ref r)])) st2 ?_
  have e3_r := (E_r.ext E2)
  have f4_r := (F_texts.ext E2)
  obtain ⟨T5, h5, X5, e5, W5, st5⟩ := putF X2 hx hZ hown (host := "") (Or.inl (own_h hw 15 rfl)) Via.refl e2 f4_r e3_r (Or.inr ⟨(own_h hw 16 rfl), rfl, hnm⟩) (own_h hw 5 rfl) (ty := (.array (.object "java/lang/String"))) (by decide) (rfl) (rfl) (g := (mkF m 9 #[.val (.ref r), .val (.int 2)] [(.ref b2), (.ref r)])) rfl rfl (hb hby own_d1_9)
  have Fw5 := f4_r.same W5
  have N5 := Fr.snoc X5 N0 g_r
  refine own_by (g' := (mkF m 12 #[.val (.ref r), .val (.int 2)] [])) st5 ?_
  refine own_g (mkF m 14 #[.val (.ref r), .val (.int 2)] [(.int 2), (.ref r)]) (fun _ q => XS.aloadN X5.here hx rfl (hb hby own_d1_12) rfl rfl (XS.iloadN X5.here hx rfl (hb hby own_d1_13) rfl q)) ?_
  obtain ⟨T6, h6, k6, X6, e6, E6, A6, Ex6, O6, st6⟩ := newRA X5 hx hZ hown (C := "[B") (ty := .byte) (by decide) (own_h hw 17 rfl) (own_h hw 18 rfl) e5 (g := (mkF m 14 #[.val (.ref r), .val (.int 2)] [(.int 2), (.ref r)])) rfl (hb hby own_d1_14) rfl (by decide) (cap := 2) (by decide) (by decide) (by decide) (by decide) (ad := "[[B") (by decide)
  obtain ⟨b6, g6⟩ : ∃ z, z = h5.size := ⟨_, rfl⟩
  rw [← g6] at A6 Ex6 st6
  have k7_ := (((Keep.refl h0 [r]).ext E2).wr W5 (Or.inl (List.mem_of_getElem? (i := 0) rfl)))
  have g_b6 : n0 ≤ b6 := Nat.le_trans (Nat.le_trans Z0 k7_.1) (Nat.le_of_eq g6.symm)
  have sz_b6 : h0.size ≤ b6 := Nat.le_trans k7_.1 (Nat.le_of_eq g6.symm)
  have e8_r := (e3_r.wr W5)
  have ne_r_b6 : r ≠ b6 := Nat.ne_of_lt (Nat.lt_of_lt_of_le e8_r.lt (Nat.le_of_eq g6.symm))
  have a9_b2 := (V_b2.other W5 (Ne.symm ne_r_b2))
  have ne_b2_b6 : b2 ≠ b6 := Nat.ne_of_lt (Nat.lt_of_lt_of_le a9_b2.lt (Nat.le_of_eq g6.symm))
  have V_b6 : Arv Z h6 b6 k6 (.array .byte) (2 : Int32) [.null, .null] .null := (Arv.new A6 (by decide)).pad (pad_rep [] .null 2)
  refine own_by (g' := (mkF m 17 #[.val (.ref r), .val (.int 2)] [(.ref b6), (.ref r)])) st6 ?_
  have e10_r := (e8_r.ext E6)
  have f11_r := (((F_utf8.ext E2).other W5 (Or.inr (slot_ne (Or.inr (own_h hw 20 rfl)) (Or.inr (own_h hw 16 rfl)) (by decide) (t := (.array (.array .byte))) (t' := (.array (.object "java/lang/String"))) (by decide) (by decide)))).ext E6)
  obtain ⟨T12, h12, X12, e12, W12, st12⟩ := putF X6 hx hZ hown (host := "") (Or.inl (own_h hw 19 rfl)) Via.refl e6 f11_r e10_r (Or.inr ⟨(own_h hw 20 rfl), rfl, hnm⟩) (own_h hw 5 rfl) (ty := (.array (.array .byte))) (by decide) (rfl) (rfl) (g := (mkF m 17 #[.val (.ref r), .val (.int 2)] [(.ref b6), (.ref r)])) rfl rfl (hb hby own_d1_17)
  have Fw12 := f11_r.same W12
  have N12 := Fr.snoc X12 N5 g_r
  refine own_by (g' := (mkF m 20 #[.val (.ref r), .val (.int 2)] [])) st12 ?_
  refine own_g (mkF m 22 #[.val (.ref r), .val (.int 2)] [(.int 2), (.ref r)]) (fun _ q => XS.aloadN X12.here hx rfl (hb hby own_d1_20) rfl rfl (XS.iloadN X12.here hx rfl (hb hby own_d1_21) rfl q)) ?_
  obtain ⟨T13, h13, k13, X13, e13, E13, A13, st13⟩ := newP X12 hx hZ (own_h hw 21 rfl) e12 (g := (mkF m 22 #[.val (.ref r), .val (.int 2)] [(.int 2), (.ref r)])) rfl (hb hby own_d1_22) rfl (by decide) (cap := 2) (by decide) (by decide) (by decide) (by decide)
  obtain ⟨b13, g13⟩ : ∃ z, z = h12.size := ⟨_, rfl⟩
  rw [← g13] at A13 st13
  have k14_ := ((k7_.ext E6).wr W12 (Or.inl (List.mem_of_getElem? (i := 0) rfl)))
  have g_b13 : n0 ≤ b13 := Nat.le_trans (Nat.le_trans Z0 k14_.1) (Nat.le_of_eq g13.symm)
  have sz_b13 : h0.size ≤ b13 := Nat.le_trans k14_.1 (Nat.le_of_eq g13.symm)
  have e15_r := (e10_r.wr W12)
  have ne_r_b13 : r ≠ b13 := Nat.ne_of_lt (Nat.lt_of_lt_of_le e15_r.lt (Nat.le_of_eq g13.symm))
  have a16_b2 := ((a9_b2.ext E6).other W12 (Ne.symm ne_r_b2))
  have ne_b2_b13 : b2 ≠ b13 := Nat.ne_of_lt (Nat.lt_of_lt_of_le a16_b2.lt (Nat.le_of_eq g13.symm))
  have a17_b6 := (V_b6.other W12 (Ne.symm ne_r_b6))
  have ne_b6_b13 : b6 ≠ b13 := Nat.ne_of_lt (Nat.lt_of_lt_of_le a17_b6.lt (Nat.le_of_eq g13.symm))
  have V_b13 : Arv Z h13 b13 k13 .int (2 : Int32) [(.int 0), (.int 0)] (.int 0) := (Arv.new A13 (by decide)).pad (pad_rep [] (.int 0) 2)
  refine own_by (g' := (mkF m 24 #[.val (.ref r), .val (.int 2)] [(.ref b13), (.ref r)])) st13 ?_
  have e18_r := (e15_r.ext E13)
  have f19_r := (((((F_utf8Offsets.ext E2).other W5 (Or.inr (slot_ne (Or.inr (own_h hw 23 rfl)) (Or.inr (own_h hw 16 rfl)) (by decide) (t := (.array .int)) (t' := (.array (.object "java/lang/String"))) (by decide) (by decide)))).ext E6).other W12 (Or.inr (slot_ne (Or.inr (own_h hw 23 rfl)) (Or.inr (own_h hw 20 rfl)) (by decide) (t := (.array .int)) (t' := (.array (.array .byte))) (by decide) (by decide)))).ext E13)
  obtain ⟨T20, h20, X20, e20, W20, st20⟩ := putF X13 hx hZ hown (host := "") (Or.inl (own_h hw 22 rfl)) Via.refl e13 f19_r e18_r (Or.inr ⟨(own_h hw 23 rfl), rfl, hnm⟩) (own_h hw 5 rfl) (ty := (.array .int)) (by decide) (rfl) (rfl) (g := (mkF m 24 #[.val (.ref r), .val (.int 2)] [(.ref b13), (.ref r)])) rfl rfl (hb hby own_d1_24)
  have Fw20 := f19_r.same W20
  have N20 := Fr.snoc X20 N12 g_r
  refine own_by (g' := (mkF m 27 #[.val (.ref r), .val (.int 2)] [])) st20 ?_
  refine own_g (mkF m 29 #[.val (.ref r), .val (.int 2)] [(.int 2), (.ref r)]) (fun _ q => XS.aloadN X20.here hx rfl (hb hby own_d1_27) rfl rfl (XS.iloadN X20.here hx rfl (hb hby own_d1_28) rfl q)) ?_
  obtain ⟨T21, h21, k21, X21, e21, E21, A21, st21⟩ := newP X20 hx hZ (own_h hw 21 rfl) e20 (g := (mkF m 29 #[.val (.ref r), .val (.int 2)] [(.int 2), (.ref r)])) rfl (hb hby own_d1_29) rfl (by decide) (cap := 2) (by decide) (by decide) (by decide) (by decide)
  obtain ⟨b21, g21⟩ : ∃ z, z = h20.size := ⟨_, rfl⟩
  rw [← g21] at A21 st21
  have k22_ := ((k14_.ext E13).wr W20 (Or.inl (List.mem_of_getElem? (i := 0) rfl)))
  have g_b21 : n0 ≤ b21 := Nat.le_trans (Nat.le_trans Z0 k22_.1) (Nat.le_of_eq g21.symm)
  have sz_b21 : h0.size ≤ b21 := Nat.le_trans k22_.1 (Nat.le_of_eq g21.symm)
  have e23_r := (e18_r.wr W20)
  have ne_r_b21 : r ≠ b21 := Nat.ne_of_lt (Nat.lt_of_lt_of_le e23_r.lt (Nat.le_of_eq g21.symm))
  have a24_b2 := ((a16_b2.ext E13).other W20 (Ne.symm ne_r_b2))
  have ne_b2_b21 : b2 ≠ b21 := Nat.ne_of_lt (Nat.lt_of_lt_of_le a24_b2.lt (Nat.le_of_eq g21.symm))
  have a25_b6 := ((a17_b6.ext E13).other W20 (Ne.symm ne_r_b6))
  have ne_b6_b21 : b6 ≠ b21 := Nat.ne_of_lt (Nat.lt_of_lt_of_le a25_b6.lt (Nat.le_of_eq g21.symm))
  have a26_b13 := (V_b13.other W20 (Ne.symm ne_r_b13))
  have ne_b13_b21 : b13 ≠ b21 := Nat.ne_of_lt (Nat.lt_of_lt_of_le a26_b13.lt (Nat.le_of_eq g21.symm))
  have V_b21 : Arv Z h21 b21 k21 .int (2 : Int32) [(.int 0), (.int 0)] (.int 0) := (Arv.new A21 (by decide)).pad (pad_rep [] (.int 0) 2)
  refine own_by (g' := (mkF m 31 #[.val (.ref r), .val (.int 2)] [(.ref b21), (.ref r)])) st21 ?_
  have e27_r := (e23_r.ext E21)
  have f28_r := (((((((F_utf8Lengths.ext E2).other W5 (Or.inr (slot_ne (Or.inr (own_h hw 25 rfl)) (Or.inr (own_h hw 16 rfl)) (by decide) (t := (.array .int)) (t' := (.array (.object "java/lang/String"))) (by decide) (by decide)))).ext E6).other W12 (Or.inr (slot_ne (Or.inr (own_h hw 25 rfl)) (Or.inr (own_h hw 20 rfl)) (by decide) (t := (.array .int)) (t' := (.array (.array .byte))) (by decide) (by decide)))).ext E13).other W20 (Or.inr (slot_ne (Or.inr (own_h hw 25 rfl)) (Or.inr (own_h hw 23 rfl)) (by decide) (t := (.array .int)) (t' := (.array .int)) (by decide) (by decide)))).ext E21)
  obtain ⟨T29, h29, X29, e29, W29, st29⟩ := putF X21 hx hZ hown (host := "") (Or.inl (own_h hw 24 rfl)) Via.refl e21 f28_r e27_r (Or.inr ⟨(own_h hw 25 rfl), rfl, hnm⟩) (own_h hw 5 rfl) (ty := (.array .int)) (by decide) (rfl) (rfl) (g := (mkF m 31 #[.val (.ref r), .val (.int 2)] [(.ref b21), (.ref r)])) rfl rfl (hb hby own_d1_31)
  have Fw29 := f28_r.same W29
  have N29 := Fr.snoc X29 N20 g_r
  refine own_by (g' := (mkF m 34 #[.val (.ref r), .val (.int 2)] [])) st29 ?_
  refine own_g (mkF m 36 #[.val (.ref r), .val (.int 2)] [(.int 2), (.ref r)]) (fun _ q => XS.aloadN X29.here hx rfl (hb hby own_d1_34) rfl rfl (XS.iloadN X29.here hx rfl (hb hby own_d1_35) rfl q)) ?_
  obtain ⟨T30, h30, k30, X30, e30, E30, A30, st30⟩ := newP X29 hx hZ (own_h hw 26 rfl) e29 (g := (mkF m 36 #[.val (.ref r), .val (.int 2)] [(.int 2), (.ref r)])) rfl (hb hby own_d1_36) rfl (by decide) (cap := 2) (by decide) (by decide) (by decide) (by decide)
  obtain ⟨b30, g30⟩ : ∃ z, z = h29.size := ⟨_, rfl⟩
  rw [← g30] at A30 st30
  have k31_ := ((k22_.ext E21).wr W29 (Or.inl (List.mem_of_getElem? (i := 0) rfl)))
  have g_b30 : n0 ≤ b30 := Nat.le_trans (Nat.le_trans Z0 k31_.1) (Nat.le_of_eq g30.symm)
  have sz_b30 : h0.size ≤ b30 := Nat.le_trans k31_.1 (Nat.le_of_eq g30.symm)
  have e32_r := (e27_r.wr W29)
  have ne_r_b30 : r ≠ b30 := Nat.ne_of_lt (Nat.lt_of_lt_of_le e32_r.lt (Nat.le_of_eq g30.symm))
  have a33_b2 := ((a24_b2.ext E21).other W29 (Ne.symm ne_r_b2))
  have ne_b2_b30 : b2 ≠ b30 := Nat.ne_of_lt (Nat.lt_of_lt_of_le a33_b2.lt (Nat.le_of_eq g30.symm))
  have a34_b6 := ((a25_b6.ext E21).other W29 (Ne.symm ne_r_b6))
  have ne_b6_b30 : b6 ≠ b30 := Nat.ne_of_lt (Nat.lt_of_lt_of_le a34_b6.lt (Nat.le_of_eq g30.symm))
  have a35_b13 := ((a26_b13.ext E21).other W29 (Ne.symm ne_r_b13))
  have ne_b13_b30 : b13 ≠ b30 := Nat.ne_of_lt (Nat.lt_of_lt_of_le a35_b13.lt (Nat.le_of_eq g30.symm))
  have a36_b21 := (V_b21.other W29 (Ne.symm ne_r_b21))
  have ne_b21_b30 : b21 ≠ b30 := Nat.ne_of_lt (Nat.lt_of_lt_of_le a36_b21.lt (Nat.le_of_eq g30.symm))
  have V_b30 : Arv Z h30 b30 k30 .boolean (2 : Int32) [(.int 0), (.int 0)] (.int 0) := (Arv.new A30 (by decide)).pad (pad_rep [] (.int 0) 2)
  refine own_by (g' := (mkF m 38 #[.val (.ref r), .val (.int 2)] [(.ref b30), (.ref r)])) st30 ?_
  have e37_r := (e32_r.ext E30)
  have f38_r := (((((((((F_unavailable.ext E2).other W5 (Or.inr (slot_ne (Or.inr (own_h hw 28 rfl)) (Or.inr (own_h hw 16 rfl)) (by decide) (t := (.array .boolean)) (t' := (.array (.object "java/lang/String"))) (by decide) (by decide)))).ext E6).other W12 (Or.inr (slot_ne (Or.inr (own_h hw 28 rfl)) (Or.inr (own_h hw 20 rfl)) (by decide) (t := (.array .boolean)) (t' := (.array (.array .byte))) (by decide) (by decide)))).ext E13).other W20 (Or.inr (slot_ne (Or.inr (own_h hw 28 rfl)) (Or.inr (own_h hw 23 rfl)) (by decide) (t := (.array .boolean)) (t' := (.array .int)) (by decide) (by decide)))).ext E21).other W29 (Or.inr (slot_ne (Or.inr (own_h hw 28 rfl)) (Or.inr (own_h hw 25 rfl)) (by decide) (t := (.array .boolean)) (t' := (.array .int)) (by decide) (by decide)))).ext E30)
  obtain ⟨T39, h39, X39, e39, W39, st39⟩ := putF X30 hx hZ hown (host := "") (Or.inl (own_h hw 27 rfl)) Via.refl e30 f38_r e37_r (Or.inr ⟨(own_h hw 28 rfl), rfl, hnm⟩) (own_h hw 5 rfl) (ty := (.array .boolean)) (by decide) (rfl) (rfl) (g := (mkF m 38 #[.val (.ref r), .val (.int 2)] [(.ref b30), (.ref r)])) rfl rfl (hb hby own_d1_38)
  have Fw39 := f38_r.same W39
  have N39 := Fr.snoc X39 N29 g_r
  refine own_by (g' := (mkF m 41 #[.val (.ref r), .val (.int 2)] [])) st39 ?_
  have f40_r := ((((((((Fw5.ext E6).other W12 (Or.inr (slot_ne (Or.inr (own_h hw 16 rfl)) (Or.inr (own_h hw 20 rfl)) (by decide) (t := (.array (.object "java/lang/String"))) (t' := (.array (.array .byte))) (by decide) (by decide)))).ext E13).other W20 (Or.inr (slot_ne (Or.inr (own_h hw 16 rfl)) (Or.inr (own_h hw 23 rfl)) (by decide) (t := (.array (.object "java/lang/String"))) (t' := (.array .int)) (by decide) (by decide)))).ext E21).other W29 (Or.inr (slot_ne (Or.inr (own_h hw 16 rfl)) (Or.inr (own_h hw 25 rfl)) (by decide) (t := (.array (.object "java/lang/String"))) (t' := (.array .int)) (by decide) (by decide)))).ext E30).other W39 (Or.inr (slot_ne (Or.inr (own_h hw 16 rfl)) (Or.inr (own_h hw 28 rfl)) (by decide) (t := (.array (.object "java/lang/String"))) (t' := (.array .boolean)) (by decide) (by decide))))
  have f41_r := ((((((Fw12.ext E13).other W20 (Or.inr (slot_ne (Or.inr (own_h hw 20 rfl)) (Or.inr (own_h hw 23 rfl)) (by decide) (t := (.array (.array .byte))) (t' := (.array .int)) (by decide) (by decide)))).ext E21).other W29 (Or.inr (slot_ne (Or.inr (own_h hw 20 rfl)) (Or.inr (own_h hw 25 rfl)) (by decide) (t := (.array (.array .byte))) (t' := (.array .int)) (by decide) (by decide)))).ext E30).other W39 (Or.inr (slot_ne (Or.inr (own_h hw 20 rfl)) (Or.inr (own_h hw 28 rfl)) (by decide) (t := (.array (.array .byte))) (t' := (.array .boolean)) (by decide) (by decide))))
  have f42_r := ((((Fw20.ext E21).other W29 (Or.inr (slot_ne (Or.inr (own_h hw 23 rfl)) (Or.inr (own_h hw 25 rfl)) (by decide) (t := (.array .int)) (t' := (.array .int)) (by decide) (by decide)))).ext E30).other W39 (Or.inr (slot_ne (Or.inr (own_h hw 23 rfl)) (Or.inr (own_h hw 28 rfl)) (by decide) (t := (.array .int)) (t' := (.array .boolean)) (by decide) (by decide))))
  have f43_r := ((Fw29.ext E30).other W39 (Or.inr (slot_ne (Or.inr (own_h hw 25 rfl)) (Or.inr (own_h hw 28 rfl)) (by decide) (t := (.array .int)) (t' := (.array .boolean)) (by decide) (by decide))))
  have a44_b2 := ((a33_b2.ext E30).other W39 (Ne.symm ne_r_b2))
  have a45_b6 := ((a34_b6.ext E30).other W39 (Ne.symm ne_r_b6))
  have a46_b13 := ((a35_b13.ext E30).other W39 (Ne.symm ne_r_b13))
  have a47_b21 := ((a36_b21.ext E30).other W39 (Ne.symm ne_r_b21))
  have a48_b30 := (V_b30.other W39 (Ne.symm ne_r_b30))
  have e49_r := (e37_r.wr W39)
  have k50_ := ((k31_.ext E30).wr W39 (Or.inl (List.mem_of_getElem? (i := 0) rfl)))
  exact own_end X39 (v := none) (fun _ => rfl) hlk (fun hr => X39.returnOut hx Bd.returns (hb hby own_d1_41) hr) (by rw [e39]; exact ⟨rfl, N39, k50_, b2, b6, b13, b21, b30, k2, k6, k13, k21, k30, ⟨O2, O6, g_b2, g_b6, g_b13, g_b21, g_b30, ne_r_b2, ne_r_b6, ne_r_b13, ne_r_b21, ne_r_b30, ne_b2_b6, ne_b2_b13, ne_b2_b21, ne_b2_b30, ne_b6_b13, ne_b6_b21, ne_b6_b30, ne_b13_b21, ne_b13_b30, ne_b21_b30⟩, ⟨e49_r, f40_r, f41_r, f42_r, f43_r, Fw39, a44_b2, a45_b6, a46_b13, a47_b21, a48_b30⟩, sz_b2, sz_b6, sz_b13, sz_b21, sz_b30⟩) (by decide) (by decide)
theorem own_d33_0 : decode prog_10_method_6_code 0 = .ok (.aload_n 0, 1) := by decide +kernel
theorem own_d33_1 : decode prog_10_method_6_code 1 = .ok (.getfield 9, 3) := by decide +kernel
theorem own_d33_4 : decode prog_10_method_6_code 4 = .ok (.iload_n 1, 1) := by decide +kernel
theorem own_d33_5 : decode prog_10_method_6_code 5 = .ok (.aload_n 2, 1) := by decide +kernel
theorem own_d33_6 : decode prog_10_method_6_code 6 = .ok (.aastore, 1) := by decide +kernel
theorem own_d33_7 : decode prog_10_method_6_code 7 = .ok (.aload_n 0, 1) := by decide +kernel
theorem own_d33_8 : decode prog_10_method_6_code 8 = .ok (.getfield 17, 3) := by decide +kernel
theorem own_d33_11 : decode prog_10_method_6_code 11 = .ok (.iload_n 1, 1) := by decide +kernel
theorem own_d33_12 : decode prog_10_method_6_code 12 = .ok (.aconst_null, 1) := by decide +kernel
theorem own_d33_13 : decode prog_10_method_6_code 13 = .ok (.aastore, 1) := by decide +kernel
theorem own_d33_14 : decode prog_10_method_6_code 14 = .ok (.aload_n 0, 1) := by decide +kernel
theorem own_d33_15 : decode prog_10_method_6_code 15 = .ok (.getfield 28, 3) := by decide +kernel
theorem own_d33_18 : decode prog_10_method_6_code 18 = .ok (.iload_n 1, 1) := by decide +kernel
theorem own_d33_19 : decode prog_10_method_6_code 19 = .ok (.iconst 0, 1) := by decide +kernel
theorem own_d33_20 : decode prog_10_method_6_code 20 = .ok (.bastore, 1) := by decide +kernel
theorem own_d33_21 : decode prog_10_method_6_code 21 = .ok (.return_, 1) := by decide +kernel
theorem own_setText0_ef (m : MethodId) (r : Addr) (vt : Value) (hvt : vt.isRef = true) : entryFrame m #[(.ref r), (.int 0), vt] 3 = mkF m 0 #[.val (.ref r), .val (.int 0), .val vt] [] := by rcases ref_cases hvt with rfl | ⟨_, rfl⟩ <;>  first | (simp [entryFrame, mkF, argsToLocals, Value.category]; done) | rfl
def own_setText0_Q (Z : State) (r : Addr) (vt : Value) (tx : Addr) (u8 : Addr) (ofs : Addr) (les : Addr) (un : Addr) (kt : ClassId) (ku : ClassId) (ko : ClassId) (kl : ClassId) (kn : ClassId) (t0 : Value) (t1 : Value) (b0 : Value) (b1 : Value) (o0 : Int32) (o1 : Int32) (l0 : Int32) (l1 : Int32) (m0 : Int32) (m1 : Int32) (h0 : Heap) (n0 : Nat) (v : Option Value) (h : Heap) (L : List Loc) : Prop := v = none ∧ Fr n0 L ∧ Keep h0 h [tx, u8, ofs, les, un] ∧ own_Row Z h r tx u8 ofs les un kt ku ko kl kn vt t1 .null b1 o0 o1 l0 l1 (0 : Int32) m1
set_option maxRecDepth 65536 in
set_option maxHeartbeats 40000000 in
theorem own_setText0 (l : Launch) (Z : State) (a0 : Array Value) (hw : ∀ d ∈ tables_1, d.before a0 Z = true) (ws : List Jvm.Cond) (r : Addr) (vt : Value) (tx : Addr) (u8 : Addr) (ofs : Addr) (les : Addr) (un : Addr) (kt : ClassId) (ku : ClassId) (ko : ClassId) (kl : ClassId) (kn : ClassId) (t0 : Value) (t1 : Value) (b0 : Value) (b1 : Value) (o0 : Int32) (o1 : Int32) (l0 : Int32) (l1 : Int32) (m0 : Int32) (m1 : Int32) (h0 : Heap) (n0 : Nat) (Z0 : n0 ≤ h0.size) (hvt : vt.isRef = true) (ht0 : t0.isRef = true) (ht1 : t1.isRef = true) (hb0 : b0.isRef = true) (hb1 : b1.isRef = true) (RA : own_RowA Z n0 r tx u8 ofs les un kt ku ko kl kn) (RW : own_Row Z h0 r tx u8 ofs les un kt ku ko kl kn t0 t1 b0 b1 o0 o1 l0 l1 m0 m1) (St : Sto Z h0 tx vt) :
    MetFree l own_y3 (head1 (Jvm.Cond.code own_y3 prog_10_method_6_code 3 none :: ws) (⟨0, 0, 0, 0⟩ : Room)) (fun aa U => aa = #[(.ref r), (.int 0), vt] ∧ Z.Warmed39 U.vm ∧ U.heap = h0) (fun _ _ _ _ _ => True) (fun _ U o U' => ∃ v L, o = .returned v ∧ own_setText0_Q Z r vt tx u8 ofs les un kt ku ko kl kn t0 t1 b0 b1 o0 o1 l0 l1 m0 m1 h0 n0 v U'.heap L ∧ FrameEnd U o U' L (⟨0, 0, 0, 0⟩ : Room).cells (⟨0, 0, 0, 0⟩ : Room).slots) := by
  refine MetFree.of_bodySF (plainFor_of_name own_pn_com_example_rowtide_rowtide_event_Row) hisR ?_
  intro p e s m args below meth c s₁ Bd hml0 hP hK
  obtain ⟨rfl, hZ, hh⟩ := hP
  have hx := Bd.exec
  have hby := Bd.bytes
  have hml : c.maxLocals = 3 := hml0
  have hown : s.vm.findClass "com/example/rowtide/rowtide/event/Row" = some m.cls := findClass_of_methodNamed Bd.named
  have hnm := (name_of_methodNamed Bd.named Bd.method).1
  have hlk := Bd.notSynchronized
  have X0 : Stand p l e (⟨0, 0, 0, 0⟩ : Room) s m #[(.ref r), (.int 0), vt] below meth c s₁ [] 0 0 := Stand.of_body Bd
  have e0 : s₁.heap = h0 := by rw [← hh, Bd.state]; rfl
  have N0 := Fr.nil n0
  refine own_start (Q := own_setText0_Q Z r vt tx u8 ofs les un kt ku ko kl kn t0 t1 b0 b1 o0 o1 l0 l1 m0 m1 h0 n0) (own_setText0_ef m r vt hvt) ?_
  obtain ⟨OvT, OvU, g_tx, g_u8, g_ofs, g_les, g_un, ne_r_tx, ne_r_u8, ne_r_ofs, ne_r_les, ne_r_un, ne_tx_u8, ne_tx_ofs, ne_tx_les, ne_tx_un, ne_u8_ofs, ne_u8_les, ne_u8_un, ne_ofs_les, ne_ofs_un, ne_les_un⟩ := RA
  obtain ⟨E_r, F_texts, F_utf8, F_utf8Offsets, F_utf8Lengths, F_unavailable, A_tx, A_u8, A_ofs, A_les, A_un⟩ := RW
  refine own_g (mkF m 1 #[.val (.ref r), .val (.int 0), .val vt] [(.ref r)]) (fun _ q => XS.aloadN X0.here hx rfl (hb hby own_d33_0) rfl rfl q) ?_
  obtain ⟨T1, X1, e1, st1⟩ := getF X0 hx hZ hown (host := "") (Or.inl (own_h hw 15 rfl)) Via.refl e0 F_texts (g := (mkF m 1 #[.val (.ref r), .val (.int 0), .val vt] [(.ref r)])) rfl rfl (hb hby own_d33_1)
  refine own_by (g' := (mkF m 4 #[.val (.ref r), .val (.int 0), .val vt] [(.ref tx)])) st1 ?_
  refine own_g (mkF m 6 #[.val (.ref r), .val (.int 0), .val vt] [vt, (.int 0), (.ref tx)]) (fun _ q => XS.iloadN X1.here hx rfl (hb hby own_d33_4) rfl (XS.aloadN X1.here hx rfl (hb hby own_d33_5) rfl hvt q)) ?_
  obtain ⟨cl2, Ar2, q2, S2, P2, H2, G2⟩ := id A_tx
  have hin2 : ¬ ((0 : Int32) < 0 ∨ cl2.slots.size ≤ ((0 : Int32)).toNatClampNeg) := inb_of S2 ⟨by decide, by decide⟩
  obtain ⟨T3, h3, X3, e3, W3, st3⟩ := stR X1 hx hZ e1 Ar2 (j := (0 : Int32)) hin2 rfl St (g := (mkF m 6 #[.val (.ref r), .val (.int 0), .val vt] [vt, (.int 0), (.ref tx)])) rfl rfl (hb hby own_d33_6)
  have V3 : Arv Z h3 tx kt (.object "java/lang/String") (2 : Int32) [vt, t1] .null := Arv.set Ar2 q2 S2 P2 H2 G2 (own_fitsR rfl hvt) W3 0 rfl (Nat.le_of_ble_eq_true rfl)
  have N3 := Fr.snoc X3 N0 g_tx
  refine own_by (g' := (mkF m 7 #[.val (.ref r), .val (.int 0), .val vt] [])) st3 ?_
  refine own_g (mkF m 8 #[.val (.ref r), .val (.int 0), .val vt] [(.ref r)]) (fun _ q => XS.aloadN X3.here hx rfl (hb hby own_d33_7) rfl rfl q) ?_
  have f4_r := (F_utf8.other W3 (Or.inl ne_r_tx))
  obtain ⟨T5, X5, e5, st5⟩ := getF X3 hx hZ hown (host := "") (Or.inl (own_h hw 19 rfl)) Via.refl e3 f4_r (g := (mkF m 8 #[.val (.ref r), .val (.int 0), .val vt] [(.ref r)])) rfl rfl (hb hby own_d33_8)
  refine own_by (g' := (mkF m 11 #[.val (.ref r), .val (.int 0), .val vt] [(.ref u8)])) st5 ?_
  refine own_g (mkF m 13 #[.val (.ref r), .val (.int 0), .val vt] [.null, (.int 0), (.ref u8)]) (fun _ q => XS.iloadN X5.here hx rfl (hb hby own_d33_11) rfl (XS.aconstNull X5.here hx rfl (hb hby own_d33_12) q)) ?_
  have a6_u8 := (A_u8.other W3 (Ne.symm ne_tx_u8))
  obtain ⟨cl7, Ar7, q7, S7, P7, H7, G7⟩ := id a6_u8
  have hin7 : ¬ ((0 : Int32) < 0 ∨ cl7.slots.size ≤ ((0 : Int32)).toNatClampNeg) := inb_of S7 ⟨by decide, by decide⟩
  obtain ⟨T8, h8, X8, e8, W8, st8⟩ := stR X5 hx hZ e5 Ar7 (j := (0 : Int32)) hin7 rfl (Or.inl rfl) (g := (mkF m 13 #[.val (.ref r), .val (.int 0), .val vt] [.null, (.int 0), (.ref u8)])) rfl rfl (hb hby own_d33_13)
  have V8 : Arv Z h8 u8 ku (.array .byte) (2 : Int32) [.null, b1] .null := Arv.set Ar7 q7 S7 P7 H7 G7 (own_fitsR rfl rfl) W8 0 rfl (Nat.le_of_ble_eq_true rfl)
  have N8 := Fr.snoc X8 N3 g_u8
  refine own_by (g' := (mkF m 14 #[.val (.ref r), .val (.int 0), .val vt] [])) st8 ?_
  refine own_g (mkF m 15 #[.val (.ref r), .val (.int 0), .val vt] [(.ref r)]) (fun _ q => XS.aloadN X8.here hx rfl (hb hby own_d33_14) rfl rfl q) ?_
  have f9_r := ((F_unavailable.other W3 (Or.inl ne_r_tx)).other W8 (Or.inl ne_r_u8))
  obtain ⟨T10, X10, e10, st10⟩ := getF X8 hx hZ hown (host := "") (Or.inl (own_h hw 27 rfl)) Via.refl e8 f9_r (g := (mkF m 15 #[.val (.ref r), .val (.int 0), .val vt] [(.ref r)])) rfl rfl (hb hby own_d33_15)
  refine own_by (g' := (mkF m 18 #[.val (.ref r), .val (.int 0), .val vt] [(.ref un)])) st10 ?_
  refine own_g (mkF m 20 #[.val (.ref r), .val (.int 0), .val vt] [(.int 0), (.int 0), (.ref un)]) (fun _ q => XS.iloadN X10.here hx rfl (hb hby own_d33_18) rfl (XS.iconst X10.here hx rfl (hb hby own_d33_19) q)) ?_
  have a11_un := ((A_un.other W3 (Ne.symm ne_tx_un)).other W8 (Ne.symm ne_u8_un))
  obtain ⟨cl12, Ar12, q12, S12, P12, H12, G12⟩ := id a11_un
  have hin12 : ¬ ((0 : Int32) < 0 ∨ cl12.slots.size ≤ ((0 : Int32)).toNatClampNeg) := inb_of S12 ⟨by decide, by decide⟩
  obtain ⟨T13, h13, X13, e13, W13, st13⟩ := stZ X10 hx hZ e10 Ar12 (j := (0 : Int32)) hin12 (g := (mkF m 20 #[.val (.ref r), .val (.int 0), .val vt] [(.int 0), (.int 0), (.ref un)])) rfl rfl (hb hby own_d33_20)
  have V13 : Arv Z h13 un kn .boolean (2 : Int32) [(.int (nar .boolean (0 : Int32))), (.int m1)] (.int 0) := Arv.set Ar12 q12 S12 P12 H12 G12 (fits_nar_bool _) W13 0 rfl (Nat.le_of_ble_eq_true rfl)
  have N13 := Fr.snoc X13 N8 g_un
  refine own_by (g' := (mkF m 21 #[.val (.ref r), .val (.int 0), .val vt] [])) st13 ?_
  have f14_r := (((F_texts.other W3 (Or.inl ne_r_tx)).other W8 (Or.inl ne_r_u8)).other W13 (Or.inl ne_r_un))
  have f15_r := ((f4_r.other W8 (Or.inl ne_r_u8)).other W13 (Or.inl ne_r_un))
  have f16_r := (((F_utf8Offsets.other W3 (Or.inl ne_r_tx)).other W8 (Or.inl ne_r_u8)).other W13 (Or.inl ne_r_un))
  have f17_r := (((F_utf8Lengths.other W3 (Or.inl ne_r_tx)).other W8 (Or.inl ne_r_u8)).other W13 (Or.inl ne_r_un))
  have f18_r := (f9_r.other W13 (Or.inl ne_r_un))
  have a19_tx := ((V3.other W8 ne_tx_u8).other W13 ne_tx_un)
  have a20_u8 := (V8.other W13 ne_u8_un)
  have a21_ofs := (((A_ofs.other W3 (Ne.symm ne_tx_ofs)).other W8 (Ne.symm ne_u8_ofs)).other W13 ne_ofs_un)
  have a22_les := (((A_les.other W3 (Ne.symm ne_tx_les)).other W8 (Ne.symm ne_u8_les)).other W13 ne_les_un)
  have e23_r := (((E_r.wr W3).wr W8).wr W13)
  have k24_ := ((((Keep.refl h0 [tx, u8, ofs, les, un]).wr W3 (Or.inl (List.mem_of_getElem? (i := 0) rfl))).wr W8 (Or.inl (List.mem_of_getElem? (i := 1) rfl))).wr W13 (Or.inl (List.mem_of_getElem? (i := 4) rfl)))
  exact own_end X13 (v := none) (fun _ => rfl) hlk (fun hr => X13.returnOut hx Bd.returns (hb hby own_d33_21) hr) (by rw [e13]; exact ⟨rfl, N13, k24_, ⟨e23_r, f14_r, f15_r, f16_r, f17_r, f18_r, a19_tx, a20_u8, a21_ofs, a22_les, V13⟩⟩) (by decide) (by decide)
theorem own_d3_0 : decode prog_10_method_7_code 0 = .ok (.aload_n 0, 1) := by decide +kernel
theorem own_d3_1 : decode prog_10_method_7_code 1 = .ok (.getfield 9, 3) := by decide +kernel
theorem own_d3_4 : decode prog_10_method_7_code 4 = .ok (.iload_n 1, 1) := by decide +kernel
theorem own_d3_5 : decode prog_10_method_7_code 5 = .ok (.aconst_null, 1) := by decide +kernel
theorem own_d3_6 : decode prog_10_method_7_code 6 = .ok (.aastore, 1) := by decide +kernel
theorem own_d3_7 : decode prog_10_method_7_code 7 = .ok (.aload_n 0, 1) := by decide +kernel
theorem own_d3_8 : decode prog_10_method_7_code 8 = .ok (.getfield 17, 3) := by decide +kernel
theorem own_d3_11 : decode prog_10_method_7_code 11 = .ok (.iload_n 1, 1) := by decide +kernel
theorem own_d3_12 : decode prog_10_method_7_code 12 = .ok (.aload_n 2, 1) := by decide +kernel
theorem own_d3_13 : decode prog_10_method_7_code 13 = .ok (.aastore, 1) := by decide +kernel
theorem own_d3_14 : decode prog_10_method_7_code 14 = .ok (.aload_n 0, 1) := by decide +kernel
theorem own_d3_15 : decode prog_10_method_7_code 15 = .ok (.getfield 21, 3) := by decide +kernel
theorem own_d3_18 : decode prog_10_method_7_code 18 = .ok (.iload_n 1, 1) := by decide +kernel
theorem own_d3_19 : decode prog_10_method_7_code 19 = .ok (.iload_n 3, 1) := by decide +kernel
theorem own_d3_20 : decode prog_10_method_7_code 20 = .ok (.iastore, 1) := by decide +kernel
theorem own_d3_21 : decode prog_10_method_7_code 21 = .ok (.aload_n 0, 1) := by decide +kernel
theorem own_d3_22 : decode prog_10_method_7_code 22 = .ok (.getfield 25, 3) := by decide +kernel
theorem own_d3_25 : decode prog_10_method_7_code 25 = .ok (.iload_n 1, 1) := by decide +kernel
theorem own_d3_26 : decode prog_10_method_7_code 26 = .ok (.iload 4, 2) := by decide +kernel
theorem own_d3_28 : decode prog_10_method_7_code 28 = .ok (.iastore, 1) := by decide +kernel
theorem own_d3_29 : decode prog_10_method_7_code 29 = .ok (.aload_n 0, 1) := by decide +kernel
theorem own_d3_30 : decode prog_10_method_7_code 30 = .ok (.getfield 28, 3) := by decide +kernel
theorem own_d3_33 : decode prog_10_method_7_code 33 = .ok (.iload_n 1, 1) := by decide +kernel
theorem own_d3_34 : decode prog_10_method_7_code 34 = .ok (.iconst 0, 1) := by decide +kernel
theorem own_d3_35 : decode prog_10_method_7_code 35 = .ok (.bastore, 1) := by decide +kernel
theorem own_d3_36 : decode prog_10_method_7_code 36 = .ok (.return_, 1) := by decide +kernel
theorem own_setUtf8_0_ef (m : MethodId) (r : Addr) (yb : Addr) (io : Int32) (il : Int32) : entryFrame m #[(.ref r), (.int 0), (.ref yb), (.int io), (.int il)] 5 = mkF m 0 #[.val (.ref r), .val (.int 0), .val (.ref yb), .val (.int io), .val (.int il)] [] := by  first | (simp [entryFrame, mkF, argsToLocals, Value.category]; done) | rfl
def own_setUtf8_0_Q (Z : State) (r : Addr) (yb : Addr) (io : Int32) (il : Int32) (tx : Addr) (u8 : Addr) (ofs : Addr) (les : Addr) (un : Addr) (kt : ClassId) (ku : ClassId) (ko : ClassId) (kl : ClassId) (kn : ClassId) (t0 : Value) (t1 : Value) (b0 : Value) (b1 : Value) (o0 : Int32) (o1 : Int32) (l0 : Int32) (l1 : Int32) (m0 : Int32) (m1 : Int32) (h0 : Heap) (n0 : Nat) (v : Option Value) (h : Heap) (L : List Loc) : Prop := v = none ∧ Fr n0 L ∧ Keep h0 h [tx, u8, ofs, les, un] ∧ own_Row Z h r tx u8 ofs les un kt ku ko kl kn .null t1 (.ref yb) b1 io o1 il l1 (0 : Int32) m1
set_option maxRecDepth 65536 in
set_option maxHeartbeats 40000000 in
theorem own_setUtf8_0 (l : Launch) (Z : State) (a0 : Array Value) (hw : ∀ d ∈ tables_1, d.before a0 Z = true) (ws : List Jvm.Cond) (r : Addr) (yb : Addr) (io : Int32) (il : Int32) (tx : Addr) (u8 : Addr) (ofs : Addr) (les : Addr) (un : Addr) (kt : ClassId) (ku : ClassId) (ko : ClassId) (kl : ClassId) (kn : ClassId) (t0 : Value) (t1 : Value) (b0 : Value) (b1 : Value) (o0 : Int32) (o1 : Int32) (l0 : Int32) (l1 : Int32) (m0 : Int32) (m1 : Int32) (h0 : Heap) (n0 : Nat) (Z0 : n0 ≤ h0.size) (ht0 : t0.isRef = true) (ht1 : t1.isRef = true) (hb0 : b0.isRef = true) (hb1 : b1.isRef = true) (RA : own_RowA Z n0 r tx u8 ofs les un kt ku ko kl kn) (RW : own_Row Z h0 r tx u8 ofs les un kt ku ko kl kn t0 t1 b0 b1 o0 o1 l0 l1 m0 m1) (St : Sto Z h0 u8 (.ref yb)) :
    MetFree l own_y5 (head1 (Jvm.Cond.code own_y5 prog_10_method_7_code 5 none :: ws) (⟨0, 0, 0, 0⟩ : Room)) (fun aa U => aa = #[(.ref r), (.int 0), (.ref yb), (.int io), (.int il)] ∧ Z.Warmed39 U.vm ∧ U.heap = h0) (fun _ _ _ _ _ => True) (fun _ U o U' => ∃ v L, o = .returned v ∧ own_setUtf8_0_Q Z r yb io il tx u8 ofs les un kt ku ko kl kn t0 t1 b0 b1 o0 o1 l0 l1 m0 m1 h0 n0 v U'.heap L ∧ FrameEnd U o U' L (⟨0, 0, 0, 0⟩ : Room).cells (⟨0, 0, 0, 0⟩ : Room).slots) := by
  refine MetFree.of_bodySF (plainFor_of_name own_pn_com_example_rowtide_rowtide_event_Row) hisR ?_
  intro p e s m args below meth c s₁ Bd hml0 hP hK
  obtain ⟨rfl, hZ, hh⟩ := hP
  have hx := Bd.exec
  have hby := Bd.bytes
  have hml : c.maxLocals = 5 := hml0
  have hown : s.vm.findClass "com/example/rowtide/rowtide/event/Row" = some m.cls := findClass_of_methodNamed Bd.named
  have hnm := (name_of_methodNamed Bd.named Bd.method).1
  have hlk := Bd.notSynchronized
  have X0 : Stand p l e (⟨0, 0, 0, 0⟩ : Room) s m #[(.ref r), (.int 0), (.ref yb), (.int io), (.int il)] below meth c s₁ [] 0 0 := Stand.of_body Bd
  have e0 : s₁.heap = h0 := by rw [← hh, Bd.state]; rfl
  have N0 := Fr.nil n0
  refine own_start (Q := own_setUtf8_0_Q Z r yb io il tx u8 ofs les un kt ku ko kl kn t0 t1 b0 b1 o0 o1 l0 l1 m0 m1 h0 n0) (own_setUtf8_0_ef m r yb io il) ?_
  obtain ⟨OvT, OvU, g_tx, g_u8, g_ofs, g_les, g_un, ne_r_tx, ne_r_u8, ne_r_ofs, ne_r_les, ne_r_un, ne_tx_u8, ne_tx_ofs, ne_tx_les, ne_tx_un, ne_u8_ofs, ne_u8_les, ne_u8_un, ne_ofs_les, ne_ofs_un, ne_les_un⟩ := RA
  obtain ⟨E_r, F_texts, F_utf8, F_utf8Offsets, F_utf8Lengths, F_unavailable, A_tx, A_u8, A_ofs, A_les, A_un⟩ := RW
  refine own_g (mkF m 1 #[.val (.ref r), .val (.int 0), .val (.ref yb), .val (.int io), .val (.int il)] [(.ref r)]) (fun _ q => XS.aloadN X0.here hx rfl (hb hby own_d3_0) rfl rfl q) ?_
  obtain ⟨T1, X1, e1, st1⟩ := getF X0 hx hZ hown (host := "") (Or.inl (own_h hw 15 rfl)) Via.refl e0 F_texts (g := (mkF m 1 #[.val (.ref r), .val (.int 0), .val (.ref yb), .val (.int io), .val (.int il)] [(.ref r)])) rfl rfl (hb hby own_d3_1)
  refine own_by (g' := (mkF m 4 #[.val (.ref r), .val (.int 0), .val (.ref yb), .val (.int io), .val (.int il)] [(.ref tx)])) st1 ?_
  refine own_g (mkF m 6 #[.val (.ref r), .val (.int 0), .val (.ref yb), .val (.int io), .val (.int il)] [.null, (.int 0), (.ref tx)]) (fun _ q => XS.iloadN X1.here hx rfl (hb hby own_d3_4) rfl (XS.aconstNull X1.here hx rfl (hb hby own_d3_5) q)) ?_
  obtain ⟨cl2, Ar2, q2, S2, P2, H2, G2⟩ := id A_tx
  have hin2 : ¬ ((0 : Int32) < 0 ∨ cl2.slots.size ≤ ((0 : Int32)).toNatClampNeg) := inb_of S2 ⟨by decide, by decide⟩
  obtain ⟨T3, h3, X3, e3, W3, st3⟩ := stR X1 hx hZ e1 Ar2 (j := (0 : Int32)) hin2 rfl (Or.inl rfl) (g := (mkF m 6 #[.val (.ref r), .val (.int 0), .val (.ref yb), .val (.int io), .val (.int il)] [.null, (.int 0), (.ref tx)])) rfl rfl (hb hby own_d3_6)
  have V3 : Arv Z h3 tx kt (.object "java/lang/String") (2 : Int32) [.null, t1] .null := Arv.set Ar2 q2 S2 P2 H2 G2 (own_fitsR rfl rfl) W3 0 rfl (Nat.le_of_ble_eq_true rfl)
  have N3 := Fr.snoc X3 N0 g_tx
  refine own_by (g' := (mkF m 7 #[.val (.ref r), .val (.int 0), .val (.ref yb), .val (.int io), .val (.int il)] [])) st3 ?_
  refine own_g (mkF m 8 #[.val (.ref r), .val (.int 0), .val (.ref yb), .val (.int io), .val (.int il)] [(.ref r)]) (fun _ q => XS.aloadN X3.here hx rfl (hb hby own_d3_7) rfl rfl q) ?_
  have f4_r := (F_utf8.other W3 (Or.inl ne_r_tx))
  obtain ⟨T5, X5, e5, st5⟩ := getF X3 hx hZ hown (host := "") (Or.inl (own_h hw 19 rfl)) Via.refl e3 f4_r (g := (mkF m 8 #[.val (.ref r), .val (.int 0), .val (.ref yb), .val (.int io), .val (.int il)] [(.ref r)])) rfl rfl (hb hby own_d3_8)
  refine own_by (g' := (mkF m 11 #[.val (.ref r), .val (.int 0), .val (.ref yb), .val (.int io), .val (.int il)] [(.ref u8)])) st5 ?_
  refine own_g (mkF m 13 #[.val (.ref r), .val (.int 0), .val (.ref yb), .val (.int io), .val (.int il)] [(.ref yb), (.int 0), (.ref u8)]) (fun _ q => XS.iloadN X5.here hx rfl (hb hby own_d3_11) rfl (XS.aloadN X5.here hx rfl (hb hby own_d3_12) rfl rfl q)) ?_
  have a6_u8 := (A_u8.other W3 (Ne.symm ne_tx_u8))
  obtain ⟨cl7, Ar7, q7, S7, P7, H7, G7⟩ := id a6_u8
  have hin7 : ¬ ((0 : Int32) < 0 ∨ cl7.slots.size ≤ ((0 : Int32)).toNatClampNeg) := inb_of S7 ⟨by decide, by decide⟩
  obtain ⟨T8, h8, X8, e8, W8, st8⟩ := stR X5 hx hZ e5 Ar7 (j := (0 : Int32)) hin7 rfl (St.wr W3) (g := (mkF m 13 #[.val (.ref r), .val (.int 0), .val (.ref yb), .val (.int io), .val (.int il)] [(.ref yb), (.int 0), (.ref u8)])) rfl rfl (hb hby own_d3_13)
  have V8 : Arv Z h8 u8 ku (.array .byte) (2 : Int32) [(.ref yb), b1] .null := Arv.set Ar7 q7 S7 P7 H7 G7 (own_fitsR rfl rfl) W8 0 rfl (Nat.le_of_ble_eq_true rfl)
  have N8 := Fr.snoc X8 N3 g_u8
  refine own_by (g' := (mkF m 14 #[.val (.ref r), .val (.int 0), .val (.ref yb), .val (.int io), .val (.int il)] [])) st8 ?_
  refine own_g (mkF m 15 #[.val (.ref r), .val (.int 0), .val (.ref yb), .val (.int io), .val (.int il)] [(.ref r)]) (fun _ q => XS.aloadN X8.here hx rfl (hb hby own_d3_14) rfl rfl q) ?_
  have f9_r := ((F_utf8Offsets.other W3 (Or.inl ne_r_tx)).other W8 (Or.inl ne_r_u8))
  obtain ⟨T10, X10, e10, st10⟩ := getF X8 hx hZ hown (host := "") (Or.inl (own_h hw 22 rfl)) Via.refl e8 f9_r (g := (mkF m 15 #[.val (.ref r), .val (.int 0), .val (.ref yb), .val (.int io), .val (.int il)] [(.ref r)])) rfl rfl (hb hby own_d3_15)
  refine own_by (g' := (mkF m 18 #[.val (.ref r), .val (.int 0), .val (.ref yb), .val (.int io), .val (.int il)] [(.ref ofs)])) st10 ?_
  refine own_g (mkF m 20 #[.val (.ref r), .val (.int 0), .val (.ref yb), .val (.int io), .val (.int il)] [(.int io), (.int 0), (.ref ofs)]) (fun _ q => XS.iloadN X10.here hx rfl (hb hby own_d3_18) rfl (XS.iloadN X10.here hx rfl (hb hby own_d3_19) rfl q)) ?_
  have a11_ofs := ((A_ofs.other W3 (Ne.symm ne_tx_ofs)).other W8 (Ne.symm ne_u8_ofs))
  obtain ⟨cl12, Ar12, q12, S12, P12, H12, G12⟩ := id a11_ofs
  have hin12 : ¬ ((0 : Int32) < 0 ∨ cl12.slots.size ≤ ((0 : Int32)).toNatClampNeg) := inb_of S12 ⟨by decide, by decide⟩
  obtain ⟨T13, h13, X13, e13, W13, st13⟩ := stI X10 hx hZ e10 Ar12 (j := (0 : Int32)) hin12 (g := (mkF m 20 #[.val (.ref r), .val (.int 0), .val (.ref yb), .val (.int io), .val (.int il)] [(.int io), (.int 0), (.ref ofs)])) rfl rfl (hb hby own_d3_20)
  have V13 : Arv Z h13 ofs ko .int (2 : Int32) [(.int io), (.int o1)] (.int 0) := Arv.set Ar12 q12 S12 P12 H12 G12 rfl W13 0 rfl (Nat.le_of_ble_eq_true rfl)
  have N13 := Fr.snoc X13 N8 g_ofs
  refine own_by (g' := (mkF m 21 #[.val (.ref r), .val (.int 0), .val (.ref yb), .val (.int io), .val (.int il)] [])) st13 ?_
  refine own_g (mkF m 22 #[.val (.ref r), .val (.int 0), .val (.ref yb), .val (.int io), .val (.int il)] [(.ref r)]) (fun _ q => XS.aloadN X13.here hx rfl (hb hby own_d3_21) rfl rfl q) ?_
  have f14_r := (((F_utf8Lengths.other W3 (Or.inl ne_r_tx)).other W8 (Or.inl ne_r_u8)).other W13 (Or.inl ne_r_ofs))
  obtain ⟨T15, X15, e15, st15⟩ := getF X13 hx hZ hown (host := "") (Or.inl (own_h hw 24 rfl)) Via.refl e13 f14_r (g := (mkF m 22 #[.val (.ref r), .val (.int 0), .val (.ref yb), .val (.int io), .val (.int il)] [(.ref r)])) rfl rfl (hb hby own_d3_22)
  refine own_by (g' := (mkF m 25 #[.val (.ref r), .val (.int 0), .val (.ref yb), .val (.int io), .val (.int il)] [(.ref les)])) st15 ?_
  refine own_g (mkF m 28 #[.val (.ref r), .val (.int 0), .val (.ref yb), .val (.int io), .val (.int il)] [(.int il), (.int 0), (.ref les)]) (fun _ q => XS.iloadN X15.here hx rfl (hb hby own_d3_25) rfl (XS.iload X15.here hx rfl (hb hby own_d3_26) rfl q)) ?_
  have a16_les := (((A_les.other W3 (Ne.symm ne_tx_les)).other W8 (Ne.symm ne_u8_les)).other W13 (Ne.symm ne_ofs_les))
  obtain ⟨cl17, Ar17, q17, S17, P17, H17, G17⟩ := id a16_les
  have hin17 : ¬ ((0 : Int32) < 0 ∨ cl17.slots.size ≤ ((0 : Int32)).toNatClampNeg) := inb_of S17 ⟨by decide, by decide⟩
  obtain ⟨T18, h18, X18, e18, W18, st18⟩ := stI X15 hx hZ e15 Ar17 (j := (0 : Int32)) hin17 (g := (mkF m 28 #[.val (.ref r), .val (.int 0), .val (.ref yb), .val (.int io), .val (.int il)] [(.int il), (.int 0), (.ref les)])) rfl rfl (hb hby own_d3_28)
  have V18 : Arv Z h18 les kl .int (2 : Int32) [(.int il), (.int l1)] (.int 0) := Arv.set Ar17 q17 S17 P17 H17 G17 rfl W18 0 rfl (Nat.le_of_ble_eq_true rfl)
  have N18 := Fr.snoc X18 N13 g_les
  refine own_by (g' := (mkF m 29 #[.val (.ref r), .val (.int 0), .val (.ref yb), .val (.int io), .val (.int il)] [])) st18 ?_
  refine own_g (mkF m 30 #[.val (.ref r), .val (.int 0), .val (.ref yb), .val (.int io), .val (.int il)] [(.ref r)]) (fun _ q => XS.aloadN X18.here hx rfl (hb hby own_d3_29) rfl rfl q) ?_
  have f19_r := ((((F_unavailable.other W3 (Or.inl ne_r_tx)).other W8 (Or.inl ne_r_u8)).other W13 (Or.inl ne_r_ofs)).other W18 (Or.inl ne_r_les))
  obtain ⟨T20, X20, e20, st20⟩ := getF X18 hx hZ hown (host := "") (Or.inl (own_h hw 27 rfl)) Via.refl e18 f19_r (g := (mkF m 30 #[.val (.ref r), .val (.int 0), .val (.ref yb), .val (.int io), .val (.int il)] [(.ref r)])) rfl rfl (hb hby own_d3_30)
  refine own_by (g' := (mkF m 33 #[.val (.ref r), .val (.int 0), .val (.ref yb), .val (.int io), .val (.int il)] [(.ref un)])) st20 ?_
  refine own_g (mkF m 35 #[.val (.ref r), .val (.int 0), .val (.ref yb), .val (.int io), .val (.int il)] [(.int 0), (.int 0), (.ref un)]) (fun _ q => XS.iloadN X20.here hx rfl (hb hby own_d3_33) rfl (XS.iconst X20.here hx rfl (hb hby own_d3_34) q)) ?_
  have a21_un := ((((A_un.other W3 (Ne.symm ne_tx_un)).other W8 (Ne.symm ne_u8_un)).other W13 (Ne.symm ne_ofs_un)).other W18 (Ne.symm ne_les_un))
  obtain ⟨cl22, Ar22, q22, S22, P22, H22, G22⟩ := id a21_un
  have hin22 : ¬ ((0 : Int32) < 0 ∨ cl22.slots.size ≤ ((0 : Int32)).toNatClampNeg) := inb_of S22 ⟨by decide, by decide⟩
  obtain ⟨T23, h23, X23, e23, W23, st23⟩ := stZ X20 hx hZ e20 Ar22 (j := (0 : Int32)) hin22 (g := (mkF m 35 #[.val (.ref r), .val (.int 0), .val (.ref yb), .val (.int io), .val (.int il)] [(.int 0), (.int 0), (.ref un)])) rfl rfl (hb hby own_d3_35)
  have V23 : Arv Z h23 un kn .boolean (2 : Int32) [(.int (nar .boolean (0 : Int32))), (.int m1)] (.int 0) := Arv.set Ar22 q22 S22 P22 H22 G22 (fits_nar_bool _) W23 0 rfl (Nat.le_of_ble_eq_true rfl)
  have N23 := Fr.snoc X23 N18 g_un
  refine own_by (g' := (mkF m 36 #[.val (.ref r), .val (.int 0), .val (.ref yb), .val (.int io), .val (.int il)] [])) st23 ?_
  have f24_r := (((((F_texts.other W3 (Or.inl ne_r_tx)).other W8 (Or.inl ne_r_u8)).other W13 (Or.inl ne_r_ofs)).other W18 (Or.inl ne_r_les)).other W23 (Or.inl ne_r_un))
  have f25_r := ((((f4_r.other W8 (Or.inl ne_r_u8)).other W13 (Or.inl ne_r_ofs)).other W18 (Or.inl ne_r_les)).other W23 (Or.inl ne_r_un))
  have f26_r := (((f9_r.other W13 (Or.inl ne_r_ofs)).other W18 (Or.inl ne_r_les)).other W23 (Or.inl ne_r_un))
  have f27_r := ((f14_r.other W18 (Or.inl ne_r_les)).other W23 (Or.inl ne_r_un))
  have f28_r := (f19_r.other W23 (Or.inl ne_r_un))
  have a29_tx := ((((V3.other W8 ne_tx_u8).other W13 ne_tx_ofs).other W18 ne_tx_les).other W23 ne_tx_un)
  have a30_u8 := (((V8.other W13 ne_u8_ofs).other W18 ne_u8_les).other W23 ne_u8_un)
  have a31_ofs := ((V13.other W18 ne_ofs_les).other W23 ne_ofs_un)
  have a32_les := (V18.other W23 ne_les_un)
  have e33_r := (((((E_r.wr W3).wr W8).wr W13).wr W18).wr W23)
  have k34_ := ((((((Keep.refl h0 [tx, u8, ofs, les, un]).wr W3 (Or.inl (List.mem_of_getElem? (i := 0) rfl))).wr W8 (Or.inl (List.mem_of_getElem? (i := 1) rfl))).wr W13 (Or.inl (List.mem_of_getElem? (i := 2) rfl))).wr W18 (Or.inl (List.mem_of_getElem? (i := 3) rfl))).wr W23 (Or.inl (List.mem_of_getElem? (i := 4) rfl)))
  exact own_end X23 (v := none) (fun _ => rfl) hlk (fun hr => X23.returnOut hx Bd.returns (hb hby own_d3_36) hr) (by rw [e23]; exact ⟨rfl, N23, k34_, ⟨e33_r, f24_r, f25_r, f26_r, f27_r, f28_r, a29_tx, a30_u8, a31_ofs, a32_les, V23⟩⟩) (by decide) (by decide)
theorem own_d28_0 : decode prog_10_method_8_code 0 = .ok (.aload_n 0, 1) := by decide +kernel
theorem own_d28_1 : decode prog_10_method_8_code 1 = .ok (.getfield 9, 3) := by decide +kernel
theorem own_d28_4 : decode prog_10_method_8_code 4 = .ok (.iload_n 1, 1) := by decide +kernel
theorem own_d28_5 : decode prog_10_method_8_code 5 = .ok (.aconst_null, 1) := by decide +kernel
theorem own_d28_6 : decode prog_10_method_8_code 6 = .ok (.aastore, 1) := by decide +kernel
theorem own_d28_7 : decode prog_10_method_8_code 7 = .ok (.aload_n 0, 1) := by decide +kernel
theorem own_d28_8 : decode prog_10_method_8_code 8 = .ok (.getfield 17, 3) := by decide +kernel
theorem own_d28_11 : decode prog_10_method_8_code 11 = .ok (.iload_n 1, 1) := by decide +kernel
theorem own_d28_12 : decode prog_10_method_8_code 12 = .ok (.aconst_null, 1) := by decide +kernel
theorem own_d28_13 : decode prog_10_method_8_code 13 = .ok (.aastore, 1) := by decide +kernel
theorem own_d28_14 : decode prog_10_method_8_code 14 = .ok (.aload_n 0, 1) := by decide +kernel
theorem own_d28_15 : decode prog_10_method_8_code 15 = .ok (.getfield 28, 3) := by decide +kernel
theorem own_d28_18 : decode prog_10_method_8_code 18 = .ok (.iload_n 1, 1) := by decide +kernel
theorem own_d28_19 : decode prog_10_method_8_code 19 = .ok (.iconst 1, 1) := by decide +kernel
theorem own_d28_20 : decode prog_10_method_8_code 20 = .ok (.bastore, 1) := by decide +kernel
theorem own_d28_21 : decode prog_10_method_8_code 21 = .ok (.return_, 1) := by decide +kernel
theorem own_setUn0_ef (m : MethodId) (r : Addr) : entryFrame m #[(.ref r), (.int 0)] 2 = mkF m 0 #[.val (.ref r), .val (.int 0)] [] := by  first | (simp [entryFrame, mkF, argsToLocals, Value.category]; done) | rfl
def own_setUn0_Q (Z : State) (r : Addr) (tx : Addr) (u8 : Addr) (ofs : Addr) (les : Addr) (un : Addr) (kt : ClassId) (ku : ClassId) (ko : ClassId) (kl : ClassId) (kn : ClassId) (t0 : Value) (t1 : Value) (b0 : Value) (b1 : Value) (o0 : Int32) (o1 : Int32) (l0 : Int32) (l1 : Int32) (m0 : Int32) (m1 : Int32) (h0 : Heap) (n0 : Nat) (v : Option Value) (h : Heap) (L : List Loc) : Prop := v = none ∧ Fr n0 L ∧ Keep h0 h [tx, u8, ofs, les, un] ∧ own_Row Z h r tx u8 ofs les un kt ku ko kl kn .null t1 .null b1 o0 o1 l0 l1 (1 : Int32) m1
set_option maxRecDepth 65536 in
set_option maxHeartbeats 40000000 in
theorem own_setUn0 (l : Launch) (Z : State) (a0 : Array Value) (hw : ∀ d ∈ tables_1, d.before a0 Z = true) (ws : List Jvm.Cond) (r : Addr) (tx : Addr) (u8 : Addr) (ofs : Addr) (les : Addr) (un : Addr) (kt : ClassId) (ku : ClassId) (ko : ClassId) (kl : ClassId) (kn : ClassId) (t0 : Value) (t1 : Value) (b0 : Value) (b1 : Value) (o0 : Int32) (o1 : Int32) (l0 : Int32) (l1 : Int32) (m0 : Int32) (m1 : Int32) (h0 : Heap) (n0 : Nat) (Z0 : n0 ≤ h0.size) (ht0 : t0.isRef = true) (ht1 : t1.isRef = true) (hb0 : b0.isRef = true) (hb1 : b1.isRef = true) (RA : own_RowA Z n0 r tx u8 ofs les un kt ku ko kl kn) (RW : own_Row Z h0 r tx u8 ofs les un kt ku ko kl kn t0 t1 b0 b1 o0 o1 l0 l1 m0 m1) :
    MetFree l own_y4 (head1 (Jvm.Cond.code own_y4 prog_10_method_8_code 2 none :: ws) (⟨0, 0, 0, 0⟩ : Room)) (fun aa U => aa = #[(.ref r), (.int 0)] ∧ Z.Warmed39 U.vm ∧ U.heap = h0) (fun _ _ _ _ _ => True) (fun _ U o U' => ∃ v L, o = .returned v ∧ own_setUn0_Q Z r tx u8 ofs les un kt ku ko kl kn t0 t1 b0 b1 o0 o1 l0 l1 m0 m1 h0 n0 v U'.heap L ∧ FrameEnd U o U' L (⟨0, 0, 0, 0⟩ : Room).cells (⟨0, 0, 0, 0⟩ : Room).slots) := by
  refine MetFree.of_bodySF (plainFor_of_name own_pn_com_example_rowtide_rowtide_event_Row) hisR ?_
  intro p e s m args below meth c s₁ Bd hml0 hP hK
  obtain ⟨rfl, hZ, hh⟩ := hP
  have hx := Bd.exec
  have hby := Bd.bytes
  have hml : c.maxLocals = 2 := hml0
  have hown : s.vm.findClass "com/example/rowtide/rowtide/event/Row" = some m.cls := findClass_of_methodNamed Bd.named
  have hnm := (name_of_methodNamed Bd.named Bd.method).1
  have hlk := Bd.notSynchronized
  have X0 : Stand p l e (⟨0, 0, 0, 0⟩ : Room) s m #[(.ref r), (.int 0)] below meth c s₁ [] 0 0 := Stand.of_body Bd
  have e0 : s₁.heap = h0 := by rw [← hh, Bd.state]; rfl
  have N0 := Fr.nil n0
  refine own_start (Q := own_setUn0_Q Z r tx u8 ofs les un kt ku ko kl kn t0 t1 b0 b1 o0 o1 l0 l1 m0 m1 h0 n0) (own_setUn0_ef m r) ?_
  obtain ⟨OvT, OvU, g_tx, g_u8, g_ofs, g_les, g_un, ne_r_tx, ne_r_u8, ne_r_ofs, ne_r_les, ne_r_un, ne_tx_u8, ne_tx_ofs, ne_tx_les, ne_tx_un, ne_u8_ofs, ne_u8_les, ne_u8_un, ne_ofs_les, ne_ofs_un, ne_les_un⟩ := RA
  obtain ⟨E_r, F_texts, F_utf8, F_utf8Offsets, F_utf8Lengths, F_unavailable, A_tx, A_u8, A_ofs, A_les, A_un⟩ := RW
  refine own_g (mkF m 1 #[.val (.ref r), .val (.int 0)] [(.ref r)]) (fun _ q => XS.aloadN X0.here hx rfl (hb hby own_d28_0) rfl rfl q) ?_
  obtain ⟨T1, X1, e1, st1⟩ := getF X0 hx hZ hown (host := "") (Or.inl (own_h hw 15 rfl)) Via.refl e0 F_texts (g := (mkF m 1 #[.val (.ref r), .val (.int 0)] [(.ref r)])) rfl rfl (hb hby own_d28_1)
  refine own_by (g' := (mkF m 4 #[.val (.ref r), .val (.int 0)] [(.ref tx)])) st1 ?_
  refine own_g (mkF m 6 #[.val (.ref r), .val (.int 0)] [.null, (.int 0), (.ref tx)]) (fun _ q => XS.iloadN X1.here hx rfl (hb hby own_d28_4) rfl (XS.aconstNull X1.here hx rfl (hb hby own_d28_5) q)) ?_
  obtain ⟨cl2, Ar2, q2, S2, P2, H2, G2⟩ := id A_tx
  have hin2 : ¬ ((0 : Int32) < 0 ∨ cl2.slots.size ≤ ((0 : Int32)).toNatClampNeg) := inb_of S2 ⟨by decide, by decide⟩
  obtain ⟨T3, h3, X3, e3, W3, st3⟩ := stR X1 hx hZ e1 Ar2 (j := (0 : Int32)) hin2 rfl (Or.inl rfl) (g := (mkF m 6 #[.val (.ref r), .val (.int 0)] [.null, (.int 0), (.ref tx)])) rfl rfl (hb hby own_d28_6)
  have V3 : Arv Z h3 tx kt (.object "java/lang/String") (2 : Int32) [.null, t1] .null := Arv.set Ar2 q2 S2 P2 H2 G2 (own_fitsR rfl rfl) W3 0 rfl (Nat.le_of_ble_eq_true rfl)
  have N3 := Fr.snoc X3 N0 g_tx
  refine own_by (g' := (mkF m 7 #[.val (.ref r), .val (.int 0)] [])) st3 ?_
  refine own_g (mkF m 8 #[.val (.ref r), .val (.int 0)] [(.ref r)]) (fun _ q => XS.aloadN X3.here hx rfl (hb hby own_d28_7) rfl rfl q) ?_
  have f4_r := (F_utf8.other W3 (Or.inl ne_r_tx))
  obtain ⟨T5, X5, e5, st5⟩ := getF X3 hx hZ hown (host := "") (Or.inl (own_h hw 19 rfl)) Via.refl e3 f4_r (g := (mkF m 8 #[.val (.ref r), .val (.int 0)] [(.ref r)])) rfl rfl (hb hby own_d28_8)
  refine own_by (g' := (mkF m 11 #[.val (.ref r), .val (.int 0)] [(.ref u8)])) st5 ?_
  refine own_g (mkF m 13 #[.val (.ref r), .val (.int 0)] [.null, (.int 0), (.ref u8)]) (fun _ q => XS.iloadN X5.here hx rfl (hb hby own_d28_11) rfl (XS.aconstNull X5.here hx rfl (hb hby own_d28_12) q)) ?_
  have a6_u8 := (A_u8.other W3 (Ne.symm ne_tx_u8))
  obtain ⟨cl7, Ar7, q7, S7, P7, H7, G7⟩ := id a6_u8
  have hin7 : ¬ ((0 : Int32) < 0 ∨ cl7.slots.size ≤ ((0 : Int32)).toNatClampNeg) := inb_of S7 ⟨by decide, by decide⟩
  obtain ⟨T8, h8, X8, e8, W8, st8⟩ := stR X5 hx hZ e5 Ar7 (j := (0 : Int32)) hin7 rfl (Or.inl rfl) (g := (mkF m 13 #[.val (.ref r), .val (.int 0)] [.null, (.int 0), (.ref u8)])) rfl rfl (hb hby own_d28_13)
  have V8 : Arv Z h8 u8 ku (.array .byte) (2 : Int32) [.null, b1] .null := Arv.set Ar7 q7 S7 P7 H7 G7 (own_fitsR rfl rfl) W8 0 rfl (Nat.le_of_ble_eq_true rfl)
  have N8 := Fr.snoc X8 N3 g_u8
  refine own_by (g' := (mkF m 14 #[.val (.ref r), .val (.int 0)] [])) st8 ?_
  refine own_g (mkF m 15 #[.val (.ref r), .val (.int 0)] [(.ref r)]) (fun _ q => XS.aloadN X8.here hx rfl (hb hby own_d28_14) rfl rfl q) ?_
  have f9_r := ((F_unavailable.other W3 (Or.inl ne_r_tx)).other W8 (Or.inl ne_r_u8))
  obtain ⟨T10, X10, e10, st10⟩ := getF X8 hx hZ hown (host := "") (Or.inl (own_h hw 27 rfl)) Via.refl e8 f9_r (g := (mkF m 15 #[.val (.ref r), .val (.int 0)] [(.ref r)])) rfl rfl (hb hby own_d28_15)
  refine own_by (g' := (mkF m 18 #[.val (.ref r), .val (.int 0)] [(.ref un)])) st10 ?_
  refine own_g (mkF m 20 #[.val (.ref r), .val (.int 0)] [(.int 1), (.int 0), (.ref un)]) (fun _ q => XS.iloadN X10.here hx rfl (hb hby own_d28_18) rfl (XS.iconst X10.here hx rfl (hb hby own_d28_19) q)) ?_
  have a11_un := ((A_un.other W3 (Ne.symm ne_tx_un)).other W8 (Ne.symm ne_u8_un))
  obtain ⟨cl12, Ar12, q12, S12, P12, H12, G12⟩ := id a11_un
  have hin12 : ¬ ((0 : Int32) < 0 ∨ cl12.slots.size ≤ ((0 : Int32)).toNatClampNeg) := inb_of S12 ⟨by decide, by decide⟩
  obtain ⟨T13, h13, X13, e13, W13, st13⟩ := stZ X10 hx hZ e10 Ar12 (j := (0 : Int32)) hin12 (g := (mkF m 20 #[.val (.ref r), .val (.int 0)] [(.int 1), (.int 0), (.ref un)])) rfl rfl (hb hby own_d28_20)
  have V13 : Arv Z h13 un kn .boolean (2 : Int32) [(.int (nar .boolean (1 : Int32))), (.int m1)] (.int 0) := Arv.set Ar12 q12 S12 P12 H12 G12 (fits_nar_bool _) W13 0 rfl (Nat.le_of_ble_eq_true rfl)
  have N13 := Fr.snoc X13 N8 g_un
  refine own_by (g' := (mkF m 21 #[.val (.ref r), .val (.int 0)] [])) st13 ?_
  have f14_r := (((F_texts.other W3 (Or.inl ne_r_tx)).other W8 (Or.inl ne_r_u8)).other W13 (Or.inl ne_r_un))
  have f15_r := ((f4_r.other W8 (Or.inl ne_r_u8)).other W13 (Or.inl ne_r_un))
  have f16_r := (((F_utf8Offsets.other W3 (Or.inl ne_r_tx)).other W8 (Or.inl ne_r_u8)).other W13 (Or.inl ne_r_un))
  have f17_r := (((F_utf8Lengths.other W3 (Or.inl ne_r_tx)).other W8 (Or.inl ne_r_u8)).other W13 (Or.inl ne_r_un))
  have f18_r := (f9_r.other W13 (Or.inl ne_r_un))
  have a19_tx := ((V3.other W8 ne_tx_u8).other W13 ne_tx_un)
  have a20_u8 := (V8.other W13 ne_u8_un)
  have a21_ofs := (((A_ofs.other W3 (Ne.symm ne_tx_ofs)).other W8 (Ne.symm ne_u8_ofs)).other W13 ne_ofs_un)
  have a22_les := (((A_les.other W3 (Ne.symm ne_tx_les)).other W8 (Ne.symm ne_u8_les)).other W13 ne_les_un)
  have e23_r := (((E_r.wr W3).wr W8).wr W13)
  have k24_ := ((((Keep.refl h0 [tx, u8, ofs, les, un]).wr W3 (Or.inl (List.mem_of_getElem? (i := 0) rfl))).wr W8 (Or.inl (List.mem_of_getElem? (i := 1) rfl))).wr W13 (Or.inl (List.mem_of_getElem? (i := 4) rfl)))
  exact own_end X13 (v := none) (fun _ => rfl) hlk (fun hr => X13.returnOut hx Bd.returns (hb hby own_d28_21) hr) (by rw [e13]; exact ⟨rfl, N13, k24_, ⟨e23_r, f14_r, f15_r, f16_r, f17_r, f18_r, a19_tx, a20_u8, a21_ofs, a22_les, V13⟩⟩) (by decide) (by decide)
theorem own_setText1_ef (m : MethodId) (r : Addr) (vt : Value) (hvt : vt.isRef = true) : entryFrame m #[(.ref r), (.int 1), vt] 3 = mkF m 0 #[.val (.ref r), .val (.int 1), .val vt] [] := by rcases ref_cases hvt with rfl | ⟨_, rfl⟩ <;>  first | (simp [entryFrame, mkF, argsToLocals, Value.category]; done) | rfl
def own_setText1_Q (Z : State) (r : Addr) (vt : Value) (tx : Addr) (u8 : Addr) (ofs : Addr) (les : Addr) (un : Addr) (kt : ClassId) (ku : ClassId) (ko : ClassId) (kl : ClassId) (kn : ClassId) (t0 : Value) (t1 : Value) (b0 : Value) (b1 : Value) (o0 : Int32) (o1 : Int32) (l0 : Int32) (l1 : Int32) (m0 : Int32) (m1 : Int32) (h0 : Heap) (n0 : Nat) (v : Option Value) (h : Heap) (L : List Loc) : Prop := v = none ∧ Fr n0 L ∧ Keep h0 h [tx, u8, ofs, les, un] ∧ own_Row Z h r tx u8 ofs les un kt ku ko kl kn t0 vt b0 .null o0 o1 l0 l1 m0 (0 : Int32)
set_option maxRecDepth 65536 in
set_option maxHeartbeats 40000000 in
theorem own_setText1 (l : Launch) (Z : State) (a0 : Array Value) (hw : ∀ d ∈ tables_1, d.before a0 Z = true) (ws : List Jvm.Cond) (r : Addr) (vt : Value) (tx : Addr) (u8 : Addr) (ofs : Addr) (les : Addr) (un : Addr) (kt : ClassId) (ku : ClassId) (ko : ClassId) (kl : ClassId) (kn : ClassId) (t0 : Value) (t1 : Value) (b0 : Value) (b1 : Value) (o0 : Int32) (o1 : Int32) (l0 : Int32) (l1 : Int32) (m0 : Int32) (m1 : Int32) (h0 : Heap) (n0 : Nat) (Z0 : n0 ≤ h0.size) (hvt : vt.isRef = true) (ht0 : t0.isRef = true) (ht1 : t1.isRef = true) (hb0 : b0.isRef = true) (hb1 : b1.isRef = true) (RA : own_RowA Z n0 r tx u8 ofs les un kt ku ko kl kn) (RW : own_Row Z h0 r tx u8 ofs les un kt ku ko kl kn t0 t1 b0 b1 o0 o1 l0 l1 m0 m1) (St : Sto Z h0 tx vt) :
    MetFree l own_y3 (head1 (Jvm.Cond.code own_y3 prog_10_method_6_code 3 none :: ws) (⟨0, 0, 0, 0⟩ : Room)) (fun aa U => aa = #[(.ref r), (.int 1), vt] ∧ Z.Warmed39 U.vm ∧ U.heap = h0) (fun _ _ _ _ _ => True) (fun _ U o U' => ∃ v L, o = .returned v ∧ own_setText1_Q Z r vt tx u8 ofs les un kt ku ko kl kn t0 t1 b0 b1 o0 o1 l0 l1 m0 m1 h0 n0 v U'.heap L ∧ FrameEnd U o U' L (⟨0, 0, 0, 0⟩ : Room).cells (⟨0, 0, 0, 0⟩ : Room).slots) := by
  refine MetFree.of_bodySF (plainFor_of_name own_pn_com_example_rowtide_rowtide_event_Row) hisR ?_
  intro p e s m args below meth c s₁ Bd hml0 hP hK
  obtain ⟨rfl, hZ, hh⟩ := hP
  have hx := Bd.exec
  have hby := Bd.bytes
  have hml : c.maxLocals = 3 := hml0
  have hown : s.vm.findClass "com/example/rowtide/rowtide/event/Row" = some m.cls := findClass_of_methodNamed Bd.named
  have hnm := (name_of_methodNamed Bd.named Bd.method).1
  have hlk := Bd.notSynchronized
  have X0 : Stand p l e (⟨0, 0, 0, 0⟩ : Room) s m #[(.ref r), (.int 1), vt] below meth c s₁ [] 0 0 := Stand.of_body Bd
  have e0 : s₁.heap = h0 := by rw [← hh, Bd.state]; rfl
  have N0 := Fr.nil n0
  refine own_start (Q := own_setText1_Q Z r vt tx u8 ofs les un kt ku ko kl kn t0 t1 b0 b1 o0 o1 l0 l1 m0 m1 h0 n0) (own_setText1_ef m r vt hvt) ?_
  obtain ⟨OvT, OvU, g_tx, g_u8, g_ofs, g_les, g_un, ne_r_tx, ne_r_u8, ne_r_ofs, ne_r_les, ne_r_un, ne_tx_u8, ne_tx_ofs, ne_tx_les, ne_tx_un, ne_u8_ofs, ne_u8_les, ne_u8_un, ne_ofs_les, ne_ofs_un, ne_les_un⟩ := RA
  obtain ⟨E_r, F_texts, F_utf8, F_utf8Offsets, F_utf8Lengths, F_unavailable, A_tx, A_u8, A_ofs, A_les, A_un⟩ := RW
  refine own_g (mkF m 1 #[.val (.ref r), .val (.int 1), .val vt] [(.ref r)]) (fun _ q => XS.aloadN X0.here hx rfl (hb hby own_d33_0) rfl rfl q) ?_
  obtain ⟨T1, X1, e1, st1⟩ := getF X0 hx hZ hown (host := "") (Or.inl (own_h hw 15 rfl)) Via.refl e0 F_texts (g := (mkF m 1 #[.val (.ref r), .val (.int 1), .val vt] [(.ref r)])) rfl rfl (hb hby own_d33_1)
  refine own_by (g' := (mkF m 4 #[.val (.ref r), .val (.int 1), .val vt] [(.ref tx)])) st1 ?_
  refine own_g (mkF m 6 #[.val (.ref r), .val (.int 1), .val vt] [vt, (.int 1), (.ref tx)]) (fun _ q => XS.iloadN X1.here hx rfl (hb hby own_d33_4) rfl (XS.aloadN X1.here hx rfl (hb hby own_d33_5) rfl hvt q)) ?_
  obtain ⟨cl2, Ar2, q2, S2, P2, H2, G2⟩ := id A_tx
  have hin2 : ¬ ((1 : Int32) < 0 ∨ cl2.slots.size ≤ ((1 : Int32)).toNatClampNeg) := inb_of S2 ⟨by decide, by decide⟩
  obtain ⟨T3, h3, X3, e3, W3, st3⟩ := stR X1 hx hZ e1 Ar2 (j := (1 : Int32)) hin2 rfl St (g := (mkF m 6 #[.val (.ref r), .val (.int 1), .val vt] [vt, (.int 1), (.ref tx)])) rfl rfl (hb hby own_d33_6)
  have V3 : Arv Z h3 tx kt (.object "java/lang/String") (2 : Int32) [t0, vt] .null := Arv.set Ar2 q2 S2 P2 H2 G2 (own_fitsR rfl hvt) W3 1 rfl (Nat.le_of_ble_eq_true rfl)
  have N3 := Fr.snoc X3 N0 g_tx
  refine own_by (g' := (mkF m 7 #[.val (.ref r), .val (.int 1), .val vt] [])) st3 ?_
  refine own_g (mkF m 8 #[.val (.ref r), .val (.int 1), .val vt] [(.ref r)]) (fun _ q => XS.aloadN X3.here hx rfl (hb hby own_d33_7) rfl rfl q) ?_
  have f4_r := (F_utf8.other W3 (Or.inl ne_r_tx))
  obtain ⟨T5, X5, e5, st5⟩ := getF X3 hx hZ hown (host := "") (Or.inl (own_h hw 19 rfl)) Via.refl e3 f4_r (g := (mkF m 8 #[.val (.ref r), .val (.int 1), .val vt] [(.ref r)])) rfl rfl (hb hby own_d33_8)
  refine own_by (g' := (mkF m 11 #[.val (.ref r), .val (.int 1), .val vt] [(.ref u8)])) st5 ?_
  refine own_g (mkF m 13 #[.val (.ref r), .val (.int 1), .val vt] [.null, (.int 1), (.ref u8)]) (fun _ q => XS.iloadN X5.here hx rfl (hb hby own_d33_11) rfl (XS.aconstNull X5.here hx rfl (hb hby own_d33_12) q)) ?_
  have a6_u8 := (A_u8.other W3 (Ne.symm ne_tx_u8))
  obtain ⟨cl7, Ar7, q7, S7, P7, H7, G7⟩ := id a6_u8
  have hin7 : ¬ ((1 : Int32) < 0 ∨ cl7.slots.size ≤ ((1 : Int32)).toNatClampNeg) := inb_of S7 ⟨by decide, by decide⟩
  obtain ⟨T8, h8, X8, e8, W8, st8⟩ := stR X5 hx hZ e5 Ar7 (j := (1 : Int32)) hin7 rfl (Or.inl rfl) (g := (mkF m 13 #[.val (.ref r), .val (.int 1), .val vt] [.null, (.int 1), (.ref u8)])) rfl rfl (hb hby own_d33_13)
  have V8 : Arv Z h8 u8 ku (.array .byte) (2 : Int32) [b0, .null] .null := Arv.set Ar7 q7 S7 P7 H7 G7 (own_fitsR rfl rfl) W8 1 rfl (Nat.le_of_ble_eq_true rfl)
  have N8 := Fr.snoc X8 N3 g_u8
  refine own_by (g' := (mkF m 14 #[.val (.ref r), .val (.int 1), .val vt] [])) st8 ?_
  refine own_g (mkF m 15 #[.val (.ref r), .val (.int 1), .val vt] [(.ref r)]) (fun _ q => XS.aloadN X8.here hx rfl (hb hby own_d33_14) rfl rfl q) ?_
  have f9_r := ((F_unavailable.other W3 (Or.inl ne_r_tx)).other W8 (Or.inl ne_r_u8))
  obtain ⟨T10, X10, e10, st10⟩ := getF X8 hx hZ hown (host := "") (Or.inl (own_h hw 27 rfl)) Via.refl e8 f9_r (g := (mkF m 15 #[.val (.ref r), .val (.int 1), .val vt] [(.ref r)])) rfl rfl (hb hby own_d33_15)
  refine own_by (g' := (mkF m 18 #[.val (.ref r), .val (.int 1), .val vt] [(.ref un)])) st10 ?_
  refine own_g (mkF m 20 #[.val (.ref r), .val (.int 1), .val vt] [(.int 0), (.int 1), (.ref un)]) (fun _ q => XS.iloadN X10.here hx rfl (hb hby own_d33_18) rfl (XS.iconst X10.here hx rfl (hb hby own_d33_19) q)) ?_
  have a11_un := ((A_un.other W3 (Ne.symm ne_tx_un)).other W8 (Ne.symm ne_u8_un))
  obtain ⟨cl12, Ar12, q12, S12, P12, H12, G12⟩ := id a11_un
  have hin12 : ¬ ((1 : Int32) < 0 ∨ cl12.slots.size ≤ ((1 : Int32)).toNatClampNeg) := inb_of S12 ⟨by decide, by decide⟩
  obtain ⟨T13, h13, X13, e13, W13, st13⟩ := stZ X10 hx hZ e10 Ar12 (j := (1 : Int32)) hin12 (g := (mkF m 20 #[.val (.ref r), .val (.int 1), .val vt] [(.int 0), (.int 1), (.ref un)])) rfl rfl (hb hby own_d33_20)
  have V13 : Arv Z h13 un kn .boolean (2 : Int32) [(.int m0), (.int (nar .boolean (0 : Int32)))] (.int 0) := Arv.set Ar12 q12 S12 P12 H12 G12 (fits_nar_bool _) W13 1 rfl (Nat.le_of_ble_eq_true rfl)
  have N13 := Fr.snoc X13 N8 g_un
  refine own_by (g' := (mkF m 21 #[.val (.ref r), .val (.int 1), .val vt] [])) st13 ?_
  have f14_r := (((F_texts.other W3 (Or.inl ne_r_tx)).other W8 (Or.inl ne_r_u8)).other W13 (Or.inl ne_r_un))
  have f15_r := ((f4_r.other W8 (Or.inl ne_r_u8)).other W13 (Or.inl ne_r_un))
  have f16_r := (((F_utf8Offsets.other W3 (Or.inl ne_r_tx)).other W8 (Or.inl ne_r_u8)).other W13 (Or.inl ne_r_un))
  have f17_r := (((F_utf8Lengths.other W3 (Or.inl ne_r_tx)).other W8 (Or.inl ne_r_u8)).other W13 (Or.inl ne_r_un))
  have f18_r := (f9_r.other W13 (Or.inl ne_r_un))
  have a19_tx := ((V3.other W8 ne_tx_u8).other W13 ne_tx_un)
  have a20_u8 := (V8.other W13 ne_u8_un)
  have a21_ofs := (((A_ofs.other W3 (Ne.symm ne_tx_ofs)).other W8 (Ne.symm ne_u8_ofs)).other W13 ne_ofs_un)
  have a22_les := (((A_les.other W3 (Ne.symm ne_tx_les)).other W8 (Ne.symm ne_u8_les)).other W13 ne_les_un)
  have e23_r := (((E_r.wr W3).wr W8).wr W13)
  have k24_ := ((((Keep.refl h0 [tx, u8, ofs, les, un]).wr W3 (Or.inl (List.mem_of_getElem? (i := 0) rfl))).wr W8 (Or.inl (List.mem_of_getElem? (i := 1) rfl))).wr W13 (Or.inl (List.mem_of_getElem? (i := 4) rfl)))
  exact own_end X13 (v := none) (fun _ => rfl) hlk (fun hr => X13.returnOut hx Bd.returns (hb hby own_d33_21) hr) (by rw [e13]; exact ⟨rfl, N13, k24_, ⟨e23_r, f14_r, f15_r, f16_r, f17_r, f18_r, a19_tx, a20_u8, a21_ofs, a22_les, V13⟩⟩) (by decide) (by decide)
theorem own_setUtf8_1_ef (m : MethodId) (r : Addr) (yb : Addr) (io : Int32) (il : Int32) : entryFrame m #[(.ref r), (.int 1), (.ref yb), (.int io), (.int il)] 5 = mkF m 0 #[.val (.ref r), .val (.int 1), .val (.ref yb), .val (.int io), .val (.int il)] [] := by  first | (simp [entryFrame, mkF, argsToLocals, Value.category]; done) | rfl
def own_setUtf8_1_Q (Z : State) (r : Addr) (yb : Addr) (io : Int32) (il : Int32) (tx : Addr) (u8 : Addr) (ofs : Addr) (les : Addr) (un : Addr) (kt : ClassId) (ku : ClassId) (ko : ClassId) (kl : ClassId) (kn : ClassId) (t0 : Value) (t1 : Value) (b0 : Value) (b1 : Value) (o0 : Int32) (o1 : Int32) (l0 : Int32) (l1 : Int32) (m0 : Int32) (m1 : Int32) (h0 : Heap) (n0 : Nat) (v : Option Value) (h : Heap) (L : List Loc) : Prop := v = none ∧ Fr n0 L ∧ Keep h0 h [tx, u8, ofs, les, un] ∧ own_Row Z h r tx u8 ofs les un kt ku ko kl kn t0 .null b0 (.ref yb) o0 io l0 il m0 (0 : Int32)
set_option maxRecDepth 65536 in
set_option maxHeartbeats 40000000 in
theorem own_setUtf8_1 (l : Launch) (Z : State) (a0 : Array Value) (hw : ∀ d ∈ tables_1, d.before a0 Z = true) (ws : List Jvm.Cond) (r : Addr) (yb : Addr) (io : Int32) (il : Int32) (tx : Addr) (u8 : Addr) (ofs : Addr) (les : Addr) (un : Addr) (kt : ClassId) (ku : ClassId) (ko : ClassId) (kl : ClassId) (kn : ClassId) (t0 : Value) (t1 : Value) (b0 : Value) (b1 : Value) (o0 : Int32) (o1 : Int32) (l0 : Int32) (l1 : Int32) (m0 : Int32) (m1 : Int32) (h0 : Heap) (n0 : Nat) (Z0 : n0 ≤ h0.size) (ht0 : t0.isRef = true) (ht1 : t1.isRef = true) (hb0 : b0.isRef = true) (hb1 : b1.isRef = true) (RA : own_RowA Z n0 r tx u8 ofs les un kt ku ko kl kn) (RW : own_Row Z h0 r tx u8 ofs les un kt ku ko kl kn t0 t1 b0 b1 o0 o1 l0 l1 m0 m1) (St : Sto Z h0 u8 (.ref yb)) :
    MetFree l own_y5 (head1 (Jvm.Cond.code own_y5 prog_10_method_7_code 5 none :: ws) (⟨0, 0, 0, 0⟩ : Room)) (fun aa U => aa = #[(.ref r), (.int 1), (.ref yb), (.int io), (.int il)] ∧ Z.Warmed39 U.vm ∧ U.heap = h0) (fun _ _ _ _ _ => True) (fun _ U o U' => ∃ v L, o = .returned v ∧ own_setUtf8_1_Q Z r yb io il tx u8 ofs les un kt ku ko kl kn t0 t1 b0 b1 o0 o1 l0 l1 m0 m1 h0 n0 v U'.heap L ∧ FrameEnd U o U' L (⟨0, 0, 0, 0⟩ : Room).cells (⟨0, 0, 0, 0⟩ : Room).slots) := by
  refine MetFree.of_bodySF (plainFor_of_name own_pn_com_example_rowtide_rowtide_event_Row) hisR ?_
  intro p e s m args below meth c s₁ Bd hml0 hP hK
  obtain ⟨rfl, hZ, hh⟩ := hP
  have hx := Bd.exec
  have hby := Bd.bytes
  have hml : c.maxLocals = 5 := hml0
  have hown : s.vm.findClass "com/example/rowtide/rowtide/event/Row" = some m.cls := findClass_of_methodNamed Bd.named
  have hnm := (name_of_methodNamed Bd.named Bd.method).1
  have hlk := Bd.notSynchronized
  have X0 : Stand p l e (⟨0, 0, 0, 0⟩ : Room) s m #[(.ref r), (.int 1), (.ref yb), (.int io), (.int il)] below meth c s₁ [] 0 0 := Stand.of_body Bd
  have e0 : s₁.heap = h0 := by rw [← hh, Bd.state]; rfl
  have N0 := Fr.nil n0
  refine own_start (Q := own_setUtf8_1_Q Z r yb io il tx u8 ofs les un kt ku ko kl kn t0 t1 b0 b1 o0 o1 l0 l1 m0 m1 h0 n0) (own_setUtf8_1_ef m r yb io il) ?_
  obtain ⟨OvT, OvU, g_tx, g_u8, g_ofs, g_les, g_un, ne_r_tx, ne_r_u8, ne_r_ofs, ne_r_les, ne_r_un, ne_tx_u8, ne_tx_ofs, ne_tx_les, ne_tx_un, ne_u8_ofs, ne_u8_les, ne_u8_un, ne_ofs_les, ne_ofs_un, ne_les_un⟩ := RA
  obtain ⟨E_r, F_texts, F_utf8, F_utf8Offsets, F_utf8Lengths, F_unavailable, A_tx, A_u8, A_ofs, A_les, A_un⟩ := RW
  refine own_g (mkF m 1 #[.val (.ref r), .val (.int 1), .val (.ref yb), .val (.int io), .val (.int il)] [(.ref r)]) (fun _ q => XS.aloadN X0.here hx rfl (hb hby own_d3_0) rfl rfl q) ?_
  obtain ⟨T1, X1, e1, st1⟩ := getF X0 hx hZ hown (host := "") (Or.inl (own_h hw 15 rfl)) Via.refl e0 F_texts (g := (mkF m 1 #[.val (.ref r), .val (.int 1), .val (.ref yb), .val (.int io), .val (.int il)] [(.ref r)])) rfl rfl (hb hby own_d3_1)
  refine own_by (g' := (mkF m 4 #[.val (.ref r), .val (.int 1), .val (.ref yb), .val (.int io), .val (.int il)] [(.ref tx)])) st1 ?_
  refine own_g (mkF m 6 #[.val (.ref r), .val (.int 1), .val (.ref yb), .val (.int io), .val (.int il)] [.null, (.int 1), (.ref tx)]) (fun _ q => XS.iloadN X1.here hx rfl (hb hby own_d3_4) rfl (XS.aconstNull X1.here hx rfl (hb hby own_d3_5) q)) ?_
  obtain ⟨cl2, Ar2, q2, S2, P2, H2, G2⟩ := id A_tx
  have hin2 : ¬ ((1 : Int32) < 0 ∨ cl2.slots.size ≤ ((1 : Int32)).toNatClampNeg) := inb_of S2 ⟨by decide, by decide⟩
  obtain ⟨T3, h3, X3, e3, W3, st3⟩ := stR X1 hx hZ e1 Ar2 (j := (1 : Int32)) hin2 rfl (Or.inl rfl) (g := (mkF m 6 #[.val (.ref r), .val (.int 1), .val (.ref yb), .val (.int io), .val (.int il)] [.null, (.int 1), (.ref tx)])) rfl rfl (hb hby own_d3_6)
  have V3 : Arv Z h3 tx kt (.object "java/lang/String") (2 : Int32) [t0, .null] .null := Arv.set Ar2 q2 S2 P2 H2 G2 (own_fitsR rfl rfl) W3 1 rfl (Nat.le_of_ble_eq_true rfl)
  have N3 := Fr.snoc X3 N0 g_tx
  refine own_by (g' := (mkF m 7 #[.val (.ref r), .val (.int 1), .val (.ref yb), .val (.int io), .val (.int il)] [])) st3 ?_
  refine own_g (mkF m 8 #[.val (.ref r), .val (.int 1), .val (.ref yb), .val (.int io), .val (.int il)] [(.ref r)]) (fun _ q => XS.aloadN X3.here hx rfl (hb hby own_d3_7) rfl rfl q) ?_
  have f4_r := (F_utf8.other W3 (Or.inl ne_r_tx))
  obtain ⟨T5, X5, e5, st5⟩ := getF X3 hx hZ hown (host := "") (Or.inl (own_h hw 19 rfl)) Via.refl e3 f4_r (g := (mkF m 8 #[.val (.ref r), .val (.int 1), .val (.ref yb), .val (.int io), .val (.int il)] [(.ref r)])) rfl rfl (hb hby own_d3_8)
  refine own_by (g' := (mkF m 11 #[.val (.ref r), .val (.int 1), .val (.ref yb), .val (.int io), .val (.int il)] [(.ref u8)])) st5 ?_
  refine own_g (mkF m 13 #[.val (.ref r), .val (.int 1), .val (.ref yb), .val (.int io), .val (.int il)] [(.ref yb), (.int 1), (.ref u8)]) (fun _ q => XS.iloadN X5.here hx rfl (hb hby own_d3_11) rfl (XS.aloadN X5.here hx rfl (hb hby own_d3_12) rfl rfl q)) ?_
  have a6_u8 := (A_u8.other W3 (Ne.symm ne_tx_u8))
  obtain ⟨cl7, Ar7, q7, S7, P7, H7, G7⟩ := id a6_u8
  have hin7 : ¬ ((1 : Int32) < 0 ∨ cl7.slots.size ≤ ((1 : Int32)).toNatClampNeg) := inb_of S7 ⟨by decide, by decide⟩
  obtain ⟨T8, h8, X8, e8, W8, st8⟩ := stR X5 hx hZ e5 Ar7 (j := (1 : Int32)) hin7 rfl (St.wr W3) (g := (mkF m 13 #[.val (.ref r), .val (.int 1), .val (.ref yb), .val (.int io), .val (.int il)] [(.ref yb), (.int 1), (.ref u8)])) rfl rfl (hb hby own_d3_13)
  have V8 : Arv Z h8 u8 ku (.array .byte) (2 : Int32) [b0, (.ref yb)] .null := Arv.set Ar7 q7 S7 P7 H7 G7 (own_fitsR rfl rfl) W8 1 rfl (Nat.le_of_ble_eq_true rfl)
  have N8 := Fr.snoc X8 N3 g_u8
  refine own_by (g' := (mkF m 14 #[.val (.ref r), .val (.int 1), .val (.ref yb), .val (.int io), .val (.int il)] [])) st8 ?_
  refine own_g (mkF m 15 #[.val (.ref r), .val (.int 1), .val (.ref yb), .val (.int io), .val (.int il)] [(.ref r)]) (fun _ q => XS.aloadN X8.here hx rfl (hb hby own_d3_14) rfl rfl q) ?_
  have f9_r := ((F_utf8Offsets.other W3 (Or.inl ne_r_tx)).other W8 (Or.inl ne_r_u8))
  obtain ⟨T10, X10, e10, st10⟩ := getF X8 hx hZ hown (host := "") (Or.inl (own_h hw 22 rfl)) Via.refl e8 f9_r (g := (mkF m 15 #[.val (.ref r), .val (.int 1), .val (.ref yb), .val (.int io), .val (.int il)] [(.ref r)])) rfl rfl (hb hby own_d3_15)
  refine own_by (g' := (mkF m 18 #[.val (.ref r), .val (.int 1), .val (.ref yb), .val (.int io), .val (.int il)] [(.ref ofs)])) st10 ?_
  refine own_g (mkF m 20 #[.val (.ref r), .val (.int 1), .val (.ref yb), .val (.int io), .val (.int il)] [(.int io), (.int 1), (.ref ofs)]) (fun _ q => XS.iloadN X10.here hx rfl (hb hby own_d3_18) rfl (XS.iloadN X10.here hx rfl (hb hby own_d3_19) rfl q)) ?_
  have a11_ofs := ((A_ofs.other W3 (Ne.symm ne_tx_ofs)).other W8 (Ne.symm ne_u8_ofs))
  obtain ⟨cl12, Ar12, q12, S12, P12, H12, G12⟩ := id a11_ofs
  have hin12 : ¬ ((1 : Int32) < 0 ∨ cl12.slots.size ≤ ((1 : Int32)).toNatClampNeg) := inb_of S12 ⟨by decide, by decide⟩
  obtain ⟨T13, h13, X13, e13, W13, st13⟩ := stI X10 hx hZ e10 Ar12 (j := (1 : Int32)) hin12 (g := (mkF m 20 #[.val (.ref r), .val (.int 1), .val (.ref yb), .val (.int io), .val (.int il)] [(.int io), (.int 1), (.ref ofs)])) rfl rfl (hb hby own_d3_20)
  have V13 : Arv Z h13 ofs ko .int (2 : Int32) [(.int o0), (.int io)] (.int 0) := Arv.set Ar12 q12 S12 P12 H12 G12 rfl W13 1 rfl (Nat.le_of_ble_eq_true rfl)
  have N13 := Fr.snoc X13 N8 g_ofs
  refine own_by (g' := (mkF m 21 #[.val (.ref r), .val (.int 1), .val (.ref yb), .val (.int io), .val (.int il)] [])) st13 ?_
  refine own_g (mkF m 22 #[.val (.ref r), .val (.int 1), .val (.ref yb), .val (.int io), .val (.int il)] [(.ref r)]) (fun _ q => XS.aloadN X13.here hx rfl (hb hby own_d3_21) rfl rfl q) ?_
  have f14_r := (((F_utf8Lengths.other W3 (Or.inl ne_r_tx)).other W8 (Or.inl ne_r_u8)).other W13 (Or.inl ne_r_ofs))
  obtain ⟨T15, X15, e15, st15⟩ := getF X13 hx hZ hown (host := "") (Or.inl (own_h hw 24 rfl)) Via.refl e13 f14_r (g := (mkF m 22 #[.val (.ref r), .val (.int 1), .val (.ref yb), .val (.int io), .val (.int il)] [(.ref r)])) rfl rfl (hb hby own_d3_22)
  refine own_by (g' := (mkF m 25 #[.val (.ref r), .val (.int 1), .val (.ref yb), .val (.int io), .val (.int il)] [(.ref les)])) st15 ?_
  refine own_g (mkF m 28 #[.val (.ref r), .val (.int 1), .val (.ref yb), .val (.int io), .val (.int il)] [(.int il), (.int 1), (.ref les)]) (fun _ q => XS.iloadN X15.here hx rfl (hb hby own_d3_25) rfl (XS.iload X15.here hx rfl (hb hby own_d3_26) rfl q)) ?_
  have a16_les := (((A_les.other W3 (Ne.symm ne_tx_les)).other W8 (Ne.symm ne_u8_les)).other W13 (Ne.symm ne_ofs_les))
  obtain ⟨cl17, Ar17, q17, S17, P17, H17, G17⟩ := id a16_les
  have hin17 : ¬ ((1 : Int32) < 0 ∨ cl17.slots.size ≤ ((1 : Int32)).toNatClampNeg) := inb_of S17 ⟨by decide, by decide⟩
  obtain ⟨T18, h18, X18, e18, W18, st18⟩ := stI X15 hx hZ e15 Ar17 (j := (1 : Int32)) hin17 (g := (mkF m 28 #[.val (.ref r), .val (.int 1), .val (.ref yb), .val (.int io), .val (.int il)] [(.int il), (.int 1), (.ref les)])) rfl rfl (hb hby own_d3_28)
  have V18 : Arv Z h18 les kl .int (2 : Int32) [(.int l0), (.int il)] (.int 0) := Arv.set Ar17 q17 S17 P17 H17 G17 rfl W18 1 rfl (Nat.le_of_ble_eq_true rfl)
  have N18 := Fr.snoc X18 N13 g_les
  refine own_by (g' := (mkF m 29 #[.val (.ref r), .val (.int 1), .val (.ref yb), .val (.int io), .val (.int il)] [])) st18 ?_
  refine own_g (mkF m 30 #[.val (.ref r), .val (.int 1), .val (.ref yb), .val (.int io), .val (.int il)] [(.ref r)]) (fun _ q => XS.aloadN X18.here hx rfl (hb hby own_d3_29) rfl rfl q) ?_
  have f19_r := ((((F_unavailable.other W3 (Or.inl ne_r_tx)).other W8 (Or.inl ne_r_u8)).other W13 (Or.inl ne_r_ofs)).other W18 (Or.inl ne_r_les))
  obtain ⟨T20, X20, e20, st20⟩ := getF X18 hx hZ hown (host := "") (Or.inl (own_h hw 27 rfl)) Via.refl e18 f19_r (g := (mkF m 30 #[.val (.ref r), .val (.int 1), .val (.ref yb), .val (.int io), .val (.int il)] [(.ref r)])) rfl rfl (hb hby own_d3_30)
  refine own_by (g' := (mkF m 33 #[.val (.ref r), .val (.int 1), .val (.ref yb), .val (.int io), .val (.int il)] [(.ref un)])) st20 ?_
  refine own_g (mkF m 35 #[.val (.ref r), .val (.int 1), .val (.ref yb), .val (.int io), .val (.int il)] [(.int 0), (.int 1), (.ref un)]) (fun _ q => XS.iloadN X20.here hx rfl (hb hby own_d3_33) rfl (XS.iconst X20.here hx rfl (hb hby own_d3_34) q)) ?_
  have a21_un := ((((A_un.other W3 (Ne.symm ne_tx_un)).other W8 (Ne.symm ne_u8_un)).other W13 (Ne.symm ne_ofs_un)).other W18 (Ne.symm ne_les_un))
  obtain ⟨cl22, Ar22, q22, S22, P22, H22, G22⟩ := id a21_un
  have hin22 : ¬ ((1 : Int32) < 0 ∨ cl22.slots.size ≤ ((1 : Int32)).toNatClampNeg) := inb_of S22 ⟨by decide, by decide⟩
  obtain ⟨T23, h23, X23, e23, W23, st23⟩ := stZ X20 hx hZ e20 Ar22 (j := (1 : Int32)) hin22 (g := (mkF m 35 #[.val (.ref r), .val (.int 1), .val (.ref yb), .val (.int io), .val (.int il)] [(.int 0), (.int 1), (.ref un)])) rfl rfl (hb hby own_d3_35)
  have V23 : Arv Z h23 un kn .boolean (2 : Int32) [(.int m0), (.int (nar .boolean (0 : Int32)))] (.int 0) := Arv.set Ar22 q22 S22 P22 H22 G22 (fits_nar_bool _) W23 1 rfl (Nat.le_of_ble_eq_true rfl)
  have N23 := Fr.snoc X23 N18 g_un
  refine own_by (g' := (mkF m 36 #[.val (.ref r), .val (.int 1), .val (.ref yb), .val (.int io), .val (.int il)] [])) st23 ?_
  have f24_r := (((((F_texts.other W3 (Or.inl ne_r_tx)).other W8 (Or.inl ne_r_u8)).other W13 (Or.inl ne_r_ofs)).other W18 (Or.inl ne_r_les)).other W23 (Or.inl ne_r_un))
  have f25_r := ((((f4_r.other W8 (Or.inl ne_r_u8)).other W13 (Or.inl ne_r_ofs)).other W18 (Or.inl ne_r_les)).other W23 (Or.inl ne_r_un))
  have f26_r := (((f9_r.other W13 (Or.inl ne_r_ofs)).other W18 (Or.inl ne_r_les)).other W23 (Or.inl ne_r_un))
  have f27_r := ((f14_r.other W18 (Or.inl ne_r_les)).other W23 (Or.inl ne_r_un))
  have f28_r := (f19_r.other W23 (Or.inl ne_r_un))
  have a29_tx := ((((V3.other W8 ne_tx_u8).other W13 ne_tx_ofs).other W18 ne_tx_les).other W23 ne_tx_un)
  have a30_u8 := (((V8.other W13 ne_u8_ofs).other W18 ne_u8_les).other W23 ne_u8_un)
  have a31_ofs := ((V13.other W18 ne_ofs_les).other W23 ne_ofs_un)
  have a32_les := (V18.other W23 ne_les_un)
  have e33_r := (((((E_r.wr W3).wr W8).wr W13).wr W18).wr W23)
  have k34_ := ((((((Keep.refl h0 [tx, u8, ofs, les, un]).wr W3 (Or.inl (List.mem_of_getElem? (i := 0) rfl))).wr W8 (Or.inl (List.mem_of_getElem? (i := 1) rfl))).wr W13 (Or.inl (List.mem_of_getElem? (i := 2) rfl))).wr W18 (Or.inl (List.mem_of_getElem? (i := 3) rfl))).wr W23 (Or.inl (List.mem_of_getElem? (i := 4) rfl)))
  exact own_end X23 (v := none) (fun _ => rfl) hlk (fun hr => X23.returnOut hx Bd.returns (hb hby own_d3_36) hr) (by rw [e23]; exact ⟨rfl, N23, k34_, ⟨e33_r, f24_r, f25_r, f26_r, f27_r, f28_r, a29_tx, a30_u8, a31_ofs, a32_les, V23⟩⟩) (by decide) (by decide)
theorem own_setUn1_ef (m : MethodId) (r : Addr) : entryFrame m #[(.ref r), (.int 1)] 2 = mkF m 0 #[.val (.ref r), .val (.int 1)] [] := by  first | (simp [entryFrame, mkF, argsToLocals, Value.category]; done) | rfl
def own_setUn1_Q (Z : State) (r : Addr) (tx : Addr) (u8 : Addr) (ofs : Addr) (les : Addr) (un : Addr) (kt : ClassId) (ku : ClassId) (ko : ClassId) (kl : ClassId) (kn : ClassId) (t0 : Value) (t1 : Value) (b0 : Value) (b1 : Value) (o0 : Int32) (o1 : Int32) (l0 : Int32) (l1 : Int32) (m0 : Int32) (m1 : Int32) (h0 : Heap) (n0 : Nat) (v : Option Value) (h : Heap) (L : List Loc) : Prop := v = none ∧ Fr n0 L ∧ Keep h0 h [tx, u8, ofs, les, un] ∧ own_Row Z h r tx u8 ofs les un kt ku ko kl kn t0 .null b0 .null o0 o1 l0 l1 m0 (1 : Int32)
set_option maxRecDepth 65536 in
set_option maxHeartbeats 40000000 in
theorem own_setUn1 (l : Launch) (Z : State) (a0 : Array Value) (hw : ∀ d ∈ tables_1, d.before a0 Z = true) (ws : List Jvm.Cond) (r : Addr) (tx : Addr) (u8 : Addr) (ofs : Addr) (les : Addr) (un : Addr) (kt : ClassId) (ku : ClassId) (ko : ClassId) (kl : ClassId) (kn : ClassId) (t0 : Value) (t1 : Value) (b0 : Value) (b1 : Value) (o0 : Int32) (o1 : Int32) (l0 : Int32) (l1 : Int32) (m0 : Int32) (m1 : Int32) (h0 : Heap) (n0 : Nat) (Z0 : n0 ≤ h0.size) (ht0 : t0.isRef = true) (ht1 : t1.isRef = true) (hb0 : b0.isRef = true) (hb1 : b1.isRef = true) (RA : own_RowA Z n0 r tx u8 ofs les un kt ku ko kl kn) (RW : own_Row Z h0 r tx u8 ofs les un kt ku ko kl kn t0 t1 b0 b1 o0 o1 l0 l1 m0 m1) :
    MetFree l own_y4 (head1 (Jvm.Cond.code own_y4 prog_10_method_8_code 2 none :: ws) (⟨0, 0, 0, 0⟩ : Room)) (fun aa U => aa = #[(.ref r), (.int 1)] ∧ Z.Warmed39 U.vm ∧ U.heap = h0) (fun _ _ _ _ _ => True) (fun _ U o U' => ∃ v L, o = .returned v ∧ own_setUn1_Q Z r tx u8 ofs les un kt ku ko kl kn t0 t1 b0 b1 o0 o1 l0 l1 m0 m1 h0 n0 v U'.heap L ∧ FrameEnd U o U' L (⟨0, 0, 0, 0⟩ : Room).cells (⟨0, 0, 0, 0⟩ : Room).slots) := by
  refine MetFree.of_bodySF (plainFor_of_name own_pn_com_example_rowtide_rowtide_event_Row) hisR ?_
  intro p e s m args below meth c s₁ Bd hml0 hP hK
  obtain ⟨rfl, hZ, hh⟩ := hP
  have hx := Bd.exec
  have hby := Bd.bytes
  have hml : c.maxLocals = 2 := hml0
  have hown : s.vm.findClass "com/example/rowtide/rowtide/event/Row" = some m.cls := findClass_of_methodNamed Bd.named
  have hnm := (name_of_methodNamed Bd.named Bd.method).1
  have hlk := Bd.notSynchronized
  have X0 : Stand p l e (⟨0, 0, 0, 0⟩ : Room) s m #[(.ref r), (.int 1)] below meth c s₁ [] 0 0 := Stand.of_body Bd
  have e0 : s₁.heap = h0 := by rw [← hh, Bd.state]; rfl
  have N0 := Fr.nil n0
  refine own_start (Q := own_setUn1_Q Z r tx u8 ofs les un kt ku ko kl kn t0 t1 b0 b1 o0 o1 l0 l1 m0 m1 h0 n0) (own_setUn1_ef m r) ?_
  obtain ⟨OvT, OvU, g_tx, g_u8, g_ofs, g_les, g_un, ne_r_tx, ne_r_u8, ne_r_ofs, ne_r_les, ne_r_un, ne_tx_u8, ne_tx_ofs, ne_tx_les, ne_tx_un, ne_u8_ofs, ne_u8_les, ne_u8_un, ne_ofs_les, ne_ofs_un, ne_les_un⟩ := RA
  obtain ⟨E_r, F_texts, F_utf8, F_utf8Offsets, F_utf8Lengths, F_unavailable, A_tx, A_u8, A_ofs, A_les, A_un⟩ := RW
  refine own_g (mkF m 1 #[.val (.ref r), .val (.int 1)] [(.ref r)]) (fun _ q => XS.aloadN X0.here hx rfl (hb hby own_d28_0) rfl rfl q) ?_
  obtain ⟨T1, X1, e1, st1⟩ := getF X0 hx hZ hown (host := "") (Or.inl (own_h hw 15 rfl)) Via.refl e0 F_texts (g := (mkF m 1 #[.val (.ref r), .val (.int 1)] [(.ref r)])) rfl rfl (hb hby own_d28_1)
  refine own_by (g' := (mkF m 4 #[.val (.ref r), .val (.int 1)] [(.ref tx)])) st1 ?_
  refine own_g (mkF m 6 #[.val (.ref r), .val (.int 1)] [.null, (.int 1), (.ref tx)]) (fun _ q => XS.iloadN X1.here hx rfl (hb hby own_d28_4) rfl (XS.aconstNull X1.here hx rfl (hb hby own_d28_5) q)) ?_
  obtain ⟨cl2, Ar2, q2, S2, P2, H2, G2⟩ := id A_tx
  have hin2 : ¬ ((1 : Int32) < 0 ∨ cl2.slots.size ≤ ((1 : Int32)).toNatClampNeg) := inb_of S2 ⟨by decide, by decide⟩
  obtain ⟨T3, h3, X3, e3, W3, st3⟩ := stR X1 hx hZ e1 Ar2 (j := (1 : Int32)) hin2 rfl (Or.inl rfl) (g := (mkF m 6 #[.val (.ref r), .val (.int 1)] [.null, (.int 1), (.ref tx)])) rfl rfl (hb hby own_d28_6)
  have V3 : Arv Z h3 tx kt (.object "java/lang/String") (2 : Int32) [t0, .null] .null := Arv.set Ar2 q2 S2 P2 H2 G2 (own_fitsR rfl rfl) W3 1 rfl (Nat.le_of_ble_eq_true rfl)
  have N3 := Fr.snoc X3 N0 g_tx
  refine own_by (g' := (mkF m 7 #[.val (.ref r), .val (.int 1)] [])) st3 ?_
  refine own_g (mkF m 8 #[.val (.ref r), .val (.int 1)] [(.ref r)]) (fun _ q => XS.aloadN X3.here hx rfl (hb hby own_d28_7) rfl rfl q) ?_
  have f4_r := (F_utf8.other W3 (Or.inl ne_r_tx))
  obtain ⟨T5, X5, e5, st5⟩ := getF X3 hx hZ hown (host := "") (Or.inl (own_h hw 19 rfl)) Via.refl e3 f4_r (g := (mkF m 8 #[.val (.ref r), .val (.int 1)] [(.ref r)])) rfl rfl (hb hby own_d28_8)
  refine own_by (g' := (mkF m 11 #[.val (.ref r), .val (.int 1)] [(.ref u8)])) st5 ?_
  refine own_g (mkF m 13 #[.val (.ref r), .val (.int 1)] [.null, (.int 1), (.ref u8)]) (fun _ q => XS.iloadN X5.here hx rfl (hb hby own_d28_11) rfl (XS.aconstNull X5.here hx rfl (hb hby own_d28_12) q)) ?_
  have a6_u8 := (A_u8.other W3 (Ne.symm ne_tx_u8))
  obtain ⟨cl7, Ar7, q7, S7, P7, H7, G7⟩ := id a6_u8
  have hin7 : ¬ ((1 : Int32) < 0 ∨ cl7.slots.size ≤ ((1 : Int32)).toNatClampNeg) := inb_of S7 ⟨by decide, by decide⟩
  obtain ⟨T8, h8, X8, e8, W8, st8⟩ := stR X5 hx hZ e5 Ar7 (j := (1 : Int32)) hin7 rfl (Or.inl rfl) (g := (mkF m 13 #[.val (.ref r), .val (.int 1)] [.null, (.int 1), (.ref u8)])) rfl rfl (hb hby own_d28_13)
  have V8 : Arv Z h8 u8 ku (.array .byte) (2 : Int32) [b0, .null] .null := Arv.set Ar7 q7 S7 P7 H7 G7 (own_fitsR rfl rfl) W8 1 rfl (Nat.le_of_ble_eq_true rfl)
  have N8 := Fr.snoc X8 N3 g_u8
  refine own_by (g' := (mkF m 14 #[.val (.ref r), .val (.int 1)] [])) st8 ?_
  refine own_g (mkF m 15 #[.val (.ref r), .val (.int 1)] [(.ref r)]) (fun _ q => XS.aloadN X8.here hx rfl (hb hby own_d28_14) rfl rfl q) ?_
  have f9_r := ((F_unavailable.other W3 (Or.inl ne_r_tx)).other W8 (Or.inl ne_r_u8))
  obtain ⟨T10, X10, e10, st10⟩ := getF X8 hx hZ hown (host := "") (Or.inl (own_h hw 27 rfl)) Via.refl e8 f9_r (g := (mkF m 15 #[.val (.ref r), .val (.int 1)] [(.ref r)])) rfl rfl (hb hby own_d28_15)
  refine own_by (g' := (mkF m 18 #[.val (.ref r), .val (.int 1)] [(.ref un)])) st10 ?_
  refine own_g (mkF m 20 #[.val (.ref r), .val (.int 1)] [(.int 1), (.int 1), (.ref un)]) (fun _ q => XS.iloadN X10.here hx rfl (hb hby own_d28_18) rfl (XS.iconst X10.here hx rfl (hb hby own_d28_19) q)) ?_
  have a11_un := ((A_un.other W3 (Ne.symm ne_tx_un)).other W8 (Ne.symm ne_u8_un))
  obtain ⟨cl12, Ar12, q12, S12, P12, H12, G12⟩ := id a11_un
  have hin12 : ¬ ((1 : Int32) < 0 ∨ cl12.slots.size ≤ ((1 : Int32)).toNatClampNeg) := inb_of S12 ⟨by decide, by decide⟩
  obtain ⟨T13, h13, X13, e13, W13, st13⟩ := stZ X10 hx hZ e10 Ar12 (j := (1 : Int32)) hin12 (g := (mkF m 20 #[.val (.ref r), .val (.int 1)] [(.int 1), (.int 1), (.ref un)])) rfl rfl (hb hby own_d28_20)
  have V13 : Arv Z h13 un kn .boolean (2 : Int32) [(.int m0), (.int (nar .boolean (1 : Int32)))] (.int 0) := Arv.set Ar12 q12 S12 P12 H12 G12 (fits_nar_bool _) W13 1 rfl (Nat.le_of_ble_eq_true rfl)
  have N13 := Fr.snoc X13 N8 g_un
  refine own_by (g' := (mkF m 21 #[.val (.ref r), .val (.int 1)] [])) st13 ?_
  have f14_r := (((F_texts.other W3 (Or.inl ne_r_tx)).other W8 (Or.inl ne_r_u8)).other W13 (Or.inl ne_r_un))
  have f15_r := ((f4_r.other W8 (Or.inl ne_r_u8)).other W13 (Or.inl ne_r_un))
  have f16_r := (((F_utf8Offsets.other W3 (Or.inl ne_r_tx)).other W8 (Or.inl ne_r_u8)).other W13 (Or.inl ne_r_un))
  have f17_r := (((F_utf8Lengths.other W3 (Or.inl ne_r_tx)).other W8 (Or.inl ne_r_u8)).other W13 (Or.inl ne_r_un))
  have f18_r := (f9_r.other W13 (Or.inl ne_r_un))
  have a19_tx := ((V3.other W8 ne_tx_u8).other W13 ne_tx_un)
  have a20_u8 := (V8.other W13 ne_u8_un)
  have a21_ofs := (((A_ofs.other W3 (Ne.symm ne_tx_ofs)).other W8 (Ne.symm ne_u8_ofs)).other W13 ne_ofs_un)
  have a22_les := (((A_les.other W3 (Ne.symm ne_tx_les)).other W8 (Ne.symm ne_u8_les)).other W13 ne_les_un)
  have e23_r := (((E_r.wr W3).wr W8).wr W13)
  have k24_ := ((((Keep.refl h0 [tx, u8, ofs, les, un]).wr W3 (Or.inl (List.mem_of_getElem? (i := 0) rfl))).wr W8 (Or.inl (List.mem_of_getElem? (i := 1) rfl))).wr W13 (Or.inl (List.mem_of_getElem? (i := 4) rfl)))
  exact own_end X13 (v := none) (fun _ => rfl) hlk (fun hr => X13.returnOut hx Bd.returns (hb hby own_d28_21) hr) (by rw [e13]; exact ⟨rfl, N13, k24_, ⟨e23_r, f14_r, f15_r, f16_r, f17_r, f18_r, a19_tx, a20_u8, a21_ofs, a22_les, V13⟩⟩) (by decide) (by decide)
theorem own_d4_0 : decode prog_10_method_4_code 0 = .ok (.aload_n 0, 1) := by decide +kernel
theorem own_d4_1 : decode prog_10_method_4_code 1 = .ok (.getfield 9, 3) := by decide +kernel
theorem own_d4_4 : decode prog_10_method_4_code 4 = .ok (.iload_n 1, 1) := by decide +kernel
theorem own_d4_5 : decode prog_10_method_4_code 5 = .ok (.aaload, 1) := by decide +kernel
theorem own_d4_6 : decode prog_10_method_4_code 6 = .ok (.ifnonnull 25, 3) := by decide +kernel
theorem own_d4_9 : decode prog_10_method_4_code 9 = .ok (.aload_n 0, 1) := by decide +kernel
theorem own_d4_10 : decode prog_10_method_4_code 10 = .ok (.getfield 17, 3) := by decide +kernel
theorem own_d4_13 : decode prog_10_method_4_code 13 = .ok (.iload_n 1, 1) := by decide +kernel
theorem own_d4_14 : decode prog_10_method_4_code 14 = .ok (.aaload, 1) := by decide +kernel
theorem own_d4_15 : decode prog_10_method_4_code 15 = .ok (.ifnonnull 16, 3) := by decide +kernel
theorem own_d4_18 : decode prog_10_method_4_code 18 = .ok (.aload_n 0, 1) := by decide +kernel
theorem own_d4_19 : decode prog_10_method_4_code 19 = .ok (.getfield 28, 3) := by decide +kernel
theorem own_d4_22 : decode prog_10_method_4_code 22 = .ok (.iload_n 1, 1) := by decide +kernel
theorem own_d4_23 : decode prog_10_method_4_code 23 = .ok (.baload, 1) := by decide +kernel
theorem own_d4_24 : decode prog_10_method_4_code 24 = .ok (.ifCond .ne 7, 3) := by decide +kernel
theorem own_d4_27 : decode prog_10_method_4_code 27 = .ok (.iconst 1, 1) := by decide +kernel
theorem own_d4_28 : decode prog_10_method_4_code 28 = .ok (.goto 4, 3) := by decide +kernel
theorem own_d4_32 : decode prog_10_method_4_code 32 = .ok (.ireturn, 1) := by decide +kernel
theorem own_d4_31 : decode prog_10_method_4_code 31 = .ok (.iconst 0, 1) := by decide +kernel
theorem own_isNull0_ef (m : MethodId) (r : Addr) : entryFrame m #[(.ref r), (.int 0)] 2 = mkF m 0 #[.val (.ref r), .val (.int 0)] [] := by  first | (simp [entryFrame, mkF, argsToLocals, Value.category]; done) | rfl
def own_isNull0_Q (Z : State) (r : Addr) (tx : Addr) (u8 : Addr) (ofs : Addr) (les : Addr) (un : Addr) (kt : ClassId) (ku : ClassId) (ko : ClassId) (kl : ClassId) (kn : ClassId) (t0 : Value) (t1 : Value) (b0 : Value) (b1 : Value) (o0 : Int32) (o1 : Int32) (l0 : Int32) (l1 : Int32) (m0 : Int32) (m1 : Int32) (h0 : Heap) (n0 : Nat) (v : Option Value) (h : Heap) (L : List Loc) : Prop := v = some (.int (own_b (own_isn t0 b0 m0))) ∧ Fr n0 L ∧ h = h0
set_option maxRecDepth 65536 in
set_option maxHeartbeats 40000000 in
theorem own_isNull0 (l : Launch) (Z : State) (a0 : Array Value) (hw : ∀ d ∈ tables_1, d.before a0 Z = true) (ws : List Jvm.Cond) (r : Addr) (tx : Addr) (u8 : Addr) (ofs : Addr) (les : Addr) (un : Addr) (kt : ClassId) (ku : ClassId) (ko : ClassId) (kl : ClassId) (kn : ClassId) (t0 : Value) (t1 : Value) (b0 : Value) (b1 : Value) (o0 : Int32) (o1 : Int32) (l0 : Int32) (l1 : Int32) (m0 : Int32) (m1 : Int32) (h0 : Heap) (n0 : Nat) (Z0 : n0 ≤ h0.size) (ht0 : t0.isRef = true) (ht1 : t1.isRef = true) (hb0 : b0.isRef = true) (hb1 : b1.isRef = true) (RA : own_RowA Z n0 r tx u8 ofs les un kt ku ko kl kn) (RW : own_Row Z h0 r tx u8 ofs les un kt ku ko kl kn t0 t1 b0 b1 o0 o1 l0 l1 m0 m1) :
    MetFree l own_y1 (head1 (Jvm.Cond.code own_y1 prog_10_method_4_code 2 (some .boolean) :: ws) (⟨0, 0, 0, 0⟩ : Room)) (fun aa U => aa = #[(.ref r), (.int 0)] ∧ Z.Warmed39 U.vm ∧ U.heap = h0) (fun _ _ _ _ _ => True) (fun _ U o U' => ∃ v L, o = .returned v ∧ own_isNull0_Q Z r tx u8 ofs les un kt ku ko kl kn t0 t1 b0 b1 o0 o1 l0 l1 m0 m1 h0 n0 v U'.heap L ∧ FrameEnd U o U' L (⟨0, 0, 0, 0⟩ : Room).cells (⟨0, 0, 0, 0⟩ : Room).slots) := by
  refine MetFree.of_bodySF (plainFor_of_name own_pn_com_example_rowtide_rowtide_event_Row) hisR ?_
  intro p e s m args below meth c s₁ Bd hml0 hP hK
  obtain ⟨rfl, hZ, hh⟩ := hP
  have hx := Bd.exec
  have hby := Bd.bytes
  have hml : c.maxLocals = 2 := hml0
  have hown : s.vm.findClass "com/example/rowtide/rowtide/event/Row" = some m.cls := findClass_of_methodNamed Bd.named
  have hnm := (name_of_methodNamed Bd.named Bd.method).1
  have hlk := Bd.notSynchronized
  have X0 : Stand p l e (⟨0, 0, 0, 0⟩ : Room) s m #[(.ref r), (.int 0)] below meth c s₁ [] 0 0 := Stand.of_body Bd
  have e0 : s₁.heap = h0 := by rw [← hh, Bd.state]; rfl
  have N0 := Fr.nil n0
  refine own_start (Q := own_isNull0_Q Z r tx u8 ofs les un kt ku ko kl kn t0 t1 b0 b1 o0 o1 l0 l1 m0 m1 h0 n0) (own_isNull0_ef m r) ?_
  obtain ⟨OvT, OvU, g_tx, g_u8, g_ofs, g_les, g_un, ne_r_tx, ne_r_u8, ne_r_ofs, ne_r_les, ne_r_un, ne_tx_u8, ne_tx_ofs, ne_tx_les, ne_tx_un, ne_u8_ofs, ne_u8_les, ne_u8_un, ne_ofs_les, ne_ofs_un, ne_les_un⟩ := RA
  obtain ⟨E_r, F_texts, F_utf8, F_utf8Offsets, F_utf8Lengths, F_unavailable, A_tx, A_u8, A_ofs, A_les, A_un⟩ := RW
  refine own_g (mkF m 1 #[.val (.ref r), .val (.int 0)] [(.ref r)]) (fun _ q => XS.aloadN X0.here hx rfl (hb hby own_d4_0) rfl rfl q) ?_
  obtain ⟨T1, X1, e1, st1⟩ := getF X0 hx hZ hown (host := "") (Or.inl (own_h hw 15 rfl)) Via.refl e0 F_texts (g := (mkF m 1 #[.val (.ref r), .val (.int 0)] [(.ref r)])) rfl rfl (hb hby own_d4_1)
  refine own_by (g' := (mkF m 4 #[.val (.ref r), .val (.int 0)] [(.ref tx)])) st1 ?_
  refine own_g (mkF m 5 #[.val (.ref r), .val (.int 0)] [(.int 0), (.ref tx)]) (fun _ q => XS.iloadN X1.here hx rfl (hb hby own_d4_4) rfl q) ?_
  obtain ⟨cl2, Ar2, q2, S2, P2, H2, G2⟩ := id A_tx
  have hin2 : ¬ ((0 : Int32) < 0 ∨ cl2.slots.size ≤ ((0 : Int32)).toNatClampNeg) := inb_of S2 ⟨by decide, by decide⟩
  refine own_by (g' := (mkF m 6 #[.val (.ref r), .val (.int 0)] [t0])) (fun _ kq => X1.aaload hx (j := (0 : Int32)) (v := t0) (by rw [e1]; exact Ar2.1) (State.isArrayOf_alike hZ.alike Ar2.2.1) rfl Ar2.2.2 hin2 (H2.at hin2 rfl) (g := (mkF m 5 #[.val (.ref r), .val (.int 0)] [(.int 0), (.ref tx)])) rfl rfl (hb hby own_d4_5) _ kq) ?_
  rcases ref_cases ht0 with rfl | ⟨y3, rfl⟩
  · skip
    refine own_g (mkF m 10 #[.val (.ref r), .val (.int 0)] [(.ref r)]) (fun _ q => XS.ifnonnullNo X1.here hx rfl (hb hby own_d4_6) rfl (XS.aloadN X1.here hx rfl (hb hby own_d4_9) rfl rfl q)) ?_
    obtain ⟨T4, X4, e4, st4⟩ := getF X1 hx hZ hown (host := "") (Or.inl (own_h hw 19 rfl)) Via.refl e1 F_utf8 (g := (mkF m 10 #[.val (.ref r), .val (.int 0)] [(.ref r)])) rfl rfl (hb hby own_d4_10)
    refine own_by (g' := (mkF m 13 #[.val (.ref r), .val (.int 0)] [(.ref u8)])) st4 ?_
    refine own_g (mkF m 14 #[.val (.ref r), .val (.int 0)] [(.int 0), (.ref u8)]) (fun _ q => XS.iloadN X4.here hx rfl (hb hby own_d4_13) rfl q) ?_
    obtain ⟨cl5, Ar5, q5, S5, P5, H5, G5⟩ := id A_u8
    have hin5 : ¬ ((0 : Int32) < 0 ∨ cl5.slots.size ≤ ((0 : Int32)).toNatClampNeg) := inb_of S5 ⟨by decide, by decide⟩
    refine own_by (g' := (mkF m 15 #[.val (.ref r), .val (.int 0)] [b0])) (fun _ kq => X4.aaload hx (j := (0 : Int32)) (v := b0) (by rw [e4]; exact Ar5.1) (State.isArrayOf_alike hZ.alike Ar5.2.1) rfl Ar5.2.2 hin5 (H5.at hin5 rfl) (g := (mkF m 14 #[.val (.ref r), .val (.int 0)] [(.int 0), (.ref u8)])) rfl rfl (hb hby own_d4_14) _ kq) ?_
    rcases ref_cases hb0 with rfl | ⟨y6, rfl⟩
    · skip
      refine own_g (mkF m 19 #[.val (.ref r), .val (.int 0)] [(.ref r)]) (fun _ q => XS.ifnonnullNo X4.here hx rfl (hb hby own_d4_15) rfl (XS.aloadN X4.here hx rfl (hb hby own_d4_18) rfl rfl q)) ?_
      obtain ⟨T7, X7, e7, st7⟩ := getF X4 hx hZ hown (host := "") (Or.inl (own_h hw 27 rfl)) Via.refl e4 F_unavailable (g := (mkF m 19 #[.val (.ref r), .val (.int 0)] [(.ref r)])) rfl rfl (hb hby own_d4_19)
      refine own_by (g' := (mkF m 22 #[.val (.ref r), .val (.int 0)] [(.ref un)])) st7 ?_
      refine own_g (mkF m 23 #[.val (.ref r), .val (.int 0)] [(.int 0), (.ref un)]) (fun _ q => XS.iloadN X7.here hx rfl (hb hby own_d4_22) rfl q) ?_
      obtain ⟨cl8, Ar8, q8, S8, P8, H8, G8⟩ := id A_un
      have hin8 : ¬ ((0 : Int32) < 0 ∨ cl8.slots.size ≤ ((0 : Int32)).toNatClampNeg) := inb_of S8 ⟨by decide, by decide⟩
      refine own_by (g' := (mkF m 24 #[.val (.ref r), .val (.int 0)] [(.int m0)])) (fun _ kq => X7.baloadBooleans hx (j := (0 : Int32)) (v := (.int m0)) (by rw [e7]; exact Ar8.1) (State.isArrayOf_alike hZ.alike Ar8.2.1) Ar8.2.2 hin8 (H8.at hin8 rfl) (g := (mkF m 23 #[.val (.ref r), .val (.int 0)] [(.int 0), (.ref un)])) rfl rfl (hb hby own_d4_23) _ kq) ?_
      by_cases hc9 : m0 = (0 : Int32)
      · refine own_g (mkF m 32 #[.val (.ref r), .val (.int 0)] [(.int 1)]) (fun _ q => XS.ifNo X7.here hx rfl (hb hby own_d4_24) rfl ((if0 _ _).trans (teq hc9).2) (XS.iconst X7.here hx rfl (hb hby own_d4_27) (XS.goto X7.here hx rfl (pc0 := 28) (pc' := 32) rfl (hb hby own_d4_28) (by decide) (by decide) q))) ?_
        exact own_end X7 (v := some (.int (nar .boolean (1 : Int32)))) (fun h => by rw [Bd.returns] at h; cases h) hlk (fun hr => retN X7 hx (t := .boolean) Bd.returns (by simp) (hb hby own_d4_32) hr) (by rw [e7]; exact ⟨by first | rfl | (simp [own_isn, own_b, nar, hc9]; done) | (simp [own_isn, own_b, nar, hc9]; decide), N0, rfl⟩) (by decide) (by decide)
      · refine own_g (mkF m 32 #[.val (.ref r), .val (.int 0)] [(.int 0)]) (fun _ q => XS.ifYes X7.here hx rfl (pc0 := 24) (pc' := 31) rfl (hb hby own_d4_24) rfl ((if0 _ _).trans (feq hc9).2) (by decide) (by decide) (XS.iconst X7.here hx rfl (hb hby own_d4_31) q)) ?_
        exact own_end X7 (v := some (.int (nar .boolean (0 : Int32)))) (fun h => by rw [Bd.returns] at h; cases h) hlk (fun hr => retN X7 hx (t := .boolean) Bd.returns (by simp) (hb hby own_d4_32) hr) (by rw [e7]; exact ⟨by first | rfl | (simp [own_isn, own_b, nar, hc9]; done) | (simp [own_isn, own_b, nar, hc9]; decide), N0, rfl⟩) (by decide) (by decide)
    · skip
      refine own_g (mkF m 32 #[.val (.ref r), .val (.int 0)] [(.int 0)]) (fun _ q => XS.ifnonnullYes X4.here hx rfl (pc0 := 15) (pc' := 31) rfl (hb hby own_d4_15) rfl (by decide) (by decide) (XS.iconst X4.here hx rfl (hb hby own_d4_31) q)) ?_
      exact own_end X4 (v := some (.int (nar .boolean (0 : Int32)))) (fun h => by rw [Bd.returns] at h; cases h) hlk (fun hr => retN X4 hx (t := .boolean) Bd.returns (by simp) (hb hby own_d4_32) hr) (by rw [e4]; exact ⟨by first | rfl | (simp [own_isn, own_b, nar]; done) | (simp [own_isn, own_b, nar]; decide), N0, rfl⟩) (by decide) (by decide)
  · skip
    refine own_g (mkF m 32 #[.val (.ref r), .val (.int 0)] [(.int 0)]) (fun _ q => XS.ifnonnullYes X1.here hx rfl (pc0 := 6) (pc' := 31) rfl (hb hby own_d4_6) rfl (by decide) (by decide) (XS.iconst X1.here hx rfl (hb hby own_d4_31) q)) ?_
    exact own_end X1 (v := some (.int (nar .boolean (0 : Int32)))) (fun h => by rw [Bd.returns] at h; cases h) hlk (fun hr => retN X1 hx (t := .boolean) Bd.returns (by simp) (hb hby own_d4_32) hr) (by rw [e1]; exact ⟨by first | rfl | (simp [own_isn, own_b, nar]; done) | (simp [own_isn, own_b, nar]; decide), N0, rfl⟩) (by decide) (by decide)
theorem own_d5_0 : decode prog_10_method_5_code 0 = .ok (.aload_n 0, 1) := by decide +kernel
theorem own_d5_1 : decode prog_10_method_5_code 1 = .ok (.getfield 28, 3) := by decide +kernel
theorem own_d5_4 : decode prog_10_method_5_code 4 = .ok (.iload_n 1, 1) := by decide +kernel
theorem own_d5_5 : decode prog_10_method_5_code 5 = .ok (.baload, 1) := by decide +kernel
theorem own_d5_6 : decode prog_10_method_5_code 6 = .ok (.ireturn, 1) := by decide +kernel
theorem own_isUn0_ef (m : MethodId) (r : Addr) : entryFrame m #[(.ref r), (.int 0)] 2 = mkF m 0 #[.val (.ref r), .val (.int 0)] [] := by  first | (simp [entryFrame, mkF, argsToLocals, Value.category]; done) | rfl
def own_isUn0_Q (Z : State) (r : Addr) (tx : Addr) (u8 : Addr) (ofs : Addr) (les : Addr) (un : Addr) (kt : ClassId) (ku : ClassId) (ko : ClassId) (kl : ClassId) (kn : ClassId) (t0 : Value) (t1 : Value) (b0 : Value) (b1 : Value) (o0 : Int32) (o1 : Int32) (l0 : Int32) (l1 : Int32) (m0 : Int32) (m1 : Int32) (h0 : Heap) (n0 : Nat) (v : Option Value) (h : Heap) (L : List Loc) : Prop := v = some (.int (nar .boolean m0)) ∧ Fr n0 L ∧ h = h0
set_option maxRecDepth 65536 in
set_option maxHeartbeats 40000000 in
theorem own_isUn0 (l : Launch) (Z : State) (a0 : Array Value) (hw : ∀ d ∈ tables_1, d.before a0 Z = true) (ws : List Jvm.Cond) (r : Addr) (tx : Addr) (u8 : Addr) (ofs : Addr) (les : Addr) (un : Addr) (kt : ClassId) (ku : ClassId) (ko : ClassId) (kl : ClassId) (kn : ClassId) (t0 : Value) (t1 : Value) (b0 : Value) (b1 : Value) (o0 : Int32) (o1 : Int32) (l0 : Int32) (l1 : Int32) (m0 : Int32) (m1 : Int32) (h0 : Heap) (n0 : Nat) (Z0 : n0 ≤ h0.size) (ht0 : t0.isRef = true) (ht1 : t1.isRef = true) (hb0 : b0.isRef = true) (hb1 : b1.isRef = true) (RA : own_RowA Z n0 r tx u8 ofs les un kt ku ko kl kn) (RW : own_Row Z h0 r tx u8 ofs les un kt ku ko kl kn t0 t1 b0 b1 o0 o1 l0 l1 m0 m1) :
    MetFree l own_y2 (head1 (Jvm.Cond.code own_y2 prog_10_method_5_code 2 (some .boolean) :: ws) (⟨0, 0, 0, 0⟩ : Room)) (fun aa U => aa = #[(.ref r), (.int 0)] ∧ Z.Warmed39 U.vm ∧ U.heap = h0) (fun _ _ _ _ _ => True) (fun _ U o U' => ∃ v L, o = .returned v ∧ own_isUn0_Q Z r tx u8 ofs les un kt ku ko kl kn t0 t1 b0 b1 o0 o1 l0 l1 m0 m1 h0 n0 v U'.heap L ∧ FrameEnd U o U' L (⟨0, 0, 0, 0⟩ : Room).cells (⟨0, 0, 0, 0⟩ : Room).slots) := by
  refine MetFree.of_bodySF (plainFor_of_name own_pn_com_example_rowtide_rowtide_event_Row) hisR ?_
  intro p e s m args below meth c s₁ Bd hml0 hP hK
  obtain ⟨rfl, hZ, hh⟩ := hP
  have hx := Bd.exec
  have hby := Bd.bytes
  have hml : c.maxLocals = 2 := hml0
  have hown : s.vm.findClass "com/example/rowtide/rowtide/event/Row" = some m.cls := findClass_of_methodNamed Bd.named
  have hnm := (name_of_methodNamed Bd.named Bd.method).1
  have hlk := Bd.notSynchronized
  have X0 : Stand p l e (⟨0, 0, 0, 0⟩ : Room) s m #[(.ref r), (.int 0)] below meth c s₁ [] 0 0 := Stand.of_body Bd
  have e0 : s₁.heap = h0 := by rw [← hh, Bd.state]; rfl
  have N0 := Fr.nil n0
  refine own_start (Q := own_isUn0_Q Z r tx u8 ofs les un kt ku ko kl kn t0 t1 b0 b1 o0 o1 l0 l1 m0 m1 h0 n0) (own_isUn0_ef m r) ?_
  obtain ⟨OvT, OvU, g_tx, g_u8, g_ofs, g_les, g_un, ne_r_tx, ne_r_u8, ne_r_ofs, ne_r_les, ne_r_un, ne_tx_u8, ne_tx_ofs, ne_tx_les, ne_tx_un, ne_u8_ofs, ne_u8_les, ne_u8_un, ne_ofs_les, ne_ofs_un, ne_les_un⟩ := RA
  obtain ⟨E_r, F_texts, F_utf8, F_utf8Offsets, F_utf8Lengths, F_unavailable, A_tx, A_u8, A_ofs, A_les, A_un⟩ := RW
  refine own_g (mkF m 1 #[.val (.ref r), .val (.int 0)] [(.ref r)]) (fun _ q => XS.aloadN X0.here hx rfl (hb hby own_d5_0) rfl rfl q) ?_
  obtain ⟨T1, X1, e1, st1⟩ := getF X0 hx hZ hown (host := "") (Or.inl (own_h hw 27 rfl)) Via.refl e0 F_unavailable (g := (mkF m 1 #[.val (.ref r), .val (.int 0)] [(.ref r)])) rfl rfl (hb hby own_d5_1)
  refine own_by (g' := (mkF m 4 #[.val (.ref r), .val (.int 0)] [(.ref un)])) st1 ?_
  refine own_g (mkF m 5 #[.val (.ref r), .val (.int 0)] [(.int 0), (.ref un)]) (fun _ q => XS.iloadN X1.here hx rfl (hb hby own_d5_4) rfl q) ?_
  obtain ⟨cl2, Ar2, q2, S2, P2, H2, G2⟩ := id A_un
  have hin2 : ¬ ((0 : Int32) < 0 ∨ cl2.slots.size ≤ ((0 : Int32)).toNatClampNeg) := inb_of S2 ⟨by decide, by decide⟩
  refine own_by (g' := (mkF m 6 #[.val (.ref r), .val (.int 0)] [(.int m0)])) (fun _ kq => X1.baloadBooleans hx (j := (0 : Int32)) (v := (.int m0)) (by rw [e1]; exact Ar2.1) (State.isArrayOf_alike hZ.alike Ar2.2.1) Ar2.2.2 hin2 (H2.at hin2 rfl) (g := (mkF m 5 #[.val (.ref r), .val (.int 0)] [(.int 0), (.ref un)])) rfl rfl (hb hby own_d5_5) _ kq) ?_
  exact own_end X1 (v := some (.int (nar .boolean m0))) (fun h => by rw [Bd.returns] at h; cases h) hlk (fun hr => retN X1 hx (t := .boolean) Bd.returns (by simp) (hb hby own_d5_6) hr) (by rw [e1]; exact ⟨by first | rfl | (simp [own_isn, own_b, nar]; done) | (simp [own_isn, own_b, nar]; decide), N0, rfl⟩) (by decide) (by decide)
theorem own_d6_0 : decode prog_10_method_9_code 0 = .ok (.aload_n 0, 1) := by decide +kernel
theorem own_d6_1 : decode prog_10_method_9_code 1 = .ok (.getfield 17, 3) := by decide +kernel
theorem own_d6_4 : decode prog_10_method_9_code 4 = .ok (.iload_n 1, 1) := by decide +kernel
theorem own_d6_5 : decode prog_10_method_9_code 5 = .ok (.aaload, 1) := by decide +kernel
theorem own_d6_6 : decode prog_10_method_9_code 6 = .ok (.areturn, 1) := by decide +kernel
theorem own_utf8_0_ef (m : MethodId) (r : Addr) : entryFrame m #[(.ref r), (.int 0)] 2 = mkF m 0 #[.val (.ref r), .val (.int 0)] [] := by  first | (simp [entryFrame, mkF, argsToLocals, Value.category]; done) | rfl
def own_utf8_0_Q (Z : State) (r : Addr) (tx : Addr) (u8 : Addr) (ofs : Addr) (les : Addr) (un : Addr) (kt : ClassId) (ku : ClassId) (ko : ClassId) (kl : ClassId) (kn : ClassId) (t0 : Value) (t1 : Value) (b0 : Value) (b1 : Value) (o0 : Int32) (o1 : Int32) (l0 : Int32) (l1 : Int32) (m0 : Int32) (m1 : Int32) (h0 : Heap) (n0 : Nat) (v : Option Value) (h : Heap) (L : List Loc) : Prop := v = some (b0) ∧ Fr n0 L ∧ h = h0
set_option maxRecDepth 65536 in
set_option maxHeartbeats 40000000 in
theorem own_utf8_0 (l : Launch) (Z : State) (a0 : Array Value) (hw : ∀ d ∈ tables_1, d.before a0 Z = true) (ws : List Jvm.Cond) (r : Addr) (tx : Addr) (u8 : Addr) (ofs : Addr) (les : Addr) (un : Addr) (kt : ClassId) (ku : ClassId) (ko : ClassId) (kl : ClassId) (kn : ClassId) (t0 : Value) (t1 : Value) (b0 : Value) (b1 : Value) (o0 : Int32) (o1 : Int32) (l0 : Int32) (l1 : Int32) (m0 : Int32) (m1 : Int32) (h0 : Heap) (n0 : Nat) (Z0 : n0 ≤ h0.size) (ht0 : t0.isRef = true) (ht1 : t1.isRef = true) (hb0 : b0.isRef = true) (hb1 : b1.isRef = true) (RA : own_RowA Z n0 r tx u8 ofs les un kt ku ko kl kn) (RW : own_Row Z h0 r tx u8 ofs les un kt ku ko kl kn t0 t1 b0 b1 o0 o1 l0 l1 m0 m1) :
    MetFree l own_y7 (head1 (Jvm.Cond.code own_y7 prog_10_method_9_code 2 (some (.array .byte)) :: ws) (⟨0, 0, 0, 0⟩ : Room)) (fun aa U => aa = #[(.ref r), (.int 0)] ∧ Z.Warmed39 U.vm ∧ U.heap = h0) (fun _ _ _ _ _ => True) (fun _ U o U' => ∃ v L, o = .returned v ∧ own_utf8_0_Q Z r tx u8 ofs les un kt ku ko kl kn t0 t1 b0 b1 o0 o1 l0 l1 m0 m1 h0 n0 v U'.heap L ∧ FrameEnd U o U' L (⟨0, 0, 0, 0⟩ : Room).cells (⟨0, 0, 0, 0⟩ : Room).slots) := by
  refine MetFree.of_bodySF (plainFor_of_name own_pn_com_example_rowtide_rowtide_event_Row) hisR ?_
  intro p e s m args below meth c s₁ Bd hml0 hP hK
  obtain ⟨rfl, hZ, hh⟩ := hP
  have hx := Bd.exec
  have hby := Bd.bytes
  have hml : c.maxLocals = 2 := hml0
  have hown : s.vm.findClass "com/example/rowtide/rowtide/event/Row" = some m.cls := findClass_of_methodNamed Bd.named
  have hnm := (name_of_methodNamed Bd.named Bd.method).1
  have hlk := Bd.notSynchronized
  have X0 : Stand p l e (⟨0, 0, 0, 0⟩ : Room) s m #[(.ref r), (.int 0)] below meth c s₁ [] 0 0 := Stand.of_body Bd
  have e0 : s₁.heap = h0 := by rw [← hh, Bd.state]; rfl
  have N0 := Fr.nil n0
  refine own_start (Q := own_utf8_0_Q Z r tx u8 ofs les un kt ku ko kl kn t0 t1 b0 b1 o0 o1 l0 l1 m0 m1 h0 n0) (own_utf8_0_ef m r) ?_
  obtain ⟨OvT, OvU, g_tx, g_u8, g_ofs, g_les, g_un, ne_r_tx, ne_r_u8, ne_r_ofs, ne_r_les, ne_r_un, ne_tx_u8, ne_tx_ofs, ne_tx_les, ne_tx_un, ne_u8_ofs, ne_u8_les, ne_u8_un, ne_ofs_les, ne_ofs_un, ne_les_un⟩ := RA
  obtain ⟨E_r, F_texts, F_utf8, F_utf8Offsets, F_utf8Lengths, F_unavailable, A_tx, A_u8, A_ofs, A_les, A_un⟩ := RW
  refine own_g (mkF m 1 #[.val (.ref r), .val (.int 0)] [(.ref r)]) (fun _ q => XS.aloadN X0.here hx rfl (hb hby own_d6_0) rfl rfl q) ?_
  obtain ⟨T1, X1, e1, st1⟩ := getF X0 hx hZ hown (host := "") (Or.inl (own_h hw 19 rfl)) Via.refl e0 F_utf8 (g := (mkF m 1 #[.val (.ref r), .val (.int 0)] [(.ref r)])) rfl rfl (hb hby own_d6_1)
  refine own_by (g' := (mkF m 4 #[.val (.ref r), .val (.int 0)] [(.ref u8)])) st1 ?_
  refine own_g (mkF m 5 #[.val (.ref r), .val (.int 0)] [(.int 0), (.ref u8)]) (fun _ q => XS.iloadN X1.here hx rfl (hb hby own_d6_4) rfl q) ?_
  obtain ⟨cl2, Ar2, q2, S2, P2, H2, G2⟩ := id A_u8
  have hin2 : ¬ ((0 : Int32) < 0 ∨ cl2.slots.size ≤ ((0 : Int32)).toNatClampNeg) := inb_of S2 ⟨by decide, by decide⟩
  refine own_by (g' := (mkF m 6 #[.val (.ref r), .val (.int 0)] [b0])) (fun _ kq => X1.aaload hx (j := (0 : Int32)) (v := b0) (by rw [e1]; exact Ar2.1) (State.isArrayOf_alike hZ.alike Ar2.2.1) rfl Ar2.2.2 hin2 (H2.at hin2 rfl) (g := (mkF m 5 #[.val (.ref r), .val (.int 0)] [(.int 0), (.ref u8)])) rfl rfl (hb hby own_d6_5) _ kq) ?_
  exact own_end X1 (v := some b0) (fun h => by rw [Bd.returns] at h; cases h) hlk (fun hr => retOut X1 hx Bd.returns (own_narR rfl) (Or.inr (Or.inr (Or.inr (Or.inr ⟨rfl, rfl, hb0⟩)))) (hb hby own_d6_6) hr) (by rw [e1]; exact ⟨by first | rfl | (simp [own_isn, own_b, nar]; done) | (simp [own_isn, own_b, nar]; decide), N0, rfl⟩) (by decide) (by decide)
theorem own_d7_0 : decode prog_10_method_10_code 0 = .ok (.aload_n 0, 1) := by decide +kernel
theorem own_d7_1 : decode prog_10_method_10_code 1 = .ok (.getfield 21, 3) := by decide +kernel
theorem own_d7_4 : decode prog_10_method_10_code 4 = .ok (.iload_n 1, 1) := by decide +kernel
theorem own_d7_5 : decode prog_10_method_10_code 5 = .ok (.iaload, 1) := by decide +kernel
theorem own_d7_6 : decode prog_10_method_10_code 6 = .ok (.ireturn, 1) := by decide +kernel
theorem own_off0_ef (m : MethodId) (r : Addr) : entryFrame m #[(.ref r), (.int 0)] 2 = mkF m 0 #[.val (.ref r), .val (.int 0)] [] := by  first | (simp [entryFrame, mkF, argsToLocals, Value.category]; done) | rfl
def own_off0_Q (Z : State) (r : Addr) (tx : Addr) (u8 : Addr) (ofs : Addr) (les : Addr) (un : Addr) (kt : ClassId) (ku : ClassId) (ko : ClassId) (kl : ClassId) (kn : ClassId) (t0 : Value) (t1 : Value) (b0 : Value) (b1 : Value) (o0 : Int32) (o1 : Int32) (l0 : Int32) (l1 : Int32) (m0 : Int32) (m1 : Int32) (h0 : Heap) (n0 : Nat) (v : Option Value) (h : Heap) (L : List Loc) : Prop := v = some (.int o0) ∧ Fr n0 L ∧ h = h0
set_option maxRecDepth 65536 in
set_option maxHeartbeats 40000000 in
theorem own_off0 (l : Launch) (Z : State) (a0 : Array Value) (hw : ∀ d ∈ tables_1, d.before a0 Z = true) (ws : List Jvm.Cond) (r : Addr) (tx : Addr) (u8 : Addr) (ofs : Addr) (les : Addr) (un : Addr) (kt : ClassId) (ku : ClassId) (ko : ClassId) (kl : ClassId) (kn : ClassId) (t0 : Value) (t1 : Value) (b0 : Value) (b1 : Value) (o0 : Int32) (o1 : Int32) (l0 : Int32) (l1 : Int32) (m0 : Int32) (m1 : Int32) (h0 : Heap) (n0 : Nat) (Z0 : n0 ≤ h0.size) (ht0 : t0.isRef = true) (ht1 : t1.isRef = true) (hb0 : b0.isRef = true) (hb1 : b1.isRef = true) (RA : own_RowA Z n0 r tx u8 ofs les un kt ku ko kl kn) (RW : own_Row Z h0 r tx u8 ofs les un kt ku ko kl kn t0 t1 b0 b1 o0 o1 l0 l1 m0 m1) :
    MetFree l own_y9 (head1 (Jvm.Cond.code own_y9 prog_10_method_10_code 2 (some .int) :: ws) (⟨0, 0, 0, 0⟩ : Room)) (fun aa U => aa = #[(.ref r), (.int 0)] ∧ Z.Warmed39 U.vm ∧ U.heap = h0) (fun _ _ _ _ _ => True) (fun _ U o U' => ∃ v L, o = .returned v ∧ own_off0_Q Z r tx u8 ofs les un kt ku ko kl kn t0 t1 b0 b1 o0 o1 l0 l1 m0 m1 h0 n0 v U'.heap L ∧ FrameEnd U o U' L (⟨0, 0, 0, 0⟩ : Room).cells (⟨0, 0, 0, 0⟩ : Room).slots) := by
  refine MetFree.of_bodySF (plainFor_of_name own_pn_com_example_rowtide_rowtide_event_Row) hisR ?_
  intro p e s m args below meth c s₁ Bd hml0 hP hK
  obtain ⟨rfl, hZ, hh⟩ := hP
  have hx := Bd.exec
  have hby := Bd.bytes
  have hml : c.maxLocals = 2 := hml0
  have hown : s.vm.findClass "com/example/rowtide/rowtide/event/Row" = some m.cls := findClass_of_methodNamed Bd.named
  have hnm := (name_of_methodNamed Bd.named Bd.method).1
  have hlk := Bd.notSynchronized
  have X0 : Stand p l e (⟨0, 0, 0, 0⟩ : Room) s m #[(.ref r), (.int 0)] below meth c s₁ [] 0 0 := Stand.of_body Bd
  have e0 : s₁.heap = h0 := by rw [← hh, Bd.state]; rfl
  have N0 := Fr.nil n0
  refine own_start (Q := own_off0_Q Z r tx u8 ofs les un kt ku ko kl kn t0 t1 b0 b1 o0 o1 l0 l1 m0 m1 h0 n0) (own_off0_ef m r) ?_
  obtain ⟨OvT, OvU, g_tx, g_u8, g_ofs, g_les, g_un, ne_r_tx, ne_r_u8, ne_r_ofs, ne_r_les, ne_r_un, ne_tx_u8, ne_tx_ofs, ne_tx_les, ne_tx_un, ne_u8_ofs, ne_u8_les, ne_u8_un, ne_ofs_les, ne_ofs_un, ne_les_un⟩ := RA
  obtain ⟨E_r, F_texts, F_utf8, F_utf8Offsets, F_utf8Lengths, F_unavailable, A_tx, A_u8, A_ofs, A_les, A_un⟩ := RW
  refine own_g (mkF m 1 #[.val (.ref r), .val (.int 0)] [(.ref r)]) (fun _ q => XS.aloadN X0.here hx rfl (hb hby own_d7_0) rfl rfl q) ?_
  obtain ⟨T1, X1, e1, st1⟩ := getF X0 hx hZ hown (host := "") (Or.inl (own_h hw 22 rfl)) Via.refl e0 F_utf8Offsets (g := (mkF m 1 #[.val (.ref r), .val (.int 0)] [(.ref r)])) rfl rfl (hb hby own_d7_1)
  refine own_by (g' := (mkF m 4 #[.val (.ref r), .val (.int 0)] [(.ref ofs)])) st1 ?_
  refine own_g (mkF m 5 #[.val (.ref r), .val (.int 0)] [(.int 0), (.ref ofs)]) (fun _ q => XS.iloadN X1.here hx rfl (hb hby own_d7_4) rfl q) ?_
  obtain ⟨cl2, Ar2, q2, S2, P2, H2, G2⟩ := id A_ofs
  have hin2 : ¬ ((0 : Int32) < 0 ∨ cl2.slots.size ≤ ((0 : Int32)).toNatClampNeg) := inb_of S2 ⟨by decide, by decide⟩
  refine own_by (g' := (mkF m 6 #[.val (.ref r), .val (.int 0)] [(.int o0)])) (fun _ kq => X1.iaload hx (j := (0 : Int32)) (v := (.int o0)) (by rw [e1]; exact Ar2.1) (State.isArrayOf_alike hZ.alike Ar2.2.1) Ar2.2.2 hin2 (H2.at hin2 rfl) (g := (mkF m 5 #[.val (.ref r), .val (.int 0)] [(.int 0), (.ref ofs)])) rfl rfl (hb hby own_d7_5) _ kq) ?_
  exact own_end X1 (v := some (.int o0)) (fun h => by rw [Bd.returns] at h; cases h) hlk (fun hr => retOut X1 hx Bd.returns rfl (Or.inl ⟨rfl, Or.inl rfl, _, rfl⟩) (hb hby own_d7_6) hr) (by rw [e1]; exact ⟨by first | rfl | (simp [own_isn, own_b, nar]; done) | (simp [own_isn, own_b, nar]; decide), N0, rfl⟩) (by decide) (by decide)
theorem own_d8_0 : decode prog_10_method_11_code 0 = .ok (.aload_n 0, 1) := by decide +kernel
theorem own_d8_1 : decode prog_10_method_11_code 1 = .ok (.getfield 25, 3) := by decide +kernel
theorem own_d8_4 : decode prog_10_method_11_code 4 = .ok (.iload_n 1, 1) := by decide +kernel
theorem own_d8_5 : decode prog_10_method_11_code 5 = .ok (.iaload, 1) := by decide +kernel
theorem own_d8_6 : decode prog_10_method_11_code 6 = .ok (.ireturn, 1) := by decide +kernel
theorem own_len0_ef (m : MethodId) (r : Addr) : entryFrame m #[(.ref r), (.int 0)] 2 = mkF m 0 #[.val (.ref r), .val (.int 0)] [] := by  first | (simp [entryFrame, mkF, argsToLocals, Value.category]; done) | rfl
def own_len0_Q (Z : State) (r : Addr) (tx : Addr) (u8 : Addr) (ofs : Addr) (les : Addr) (un : Addr) (kt : ClassId) (ku : ClassId) (ko : ClassId) (kl : ClassId) (kn : ClassId) (t0 : Value) (t1 : Value) (b0 : Value) (b1 : Value) (o0 : Int32) (o1 : Int32) (l0 : Int32) (l1 : Int32) (m0 : Int32) (m1 : Int32) (h0 : Heap) (n0 : Nat) (v : Option Value) (h : Heap) (L : List Loc) : Prop := v = some (.int l0) ∧ Fr n0 L ∧ h = h0
set_option maxRecDepth 65536 in
set_option maxHeartbeats 40000000 in
theorem own_len0 (l : Launch) (Z : State) (a0 : Array Value) (hw : ∀ d ∈ tables_1, d.before a0 Z = true) (ws : List Jvm.Cond) (r : Addr) (tx : Addr) (u8 : Addr) (ofs : Addr) (les : Addr) (un : Addr) (kt : ClassId) (ku : ClassId) (ko : ClassId) (kl : ClassId) (kn : ClassId) (t0 : Value) (t1 : Value) (b0 : Value) (b1 : Value) (o0 : Int32) (o1 : Int32) (l0 : Int32) (l1 : Int32) (m0 : Int32) (m1 : Int32) (h0 : Heap) (n0 : Nat) (Z0 : n0 ≤ h0.size) (ht0 : t0.isRef = true) (ht1 : t1.isRef = true) (hb0 : b0.isRef = true) (hb1 : b1.isRef = true) (RA : own_RowA Z n0 r tx u8 ofs les un kt ku ko kl kn) (RW : own_Row Z h0 r tx u8 ofs les un kt ku ko kl kn t0 t1 b0 b1 o0 o1 l0 l1 m0 m1) :
    MetFree l own_y8 (head1 (Jvm.Cond.code own_y8 prog_10_method_11_code 2 (some .int) :: ws) (⟨0, 0, 0, 0⟩ : Room)) (fun aa U => aa = #[(.ref r), (.int 0)] ∧ Z.Warmed39 U.vm ∧ U.heap = h0) (fun _ _ _ _ _ => True) (fun _ U o U' => ∃ v L, o = .returned v ∧ own_len0_Q Z r tx u8 ofs les un kt ku ko kl kn t0 t1 b0 b1 o0 o1 l0 l1 m0 m1 h0 n0 v U'.heap L ∧ FrameEnd U o U' L (⟨0, 0, 0, 0⟩ : Room).cells (⟨0, 0, 0, 0⟩ : Room).slots) := by
  refine MetFree.of_bodySF (plainFor_of_name own_pn_com_example_rowtide_rowtide_event_Row) hisR ?_
  intro p e s m args below meth c s₁ Bd hml0 hP hK
  obtain ⟨rfl, hZ, hh⟩ := hP
  have hx := Bd.exec
  have hby := Bd.bytes
  have hml : c.maxLocals = 2 := hml0
  have hown : s.vm.findClass "com/example/rowtide/rowtide/event/Row" = some m.cls := findClass_of_methodNamed Bd.named
  have hnm := (name_of_methodNamed Bd.named Bd.method).1
  have hlk := Bd.notSynchronized
  have X0 : Stand p l e (⟨0, 0, 0, 0⟩ : Room) s m #[(.ref r), (.int 0)] below meth c s₁ [] 0 0 := Stand.of_body Bd
  have e0 : s₁.heap = h0 := by rw [← hh, Bd.state]; rfl
  have N0 := Fr.nil n0
  refine own_start (Q := own_len0_Q Z r tx u8 ofs les un kt ku ko kl kn t0 t1 b0 b1 o0 o1 l0 l1 m0 m1 h0 n0) (own_len0_ef m r) ?_
  obtain ⟨OvT, OvU, g_tx, g_u8, g_ofs, g_les, g_un, ne_r_tx, ne_r_u8, ne_r_ofs, ne_r_les, ne_r_un, ne_tx_u8, ne_tx_ofs, ne_tx_les, ne_tx_un, ne_u8_ofs, ne_u8_les, ne_u8_un, ne_ofs_les, ne_ofs_un, ne_les_un⟩ := RA
  obtain ⟨E_r, F_texts, F_utf8, F_utf8Offsets, F_utf8Lengths, F_unavailable, A_tx, A_u8, A_ofs, A_les, A_un⟩ := RW
  refine own_g (mkF m 1 #[.val (.ref r), .val (.int 0)] [(.ref r)]) (fun _ q => XS.aloadN X0.here hx rfl (hb hby own_d8_0) rfl rfl q) ?_
  obtain ⟨T1, X1, e1, st1⟩ := getF X0 hx hZ hown (host := "") (Or.inl (own_h hw 24 rfl)) Via.refl e0 F_utf8Lengths (g := (mkF m 1 #[.val (.ref r), .val (.int 0)] [(.ref r)])) rfl rfl (hb hby own_d8_1)
  refine own_by (g' := (mkF m 4 #[.val (.ref r), .val (.int 0)] [(.ref les)])) st1 ?_
  refine own_g (mkF m 5 #[.val (.ref r), .val (.int 0)] [(.int 0), (.ref les)]) (fun _ q => XS.iloadN X1.here hx rfl (hb hby own_d8_4) rfl q) ?_
  obtain ⟨cl2, Ar2, q2, S2, P2, H2, G2⟩ := id A_les
  have hin2 : ¬ ((0 : Int32) < 0 ∨ cl2.slots.size ≤ ((0 : Int32)).toNatClampNeg) := inb_of S2 ⟨by decide, by decide⟩
  refine own_by (g' := (mkF m 6 #[.val (.ref r), .val (.int 0)] [(.int l0)])) (fun _ kq => X1.iaload hx (j := (0 : Int32)) (v := (.int l0)) (by rw [e1]; exact Ar2.1) (State.isArrayOf_alike hZ.alike Ar2.2.1) Ar2.2.2 hin2 (H2.at hin2 rfl) (g := (mkF m 5 #[.val (.ref r), .val (.int 0)] [(.int 0), (.ref les)])) rfl rfl (hb hby own_d8_5) _ kq) ?_
  exact own_end X1 (v := some (.int l0)) (fun h => by rw [Bd.returns] at h; cases h) hlk (fun hr => retOut X1 hx Bd.returns rfl (Or.inl ⟨rfl, Or.inl rfl, _, rfl⟩) (hb hby own_d8_6) hr) (by rw [e1]; exact ⟨by first | rfl | (simp [own_isn, own_b, nar]; done) | (simp [own_isn, own_b, nar]; decide), N0, rfl⟩) (by decide) (by decide)
theorem own_isNull1_ef (m : MethodId) (r : Addr) : entryFrame m #[(.ref r), (.int 1)] 2 = mkF m 0 #[.val (.ref r), .val (.int 1)] [] := by  first | (simp [entryFrame, mkF, argsToLocals, Value.category]; done) | rfl
def own_isNull1_Q (Z : State) (r : Addr) (tx : Addr) (u8 : Addr) (ofs : Addr) (les : Addr) (un : Addr) (kt : ClassId) (ku : ClassId) (ko : ClassId) (kl : ClassId) (kn : ClassId) (t0 : Value) (t1 : Value) (b0 : Value) (b1 : Value) (o0 : Int32) (o1 : Int32) (l0 : Int32) (l1 : Int32) (m0 : Int32) (m1 : Int32) (h0 : Heap) (n0 : Nat) (v : Option Value) (h : Heap) (L : List Loc) : Prop := v = some (.int (own_b (own_isn t1 b1 m1))) ∧ Fr n0 L ∧ h = h0
set_option maxRecDepth 65536 in
set_option maxHeartbeats 40000000 in
theorem own_isNull1 (l : Launch) (Z : State) (a0 : Array Value) (hw : ∀ d ∈ tables_1, d.before a0 Z = true) (ws : List Jvm.Cond) (r : Addr) (tx : Addr) (u8 : Addr) (ofs : Addr) (les : Addr) (un : Addr) (kt : ClassId) (ku : ClassId) (ko : ClassId) (kl : ClassId) (kn : ClassId) (t0 : Value) (t1 : Value) (b0 : Value) (b1 : Value) (o0 : Int32) (o1 : Int32) (l0 : Int32) (l1 : Int32) (m0 : Int32) (m1 : Int32) (h0 : Heap) (n0 : Nat) (Z0 : n0 ≤ h0.size) (ht0 : t0.isRef = true) (ht1 : t1.isRef = true) (hb0 : b0.isRef = true) (hb1 : b1.isRef = true) (RA : own_RowA Z n0 r tx u8 ofs les un kt ku ko kl kn) (RW : own_Row Z h0 r tx u8 ofs les un kt ku ko kl kn t0 t1 b0 b1 o0 o1 l0 l1 m0 m1) :
    MetFree l own_y1 (head1 (Jvm.Cond.code own_y1 prog_10_method_4_code 2 (some .boolean) :: ws) (⟨0, 0, 0, 0⟩ : Room)) (fun aa U => aa = #[(.ref r), (.int 1)] ∧ Z.Warmed39 U.vm ∧ U.heap = h0) (fun _ _ _ _ _ => True) (fun _ U o U' => ∃ v L, o = .returned v ∧ own_isNull1_Q Z r tx u8 ofs les un kt ku ko kl kn t0 t1 b0 b1 o0 o1 l0 l1 m0 m1 h0 n0 v U'.heap L ∧ FrameEnd U o U' L (⟨0, 0, 0, 0⟩ : Room).cells (⟨0, 0, 0, 0⟩ : Room).slots) := by
  refine MetFree.of_bodySF (plainFor_of_name own_pn_com_example_rowtide_rowtide_event_Row) hisR ?_
  intro p e s m args below meth c s₁ Bd hml0 hP hK
  obtain ⟨rfl, hZ, hh⟩ := hP
  have hx := Bd.exec
  have hby := Bd.bytes
  have hml : c.maxLocals = 2 := hml0
  have hown : s.vm.findClass "com/example/rowtide/rowtide/event/Row" = some m.cls := findClass_of_methodNamed Bd.named
  have hnm := (name_of_methodNamed Bd.named Bd.method).1
  have hlk := Bd.notSynchronized
  have X0 : Stand p l e (⟨0, 0, 0, 0⟩ : Room) s m #[(.ref r), (.int 1)] below meth c s₁ [] 0 0 := Stand.of_body Bd
  have e0 : s₁.heap = h0 := by rw [← hh, Bd.state]; rfl
  have N0 := Fr.nil n0
  refine own_start (Q := own_isNull1_Q Z r tx u8 ofs les un kt ku ko kl kn t0 t1 b0 b1 o0 o1 l0 l1 m0 m1 h0 n0) (own_isNull1_ef m r) ?_
  obtain ⟨OvT, OvU, g_tx, g_u8, g_ofs, g_les, g_un, ne_r_tx, ne_r_u8, ne_r_ofs, ne_r_les, ne_r_un, ne_tx_u8, ne_tx_ofs, ne_tx_les, ne_tx_un, ne_u8_ofs, ne_u8_les, ne_u8_un, ne_ofs_les, ne_ofs_un, ne_les_un⟩ := RA
  obtain ⟨E_r, F_texts, F_utf8, F_utf8Offsets, F_utf8Lengths, F_unavailable, A_tx, A_u8, A_ofs, A_les, A_un⟩ := RW
  refine own_g (mkF m 1 #[.val (.ref r), .val (.int 1)] [(.ref r)]) (fun _ q => XS.aloadN X0.here hx rfl (hb hby own_d4_0) rfl rfl q) ?_
  obtain ⟨T1, X1, e1, st1⟩ := getF X0 hx hZ hown (host := "") (Or.inl (own_h hw 15 rfl)) Via.refl e0 F_texts (g := (mkF m 1 #[.val (.ref r), .val (.int 1)] [(.ref r)])) rfl rfl (hb hby own_d4_1)
  refine own_by (g' := (mkF m 4 #[.val (.ref r), .val (.int 1)] [(.ref tx)])) st1 ?_
  refine own_g (mkF m 5 #[.val (.ref r), .val (.int 1)] [(.int 1), (.ref tx)]) (fun _ q => XS.iloadN X1.here hx rfl (hb hby own_d4_4) rfl q) ?_
  obtain ⟨cl2, Ar2, q2, S2, P2, H2, G2⟩ := id A_tx
  have hin2 : ¬ ((1 : Int32) < 0 ∨ cl2.slots.size ≤ ((1 : Int32)).toNatClampNeg) := inb_of S2 ⟨by decide, by decide⟩
  refine own_by (g' := (mkF m 6 #[.val (.ref r), .val (.int 1)] [t1])) (fun _ kq => X1.aaload hx (j := (1 : Int32)) (v := t1) (by rw [e1]; exact Ar2.1) (State.isArrayOf_alike hZ.alike Ar2.2.1) rfl Ar2.2.2 hin2 (H2.at hin2 rfl) (g := (mkF m 5 #[.val (.ref r), .val (.int 1)] [(.int 1), (.ref tx)])) rfl rfl (hb hby own_d4_5) _ kq) ?_
  rcases ref_cases ht1 with rfl | ⟨y3, rfl⟩
  · skip
    refine own_g (mkF m 10 #[.val (.ref r), .val (.int 1)] [(.ref r)]) (fun _ q => XS.ifnonnullNo X1.here hx rfl (hb hby own_d4_6) rfl (XS.aloadN X1.here hx rfl (hb hby own_d4_9) rfl rfl q)) ?_
    obtain ⟨T4, X4, e4, st4⟩ := getF X1 hx hZ hown (host := "") (Or.inl (own_h hw 19 rfl)) Via.refl e1 F_utf8 (g := (mkF m 10 #[.val (.ref r), .val (.int 1)] [(.ref r)])) rfl rfl (hb hby own_d4_10)
    refine own_by (g' := (mkF m 13 #[.val (.ref r), .val (.int 1)] [(.ref u8)])) st4 ?_
    refine own_g (mkF m 14 #[.val (.ref r), .val (.int 1)] [(.int 1), (.ref u8)]) (fun _ q => XS.iloadN X4.here hx rfl (hb hby own_d4_13) rfl q) ?_
    obtain ⟨cl5, Ar5, q5, S5, P5, H5, G5⟩ := id A_u8
    have hin5 : ¬ ((1 : Int32) < 0 ∨ cl5.slots.size ≤ ((1 : Int32)).toNatClampNeg) := inb_of S5 ⟨by decide, by decide⟩
    refine own_by (g' := (mkF m 15 #[.val (.ref r), .val (.int 1)] [b1])) (fun _ kq => X4.aaload hx (j := (1 : Int32)) (v := b1) (by rw [e4]; exact Ar5.1) (State.isArrayOf_alike hZ.alike Ar5.2.1) rfl Ar5.2.2 hin5 (H5.at hin5 rfl) (g := (mkF m 14 #[.val (.ref r), .val (.int 1)] [(.int 1), (.ref u8)])) rfl rfl (hb hby own_d4_14) _ kq) ?_
    rcases ref_cases hb1 with rfl | ⟨y6, rfl⟩
    · skip
      refine own_g (mkF m 19 #[.val (.ref r), .val (.int 1)] [(.ref r)]) (fun _ q => XS.ifnonnullNo X4.here hx rfl (hb hby own_d4_15) rfl (XS.aloadN X4.here hx rfl (hb hby own_d4_18) rfl rfl q)) ?_
      obtain ⟨T7, X7, e7, st7⟩ := getF X4 hx hZ hown (host := "") (Or.inl (own_h hw 27 rfl)) Via.refl e4 F_unavailable (g := (mkF m 19 #[.val (.ref r), .val (.int 1)] [(.ref r)])) rfl rfl (hb hby own_d4_19)
      refine own_by (g' := (mkF m 22 #[.val (.ref r), .val (.int 1)] [(.ref un)])) st7 ?_
      refine own_g (mkF m 23 #[.val (.ref r), .val (.int 1)] [(.int 1), (.ref un)]) (fun _ q => XS.iloadN X7.here hx rfl (hb hby own_d4_22) rfl q) ?_
      obtain ⟨cl8, Ar8, q8, S8, P8, H8, G8⟩ := id A_un
      have hin8 : ¬ ((1 : Int32) < 0 ∨ cl8.slots.size ≤ ((1 : Int32)).toNatClampNeg) := inb_of S8 ⟨by decide, by decide⟩
      refine own_by (g' := (mkF m 24 #[.val (.ref r), .val (.int 1)] [(.int m1)])) (fun _ kq => X7.baloadBooleans hx (j := (1 : Int32)) (v := (.int m1)) (by rw [e7]; exact Ar8.1) (State.isArrayOf_alike hZ.alike Ar8.2.1) Ar8.2.2 hin8 (H8.at hin8 rfl) (g := (mkF m 23 #[.val (.ref r), .val (.int 1)] [(.int 1), (.ref un)])) rfl rfl (hb hby own_d4_23) _ kq) ?_
      by_cases hc9 : m1 = (0 : Int32)
      · refine own_g (mkF m 32 #[.val (.ref r), .val (.int 1)] [(.int 1)]) (fun _ q => XS.ifNo X7.here hx rfl (hb hby own_d4_24) rfl ((if0 _ _).trans (teq hc9).2) (XS.iconst X7.here hx rfl (hb hby own_d4_27) (XS.goto X7.here hx rfl (pc0 := 28) (pc' := 32) rfl (hb hby own_d4_28) (by decide) (by decide) q))) ?_
        exact own_end X7 (v := some (.int (nar .boolean (1 : Int32)))) (fun h => by rw [Bd.returns] at h; cases h) hlk (fun hr => retN X7 hx (t := .boolean) Bd.returns (by simp) (hb hby own_d4_32) hr) (by rw [e7]; exact ⟨by first | rfl | (simp [own_isn, own_b, nar, hc9]; done) | (simp [own_isn, own_b, nar, hc9]; decide), N0, rfl⟩) (by decide) (by decide)
      · refine own_g (mkF m 32 #[.val (.ref r), .val (.int 1)] [(.int 0)]) (fun _ q => XS.ifYes X7.here hx rfl (pc0 := 24) (pc' := 31) rfl (hb hby own_d4_24) rfl ((if0 _ _).trans (feq hc9).2) (by decide) (by decide) (XS.iconst X7.here hx rfl (hb hby own_d4_31) q)) ?_
        exact own_end X7 (v := some (.int (nar .boolean (0 : Int32)))) (fun h => by rw [Bd.returns] at h; cases h) hlk (fun hr => retN X7 hx (t := .boolean) Bd.returns (by simp) (hb hby own_d4_32) hr) (by rw [e7]; exact ⟨by first | rfl | (simp [own_isn, own_b, nar, hc9]; done) | (simp [own_isn, own_b, nar, hc9]; decide), N0, rfl⟩) (by decide) (by decide)
    · skip
      refine own_g (mkF m 32 #[.val (.ref r), .val (.int 1)] [(.int 0)]) (fun _ q => XS.ifnonnullYes X4.here hx rfl (pc0 := 15) (pc' := 31) rfl (hb hby own_d4_15) rfl (by decide) (by decide) (XS.iconst X4.here hx rfl (hb hby own_d4_31) q)) ?_
      exact own_end X4 (v := some (.int (nar .boolean (0 : Int32)))) (fun h => by rw [Bd.returns] at h; cases h) hlk (fun hr => retN X4 hx (t := .boolean) Bd.returns (by simp) (hb hby own_d4_32) hr) (by rw [e4]; exact ⟨by first | rfl | (simp [own_isn, own_b, nar]; done) | (simp [own_isn, own_b, nar]; decide), N0, rfl⟩) (by decide) (by decide)
  · skip
    refine own_g (mkF m 32 #[.val (.ref r), .val (.int 1)] [(.int 0)]) (fun _ q => XS.ifnonnullYes X1.here hx rfl (pc0 := 6) (pc' := 31) rfl (hb hby own_d4_6) rfl (by decide) (by decide) (XS.iconst X1.here hx rfl (hb hby own_d4_31) q)) ?_
    exact own_end X1 (v := some (.int (nar .boolean (0 : Int32)))) (fun h => by rw [Bd.returns] at h; cases h) hlk (fun hr => retN X1 hx (t := .boolean) Bd.returns (by simp) (hb hby own_d4_32) hr) (by rw [e1]; exact ⟨by first | rfl | (simp [own_isn, own_b, nar]; done) | (simp [own_isn, own_b, nar]; decide), N0, rfl⟩) (by decide) (by decide)
theorem own_isUn1_ef (m : MethodId) (r : Addr) : entryFrame m #[(.ref r), (.int 1)] 2 = mkF m 0 #[.val (.ref r), .val (.int 1)] [] := by  first | (simp [entryFrame, mkF, argsToLocals, Value.category]; done) | rfl
def own_isUn1_Q (Z : State) (r : Addr) (tx : Addr) (u8 : Addr) (ofs : Addr) (les : Addr) (un : Addr) (kt : ClassId) (ku : ClassId) (ko : ClassId) (kl : ClassId) (kn : ClassId) (t0 : Value) (t1 : Value) (b0 : Value) (b1 : Value) (o0 : Int32) (o1 : Int32) (l0 : Int32) (l1 : Int32) (m0 : Int32) (m1 : Int32) (h0 : Heap) (n0 : Nat) (v : Option Value) (h : Heap) (L : List Loc) : Prop := v = some (.int (nar .boolean m1)) ∧ Fr n0 L ∧ h = h0
set_option maxRecDepth 65536 in
set_option maxHeartbeats 40000000 in
theorem own_isUn1 (l : Launch) (Z : State) (a0 : Array Value) (hw : ∀ d ∈ tables_1, d.before a0 Z = true) (ws : List Jvm.Cond) (r : Addr) (tx : Addr) (u8 : Addr) (ofs : Addr) (les : Addr) (un : Addr) (kt : ClassId) (ku : ClassId) (ko : ClassId) (kl : ClassId) (kn : ClassId) (t0 : Value) (t1 : Value) (b0 : Value) (b1 : Value) (o0 : Int32) (o1 : Int32) (l0 : Int32) (l1 : Int32) (m0 : Int32) (m1 : Int32) (h0 : Heap) (n0 : Nat) (Z0 : n0 ≤ h0.size) (ht0 : t0.isRef = true) (ht1 : t1.isRef = true) (hb0 : b0.isRef = true) (hb1 : b1.isRef = true) (RA : own_RowA Z n0 r tx u8 ofs les un kt ku ko kl kn) (RW : own_Row Z h0 r tx u8 ofs les un kt ku ko kl kn t0 t1 b0 b1 o0 o1 l0 l1 m0 m1) :
    MetFree l own_y2 (head1 (Jvm.Cond.code own_y2 prog_10_method_5_code 2 (some .boolean) :: ws) (⟨0, 0, 0, 0⟩ : Room)) (fun aa U => aa = #[(.ref r), (.int 1)] ∧ Z.Warmed39 U.vm ∧ U.heap = h0) (fun _ _ _ _ _ => True) (fun _ U o U' => ∃ v L, o = .returned v ∧ own_isUn1_Q Z r tx u8 ofs les un kt ku ko kl kn t0 t1 b0 b1 o0 o1 l0 l1 m0 m1 h0 n0 v U'.heap L ∧ FrameEnd U o U' L (⟨0, 0, 0, 0⟩ : Room).cells (⟨0, 0, 0, 0⟩ : Room).slots) := by
  refine MetFree.of_bodySF (plainFor_of_name own_pn_com_example_rowtide_rowtide_event_Row) hisR ?_
  intro p e s m args below meth c s₁ Bd hml0 hP hK
  obtain ⟨rfl, hZ, hh⟩ := hP
  have hx := Bd.exec
  have hby := Bd.bytes
  have hml : c.maxLocals = 2 := hml0
  have hown : s.vm.findClass "com/example/rowtide/rowtide/event/Row" = some m.cls := findClass_of_methodNamed Bd.named
  have hnm := (name_of_methodNamed Bd.named Bd.method).1
  have hlk := Bd.notSynchronized
  have X0 : Stand p l e (⟨0, 0, 0, 0⟩ : Room) s m #[(.ref r), (.int 1)] below meth c s₁ [] 0 0 := Stand.of_body Bd
  have e0 : s₁.heap = h0 := by rw [← hh, Bd.state]; rfl
  have N0 := Fr.nil n0
  refine own_start (Q := own_isUn1_Q Z r tx u8 ofs les un kt ku ko kl kn t0 t1 b0 b1 o0 o1 l0 l1 m0 m1 h0 n0) (own_isUn1_ef m r) ?_
  obtain ⟨OvT, OvU, g_tx, g_u8, g_ofs, g_les, g_un, ne_r_tx, ne_r_u8, ne_r_ofs, ne_r_les, ne_r_un, ne_tx_u8, ne_tx_ofs, ne_tx_les, ne_tx_un, ne_u8_ofs, ne_u8_les, ne_u8_un, ne_ofs_les, ne_ofs_un, ne_les_un⟩ := RA
  obtain ⟨E_r, F_texts, F_utf8, F_utf8Offsets, F_utf8Lengths, F_unavailable, A_tx, A_u8, A_ofs, A_les, A_un⟩ := RW
  refine own_g (mkF m 1 #[.val (.ref r), .val (.int 1)] [(.ref r)]) (fun _ q => XS.aloadN X0.here hx rfl (hb hby own_d5_0) rfl rfl q) ?_
  obtain ⟨T1, X1, e1, st1⟩ := getF X0 hx hZ hown (host := "") (Or.inl (own_h hw 27 rfl)) Via.refl e0 F_unavailable (g := (mkF m 1 #[.val (.ref r), .val (.int 1)] [(.ref r)])) rfl rfl (hb hby own_d5_1)
  refine own_by (g' := (mkF m 4 #[.val (.ref r), .val (.int 1)] [(.ref un)])) st1 ?_
  refine own_g (mkF m 5 #[.val (.ref r), .val (.int 1)] [(.int 1), (.ref un)]) (fun _ q => XS.iloadN X1.here hx rfl (hb hby own_d5_4) rfl q) ?_
  obtain ⟨cl2, Ar2, q2, S2, P2, H2, G2⟩ := id A_un
  have hin2 : ¬ ((1 : Int32) < 0 ∨ cl2.slots.size ≤ ((1 : Int32)).toNatClampNeg) := inb_of S2 ⟨by decide, by decide⟩
  refine own_by (g' := (mkF m 6 #[.val (.ref r), .val (.int 1)] [(.int m1)])) (fun _ kq => X1.baloadBooleans hx (j := (1 : Int32)) (v := (.int m1)) (by rw [e1]; exact Ar2.1) (State.isArrayOf_alike hZ.alike Ar2.2.1) Ar2.2.2 hin2 (H2.at hin2 rfl) (g := (mkF m 5 #[.val (.ref r), .val (.int 1)] [(.int 1), (.ref un)])) rfl rfl (hb hby own_d5_5) _ kq) ?_
  exact own_end X1 (v := some (.int (nar .boolean m1))) (fun h => by rw [Bd.returns] at h; cases h) hlk (fun hr => retN X1 hx (t := .boolean) Bd.returns (by simp) (hb hby own_d5_6) hr) (by rw [e1]; exact ⟨by first | rfl | (simp [own_isn, own_b, nar]; done) | (simp [own_isn, own_b, nar]; decide), N0, rfl⟩) (by decide) (by decide)
theorem own_utf8_1_ef (m : MethodId) (r : Addr) : entryFrame m #[(.ref r), (.int 1)] 2 = mkF m 0 #[.val (.ref r), .val (.int 1)] [] := by  first | (simp [entryFrame, mkF, argsToLocals, Value.category]; done) | rfl
def own_utf8_1_Q (Z : State) (r : Addr) (tx : Addr) (u8 : Addr) (ofs : Addr) (les : Addr) (un : Addr) (kt : ClassId) (ku : ClassId) (ko : ClassId) (kl : ClassId) (kn : ClassId) (t0 : Value) (t1 : Value) (b0 : Value) (b1 : Value) (o0 : Int32) (o1 : Int32) (l0 : Int32) (l1 : Int32) (m0 : Int32) (m1 : Int32) (h0 : Heap) (n0 : Nat) (v : Option Value) (h : Heap) (L : List Loc) : Prop := v = some (b1) ∧ Fr n0 L ∧ h = h0
set_option maxRecDepth 65536 in
set_option maxHeartbeats 40000000 in
theorem own_utf8_1 (l : Launch) (Z : State) (a0 : Array Value) (hw : ∀ d ∈ tables_1, d.before a0 Z = true) (ws : List Jvm.Cond) (r : Addr) (tx : Addr) (u8 : Addr) (ofs : Addr) (les : Addr) (un : Addr) (kt : ClassId) (ku : ClassId) (ko : ClassId) (kl : ClassId) (kn : ClassId) (t0 : Value) (t1 : Value) (b0 : Value) (b1 : Value) (o0 : Int32) (o1 : Int32) (l0 : Int32) (l1 : Int32) (m0 : Int32) (m1 : Int32) (h0 : Heap) (n0 : Nat) (Z0 : n0 ≤ h0.size) (ht0 : t0.isRef = true) (ht1 : t1.isRef = true) (hb0 : b0.isRef = true) (hb1 : b1.isRef = true) (RA : own_RowA Z n0 r tx u8 ofs les un kt ku ko kl kn) (RW : own_Row Z h0 r tx u8 ofs les un kt ku ko kl kn t0 t1 b0 b1 o0 o1 l0 l1 m0 m1) :
    MetFree l own_y7 (head1 (Jvm.Cond.code own_y7 prog_10_method_9_code 2 (some (.array .byte)) :: ws) (⟨0, 0, 0, 0⟩ : Room)) (fun aa U => aa = #[(.ref r), (.int 1)] ∧ Z.Warmed39 U.vm ∧ U.heap = h0) (fun _ _ _ _ _ => True) (fun _ U o U' => ∃ v L, o = .returned v ∧ own_utf8_1_Q Z r tx u8 ofs les un kt ku ko kl kn t0 t1 b0 b1 o0 o1 l0 l1 m0 m1 h0 n0 v U'.heap L ∧ FrameEnd U o U' L (⟨0, 0, 0, 0⟩ : Room).cells (⟨0, 0, 0, 0⟩ : Room).slots) := by
  refine MetFree.of_bodySF (plainFor_of_name own_pn_com_example_rowtide_rowtide_event_Row) hisR ?_
  intro p e s m args below meth c s₁ Bd hml0 hP hK
  obtain ⟨rfl, hZ, hh⟩ := hP
  have hx := Bd.exec
  have hby := Bd.bytes
  have hml : c.maxLocals = 2 := hml0
  have hown : s.vm.findClass "com/example/rowtide/rowtide/event/Row" = some m.cls := findClass_of_methodNamed Bd.named
  have hnm := (name_of_methodNamed Bd.named Bd.method).1
  have hlk := Bd.notSynchronized
  have X0 : Stand p l e (⟨0, 0, 0, 0⟩ : Room) s m #[(.ref r), (.int 1)] below meth c s₁ [] 0 0 := Stand.of_body Bd
  have e0 : s₁.heap = h0 := by rw [← hh, Bd.state]; rfl
  have N0 := Fr.nil n0
  refine own_start (Q := own_utf8_1_Q Z r tx u8 ofs les un kt ku ko kl kn t0 t1 b0 b1 o0 o1 l0 l1 m0 m1 h0 n0) (own_utf8_1_ef m r) ?_
  obtain ⟨OvT, OvU, g_tx, g_u8, g_ofs, g_les, g_un, ne_r_tx, ne_r_u8, ne_r_ofs, ne_r_les, ne_r_un, ne_tx_u8, ne_tx_ofs, ne_tx_les, ne_tx_un, ne_u8_ofs, ne_u8_les, ne_u8_un, ne_ofs_les, ne_ofs_un, ne_les_un⟩ := RA
  obtain ⟨E_r, F_texts, F_utf8, F_utf8Offsets, F_utf8Lengths, F_unavailable, A_tx, A_u8, A_ofs, A_les, A_un⟩ := RW
  refine own_g (mkF m 1 #[.val (.ref r), .val (.int 1)] [(.ref r)]) (fun _ q => XS.aloadN X0.here hx rfl (hb hby own_d6_0) rfl rfl q) ?_
  obtain ⟨T1, X1, e1, st1⟩ := getF X0 hx hZ hown (host := "") (Or.inl (own_h hw 19 rfl)) Via.refl e0 F_utf8 (g := (mkF m 1 #[.val (.ref r), .val (.int 1)] [(.ref r)])) rfl rfl (hb hby own_d6_1)
  refine own_by (g' := (mkF m 4 #[.val (.ref r), .val (.int 1)] [(.ref u8)])) st1 ?_
  refine own_g (mkF m 5 #[.val (.ref r), .val (.int 1)] [(.int 1), (.ref u8)]) (fun _ q => XS.iloadN X1.here hx rfl (hb hby own_d6_4) rfl q) ?_
  obtain ⟨cl2, Ar2, q2, S2, P2, H2, G2⟩ := id A_u8
  have hin2 : ¬ ((1 : Int32) < 0 ∨ cl2.slots.size ≤ ((1 : Int32)).toNatClampNeg) := inb_of S2 ⟨by decide, by decide⟩
  refine own_by (g' := (mkF m 6 #[.val (.ref r), .val (.int 1)] [b1])) (fun _ kq => X1.aaload hx (j := (1 : Int32)) (v := b1) (by rw [e1]; exact Ar2.1) (State.isArrayOf_alike hZ.alike Ar2.2.1) rfl Ar2.2.2 hin2 (H2.at hin2 rfl) (g := (mkF m 5 #[.val (.ref r), .val (.int 1)] [(.int 1), (.ref u8)])) rfl rfl (hb hby own_d6_5) _ kq) ?_
  exact own_end X1 (v := some b1) (fun h => by rw [Bd.returns] at h; cases h) hlk (fun hr => retOut X1 hx Bd.returns (own_narR rfl) (Or.inr (Or.inr (Or.inr (Or.inr ⟨rfl, rfl, hb1⟩)))) (hb hby own_d6_6) hr) (by rw [e1]; exact ⟨by first | rfl | (simp [own_isn, own_b, nar]; done) | (simp [own_isn, own_b, nar]; decide), N0, rfl⟩) (by decide) (by decide)
theorem own_off1_ef (m : MethodId) (r : Addr) : entryFrame m #[(.ref r), (.int 1)] 2 = mkF m 0 #[.val (.ref r), .val (.int 1)] [] := by  first | (simp [entryFrame, mkF, argsToLocals, Value.category]; done) | rfl
def own_off1_Q (Z : State) (r : Addr) (tx : Addr) (u8 : Addr) (ofs : Addr) (les : Addr) (un : Addr) (kt : ClassId) (ku : ClassId) (ko : ClassId) (kl : ClassId) (kn : ClassId) (t0 : Value) (t1 : Value) (b0 : Value) (b1 : Value) (o0 : Int32) (o1 : Int32) (l0 : Int32) (l1 : Int32) (m0 : Int32) (m1 : Int32) (h0 : Heap) (n0 : Nat) (v : Option Value) (h : Heap) (L : List Loc) : Prop := v = some (.int o1) ∧ Fr n0 L ∧ h = h0
set_option maxRecDepth 65536 in
set_option maxHeartbeats 40000000 in
theorem own_off1 (l : Launch) (Z : State) (a0 : Array Value) (hw : ∀ d ∈ tables_1, d.before a0 Z = true) (ws : List Jvm.Cond) (r : Addr) (tx : Addr) (u8 : Addr) (ofs : Addr) (les : Addr) (un : Addr) (kt : ClassId) (ku : ClassId) (ko : ClassId) (kl : ClassId) (kn : ClassId) (t0 : Value) (t1 : Value) (b0 : Value) (b1 : Value) (o0 : Int32) (o1 : Int32) (l0 : Int32) (l1 : Int32) (m0 : Int32) (m1 : Int32) (h0 : Heap) (n0 : Nat) (Z0 : n0 ≤ h0.size) (ht0 : t0.isRef = true) (ht1 : t1.isRef = true) (hb0 : b0.isRef = true) (hb1 : b1.isRef = true) (RA : own_RowA Z n0 r tx u8 ofs les un kt ku ko kl kn) (RW : own_Row Z h0 r tx u8 ofs les un kt ku ko kl kn t0 t1 b0 b1 o0 o1 l0 l1 m0 m1) :
    MetFree l own_y9 (head1 (Jvm.Cond.code own_y9 prog_10_method_10_code 2 (some .int) :: ws) (⟨0, 0, 0, 0⟩ : Room)) (fun aa U => aa = #[(.ref r), (.int 1)] ∧ Z.Warmed39 U.vm ∧ U.heap = h0) (fun _ _ _ _ _ => True) (fun _ U o U' => ∃ v L, o = .returned v ∧ own_off1_Q Z r tx u8 ofs les un kt ku ko kl kn t0 t1 b0 b1 o0 o1 l0 l1 m0 m1 h0 n0 v U'.heap L ∧ FrameEnd U o U' L (⟨0, 0, 0, 0⟩ : Room).cells (⟨0, 0, 0, 0⟩ : Room).slots) := by
  refine MetFree.of_bodySF (plainFor_of_name own_pn_com_example_rowtide_rowtide_event_Row) hisR ?_
  intro p e s m args below meth c s₁ Bd hml0 hP hK
  obtain ⟨rfl, hZ, hh⟩ := hP
  have hx := Bd.exec
  have hby := Bd.bytes
  have hml : c.maxLocals = 2 := hml0
  have hown : s.vm.findClass "com/example/rowtide/rowtide/event/Row" = some m.cls := findClass_of_methodNamed Bd.named
  have hnm := (name_of_methodNamed Bd.named Bd.method).1
  have hlk := Bd.notSynchronized
  have X0 : Stand p l e (⟨0, 0, 0, 0⟩ : Room) s m #[(.ref r), (.int 1)] below meth c s₁ [] 0 0 := Stand.of_body Bd
  have e0 : s₁.heap = h0 := by rw [← hh, Bd.state]; rfl
  have N0 := Fr.nil n0
  refine own_start (Q := own_off1_Q Z r tx u8 ofs les un kt ku ko kl kn t0 t1 b0 b1 o0 o1 l0 l1 m0 m1 h0 n0) (own_off1_ef m r) ?_
  obtain ⟨OvT, OvU, g_tx, g_u8, g_ofs, g_les, g_un, ne_r_tx, ne_r_u8, ne_r_ofs, ne_r_les, ne_r_un, ne_tx_u8, ne_tx_ofs, ne_tx_les, ne_tx_un, ne_u8_ofs, ne_u8_les, ne_u8_un, ne_ofs_les, ne_ofs_un, ne_les_un⟩ := RA
  obtain ⟨E_r, F_texts, F_utf8, F_utf8Offsets, F_utf8Lengths, F_unavailable, A_tx, A_u8, A_ofs, A_les, A_un⟩ := RW
  refine own_g (mkF m 1 #[.val (.ref r), .val (.int 1)] [(.ref r)]) (fun _ q => XS.aloadN X0.here hx rfl (hb hby own_d7_0) rfl rfl q) ?_
  obtain ⟨T1, X1, e1, st1⟩ := getF X0 hx hZ hown (host := "") (Or.inl (own_h hw 22 rfl)) Via.refl e0 F_utf8Offsets (g := (mkF m 1 #[.val (.ref r), .val (.int 1)] [(.ref r)])) rfl rfl (hb hby own_d7_1)
  refine own_by (g' := (mkF m 4 #[.val (.ref r), .val (.int 1)] [(.ref ofs)])) st1 ?_
  refine own_g (mkF m 5 #[.val (.ref r), .val (.int 1)] [(.int 1), (.ref ofs)]) (fun _ q => XS.iloadN X1.here hx rfl (hb hby own_d7_4) rfl q) ?_
  obtain ⟨cl2, Ar2, q2, S2, P2, H2, G2⟩ := id A_ofs
  have hin2 : ¬ ((1 : Int32) < 0 ∨ cl2.slots.size ≤ ((1 : Int32)).toNatClampNeg) := inb_of S2 ⟨by decide, by decide⟩
  refine own_by (g' := (mkF m 6 #[.val (.ref r), .val (.int 1)] [(.int o1)])) (fun _ kq => X1.iaload hx (j := (1 : Int32)) (v := (.int o1)) (by rw [e1]; exact Ar2.1) (State.isArrayOf_alike hZ.alike Ar2.2.1) Ar2.2.2 hin2 (H2.at hin2 rfl) (g := (mkF m 5 #[.val (.ref r), .val (.int 1)] [(.int 1), (.ref ofs)])) rfl rfl (hb hby own_d7_5) _ kq) ?_
  exact own_end X1 (v := some (.int o1)) (fun h => by rw [Bd.returns] at h; cases h) hlk (fun hr => retOut X1 hx Bd.returns rfl (Or.inl ⟨rfl, Or.inl rfl, _, rfl⟩) (hb hby own_d7_6) hr) (by rw [e1]; exact ⟨by first | rfl | (simp [own_isn, own_b, nar]; done) | (simp [own_isn, own_b, nar]; decide), N0, rfl⟩) (by decide) (by decide)
theorem own_len1_ef (m : MethodId) (r : Addr) : entryFrame m #[(.ref r), (.int 1)] 2 = mkF m 0 #[.val (.ref r), .val (.int 1)] [] := by  first | (simp [entryFrame, mkF, argsToLocals, Value.category]; done) | rfl
def own_len1_Q (Z : State) (r : Addr) (tx : Addr) (u8 : Addr) (ofs : Addr) (les : Addr) (un : Addr) (kt : ClassId) (ku : ClassId) (ko : ClassId) (kl : ClassId) (kn : ClassId) (t0 : Value) (t1 : Value) (b0 : Value) (b1 : Value) (o0 : Int32) (o1 : Int32) (l0 : Int32) (l1 : Int32) (m0 : Int32) (m1 : Int32) (h0 : Heap) (n0 : Nat) (v : Option Value) (h : Heap) (L : List Loc) : Prop := v = some (.int l1) ∧ Fr n0 L ∧ h = h0
set_option maxRecDepth 65536 in
set_option maxHeartbeats 40000000 in
theorem own_len1 (l : Launch) (Z : State) (a0 : Array Value) (hw : ∀ d ∈ tables_1, d.before a0 Z = true) (ws : List Jvm.Cond) (r : Addr) (tx : Addr) (u8 : Addr) (ofs : Addr) (les : Addr) (un : Addr) (kt : ClassId) (ku : ClassId) (ko : ClassId) (kl : ClassId) (kn : ClassId) (t0 : Value) (t1 : Value) (b0 : Value) (b1 : Value) (o0 : Int32) (o1 : Int32) (l0 : Int32) (l1 : Int32) (m0 : Int32) (m1 : Int32) (h0 : Heap) (n0 : Nat) (Z0 : n0 ≤ h0.size) (ht0 : t0.isRef = true) (ht1 : t1.isRef = true) (hb0 : b0.isRef = true) (hb1 : b1.isRef = true) (RA : own_RowA Z n0 r tx u8 ofs les un kt ku ko kl kn) (RW : own_Row Z h0 r tx u8 ofs les un kt ku ko kl kn t0 t1 b0 b1 o0 o1 l0 l1 m0 m1) :
    MetFree l own_y8 (head1 (Jvm.Cond.code own_y8 prog_10_method_11_code 2 (some .int) :: ws) (⟨0, 0, 0, 0⟩ : Room)) (fun aa U => aa = #[(.ref r), (.int 1)] ∧ Z.Warmed39 U.vm ∧ U.heap = h0) (fun _ _ _ _ _ => True) (fun _ U o U' => ∃ v L, o = .returned v ∧ own_len1_Q Z r tx u8 ofs les un kt ku ko kl kn t0 t1 b0 b1 o0 o1 l0 l1 m0 m1 h0 n0 v U'.heap L ∧ FrameEnd U o U' L (⟨0, 0, 0, 0⟩ : Room).cells (⟨0, 0, 0, 0⟩ : Room).slots) := by
  refine MetFree.of_bodySF (plainFor_of_name own_pn_com_example_rowtide_rowtide_event_Row) hisR ?_
  intro p e s m args below meth c s₁ Bd hml0 hP hK
  obtain ⟨rfl, hZ, hh⟩ := hP
  have hx := Bd.exec
  have hby := Bd.bytes
  have hml : c.maxLocals = 2 := hml0
  have hown : s.vm.findClass "com/example/rowtide/rowtide/event/Row" = some m.cls := findClass_of_methodNamed Bd.named
  have hnm := (name_of_methodNamed Bd.named Bd.method).1
  have hlk := Bd.notSynchronized
  have X0 : Stand p l e (⟨0, 0, 0, 0⟩ : Room) s m #[(.ref r), (.int 1)] below meth c s₁ [] 0 0 := Stand.of_body Bd
  have e0 : s₁.heap = h0 := by rw [← hh, Bd.state]; rfl
  have N0 := Fr.nil n0
  refine own_start (Q := own_len1_Q Z r tx u8 ofs les un kt ku ko kl kn t0 t1 b0 b1 o0 o1 l0 l1 m0 m1 h0 n0) (own_len1_ef m r) ?_
  obtain ⟨OvT, OvU, g_tx, g_u8, g_ofs, g_les, g_un, ne_r_tx, ne_r_u8, ne_r_ofs, ne_r_les, ne_r_un, ne_tx_u8, ne_tx_ofs, ne_tx_les, ne_tx_un, ne_u8_ofs, ne_u8_les, ne_u8_un, ne_ofs_les, ne_ofs_un, ne_les_un⟩ := RA
  obtain ⟨E_r, F_texts, F_utf8, F_utf8Offsets, F_utf8Lengths, F_unavailable, A_tx, A_u8, A_ofs, A_les, A_un⟩ := RW
  refine own_g (mkF m 1 #[.val (.ref r), .val (.int 1)] [(.ref r)]) (fun _ q => XS.aloadN X0.here hx rfl (hb hby own_d8_0) rfl rfl q) ?_
  obtain ⟨T1, X1, e1, st1⟩ := getF X0 hx hZ hown (host := "") (Or.inl (own_h hw 24 rfl)) Via.refl e0 F_utf8Lengths (g := (mkF m 1 #[.val (.ref r), .val (.int 1)] [(.ref r)])) rfl rfl (hb hby own_d8_1)
  refine own_by (g' := (mkF m 4 #[.val (.ref r), .val (.int 1)] [(.ref les)])) st1 ?_
  refine own_g (mkF m 5 #[.val (.ref r), .val (.int 1)] [(.int 1), (.ref les)]) (fun _ q => XS.iloadN X1.here hx rfl (hb hby own_d8_4) rfl q) ?_
  obtain ⟨cl2, Ar2, q2, S2, P2, H2, G2⟩ := id A_les
  have hin2 : ¬ ((1 : Int32) < 0 ∨ cl2.slots.size ≤ ((1 : Int32)).toNatClampNeg) := inb_of S2 ⟨by decide, by decide⟩
  refine own_by (g' := (mkF m 6 #[.val (.ref r), .val (.int 1)] [(.int l1)])) (fun _ kq => X1.iaload hx (j := (1 : Int32)) (v := (.int l1)) (by rw [e1]; exact Ar2.1) (State.isArrayOf_alike hZ.alike Ar2.2.1) Ar2.2.2 hin2 (H2.at hin2 rfl) (g := (mkF m 5 #[.val (.ref r), .val (.int 1)] [(.int 1), (.ref les)])) rfl rfl (hb hby own_d8_5) _ kq) ?_
  exact own_end X1 (v := some (.int l1)) (fun h => by rw [Bd.returns] at h; cases h) hlk (fun hr => retOut X1 hx Bd.returns rfl (Or.inl ⟨rfl, Or.inl rfl, _, rfl⟩) (hb hby own_d8_6) hr) (by rw [e1]; exact ⟨by first | rfl | (simp [own_isn, own_b, nar]; done) | (simp [own_isn, own_b, nar]; decide), N0, rfl⟩) (by decide) (by decide)
theorem own_d30_0 : decode jdk_43_method_3_code 0 = .ok (.iload_n 0, 1) := by decide +kernel
theorem own_d30_1 : decode jdk_43_method_3_code 1 = .ok (.sipush 255, 3) := by decide +kernel
theorem own_d30_4 : decode jdk_43_method_3_code 4 = .ok (.if_icmp .gt 7, 3) := by decide +kernel
theorem own_d30_7 : decode jdk_43_method_3_code 7 = .ok (.iconst 1, 1) := by decide +kernel
theorem own_d30_8 : decode jdk_43_method_3_code 8 = .ok (.goto 4, 3) := by decide +kernel
theorem own_d30_12 : decode jdk_43_method_3_code 12 = .ok (.ireturn, 1) := by decide +kernel
theorem own_ce_ef (m : MethodId) (c0 : Int32) : entryFrame m #[(.int c0)] 1 = mkF m 0 #[.val (.int c0)] [] := by  first | (simp [entryFrame, mkF, argsToLocals, Value.category]; done) | rfl
def own_ce_Q (Z : State) (c0 : Int32) (zCS : Int32) (fm : Value) (cs : Addr) (h0 : Heap) (n0 : Nat) (v : Option Value) (h : Heap) (L : List Loc) : Prop := v = some (.int 1) ∧ Fr n0 L ∧ h = h0
set_option maxRecDepth 65536 in
set_option maxHeartbeats 40000000 in
theorem own_ce (l : Launch) (Z : State) (a0 : Array Value) (hw : ∀ d ∈ tables_1, d.before a0 Z = true) (ws : List Jvm.Cond) (c0 : Int32) (zCS : Int32) (fm : Value) (cs : Addr) (h0 : Heap) (n0 : Nat) (Z0 : n0 ≤ h0.size) (S_CS : own_A0 Z zCS) (nCS : ¬ zCS = 0) (S_SF : own_A2 Z fm) (hfm : fm.isRef = true) (S_UT : own_A1 Z cs) (S_IN : own_A3 Z cs) (E_cs : Exa Z Z.heap cs "sun/nio/cs/UTF_8") (O0 : Old Z n0 h0) (hc : ¬ (255 : Int32) < c0) :
    MetFree l (⟨"java/lang/StringLatin1", "canEncode", "(C)Z"⟩ : MethodName) (head1 (Jvm.Cond.code (⟨"java/lang/StringLatin1", "canEncode", "(C)Z"⟩ : MethodName) jdk_43_method_3_code 1 (some .boolean) :: ws) (⟨0, 0, 0, 0⟩ : Room)) (fun aa U => aa = #[(.int c0)] ∧ Z.Warmed39 U.vm ∧ U.heap = h0) (fun _ _ _ _ _ => True) (fun _ U o U' => ∃ v L, o = .returned v ∧ own_ce_Q Z c0 zCS fm cs h0 n0 v U'.heap L ∧ FrameEnd U o U' L (⟨0, 0, 0, 0⟩ : Room).cells (⟨0, 0, 0, 0⟩ : Room).slots) := by
  refine MetFree.of_bodySF (plainFor_of_name own_pn_java_lang_StringLatin1) hisR ?_
  intro p e s m args below meth c s₁ Bd hml0 hP hK
  obtain ⟨rfl, hZ, hh⟩ := hP
  have hx := Bd.exec
  have hby := Bd.bytes
  have hml : c.maxLocals = 1 := hml0
  have hown : s.vm.findClass "java/lang/StringLatin1" = some m.cls := findClass_of_methodNamed Bd.named
  have hnm := (name_of_methodNamed Bd.named Bd.method).1
  have hlk := Bd.notSynchronized
  have X0 : Stand p l e (⟨0, 0, 0, 0⟩ : Room) s m #[(.int c0)] below meth c s₁ [] 0 0 := Stand.of_body Bd
  have e0 : s₁.heap = h0 := by rw [← hh, Bd.state]; rfl
  have N0 := Fr.nil n0
  refine own_start (Q := own_ce_Q Z c0 zCS fm cs h0 n0) (own_ce_ef m c0) ?_
  refine own_g (mkF m 12 #[.val (.int c0)] [(.int 1)]) (fun _ q => XS.iloadN X0.here hx rfl (hb hby own_d30_0) rfl (XS.sipush X0.here hx rfl (hb hby own_d30_1) (XS.icmpNo X0.here hx rfl (hb hby own_d30_4) rfl (flt hc).2.2.1 (XS.iconst X0.here hx rfl (hb hby own_d30_7) (XS.goto X0.here hx rfl (pc0 := 8) (pc' := 12) rfl (hb hby own_d30_8) (by decide) (by decide) q))))) ?_
  exact own_end X0 (v := some (.int (nar .boolean (1 : Int32)))) (fun h => by rw [Bd.returns] at h; cases h) hlk (fun hr => retN X0 hx (t := .boolean) Bd.returns (by simp) (hb hby own_d30_12) hr) (by rw [e0]; exact ⟨rfl, N0, rfl⟩) (by decide) (by decide)
theorem own_d31_0 : decode jdk_43_method_46_code 0 = .ok (.iconst 1, 1) := by decide +kernel
theorem own_d31_1 : decode jdk_43_method_46_code 1 = .ok (.newarray .byte, 2) := by decide +kernel
theorem own_d31_3 : decode jdk_43_method_46_code 3 = .ok (.dup, 1) := by decide +kernel
theorem own_d31_4 : decode jdk_43_method_46_code 4 = .ok (.iconst 0, 1) := by decide +kernel
theorem own_d31_5 : decode jdk_43_method_46_code 5 = .ok (.iload_n 0, 1) := by decide +kernel
theorem own_d31_6 : decode jdk_43_method_46_code 6 = .ok (.i2b, 1) := by decide +kernel
theorem own_d31_7 : decode jdk_43_method_46_code 7 = .ok (.bastore, 1) := by decide +kernel
theorem own_d31_8 : decode jdk_43_method_46_code 8 = .ok (.areturn, 1) := by decide +kernel
theorem own_tb_ef (m : MethodId) (c0 : Int32) : entryFrame m #[(.int c0)] 1 = mkF m 0 #[.val (.int c0)] [] := by  first | (simp [entryFrame, mkF, argsToLocals, Value.category]; done) | rfl
def own_tb_Q (Z : State) (c0 : Int32) (zCS : Int32) (fm : Value) (cs : Addr) (h0 : Heap) (n0 : Nat) (v : Option Value) (h : Heap) (L : List Loc) : Prop := ∃ t : Addr, v = some (.ref t) ∧ Fr n0 L ∧ Keep h0 h [] ∧ h0.size ≤ t
set_option maxRecDepth 65536 in
set_option maxHeartbeats 40000000 in
theorem own_tb (l : Launch) (Z : State) (a0 : Array Value) (hw : ∀ d ∈ tables_1, d.before a0 Z = true) (ws : List Jvm.Cond) (c0 : Int32) (zCS : Int32) (fm : Value) (cs : Addr) (h0 : Heap) (n0 : Nat) (Z0 : n0 ≤ h0.size) (S_CS : own_A0 Z zCS) (nCS : ¬ zCS = 0) (S_SF : own_A2 Z fm) (hfm : fm.isRef = true) (S_UT : own_A1 Z cs) (S_IN : own_A3 Z cs) (E_cs : Exa Z Z.heap cs "sun/nio/cs/UTF_8") (O0 : Old Z n0 h0) :
    MetFree l (⟨"java/lang/StringLatin1", "toBytes", "(C)[B"⟩ : MethodName) (head1 (Jvm.Cond.code (⟨"java/lang/StringLatin1", "toBytes", "(C)[B"⟩ : MethodName) jdk_43_method_46_code 1 (some (.array .byte)) :: ws) (⟨0, 1, 1, 0⟩ : Room)) (fun aa U => aa = #[(.int c0)] ∧ Z.Warmed39 U.vm ∧ U.heap = h0) (fun _ _ _ _ _ => True) (fun _ U o U' => ∃ v L, o = .returned v ∧ own_tb_Q Z c0 zCS fm cs h0 n0 v U'.heap L ∧ FrameEnd U o U' L (⟨0, 1, 1, 0⟩ : Room).cells (⟨0, 1, 1, 0⟩ : Room).slots) := by
  refine MetFree.of_bodySF (plainFor_of_name own_pn_java_lang_StringLatin1) hisR ?_
  intro p e s m args below meth c s₁ Bd hml0 hP hK
  obtain ⟨rfl, hZ, hh⟩ := hP
  have hx := Bd.exec
  have hby := Bd.bytes
  have hml : c.maxLocals = 1 := hml0
  have hown : s.vm.findClass "java/lang/StringLatin1" = some m.cls := findClass_of_methodNamed Bd.named
  have hnm := (name_of_methodNamed Bd.named Bd.method).1
  have hlk := Bd.notSynchronized
  have X0 : Stand p l e (⟨0, 1, 1, 0⟩ : Room) s m #[(.int c0)] below meth c s₁ [] 0 0 := Stand.of_body Bd
  have e0 : s₁.heap = h0 := by rw [← hh, Bd.state]; rfl
  have N0 := Fr.nil n0
  refine own_start (Q := own_tb_Q Z c0 zCS fm cs h0 n0) (own_tb_ef m c0) ?_
  refine own_g (mkF m 1 #[.val (.int c0)] [(.int 1)]) (fun _ q => XS.iconst X0.here hx rfl (hb hby own_d31_0) q) ?_
  obtain ⟨T1, h1, k1, X1, e1, E1, A1, st1⟩ := newP X0 hx hZ (own_h hw 0 rfl) e0 (g := (mkF m 1 #[.val (.int c0)] [(.int 1)])) rfl (hb hby own_d31_1) rfl (by decide) (cap := 1) (by decide) (by decide) (by decide) (by decide)
  obtain ⟨b1, g1⟩ : ∃ z, z = h0.size := ⟨_, rfl⟩
  rw [← g1] at A1 st1
  have g_b1 : n0 ≤ b1 := Nat.le_trans Z0 (Nat.le_of_eq g1.symm)
  have sz_b1 : h0.size ≤ b1 := Nat.le_trans (Keep.refl h0 []).1 (Nat.le_of_eq g1.symm)
  have V_b1 : Arv Z h1 b1 k1 .byte (1 : Int32) [(.int 0)] (.int 0) := (Arv.new A1 (by decide)).pad (pad_rep [] (.int 0) 1)
  refine own_by (g' := (mkF m 3 #[.val (.int c0)] [(.ref b1)])) st1 ?_
  refine own_g (mkF m 7 #[.val (.int c0)] [(.int (c0.toInt8.toInt32)), (.int 0), (.ref b1), (.ref b1)]) (fun _ q => XS.dup X1.here hx rfl (hb hby own_d31_3) rfl rfl (XS.iconst X1.here hx rfl (hb hby own_d31_4) (XS.iloadN X1.here hx rfl (hb hby own_d31_5) rfl (XS.i2b X1.here hx rfl (hb hby own_d31_6) rfl q)))) ?_
  obtain ⟨cl2, Ar2, q2, S2, P2, H2, G2⟩ := id V_b1
  have hin2 : ¬ ((0 : Int32) < 0 ∨ cl2.slots.size ≤ ((0 : Int32)).toNatClampNeg) := inb_of S2 ⟨by decide, by decide⟩
  obtain ⟨T3, h3, X3, e3, W3, st3⟩ := stB X1 hx hZ e1 Ar2 (j := (0 : Int32)) hin2 (g := (mkF m 7 #[.val (.int c0)] [(.int (c0.toInt8.toInt32)), (.int 0), (.ref b1), (.ref b1)])) rfl rfl (hb hby own_d31_7)
  have V3 : Arv Z h3 b1 k1 .byte (1 : Int32) [(.int ((c0.toInt8.toInt32).toInt8.toInt32))] (.int 0) := Arv.set Ar2 q2 S2 P2 H2 G2 (fits_nar_byte _) W3 0 rfl (Nat.le_of_ble_eq_true rfl)
  have N3 := Fr.snoc X3 N0 g_b1
  refine own_by (g' := (mkF m 8 #[.val (.int c0)] [(.ref b1)])) st3 ?_
  have k4_ := (((Keep.refl h0 []).ext E1).wr W3 (Or.inr sz_b1))
  exact own_end X3 (v := some (.ref b1)) (fun h => by rw [Bd.returns] at h; cases h) hlk (fun hr => retOut X3 hx Bd.returns (own_narR rfl) (Or.inr (Or.inr (Or.inr (Or.inr ⟨rfl, rfl, rfl⟩)))) (hb hby own_d31_8) hr) (by rw [e3]; exact ⟨b1, rfl, N3, k4_, sz_b1⟩) (by decide) (by decide)
theorem own_d32_0 : decode jdk_42_method_151_code 0 = .ok (.aload_n 0, 1) := by decide +kernel
theorem own_d32_1 : decode jdk_42_method_151_code 1 = .ok (.invokespecial 1, 3) := by decide +kernel
theorem own_d32_4 : decode jdk_42_method_151_code 4 = .ok (.aload_n 0, 1) := by decide +kernel
theorem own_d32_5 : decode jdk_42_method_151_code 5 = .ok (.aload_n 1, 1) := by decide +kernel
theorem own_d32_6 : decode jdk_42_method_151_code 6 = .ok (.putfield 9, 3) := by decide +kernel
theorem own_d32_9 : decode jdk_42_method_151_code 9 = .ok (.aload_n 0, 1) := by decide +kernel
theorem own_d32_10 : decode jdk_42_method_151_code 10 = .ok (.iload_n 2, 1) := by decide +kernel
theorem own_d32_11 : decode jdk_42_method_151_code 11 = .ok (.putfield 15, 3) := by decide +kernel
theorem own_d32_14 : decode jdk_42_method_151_code 14 = .ok (.return_, 1) := by decide +kernel
theorem own_iBB_ef (m : MethodId) (x0 : Addr) (b : Addr) (cd : Int32) : entryFrame m #[(.ref x0), (.ref b), (.int cd)] 3 = mkF m 0 #[.val (.ref x0), .val (.ref b), .val (.int cd)] [] := by  first | (simp [entryFrame, mkF, argsToLocals, Value.category]; done) | rfl
def own_iBB_Q (Z : State) (x0 : Addr) (b : Addr) (cd : Int32) (zCS : Int32) (fm : Value) (cs : Addr) (h0 : Heap) (n0 : Nat) (v : Option Value) (h : Heap) (L : List Loc) : Prop := v = none ∧ Fr n0 L ∧ Keep h0 h [x0] ∧ Exa Z h x0 "java/lang/String"
set_option maxRecDepth 65536 in
set_option maxHeartbeats 40000000 in
theorem own_iBB (l : Launch) (Z : State) (a0 : Array Value) (hw : ∀ d ∈ tables_1, d.before a0 Z = true) (ws : List Jvm.Cond) (x0 : Addr) (b : Addr) (cd : Int32) (zCS : Int32) (fm : Value) (cs : Addr) (h0 : Heap) (n0 : Nat) (Z0 : n0 ≤ h0.size) (S_CS : own_A0 Z zCS) (nCS : ¬ zCS = 0) (S_SF : own_A2 Z fm) (hfm : fm.isRef = true) (S_UT : own_A1 Z cs) (S_IN : own_A3 Z cs) (E_cs : Exa Z Z.heap cs "sun/nio/cs/UTF_8") (O0 : Old Z n0 h0) (E_x : Exa Z h0 x0 "java/lang/String") (V_x : Fld Z h0 x0 "java/lang/String" "value" "[B" .null) (C_x : Fld Z h0 x0 "java/lang/String" "coder" "B" (.int 0)) (g_x : n0 ≤ x0) :
    MetFree l (⟨"java/lang/String", "<init>", "([BB)V"⟩ : MethodName) (head1 (Jvm.Cond.code (⟨"java/lang/String", "<init>", "([BB)V"⟩ : MethodName) jdk_42_method_151_code 3 none :: ws) (⟨1, 0, 0, 12⟩ : Room)) (fun aa U => aa = #[(.ref x0), (.ref b), (.int cd)] ∧ Z.Warmed39 U.vm ∧ U.heap = h0) (fun _ _ _ _ _ => True) (fun _ U o U' => ∃ v L, o = .returned v ∧ own_iBB_Q Z x0 b cd zCS fm cs h0 n0 v U'.heap L ∧ FrameEnd U o U' L (⟨1, 0, 0, 12⟩ : Room).cells (⟨1, 0, 0, 12⟩ : Room).slots) := by
  refine MetFree.of_bodySF (plainFor_of_name own_pn_java_lang_String) hisR ?_
  intro p e s m args below meth c s₁ Bd hml0 hP hK
  obtain ⟨rfl, hZ, hh⟩ := hP
  have hx := Bd.exec
  have hby := Bd.bytes
  have hml : c.maxLocals = 3 := hml0
  have hown : s.vm.findClass "java/lang/String" = some m.cls := findClass_of_methodNamed Bd.named
  have hnm := (name_of_methodNamed Bd.named Bd.method).1
  have hlk := Bd.notSynchronized
  have X0 : Stand p l e (⟨1, 0, 0, 12⟩ : Room) s m #[(.ref x0), (.ref b), (.int cd)] below meth c s₁ [] 0 0 := Stand.of_body Bd
  have e0 : s₁.heap = h0 := by rw [← hh, Bd.state]; rfl
  have N0 := Fr.nil n0
  refine own_start (Q := own_iBB_Q Z x0 b cd zCS fm cs h0 n0) (own_iBB_ef m x0 b cd) ?_
  refine own_g (mkF m 1 #[.val (.ref x0), .val (.ref b), .val (.int cd)] [(.ref x0)]) (fun _ q => XS.aloadN X0.here hx rfl (hb hby own_d32_0) rfl rfl q) ?_
  obtain ⟨T1, X1, e1, st1⟩ := initO X0 hx hZ hown (own_h hw 90 rfl) (own_h hw 11 rfl) (own_h hw 12 rfl) e0 (g := (mkF m 1 #[.val (.ref x0), .val (.ref b), .val (.int cd)] [(.ref x0)])) rfl (by rw [hml]; rfl) rfl (hb hby own_d32_1) (by decide) (W := 0) (Nat.le_of_eq rfl) (by decide)
  refine own_by (g' := (mkF m 4 #[.val (.ref x0), .val (.ref b), .val (.int cd)] [])) st1 ?_
  refine own_g (mkF m 6 #[.val (.ref x0), .val (.ref b), .val (.int cd)] [(.ref b), (.ref x0)]) (fun _ q => XS.aloadN X1.here hx rfl (hb hby own_d32_4) rfl rfl (XS.aloadN X1.here hx rfl (hb hby own_d32_5) rfl rfl q)) ?_
  obtain ⟨T2, h2, X2, e2, W2, st2⟩ := putF X1 hx hZ hown (host := "") (Or.inl (own_h hw 96 rfl)) Via.refl e1 V_x E_x (Or.inr ⟨(own_h hw 92 rfl), rfl, hnm⟩) (own_h hw 65 rfl) (ty := (.array .byte)) (by decide) (rfl) (rfl) (g := (mkF m 6 #[.val (.ref x0), .val (.ref b), .val (.int cd)] [(.ref b), (.ref x0)])) rfl rfl (hb hby own_d32_6)
  have Fw2 := V_x.same W2
  have N2 := Fr.snoc X2 N0 g_x
  refine own_by (g' := (mkF m 9 #[.val (.ref x0), .val (.ref b), .val (.int cd)] [])) st2 ?_
  refine own_g (mkF m 11 #[.val (.ref x0), .val (.ref b), .val (.int cd)] [(.int cd), (.ref x0)]) (fun _ q => XS.aloadN X2.here hx rfl (hb hby own_d32_9) rfl rfl (XS.iloadN X2.here hx rfl (hb hby own_d32_10) rfl q)) ?_
  have e3_x0 := (E_x.wr W2)
  have f4_x0 := (C_x.other W2 (Or.inr (slot_ne (Or.inr (own_h hw 93 rfl)) (Or.inr (own_h hw 92 rfl)) (by decide) (t := .byte) (t' := (.array .byte)) (by decide) (by decide))))
  obtain ⟨T5, h5, X5, e5, W5, st5⟩ := putFN X2 hx hZ hown (own_h hw 97 rfl) Via.refl e2 f4_x0 e3_x0 (Or.inr ⟨(own_h hw 93 rfl), rfl, hnm⟩) (own_h hw 65 rfl) (ty := .byte) (v' := (.int (nar .byte cd))) (by decide) rfl (fits_nar_byte _) (g := (mkF m 11 #[.val (.ref x0), .val (.ref b), .val (.int cd)] [(.int cd), (.ref x0)])) rfl rfl (hb hby own_d32_11)
  have Fw5 := f4_x0.same W5
  have N5 := Fr.snoc X5 N2 g_x
  refine own_by (g' := (mkF m 14 #[.val (.ref x0), .val (.ref b), .val (.int cd)] [])) st5 ?_
  have k6_ := (((Keep.refl h0 [x0]).wr W2 (Or.inl (List.mem_of_getElem? (i := 0) rfl))).wr W5 (Or.inl (List.mem_of_getElem? (i := 0) rfl)))
  have e7_x0 := (e3_x0.wr W5)
  exact own_end X5 (v := none) (fun _ => rfl) hlk (fun hr => X5.returnOut hx Bd.returns (hb hby own_d32_14) hr) (by rw [e5]; exact ⟨rfl, N5, k6_, e7_x0⟩) (by decide) (by decide)
theorem own_d29_0 : decode jdk_42_method_139_code 0 = .ok (.getstatic 38, 3) := by decide +kernel
theorem own_d29_3 : decode jdk_42_method_139_code 3 = .ok (.ifCond .eq 23, 3) := by decide +kernel
theorem own_d29_6 : decode jdk_42_method_139_code 6 = .ok (.iload_n 0, 1) := by decide +kernel
theorem own_d29_7 : decode jdk_42_method_139_code 7 = .ok (.invokestatic 1015, 3) := by decide +kernel
theorem own_pd__28C_29Z : parseMethodDescriptor "(C)Z" = some ⟨[.char], some .boolean⟩ := by decide +kernel
theorem own_d29_10 : decode jdk_42_method_139_code 10 = .ok (.ifCond .eq 16, 3) := by decide +kernel
theorem own_d29_13 : decode jdk_42_method_139_code 13 = .ok (.new 10, 3) := by decide +kernel
theorem own_d29_16 : decode jdk_42_method_139_code 16 = .ok (.dup, 1) := by decide +kernel
theorem own_d29_17 : decode jdk_42_method_139_code 17 = .ok (.iload_n 0, 1) := by decide +kernel
theorem own_d29_18 : decode jdk_42_method_139_code 18 = .ok (.invokestatic 1018, 3) := by decide +kernel
theorem own_pd__28C_29_5bB : parseMethodDescriptor "(C)[B" = some ⟨[.char], some (.array .byte)⟩ := by decide +kernel
theorem own_d29_21 : decode jdk_42_method_139_code 21 = .ok (.iconst 0, 1) := by decide +kernel
theorem own_d29_22 : decode jdk_42_method_139_code 22 = .ok (.invokespecial 209, 3) := by decide +kernel
theorem own_pd__28_5bBB_29V : parseMethodDescriptor "([BB)V" = some ⟨[(.array .byte), .byte], none⟩ := by decide +kernel
theorem own_d29_25 : decode jdk_42_method_139_code 25 = .ok (.areturn, 1) := by decide +kernel
theorem own_vo_ef (m : MethodId) (c0 : Int32) : entryFrame m #[(.int c0)] 1 = mkF m 0 #[.val (.int c0)] [] := by  first | (simp [entryFrame, mkF, argsToLocals, Value.category]; done) | rfl
def own_vo_Q (Z : State) (c0 : Int32) (zCS : Int32) (fm : Value) (cs : Addr) (h0 : Heap) (n0 : Nat) (v : Option Value) (h : Heap) (L : List Loc) : Prop := ∃ (t : Addr), v = some (.ref t) ∧ Fr n0 L ∧ Keep h0 h [] ∧ h0.size ≤ t ∧ Exa Z h t "java/lang/String"
set_option maxRecDepth 65536 in
set_option maxHeartbeats 40000000 in
theorem own_vo (l : Launch) (Z : State) (a0 : Array Value) (hw : ∀ d ∈ tables_1, d.before a0 Z = true) (ws : List Jvm.Cond) (c0 : Int32) (zCS : Int32) (fm : Value) (cs : Addr) (h0 : Heap) (n0 : Nat) (Z0 : n0 ≤ h0.size) (S_CS : own_A0 Z zCS) (nCS : ¬ zCS = 0) (S_SF : own_A2 Z fm) (hfm : fm.isRef = true) (S_UT : own_A1 Z cs) (S_IN : own_A3 Z cs) (E_cs : Exa Z Z.heap cs "sun/nio/cs/UTF_8") (O0 : Old Z n0 h0) (hc : ¬ (255 : Int32) < c0) :
    MetFree l own_y20 (head1 (Jvm.Cond.code own_y20 jdk_42_method_139_code 1 (some (.object "java/lang/String")) :: ws) (⟨2, 2, 5, 27⟩ : Room)) (fun aa U => aa = #[(.int c0)] ∧ Z.Warmed39 U.vm ∧ U.heap = h0) (fun _ _ _ _ _ => True) (fun _ U o U' => ∃ v L, o = .returned v ∧ own_vo_Q Z c0 zCS fm cs h0 n0 v U'.heap L ∧ FrameEnd U o U' L (⟨2, 2, 5, 27⟩ : Room).cells (⟨2, 2, 5, 27⟩ : Room).slots) := by
  refine MetFree.of_bodySF (plainFor_of_name own_pn_java_lang_String) hisR ?_
  intro p e s m args below meth c s₁ Bd hml0 hP hK
  obtain ⟨rfl, hZ, hh⟩ := hP
  have hx := Bd.exec
  have hby := Bd.bytes
  have hml : c.maxLocals = 1 := hml0
  have hown : s.vm.findClass "java/lang/String" = some m.cls := findClass_of_methodNamed Bd.named
  have hnm := (name_of_methodNamed Bd.named Bd.method).1
  have hlk := Bd.notSynchronized
  have X0 : Stand p l e (⟨2, 2, 5, 27⟩ : Room) s m #[(.int c0)] below meth c s₁ [] 0 0 := Stand.of_body Bd
  have e0 : s₁.heap = h0 := by rw [← hh, Bd.state]; rfl
  have N0 := Fr.nil n0
  refine own_start (Q := own_vo_Q Z c0 zCS fm cs h0 n0) (own_vo_ef m c0) ?_
  obtain ⟨T1, X1, e1, st1⟩ := getS2 X0 hx hZ hown (host := "") (Or.inl (own_h hw 108 rfl)) Via.refl e0 (S_CS.ext O0.2) (g := (mkF m 0 #[.val (.int c0)] [])) rfl (hb hby own_d29_0)
  refine own_by (g' := (mkF m 3 #[.val (.int c0)] [(.int zCS)])) st1 ?_
  refine own_g (mkF m 7 #[.val (.int c0)] [(.int c0)]) (fun _ q => XS.ifNo X1.here hx rfl (hb hby own_d29_3) rfl ((if0 _ _).trans (feq nCS).1) (XS.iloadN X1.here hx rfl (hb hby own_d29_6) rfl q)) ?_
  refine own_callS X1 hx hZ (y := (⟨"java/lang/StringLatin1", "canEncode", "(C)Z"⟩ : MethodName)) hown (own_h hw 165 rfl) (own_h hw 166 rfl) (own_h hw 149 rfl) (own_h hw 167 rfl) (by decide) (own_ce l Z a0 hw [] c0 zCS fm cs h0 n0 Z0 S_CS nCS S_SF hfm S_UT S_IN E_cs O0 hc) (by decide) (by decide) e1 (g := (mkF m 7 #[.val (.int c0)] [(.int c0)])) rfl (by rw [hml]; rfl) (argsL := [(.int c0)]) (rest := []) (lenOf own_pd__28C_29Z rfl) rfl (W := 0) (Nat.le_of_eq rfl) (hb hby own_d29_7) rfl (by decide) (by decide) ?_
  rintro rv2 T2 L2 X2 ⟨rfl, Nq2, eh2⟩
  have N2 := Fr.app N0 Nq2
  refine own_g (mkF m 13 #[.val (.int c0)] []) (fun _ q => XS.ifNo X2.here hx rfl (hb hby own_d29_10) rfl ((if0 _ _).trans (feq (by decide : ¬ ((1 : Int32) = (0 : Int32)))).1) q) ?_
  obtain ⟨T3, h3, X3, e3, E3, A3, D3, U3, st3⟩ := newO X2 hx hZ hown (own_h hw 168 rfl) (own_h hw 65 rfl) (own_h hw 66 rfl) eh2 (g := (mkF m 13 #[.val (.int c0)] [])) rfl (hb hby own_d29_13) (by decide) (by decide)
  obtain ⟨b3, g3⟩ : ∃ z, z = h0.size := ⟨_, rfl⟩
  rw [← g3] at A3 D3 U3 st3
  have g_b3 : n0 ≤ b3 := Nat.le_trans Z0 (Nat.le_of_eq g3.symm)
  have sz_b3 : h0.size ≤ b3 := Nat.le_trans (Keep.refl h0 []).1 (Nat.le_of_eq g3.symm)
  have F_value_b3 : Fld Z h3 b3 "java/lang/String" "value" "[B" .null := D3 (Or.inr (own_h hw 92 rfl)) (ty := (.array .byte)) (by decide)
  have F_coder_b3 : Fld Z h3 b3 "java/lang/String" "coder" "B" (.int 0) := D3 (Or.inr (own_h hw 93 rfl)) (ty := .byte) (by decide)
  refine own_by (g' := (mkF m 16 #[.val (.int c0)] [(.ref b3)])) st3 ?_
  refine own_g (mkF m 18 #[.val (.int c0)] [(.int c0), (.ref b3), (.ref b3)]) (fun _ q => XS.dup X3.here hx rfl (hb hby own_d29_16) rfl rfl (XS.iloadN X3.here hx rfl (hb hby own_d29_17) rfl q)) ?_
  have k4_ := ((Keep.refl h0 []).ext E3)
  have o5_ := (O0.ext E3)
  refine own_callS X3 hx hZ (y := (⟨"java/lang/StringLatin1", "toBytes", "(C)[B"⟩ : MethodName)) hown (own_h hw 169 rfl) (own_h hw 170 rfl) (own_h hw 149 rfl) (own_h hw 171 rfl) (by decide) (own_tb l Z a0 hw [] c0 zCS fm cs h3 n0 (Nat.le_trans Z0 k4_.1) S_CS nCS S_SF hfm S_UT S_IN E_cs o5_ ) (by decide) (by decide) e3 (g := (mkF m 18 #[.val (.int c0)] [(.int c0), (.ref b3), (.ref b3)])) rfl (by rw [hml]; rfl) (argsL := [(.int c0)]) (rest := [(.ref b3), (.ref b3)]) (lenOf own_pd__28C_29_5bB rfl) rfl (W := 2) (Nat.le_of_eq rfl) (hb hby own_d29_18) rfl (by decide) (by decide) ?_
  rintro rv6 T6 L6 X6 ⟨t0, rfl, Nq6, Kq6, sz6⟩
  have N6 := Fr.app N2 Nq6
  refine own_g (mkF m 22 #[.val (.int c0)] [(.int 0), (.ref t0), (.ref b3), (.ref b3)]) (fun _ q => XS.iconst X6.here hx rfl (hb hby own_d29_21) q) ?_
  have e7_b3 := (A3.keep Kq6)
  have f8_b3 := (F_value_b3.keep Kq6 nin0)
  have f9_b3 := (F_coder_b3.keep Kq6 nin0)
  have k10_ := (k4_.trans Kq6 all0)
  have o11_ := (o5_.keep Kq6 all0)
  refine own_callI X6 hx hZ (y := (⟨"java/lang/String", "<init>", "([BB)V"⟩ : MethodName)) rfl hown (own_h hw 172 rfl) (own_h hw 173 rfl) (own_h hw 174 rfl) (own_h hw 66 rfl) (by decide) (own_iBB l Z a0 hw [] b3 t0 (0 : Int32) zCS fm cs T6.heap n0 (Nat.le_trans Z0 k10_.1) S_CS nCS S_SF hfm S_UT S_IN E_cs o11_ e7_b3 f8_b3 f9_b3 g_b3) (by decide) (by decide) rfl (g := (mkF m 22 #[.val (.int c0)] [(.int 0), (.ref t0), (.ref b3), (.ref b3)])) rfl (by rw [hml]; rfl) (argsL := [(.ref t0), (.int 0)]) (rest := [(.ref b3)]) (lenOf own_pd__28_5bBB_29V rfl) rfl (W := 1) (Nat.le_of_eq rfl) (hb hby own_d29_22) rfl (by decide) (by decide) ?_
  rintro rv12 T12 L12 X12 ⟨rfl, Nq12, Kq12, Eq12⟩
  have N12 := Fr.app N6 Nq12
  show own_Fin p e below _ T12 (mkF m 25 #[.val (.int c0)] [(.ref b3)])
  have k13_ := (k10_.trans Kq12 (allS (Or.inr sz_b3) all0))
  have e14_b3 := (e7_b3.keep Kq12)
  exact own_end X12 (v := some (.ref b3)) (fun h => by rw [Bd.returns] at h; cases h) hlk (fun hr => retOut X12 hx Bd.returns (own_narR rfl) (Or.inr (Or.inr (Or.inr (Or.inr ⟨rfl, rfl, rfl⟩)))) (hb hby own_d29_25) hr) (⟨b3, rfl, N12, k13_, sz_b3, e14_b3⟩) (by decide) (by decide)
theorem own_d13_0 : decode jdk_41_method_13_code 0 = .ok (.iload_n 2, 1) := by decide +kernel
theorem own_d13_1 : decode jdk_41_method_13_code 1 = .ok (.iload_n 0, 1) := by decide +kernel
theorem own_d13_2 : decode jdk_41_method_13_code 2 = .ok (.ior, 1) := by decide +kernel
theorem own_d13_3 : decode jdk_41_method_13_code 3 = .ok (.iload_n 1, 1) := by decide +kernel
theorem own_d13_4 : decode jdk_41_method_13_code 4 = .ok (.ior, 1) := by decide +kernel
theorem own_d13_5 : decode jdk_41_method_13_code 5 = .ok (.ifCond .lt 10, 3) := by decide +kernel
theorem own_d13_8 : decode jdk_41_method_13_code 8 = .ok (.iload_n 1, 1) := by decide +kernel
theorem own_d13_9 : decode jdk_41_method_13_code 9 = .ok (.iload_n 2, 1) := by decide +kernel
theorem own_d13_10 : decode jdk_41_method_13_code 10 = .ok (.iload_n 0, 1) := by decide +kernel
theorem own_d13_11 : decode jdk_41_method_13_code 11 = .ok (.isub, 1) := by decide +kernel
theorem own_d13_12 : decode jdk_41_method_13_code 12 = .ok (.if_icmp .le 11, 3) := by decide +kernel
theorem own_d13_23 : decode jdk_41_method_13_code 23 = .ok (.iload_n 0, 1) := by decide +kernel
theorem own_d13_24 : decode jdk_41_method_13_code 24 = .ok (.ireturn, 1) := by decide +kernel
theorem own_pfs_ef (m : MethodId) (of : Int32) (vf : Value) (hvf : vf.isRef = true) : entryFrame m #[(.int of), (.int 0), (.int 4), vf] 4 = mkF m 0 #[.val (.int of), .val (.int 0), .val (.int 4), .val vf] [] := by rcases ref_cases hvf with rfl | ⟨_, rfl⟩ <;>  first | (simp [entryFrame, mkF, argsToLocals, Value.category]; done) | rfl
def own_pfs_Q (Z : State) (of : Int32) (vf : Value) (zCS : Int32) (fm : Value) (cs : Addr) (h0 : Heap) (n0 : Nat) (v : Option Value) (h : Heap) (L : List Loc) : Prop := v = some (.int of) ∧ Fr n0 L ∧ h = h0
set_option maxRecDepth 65536 in
set_option maxHeartbeats 40000000 in
theorem own_pfs (l : Launch) (Z : State) (a0 : Array Value) (hw : ∀ d ∈ tables_1, d.before a0 Z = true) (ws : List Jvm.Cond) (of : Int32) (vf : Value) (zCS : Int32) (fm : Value) (cs : Addr) (h0 : Heap) (n0 : Nat) (Z0 : n0 ≤ h0.size) (hvf : vf.isRef = true) (S_CS : own_A0 Z zCS) (nCS : ¬ zCS = 0) (S_SF : own_A2 Z fm) (hfm : fm.isRef = true) (S_UT : own_A1 Z cs) (S_IN : own_A3 Z cs) (E_cs : Exa Z Z.heap cs "sun/nio/cs/UTF_8") (O0 : Old Z n0 h0) (hf1 : ¬ (((4 : Int32) ||| of) ||| (0 : Int32)) < (0 : Int32)) (hf2 : ¬ ((4 : Int32) - of) < (0 : Int32)) :
    MetFree l (⟨"jdk/internal/util/Preconditions", "checkFromIndexSize", "(IIILjava/util/function/BiFunction;)I"⟩ : MethodName) (head1 (Jvm.Cond.code (⟨"jdk/internal/util/Preconditions", "checkFromIndexSize", "(IIILjava/util/function/BiFunction;)I"⟩ : MethodName) jdk_41_method_13_code 4 (some .int) :: ws) (⟨0, 0, 0, 0⟩ : Room)) (fun aa U => aa = #[(.int of), (.int 0), (.int 4), vf] ∧ Z.Warmed39 U.vm ∧ U.heap = h0) (fun _ _ _ _ _ => True) (fun _ U o U' => ∃ v L, o = .returned v ∧ own_pfs_Q Z of vf zCS fm cs h0 n0 v U'.heap L ∧ FrameEnd U o U' L (⟨0, 0, 0, 0⟩ : Room).cells (⟨0, 0, 0, 0⟩ : Room).slots) := by
  refine MetFree.of_bodySF (plainFor_of_name own_pn_jdk_internal_util_Preconditions) hisR ?_
  intro p e s m args below meth c s₁ Bd hml0 hP hK
  obtain ⟨rfl, hZ, hh⟩ := hP
  have hx := Bd.exec
  have hby := Bd.bytes
  have hml : c.maxLocals = 4 := hml0
  have hown : s.vm.findClass "jdk/internal/util/Preconditions" = some m.cls := findClass_of_methodNamed Bd.named
  have hnm := (name_of_methodNamed Bd.named Bd.method).1
  have hlk := Bd.notSynchronized
  have X0 : Stand p l e (⟨0, 0, 0, 0⟩ : Room) s m #[(.int of), (.int 0), (.int 4), vf] below meth c s₁ [] 0 0 := Stand.of_body Bd
  have e0 : s₁.heap = h0 := by rw [← hh, Bd.state]; rfl
  have N0 := Fr.nil n0
  refine own_start (Q := own_pfs_Q Z of vf zCS fm cs h0 n0) (own_pfs_ef m of vf hvf) ?_
  refine own_g (mkF m 10 #[.val (.int of), .val (.int 0), .val (.int 4), .val vf] [(.int 4), (.int 0)]) (fun _ q => XS.iloadN X0.here hx rfl (hb hby own_d13_0) rfl (XS.iloadN X0.here hx rfl (hb hby own_d13_1) rfl (XS.ior X0.here hx rfl (hb hby own_d13_2) rfl (XS.iloadN X0.here hx rfl (hb hby own_d13_3) rfl (XS.ior X0.here hx rfl (hb hby own_d13_4) rfl (XS.ifNo X0.here hx rfl (hb hby own_d13_5) rfl ((if0 _ _).trans (flt hf1).1) (XS.iloadN X0.here hx rfl (hb hby own_d13_8) rfl (XS.iloadN X0.here hx rfl (hb hby own_d13_9) rfl q)))))))) ?_
  refine own_g (mkF m 24 #[.val (.int of), .val (.int 0), .val (.int 4), .val vf] [(.int of)]) (fun _ q => XS.iloadN X0.here hx rfl (hb hby own_d13_10) rfl (XS.isub X0.here hx rfl (hb hby own_d13_11) rfl (XS.icmpYes X0.here hx rfl (pc0 := 12) (pc' := 23) rfl (hb hby own_d13_12) rfl (flt hf2).2.2.2 (by decide) (by decide) (XS.iloadN X0.here hx rfl (hb hby own_d13_23) rfl q)))) ?_
  exact own_end X0 (v := some (.int of)) (fun h => by rw [Bd.returns] at h; cases h) hlk (fun hr => retOut X0 hx Bd.returns rfl (Or.inl ⟨rfl, Or.inl rfl, _, rfl⟩) (hb hby own_d13_24) hr) (by rw [e0]; exact ⟨rfl, N0, rfl⟩) (by decide) (by decide)
theorem own_d12_0 : decode jdk_42_method_157_code 0 = .ok (.iload_n 0, 1) := by decide +kernel
theorem own_d12_1 : decode jdk_42_method_157_code 1 = .ok (.iload_n 1, 1) := by decide +kernel
theorem own_d12_2 : decode jdk_42_method_157_code 2 = .ok (.iload_n 2, 1) := by decide +kernel
theorem own_d12_3 : decode jdk_42_method_157_code 3 = .ok (.getstatic 1053, 3) := by decide +kernel
theorem own_d12_6 : decode jdk_42_method_157_code 6 = .ok (.invokestatic 1065, 3) := by decide +kernel
theorem own_pd__28IIILjava_2futil_2ffunction_2fBiFunction_3b_29I : parseMethodDescriptor "(IIILjava/util/function/BiFunction;)I" = some ⟨[.int, .int, .int, (.object "java/util/function/BiFunction")], some .int⟩ := by decide +kernel
theorem own_d12_9 : decode jdk_42_method_157_code 9 = .ok (.ireturn, 1) := by decide +kernel
theorem own_boc_ef (m : MethodId) (of : Int32) : entryFrame m #[(.int of), (.int 0), (.int 4)] 3 = mkF m 0 #[.val (.int of), .val (.int 0), .val (.int 4)] [] := by  first | (simp [entryFrame, mkF, argsToLocals, Value.category]; done) | rfl
def own_boc_Q (Z : State) (of : Int32) (zCS : Int32) (fm : Value) (cs : Addr) (h0 : Heap) (n0 : Nat) (v : Option Value) (h : Heap) (L : List Loc) : Prop := v = some (.int of) ∧ Fr n0 L ∧ h = h0
set_option maxRecDepth 65536 in
set_option maxHeartbeats 40000000 in
theorem own_boc (l : Launch) (Z : State) (a0 : Array Value) (hw : ∀ d ∈ tables_1, d.before a0 Z = true) (ws : List Jvm.Cond) (of : Int32) (zCS : Int32) (fm : Value) (cs : Addr) (h0 : Heap) (n0 : Nat) (Z0 : n0 ≤ h0.size) (S_CS : own_A0 Z zCS) (nCS : ¬ zCS = 0) (S_SF : own_A2 Z fm) (hfm : fm.isRef = true) (S_UT : own_A1 Z cs) (S_IN : own_A3 Z cs) (E_cs : Exa Z Z.heap cs "sun/nio/cs/UTF_8") (O0 : Old Z n0 h0) (hf1 : ¬ (((4 : Int32) ||| of) ||| (0 : Int32)) < (0 : Int32)) (hf2 : ¬ ((4 : Int32) - of) < (0 : Int32)) :
    MetFree l (⟨"java/lang/String", "checkBoundsOffCount", "(III)I"⟩ : MethodName) (head1 (Jvm.Cond.code (⟨"java/lang/String", "checkBoundsOffCount", "(III)I"⟩ : MethodName) jdk_42_method_157_code 3 (some .int) :: ws) (⟨1, 0, 0, 15⟩ : Room)) (fun aa U => aa = #[(.int of), (.int 0), (.int 4)] ∧ Z.Warmed39 U.vm ∧ U.heap = h0) (fun _ _ _ _ _ => True) (fun _ U o U' => ∃ v L, o = .returned v ∧ own_boc_Q Z of zCS fm cs h0 n0 v U'.heap L ∧ FrameEnd U o U' L (⟨1, 0, 0, 15⟩ : Room).cells (⟨1, 0, 0, 15⟩ : Room).slots) := by
  refine MetFree.of_bodySF (plainFor_of_name own_pn_java_lang_String) hisR ?_
  intro p e s m args below meth c s₁ Bd hml0 hP hK
  obtain ⟨rfl, hZ, hh⟩ := hP
  have hx := Bd.exec
  have hby := Bd.bytes
  have hml : c.maxLocals = 3 := hml0
  have hown : s.vm.findClass "java/lang/String" = some m.cls := findClass_of_methodNamed Bd.named
  have hnm := (name_of_methodNamed Bd.named Bd.method).1
  have hlk := Bd.notSynchronized
  have X0 : Stand p l e (⟨1, 0, 0, 15⟩ : Room) s m #[(.int of), (.int 0), (.int 4)] below meth c s₁ [] 0 0 := Stand.of_body Bd
  have e0 : s₁.heap = h0 := by rw [← hh, Bd.state]; rfl
  have N0 := Fr.nil n0
  refine own_start (Q := own_boc_Q Z of zCS fm cs h0 n0) (own_boc_ef m of) ?_
  refine own_g (mkF m 3 #[.val (.int of), .val (.int 0), .val (.int 4)] [(.int 4), (.int 0), (.int of)]) (fun _ q => XS.iloadN X0.here hx rfl (hb hby own_d12_0) rfl (XS.iloadN X0.here hx rfl (hb hby own_d12_1) rfl (XS.iloadN X0.here hx rfl (hb hby own_d12_2) rfl q))) ?_
  obtain ⟨T1, X1, e1, st1⟩ := getS2 X0 hx hZ hown (host := "") (Or.inl (own_h hw 81 rfl)) Via.refl e0 (S_SF.ext O0.2) (g := (mkF m 3 #[.val (.int of), .val (.int 0), .val (.int 4)] [(.int 4), (.int 0), (.int of)])) rfl (hb hby own_d12_3)
  refine own_by (g' := (mkF m 6 #[.val (.int of), .val (.int 0), .val (.int 4)] [fm, (.int 4), (.int 0), (.int of)])) st1 ?_
  refine own_callS X1 hx hZ (y := (⟨"jdk/internal/util/Preconditions", "checkFromIndexSize", "(IIILjava/util/function/BiFunction;)I"⟩ : MethodName)) hown (own_h hw 83 rfl) (own_h hw 84 rfl) (own_h hw 82 rfl) (own_h hw 85 rfl) (by decide) (own_pfs l Z a0 hw [] of fm zCS fm cs h0 n0 Z0 hfm S_CS nCS S_SF hfm S_UT S_IN E_cs O0 hf1 hf2) (by decide) (by decide) e1 (g := (mkF m 6 #[.val (.int of), .val (.int 0), .val (.int 4)] [fm, (.int 4), (.int 0), (.int of)])) rfl (by rw [hml]; rfl) (argsL := [(.int of), (.int 0), (.int 4), fm]) (rest := []) (lenOf own_pd__28IIILjava_2futil_2ffunction_2fBiFunction_3b_29I rfl) rfl (W := 0) (Nat.le_of_eq rfl) (hb hby own_d12_6) rfl (by decide) (by decide) ?_
  rintro rv2 T2 L2 X2 ⟨rfl, Nq2, eh2⟩
  have N2 := Fr.app N0 Nq2
  show own_Fin p e below _ T2 (mkF m 9 #[.val (.int of), .val (.int 0), .val (.int 4)] [(.int of)])
  exact own_end X2 (v := some (.int of)) (fun h => by rw [Bd.returns] at h; cases h) hlk (fun hr => retOut X2 hx Bd.returns rfl (Or.inl ⟨rfl, Or.inl rfl, _, rfl⟩) (hb hby own_d12_9) hr) (by rw [eh2]; exact ⟨rfl, N2, rfl⟩) (by decide) (by decide)
theorem own_d11_0 : decode jdk_31_method_10_code 0 = .ok (.aload_n 0, 1) := by decide +kernel
theorem own_d11_1 : decode jdk_31_method_10_code 1 = .ok (.ifnonnull 11, 3) := by decide +kernel
theorem own_d11_12 : decode jdk_31_method_10_code 12 = .ok (.aload_n 0, 1) := by decide +kernel
theorem own_d11_13 : decode jdk_31_method_10_code 13 = .ok (.areturn, 1) := by decide +kernel
theorem own_rnn_ef (m : MethodId) (a : Addr) : entryFrame m #[(.ref a)] 1 = mkF m 0 #[.val (.ref a)] [] := by  first | (simp [entryFrame, mkF, argsToLocals, Value.category]; done) | rfl
def own_rnn_Q (Z : State) (a : Addr) (zCS : Int32) (fm : Value) (cs : Addr) (h0 : Heap) (n0 : Nat) (v : Option Value) (h : Heap) (L : List Loc) : Prop := v = some (.ref a) ∧ Fr n0 L ∧ h = h0
theorem own_pn_java_util_Objects : plainName "java/util/Objects" = true := by first | (simp [plainName, overriddenIn]; done) | decide +kernel
set_option maxRecDepth 65536 in
set_option maxHeartbeats 40000000 in
theorem own_rnn (l : Launch) (Z : State) (a0 : Array Value) (hw : ∀ d ∈ tables_1, d.before a0 Z = true) (ws : List Jvm.Cond) (a : Addr) (zCS : Int32) (fm : Value) (cs : Addr) (h0 : Heap) (n0 : Nat) (Z0 : n0 ≤ h0.size) (S_CS : own_A0 Z zCS) (nCS : ¬ zCS = 0) (S_SF : own_A2 Z fm) (hfm : fm.isRef = true) (S_UT : own_A1 Z cs) (S_IN : own_A3 Z cs) (E_cs : Exa Z Z.heap cs "sun/nio/cs/UTF_8") (O0 : Old Z n0 h0) :
    MetFree l (⟨"java/util/Objects", "requireNonNull", "(Ljava/lang/Object;)Ljava/lang/Object;"⟩ : MethodName) (head1 (Jvm.Cond.code (⟨"java/util/Objects", "requireNonNull", "(Ljava/lang/Object;)Ljava/lang/Object;"⟩ : MethodName) jdk_31_method_10_code 1 (some (.object "java/lang/Object")) :: ws) (⟨0, 0, 0, 0⟩ : Room)) (fun aa U => aa = #[(.ref a)] ∧ Z.Warmed39 U.vm ∧ U.heap = h0) (fun _ _ _ _ _ => True) (fun _ U o U' => ∃ v L, o = .returned v ∧ own_rnn_Q Z a zCS fm cs h0 n0 v U'.heap L ∧ FrameEnd U o U' L (⟨0, 0, 0, 0⟩ : Room).cells (⟨0, 0, 0, 0⟩ : Room).slots) := by
  refine MetFree.of_bodySF (plainFor_of_name own_pn_java_util_Objects) hisR ?_
  intro p e s m args below meth c s₁ Bd hml0 hP hK
  obtain ⟨rfl, hZ, hh⟩ := hP
  have hx := Bd.exec
  have hby := Bd.bytes
  have hml : c.maxLocals = 1 := hml0
  have hown : s.vm.findClass "java/util/Objects" = some m.cls := findClass_of_methodNamed Bd.named
  have hnm := (name_of_methodNamed Bd.named Bd.method).1
  have hlk := Bd.notSynchronized
  have X0 : Stand p l e (⟨0, 0, 0, 0⟩ : Room) s m #[(.ref a)] below meth c s₁ [] 0 0 := Stand.of_body Bd
  have e0 : s₁.heap = h0 := by rw [← hh, Bd.state]; rfl
  have N0 := Fr.nil n0
  refine own_start (Q := own_rnn_Q Z a zCS fm cs h0 n0) (own_rnn_ef m a) ?_
  refine own_g (mkF m 13 #[.val (.ref a)] [(.ref a)]) (fun _ q => XS.aloadN X0.here hx rfl (hb hby own_d11_0) rfl rfl (XS.ifnonnullYes X0.here hx rfl (pc0 := 1) (pc' := 12) rfl (hb hby own_d11_1) rfl (by decide) (by decide) (XS.aloadN X0.here hx rfl (hb hby own_d11_12) rfl rfl q))) ?_
  exact own_end X0 (v := some (.ref a)) (fun h => by rw [Bd.returns] at h; cases h) hlk (fun hr => retOut X0 hx Bd.returns (own_narR rfl) (Or.inr (Or.inr (Or.inr (Or.inr ⟨rfl, rfl, rfl⟩)))) (hb hby own_d11_13) hr) (by rw [e0]; exact ⟨rfl, N0, rfl⟩) (by decide) (by decide)
theorem own_d14_0 : decode jdk_42_method_11_code 0 = .ok (.aload_n 0, 1) := by decide +kernel
theorem own_d14_1 : decode jdk_42_method_11_code 1 = .ok (.invokespecial 1, 3) := by decide +kernel
theorem own_d14_4 : decode jdk_42_method_11_code 4 = .ok (.iload 4, 2) := by decide +kernel
theorem own_d14_6 : decode jdk_42_method_11_code 6 = .ok (.ifCond .ne 24, 3) := by decide +kernel
theorem own_d14_9 : decode jdk_42_method_11_code 9 = .ok (.aload_n 0, 1) := by decide +kernel
theorem own_d14_10 : decode jdk_42_method_11_code 10 = .ok (.ldc 7, 2) := by decide +kernel
theorem own_d14_12 : decode jdk_42_method_11_code 12 = .ok (.getfield 9, 3) := by decide +kernel
theorem own_d14_15 : decode jdk_42_method_11_code 15 = .ok (.putfield 9, 3) := by decide +kernel
theorem own_d14_18 : decode jdk_42_method_11_code 18 = .ok (.aload_n 0, 1) := by decide +kernel
theorem own_d14_19 : decode jdk_42_method_11_code 19 = .ok (.ldc 7, 2) := by decide +kernel
theorem own_d14_21 : decode jdk_42_method_11_code 21 = .ok (.getfield 15, 3) := by decide +kernel
theorem own_d14_24 : decode jdk_42_method_11_code 24 = .ok (.putfield 15, 3) := by decide +kernel
theorem own_d14_27 : decode jdk_42_method_11_code 27 = .ok (.goto 852, 3) := by decide +kernel
theorem own_d14_879 : decode jdk_42_method_11_code 879 = .ok (.return_, 1) := by decide +kernel
theorem own_i14_ef (m : MethodId) (x0 : Addr) (a : Addr) (yb : Addr) (of : Int32) : entryFrame m #[(.ref x0), (.ref a), (.ref yb), (.int of), (.int 0)] 11 = mkF m 0 #[.val (.ref x0), .val (.ref a), .val (.ref yb), .val (.int of), .val (.int 0), .unset, .unset, .unset, .unset, .unset, .unset] [] := by  first | (simp [entryFrame, mkF, argsToLocals, Value.category]; done) | rfl
def own_i14_Q (Z : State) (x0 : Addr) (a : Addr) (yb : Addr) (of : Int32) (zCS : Int32) (fm : Value) (cs : Addr) (h0 : Heap) (n0 : Nat) (v : Option Value) (h : Heap) (L : List Loc) : Prop := v = none ∧ Fr n0 L ∧ Keep h0 h [x0] ∧ Exa Z h x0 "java/lang/String" ∧ Fld Z h x0 "java/lang/String" "coder" "B" (.int 0) ∧ ∃ (t : Addr) (kb : ClassId), x0 ≠ t ∧ Fld Z h x0 "java/lang/String" "value" "[B" (.ref t) ∧ Arv Z h t kb .byte (0 : Int32) [] (.int 0)
set_option maxRecDepth 65536 in
set_option maxHeartbeats 40000000 in
theorem own_i14 (l : Launch) (Z : State) (a0 : Array Value) (hw : ∀ d ∈ tables_1, d.before a0 Z = true) (ws : List Jvm.Cond) (x0 : Addr) (a : Addr) (yb : Addr) (of : Int32) (zCS : Int32) (fm : Value) (cs : Addr) (h0 : Heap) (n0 : Nat) (Z0 : n0 ≤ h0.size) (S_CS : own_A0 Z zCS) (nCS : ¬ zCS = 0) (S_SF : own_A2 Z fm) (hfm : fm.isRef = true) (S_UT : own_A1 Z cs) (S_IN : own_A3 Z cs) (E_cs : Exa Z Z.heap cs "sun/nio/cs/UTF_8") (O0 : Old Z n0 h0) (E_x : Exa Z h0 x0 "java/lang/String") (V_x : Fld Z h0 x0 "java/lang/String" "value" "[B" .null) (C_x : Fld Z h0 x0 "java/lang/String" "coder" "B" (.int 0)) (g_x : n0 ≤ x0) :
    MetFree l (⟨"java/lang/String", "<init>", "(Ljava/nio/charset/Charset;[BII)V"⟩ : MethodName) (head1 (Jvm.Cond.codeWith (⟨"java/lang/String", "<init>", "(Ljava/nio/charset/Charset;[BII)V"⟩ : MethodName) jdk_42_method_11_code 11 none [((800), (813), (816), (202))] :: ws) (⟨1, 4, 8, 12⟩ : Room)) (fun aa U => aa = #[(.ref x0), (.ref a), (.ref yb), (.int of), (.int 0)] ∧ Z.Warmed39 U.vm ∧ U.heap = h0 ∧ CHv Z consts_1 U.vm h0) (fun _ _ _ _ _ => True) (fun _ U o U' => ∃ v L, o = .returned v ∧ own_i14_Q Z x0 a yb of zCS fm cs h0 n0 v U'.heap L ∧ CHr Z consts_1 U.vm U.heap U'.vm U'.heap ∧ ReturnedEndW U o U' L (⟨1, 4, 8, 12⟩ : Room).cells (⟨1, 4, 8, 12⟩ : Room).slots) := by
  refine MetFree.of_bodySF (plainFor_of_name own_pn_java_lang_String) hisWith ?_
  intro p e s m args below meth c s₁ Bd hml0 hP hK
  obtain ⟨rfl, hZ, hh, CH0⟩ := hP
  have hx := Bd.exec
  have hby := Bd.bytes
  have hml : c.maxLocals = 11 := hml0
  have hown : s.vm.findClass "java/lang/String" = some m.cls := findClass_of_methodNamed Bd.named
  have hnm := (name_of_methodNamed Bd.named Bd.method).1
  have hlk := Bd.notSynchronized
  have X0 : Stand p l e (⟨1, 4, 8, 12⟩ : Room) (s.setVm s.vm) m #[(.ref x0), (.ref a), (.ref yb), (.int of), (.int 0)] below meth c s₁ [] 0 0 := Stand.of_body Bd
  have e0 : s₁.heap = h0 := by rw [← hh, Bd.state]; rfl
  have N0 := Fr.nil n0
  have hS : s.Since s.vm 0 := (State.WarmedH.refl s).since 0
  have hk0 : 0 ≤ h0.size := Nat.zero_le _
  have wS := own_wS hw
  have C0 : CHr Z consts_1 s.vm h0 s.vm h0 := CHr.refl CH0
  have hEL := own_hEL hw
  refine own_startW (EL := consts_1) (Q := own_i14_Q Z x0 a yb of zCS fm cs h0 n0) (own_i14_ef m x0 a yb of) ?_
  have sf_x0 : Safe Z consts_1 s.vm h0 x0 := own_safeNull hZ.alike E_x V_x
  refine own_g (mkF m 1 #[.val (.ref x0), .val (.ref a), .val (.ref yb), .val (.int of), .val (.int 0), .unset, .unset, .unset, .unset, .unset, .unset] [(.ref x0)]) (fun _ q => XS.aloadN X0.here hx rfl (hb hby own_d14_0) rfl rfl q) ?_
  obtain ⟨T1, X1, e1, st1⟩ := initO X0 hx hZ hown (own_h hw 90 rfl) (own_h hw 11 rfl) (own_h hw 12 rfl) e0 (g := (mkF m 1 #[.val (.ref x0), .val (.ref a), .val (.ref yb), .val (.int of), .val (.int 0), .unset, .unset, .unset, .unset, .unset, .unset] [(.ref x0)])) rfl (by rw [hml]; rfl) rfl (hb hby own_d14_1) (by decide) (W := 0) (Nat.le_of_eq rfl) (by decide)
  refine own_by (g' := (mkF m 4 #[.val (.ref x0), .val (.ref a), .val (.ref yb), .val (.int of), .val (.int 0), .unset, .unset, .unset, .unset, .unset, .unset] [])) st1 ?_
  refine own_g (mkF m 10 #[.val (.ref x0), .val (.ref a), .val (.ref yb), .val (.int of), .val (.int 0), .unset, .unset, .unset, .unset, .unset, .unset] [(.ref x0)]) (fun _ q => XS.iload X1.here hx rfl (hb hby own_d14_4) rfl (XS.ifNo X1.here hx rfl (hb hby own_d14_6) rfl ((if0 _ _).trans (teq (by decide : (0 : Int32) = (0 : Int32))).2) (XS.aloadN X1.here hx rfl (hb hby own_d14_9) rfl rfl q))) ?_
  obtain ⟨a2, T2, h2, j2, b2, k2, X2, e2, E2, hS, hk2, hZ, hown, Ea2, Fc2, Fv2, Av2, -, -, CH2, -, Sf2, st2⟩ := ldcCH X1 hx hZ hown (own_h hw 91 rfl) wS e1 hS hk0 hEL (by decide) C0.1 (vs := []) (z := (0 : Int32)) ⟨by decide, by first | rfl | decide⟩ (by decide) (by decide) (g := (mkF m 10 #[.val (.ref x0), .val (.ref a), .val (.ref yb), .val (.int of), .val (.int 0), .unset, .unset, .unset, .unset, .unset, .unset] [(.ref x0)])) rfl (hb hby own_d14_10) (n := 0) (by decide) (by decide) (by decide) (by decide)
  have sf4 := CH2.safe E_x.lt sf_x0
  have C3 := C0.trans CH2
  have nl2_x0 := Sf2 x0 sf4
  refine own_by (g' := (mkF m 12 #[.val (.ref x0), .val (.ref a), .val (.ref yb), .val (.int of), .val (.int 0), .unset, .unset, .unset, .unset, .unset, .unset] [(.ref a2), (.ref x0)])) st2 ?_
  obtain ⟨T5, X5, e5, st5⟩ := getF X2 hx hZ hown (host := "") (Or.inl (own_h hw 96 rfl)) Via.refl e2 Fv2 (g := (mkF m 12 #[.val (.ref x0), .val (.ref a), .val (.ref yb), .val (.int of), .val (.int 0), .unset, .unset, .unset, .unset, .unset, .unset] [(.ref a2), (.ref x0)])) rfl rfl (hb hby own_d14_12)
  refine own_by (g' := (mkF m 15 #[.val (.ref x0), .val (.ref a), .val (.ref yb), .val (.int of), .val (.int 0), .unset, .unset, .unset, .unset, .unset, .unset] [(.ref b2), (.ref x0)])) st5 ?_
  have e6_x0 := (E_x.ext E2)
  have f7_x0 := (V_x.ext E2)
  obtain ⟨T8, h8, X8, e8, W8, st8⟩ := putF X5 hx hZ hown (host := "") (Or.inl (own_h hw 96 rfl)) Via.refl e5 f7_x0 e6_x0 (Or.inr ⟨(own_h hw 92 rfl), rfl, hnm⟩) (own_h hw 65 rfl) (ty := (.array .byte)) (by decide) (rfl) (rfl) (g := (mkF m 15 #[.val (.ref x0), .val (.ref a), .val (.ref yb), .val (.int of), .val (.int 0), .unset, .unset, .unset, .unset, .unset, .unset] [(.ref b2), (.ref x0)])) rfl rfl (hb hby own_d14_15)
  have Fw8 := f7_x0.same W8
  have C9 := C3.trans (CHr.wr W8 sf4 C3.1)
  have N8 := Fr.snoc X8 N0 g_x
  refine own_by (g' := (mkF m 18 #[.val (.ref x0), .val (.ref a), .val (.ref yb), .val (.int of), .val (.int 0), .unset, .unset, .unset, .unset, .unset, .unset] [])) st8 ?_
  refine own_g (mkF m 19 #[.val (.ref x0), .val (.ref a), .val (.ref yb), .val (.int of), .val (.int 0), .unset, .unset, .unset, .unset, .unset, .unset] [(.ref x0)]) (fun _ q => XS.aloadN X8.here hx rfl (hb hby own_d14_18) rfl rfl q) ?_
  have hk10_ := (Nat.le_trans hk2 (Keep.of_wr W8).1)
  obtain ⟨a11, T11, h11, j11, b11, k11, X11, e11, E11, hS, hk11, hZ, hown, Ea11, Fc11, Fv11, Av11, -, -, CH11, -, Sf11, st11⟩ := ldcCH X8 hx hZ hown (own_h hw 91 rfl) wS e8 hS hk10_ hEL (by decide) C9.1 (vs := []) (z := (0 : Int32)) ⟨by decide, by first | rfl | decide⟩ (by decide) (by decide) (g := (mkF m 19 #[.val (.ref x0), .val (.ref a), .val (.ref yb), .val (.int of), .val (.int 0), .unset, .unset, .unset, .unset, .unset, .unset] [(.ref x0)])) rfl (hb hby own_d14_19) (n := 0) (by decide) (by decide) (by decide) (by decide)
  have sf13_x0 := (Safe.wr W8 sf4 C3.1 sf4)
  have e15_x0 := (e6_x0.wr W8)
  have sf14 := CH11.safe e15_x0.lt sf13_x0
  have C12 := C9.trans CH11
  have nl11_x0 := Sf11 x0 sf14
  refine own_by (g' := (mkF m 21 #[.val (.ref x0), .val (.ref a), .val (.ref yb), .val (.int of), .val (.int 0), .unset, .unset, .unset, .unset, .unset, .unset] [(.ref a11), (.ref x0)])) st11 ?_
  obtain ⟨T16, X16, e16, st16⟩ := getF X11 hx hZ hown (host := "") (Or.inl (own_h hw 97 rfl)) Via.refl e11 Fc11 (g := (mkF m 21 #[.val (.ref x0), .val (.ref a), .val (.ref yb), .val (.int of), .val (.int 0), .unset, .unset, .unset, .unset, .unset, .unset] [(.ref a11), (.ref x0)])) rfl rfl (hb hby own_d14_21)
  refine own_by (g' := (mkF m 24 #[.val (.ref x0), .val (.ref a), .val (.ref yb), .val (.int of), .val (.int 0), .unset, .unset, .unset, .unset, .unset, .unset] [(.int 0), (.ref x0)])) st16 ?_
  have e17_x0 := (e15_x0.ext E11)
  have f18_x0 := (((C_x.ext E2).other W8 (Or.inr (slot_ne (Or.inr (own_h hw 93 rfl)) (Or.inr (own_h hw 92 rfl)) (by decide) (t := .byte) (t' := (.array .byte)) (by decide) (by decide)))).ext E11)
  obtain ⟨T19, h19, X19, e19, W19, st19⟩ := putFN X16 hx hZ hown (own_h hw 97 rfl) Via.refl e16 f18_x0 e17_x0 (Or.inr ⟨(own_h hw 93 rfl), rfl, hnm⟩) (own_h hw 65 rfl) (ty := .byte) (v' := (.int 0)) (by decide) rfl (by decide) (g := (mkF m 24 #[.val (.ref x0), .val (.ref a), .val (.ref yb), .val (.int of), .val (.int 0), .unset, .unset, .unset, .unset, .unset, .unset] [(.int 0), (.ref x0)])) rfl rfl (hb hby own_d14_24)
  have Fw19 := f18_x0.same W19
  have C20 := C12.trans (CHr.wr W19 sf14 C12.1)
  have N19 := Fr.snoc X19 N8 g_x
  refine own_by (g' := (mkF m 27 #[.val (.ref x0), .val (.ref a), .val (.ref yb), .val (.int of), .val (.int 0), .unset, .unset, .unset, .unset, .unset, .unset] [])) st19 ?_
  refine own_g (mkF m 879 #[.val (.ref x0), .val (.ref a), .val (.ref yb), .val (.int of), .val (.int 0), .unset, .unset, .unset, .unset, .unset, .unset] []) (fun _ q => XS.goto X19.here hx rfl (pc0 := 27) (pc' := 879) rfl (hb hby own_d14_27) (by decide) (by decide) q) ?_
  have e21_x0 := (e17_x0.wr W19)
  have f22_x0 := ((Fw8.ext E11).other W19 (Or.inr (slot_ne (Or.inr (own_h hw 92 rfl)) (Or.inr (own_h hw 93 rfl)) (by decide) (t := (.array .byte)) (t' := .byte) (by decide) (by decide))))
  have a23_b2 := (((Av2.other W8 (Ne.symm nl2_x0.2)).ext E11).other W19 (Ne.symm nl2_x0.2))
  have k24_ := (((((Keep.refl h0 [x0]).ext E2).wr W8 (Or.inl (List.mem_of_getElem? (i := 0) rfl))).ext E11).wr W19 (Or.inl (List.mem_of_getElem? (i := 0) rfl)))
  have hk25_ := (Nat.le_trans hk11 (Keep.of_wr W19).1)
  exact own_endW X19 hS (by rw [e19]; exact hk25_) hZ hEL (by rw [hh]; rw [e19]; exact C20) (v := none) (fun _ => rfl) hlk (fun hr => X19.returnOut hx Bd.returns (hb hby own_d14_879) hr) (by rw [e19]; exact ⟨rfl, N19, k24_, e21_x0, Fw19, b2, k2, nl2_x0.2, f22_x0, a23_b2⟩) (by decide) (by decide)
theorem own_d10_0 : decode jdk_42_method_10_code 0 = .ok (.aload_n 0, 1) := by decide +kernel
theorem own_d10_1 : decode jdk_42_method_10_code 1 = .ok (.aload 4, 2) := by decide +kernel
theorem own_d10_3 : decode jdk_42_method_10_code 3 = .ok (.invokestatic 78, 3) := by decide +kernel
theorem own_pd__28Ljava_2flang_2fObject_3b_29Ljava_2flang_2fObject_3b : parseMethodDescriptor "(Ljava/lang/Object;)Ljava/lang/Object;" = some ⟨[(.object "java/lang/Object")], some (.object "java/lang/Object")⟩ := by decide +kernel
theorem own_d10_6 : decode jdk_42_method_10_code 6 = .ok (.checkcast 84, 3) := by decide +kernel
theorem own_d10_9 : decode jdk_42_method_10_code 9 = .ok (.aload_n 1, 1) := by decide +kernel
theorem own_d10_10 : decode jdk_42_method_10_code 10 = .ok (.iload_n 2, 1) := by decide +kernel
theorem own_d10_11 : decode jdk_42_method_10_code 11 = .ok (.iload_n 3, 1) := by decide +kernel
theorem own_d10_12 : decode jdk_42_method_10_code 12 = .ok (.aload_n 1, 1) := by decide +kernel
theorem own_d10_13 : decode jdk_42_method_10_code 13 = .ok (.arraylength, 1) := by decide +kernel
theorem own_d10_14 : decode jdk_42_method_10_code 14 = .ok (.invokestatic 34, 3) := by decide +kernel
theorem own_pd__28III_29I : parseMethodDescriptor "(III)I" = some ⟨[.int, .int, .int], some .int⟩ := by decide +kernel
theorem own_d10_17 : decode jdk_42_method_10_code 17 = .ok (.iload_n 3, 1) := by decide +kernel
theorem own_d10_18 : decode jdk_42_method_10_code 18 = .ok (.invokespecial 75, 3) := by decide +kernel
theorem own_pd__28Ljava_2fnio_2fcharset_2fCharset_3b_5bBII_29V : parseMethodDescriptor "(Ljava/nio/charset/Charset;[BII)V" = some ⟨[(.object "java/nio/charset/Charset"), (.array .byte), .int, .int], none⟩ := by decide +kernel
theorem own_d10_21 : decode jdk_42_method_10_code 21 = .ok (.return_, 1) := by decide +kernel
theorem own_i10_ef (m : MethodId) (x0 : Addr) (yb : Addr) (of : Int32) (cs_ : Addr) : entryFrame m #[(.ref x0), (.ref yb), (.int of), (.int 0), (.ref cs_)] 5 = mkF m 0 #[.val (.ref x0), .val (.ref yb), .val (.int of), .val (.int 0), .val (.ref cs_)] [] := by  first | (simp [entryFrame, mkF, argsToLocals, Value.category]; done) | rfl
def own_i10_Q (Z : State) (x0 : Addr) (yb : Addr) (of : Int32) (cs_ : Addr) (ky : ClassId) (vs : List Value) (dv : Value) (zCS : Int32) (fm : Value) (cs : Addr) (h0 : Heap) (n0 : Nat) (v : Option Value) (h : Heap) (L : List Loc) : Prop := v = none ∧ Fr n0 L ∧ Keep h0 h [x0] ∧ Exa Z h x0 "java/lang/String" ∧ Fld Z h x0 "java/lang/String" "coder" "B" (.int 0) ∧ ∃ (t : Addr) (kb : ClassId), x0 ≠ t ∧ Fld Z h x0 "java/lang/String" "value" "[B" (.ref t) ∧ Arv Z h t kb .byte (0 : Int32) [] (.int 0)
set_option maxRecDepth 65536 in
set_option maxHeartbeats 40000000 in
theorem own_i10 (l : Launch) (Z : State) (a0 : Array Value) (hw : ∀ d ∈ tables_1, d.before a0 Z = true) (ws : List Jvm.Cond) (x0 : Addr) (yb : Addr) (of : Int32) (cs_ : Addr) (ky : ClassId) (vs : List Value) (dv : Value) (zCS : Int32) (fm : Value) (cs : Addr) (h0 : Heap) (n0 : Nat) (Z0 : n0 ≤ h0.size) (S_CS : own_A0 Z zCS) (nCS : ¬ zCS = 0) (S_SF : own_A2 Z fm) (hfm : fm.isRef = true) (S_UT : own_A1 Z cs) (S_IN : own_A3 Z cs) (E_cs : Exa Z Z.heap cs "sun/nio/cs/UTF_8") (O0 : Old Z n0 h0) (E_x : Exa Z h0 x0 "java/lang/String") (V_x : Fld Z h0 x0 "java/lang/String" "value" "[B" .null) (C_x : Fld Z h0 x0 "java/lang/String" "coder" "B" (.int 0)) (g_x : n0 ≤ x0) (hf1 : ¬ (((4 : Int32) ||| of) ||| (0 : Int32)) < (0 : Int32)) (hf2 : ¬ ((4 : Int32) - of) < (0 : Int32)) (E_c : Exa Z h0 cs_ "sun/nio/cs/UTF_8") (A_y : Arv Z h0 yb ky .byte (4 : Int32) vs dv) :
    MetFree l own_y13 (head1 (Jvm.Cond.code own_y13 jdk_42_method_10_code 5 none :: ws) (⟨2, 4, 8, 34⟩ : Room)) (fun aa U => aa = #[(.ref x0), (.ref yb), (.int of), (.int 0), (.ref cs_)] ∧ Z.Warmed39 U.vm ∧ U.heap = h0 ∧ CHv Z consts_1 U.vm h0) (fun _ _ _ _ _ => True) (fun _ U o U' => ∃ v L, o = .returned v ∧ own_i10_Q Z x0 yb of cs_ ky vs dv zCS fm cs h0 n0 v U'.heap L ∧ CHr Z consts_1 U.vm U.heap U'.vm U'.heap ∧ ReturnedEndW U o U' L (⟨2, 4, 8, 34⟩ : Room).cells (⟨2, 4, 8, 34⟩ : Room).slots) := by
  refine MetFree.of_bodySF (plainFor_of_name own_pn_java_lang_String) hisR ?_
  intro p e s m args below meth c s₁ Bd hml0 hP hK
  obtain ⟨rfl, hZ, hh, CH0⟩ := hP
  have hx := Bd.exec
  have hby := Bd.bytes
  have hml : c.maxLocals = 5 := hml0
  have hown : s.vm.findClass "java/lang/String" = some m.cls := findClass_of_methodNamed Bd.named
  have hnm := (name_of_methodNamed Bd.named Bd.method).1
  have hlk := Bd.notSynchronized
  have X0 : Stand p l e (⟨2, 4, 8, 34⟩ : Room) (s.setVm s.vm) m #[(.ref x0), (.ref yb), (.int of), (.int 0), (.ref cs_)] below meth c s₁ [] 0 0 := Stand.of_body Bd
  have e0 : s₁.heap = h0 := by rw [← hh, Bd.state]; rfl
  have N0 := Fr.nil n0
  have hS : s.Since s.vm 0 := (State.WarmedH.refl s).since 0
  have hk0 : 0 ≤ h0.size := Nat.zero_le _
  have wS := own_wS hw
  have C0 : CHr Z consts_1 s.vm h0 s.vm h0 := CHr.refl CH0
  have hEL := own_hEL hw
  refine own_startW (EL := consts_1) (Q := own_i10_Q Z x0 yb of cs_ ky vs dv zCS fm cs h0 n0) (own_i10_ef m x0 yb of cs_) ?_
  have sf_x0 : Safe Z consts_1 s.vm h0 x0 := own_safeNull hZ.alike E_x V_x
  refine own_g (mkF m 3 #[.val (.ref x0), .val (.ref yb), .val (.int of), .val (.int 0), .val (.ref cs_)] [(.ref cs_), (.ref x0)]) (fun _ q => XS.aloadN X0.here hx rfl (hb hby own_d10_0) rfl rfl (XS.aload X0.here hx rfl (hb hby own_d10_1) rfl rfl q)) ?_
  refine own_callS X0 hx hZ (y := (⟨"java/util/Objects", "requireNonNull", "(Ljava/lang/Object;)Ljava/lang/Object;"⟩ : MethodName)) hown (own_h hw 72 rfl) (own_h hw 73 rfl) (own_h hw 74 rfl) (own_h hw 75 rfl) (by decide) (own_rnn l Z a0 hw [] cs_ zCS fm cs h0 n0 (Nat.le_trans Z0 (Keep.refl h0 [x0]).1) S_CS nCS S_SF hfm S_UT S_IN E_cs O0 ) (by decide) (by decide) e0 (g := (mkF m 3 #[.val (.ref x0), .val (.ref yb), .val (.int of), .val (.int 0), .val (.ref cs_)] [(.ref cs_), (.ref x0)])) rfl (by rw [hml]; rfl) (argsL := [(.ref cs_)]) (rest := [(.ref x0)]) (lenOf own_pd__28Ljava_2flang_2fObject_3b_29Ljava_2flang_2fObject_3b rfl) rfl (W := 1) (Nat.le_of_eq rfl) (hb hby own_d10_3) rfl (by decide) (by decide) ?_
  rintro rv1 T1 L1 X1 ⟨rfl, Nq1, eh1⟩
  have N1 := Fr.app N0 Nq1
  show own_Fin p e below _ T1 (mkF m 6 #[.val (.ref x0), .val (.ref yb), .val (.int of), .val (.int 0), .val (.ref cs_)] [(.ref cs_), (.ref x0)])
  obtain ⟨T2, X2, e2, st2⟩ := castY X1 hx hZ hown (own_h hw 76 rfl) eh1 (Ins.of_exa E_c (own_h hw 77 rfl)) (g := (mkF m 6 #[.val (.ref x0), .val (.ref yb), .val (.int of), .val (.int 0), .val (.ref cs_)] [(.ref cs_), (.ref x0)])) rfl rfl (hb hby own_d10_6)
  refine own_by (g' := (mkF m 9 #[.val (.ref x0), .val (.ref yb), .val (.int of), .val (.int 0), .val (.ref cs_)] [(.ref cs_), (.ref x0)])) st2 ?_
  refine own_g (mkF m 13 #[.val (.ref x0), .val (.ref yb), .val (.int of), .val (.int 0), .val (.ref cs_)] [(.ref yb), (.int 0), (.int of), (.ref yb), (.ref cs_), (.ref x0)]) (fun _ q => XS.aloadN X2.here hx rfl (hb hby own_d10_9) rfl rfl (XS.iloadN X2.here hx rfl (hb hby own_d10_10) rfl (XS.iloadN X2.here hx rfl (hb hby own_d10_11) rfl (XS.aloadN X2.here hx rfl (hb hby own_d10_12) rfl rfl q)))) ?_
  obtain ⟨cl3, Ar3, q3, S3, P3, H3, G3⟩ := id A_y
  refine own_by (g' := (mkF m 14 #[.val (.ref x0), .val (.ref yb), .val (.int of), .val (.int 0), .val (.ref cs_)] [(.int 4), (.int 0), (.int of), (.ref yb), (.ref cs_), (.ref x0)])) (fun _ kq => X2.arraylength hx (by rw [e2]; exact Ar3.1) (State.isArrayOf_alike hZ.alike Ar3.2.1) (g := (mkF m 13 #[.val (.ref x0), .val (.ref yb), .val (.int of), .val (.int 0), .val (.ref cs_)] [(.ref yb), (.int 0), (.int of), (.ref yb), (.ref cs_), (.ref x0)])) rfl rfl (hb hby own_d10_13) _ (by rw [len_of S3 P3]; exact kq)) ?_
  refine own_callS X2 hx hZ (y := (⟨"java/lang/String", "checkBoundsOffCount", "(III)I"⟩ : MethodName)) hown (own_h hw 78 rfl) (own_h hw 79 rfl) (own_h hw 66 rfl) (own_h hw 80 rfl) (by decide) (own_boc l Z a0 hw [] of zCS fm cs h0 n0 (Nat.le_trans Z0 (Keep.refl h0 [x0]).1) S_CS nCS S_SF hfm S_UT S_IN E_cs O0 hf1 hf2) (by decide) (by decide) e2 (g := (mkF m 14 #[.val (.ref x0), .val (.ref yb), .val (.int of), .val (.int 0), .val (.ref cs_)] [(.int 4), (.int 0), (.int of), (.ref yb), (.ref cs_), (.ref x0)])) rfl (by rw [hml]; rfl) (argsL := [(.int of), (.int 0), (.int 4)]) (rest := [(.ref yb), (.ref cs_), (.ref x0)]) (lenOf own_pd__28III_29I rfl) rfl (W := 3) (Nat.le_of_eq rfl) (hb hby own_d10_14) rfl (by decide) (by decide) ?_
  rintro rv4 T4 L4 X4 ⟨rfl, Nq4, eh4⟩
  have N4 := Fr.app N1 Nq4
  refine own_g (mkF m 18 #[.val (.ref x0), .val (.ref yb), .val (.int of), .val (.int 0), .val (.ref cs_)] [(.int 0), (.int of), (.ref yb), (.ref cs_), (.ref x0)]) (fun _ q => XS.iloadN X4.here hx rfl (hb hby own_d10_17) rfl q) ?_
  refine own_callIWH X4 hx hZ (y := (⟨"java/lang/String", "<init>", "(Ljava/nio/charset/Charset;[BII)V"⟩ : MethodName)) rfl hown (own_h hw 86 rfl) (own_h hw 87 rfl) (own_h hw 89 rfl) (own_h hw 66 rfl) (by decide) hS hk0 hEL C0.1 (own_i14 l Z a0 hw [] x0 cs_ yb of zCS fm cs h0 n0 (Nat.le_trans Z0 (Keep.refl h0 [x0]).1) S_CS nCS S_SF hfm S_UT S_IN E_cs O0 E_x V_x C_x g_x) (by decide) (by decide) eh4 (g := (mkF m 18 #[.val (.ref x0), .val (.ref yb), .val (.int of), .val (.int 0), .val (.ref cs_)] [(.int 0), (.int of), (.ref yb), (.ref cs_), (.ref x0)])) rfl (by rw [hml]; rfl) (argsL := [(.ref cs_), (.ref yb), (.int of), (.int 0)]) (rest := []) (lenOf own_pd__28Ljava_2fnio_2fcharset_2fCharset_3b_5bBII_29V rfl) rfl (W := 0) (Nat.le_of_eq rfl) (hb hby own_d10_18) rfl (by decide) (by decide) ?_
  rintro rv5 T5 L5 X5 hS hZ hown CH5 ⟨rfl, Nq5, Kq5, Eq5, Cq5, tq5, kq5, nq5, Vq5, Aq5⟩
  have N5 := Fr.app N4 Nq5
  show own_Fin p e below _ T5 (mkF m 21 #[.val (.ref x0), .val (.ref yb), .val (.int of), .val (.int 0), .val (.ref cs_)] [])
  have sf7 := CH5.safe E_x.lt sf_x0
  have C6 := C0.trans CH5
  have k8_ := ((Keep.refl h0 [x0]).trans Kq5 (allS (Or.inl (List.mem_of_getElem? (i := 0) rfl)) all0))
  exact own_endW X5 hS (by exact (Nat.le_refl _)) hZ hEL (by rw [hh]; exact C6) (v := none) (fun _ => rfl) hlk (fun hr => X5.returnOut hx Bd.returns (hb hby own_d10_21) hr) (by exact ⟨rfl, N5, k8_, Eq5, Cq5, tq5, kq5, nq5, Vq5, Aq5⟩) (by decide) (by decide)
theorem own_arrNe {Z : State} {h : Heap} {a : Addr} {k k' : ClassId} {n n' : Int32} {vs vs' : List Value} {d d' : Value} (A : Arv Z h a k (.object "java/lang/String") n vs d) (B : Arv Z h a k' .byte n' vs' d') : False := by
  obtain ⟨c, A1, -⟩ := A
  obtain ⟨c', B1, -⟩ := B
  cases A1.1.symm.trans B1.1
  obtain ⟨-, k1, x1, y1, z1⟩ := A1.2.1
  obtain ⟨-, k2, x2, y2, z2⟩ := B1.2.1
  cases x1.symm.trans x2
  rw [z1] at z2
  cases z2
theorem own_d9_0 : decode prog_10_method_3_code 0 = .ok (.aload_n 0, 1) := by decide +kernel
theorem own_d9_1 : decode prog_10_method_3_code 1 = .ok (.getfield 9, 3) := by decide +kernel
theorem own_d9_4 : decode prog_10_method_3_code 4 = .ok (.iload_n 1, 1) := by decide +kernel
theorem own_d9_5 : decode prog_10_method_3_code 5 = .ok (.aaload, 1) := by decide +kernel
theorem own_d9_6 : decode prog_10_method_3_code 6 = .ok (.ifnonnull 46, 3) := by decide +kernel
theorem own_d9_9 : decode prog_10_method_3_code 9 = .ok (.aload_n 0, 1) := by decide +kernel
theorem own_d9_10 : decode prog_10_method_3_code 10 = .ok (.getfield 17, 3) := by decide +kernel
theorem own_d9_13 : decode prog_10_method_3_code 13 = .ok (.iload_n 1, 1) := by decide +kernel
theorem own_d9_14 : decode prog_10_method_3_code 14 = .ok (.aaload, 1) := by decide +kernel
theorem own_d9_15 : decode prog_10_method_3_code 15 = .ok (.ifnull 37, 3) := by decide +kernel
theorem own_d9_18 : decode prog_10_method_3_code 18 = .ok (.aload_n 0, 1) := by decide +kernel
theorem own_d9_19 : decode prog_10_method_3_code 19 = .ok (.getfield 9, 3) := by decide +kernel
theorem own_d9_22 : decode prog_10_method_3_code 22 = .ok (.iload_n 1, 1) := by decide +kernel
theorem own_d9_23 : decode prog_10_method_3_code 23 = .ok (.new 7, 3) := by decide +kernel
theorem own_d9_26 : decode prog_10_method_3_code 26 = .ok (.dup, 1) := by decide +kernel
theorem own_d9_27 : decode prog_10_method_3_code 27 = .ok (.aload_n 0, 1) := by decide +kernel
theorem own_d9_28 : decode prog_10_method_3_code 28 = .ok (.getfield 17, 3) := by decide +kernel
theorem own_d9_31 : decode prog_10_method_3_code 31 = .ok (.iload_n 1, 1) := by decide +kernel
theorem own_d9_32 : decode prog_10_method_3_code 32 = .ok (.aaload, 1) := by decide +kernel
theorem own_d9_33 : decode prog_10_method_3_code 33 = .ok (.aload_n 0, 1) := by decide +kernel
theorem own_d9_34 : decode prog_10_method_3_code 34 = .ok (.getfield 21, 3) := by decide +kernel
theorem own_d9_37 : decode prog_10_method_3_code 37 = .ok (.iload_n 1, 1) := by decide +kernel
theorem own_d9_38 : decode prog_10_method_3_code 38 = .ok (.iaload, 1) := by decide +kernel
theorem own_d9_39 : decode prog_10_method_3_code 39 = .ok (.aload_n 0, 1) := by decide +kernel
theorem own_d9_40 : decode prog_10_method_3_code 40 = .ok (.getfield 25, 3) := by decide +kernel
theorem own_d9_43 : decode prog_10_method_3_code 43 = .ok (.iload_n 1, 1) := by decide +kernel
theorem own_d9_44 : decode prog_10_method_3_code 44 = .ok (.iaload, 1) := by decide +kernel
theorem own_d9_45 : decode prog_10_method_3_code 45 = .ok (.getstatic 32, 3) := by decide +kernel
theorem own_d9_48 : decode prog_10_method_3_code 48 = .ok (.invokespecial 38, 3) := by decide +kernel
theorem own_pd__28_5bBIILjava_2fnio_2fcharset_2fCharset_3b_29V : parseMethodDescriptor "([BIILjava/nio/charset/Charset;)V" = some ⟨[(.array .byte), .int, .int, (.object "java/nio/charset/Charset")], none⟩ := by decide +kernel
theorem own_d9_51 : decode prog_10_method_3_code 51 = .ok (.aastore, 1) := by decide +kernel
theorem own_d9_52 : decode prog_10_method_3_code 52 = .ok (.aload_n 0, 1) := by decide +kernel
theorem own_d9_53 : decode prog_10_method_3_code 53 = .ok (.getfield 9, 3) := by decide +kernel
theorem own_d9_56 : decode prog_10_method_3_code 56 = .ok (.iload_n 1, 1) := by decide +kernel
theorem own_d9_57 : decode prog_10_method_3_code 57 = .ok (.aaload, 1) := by decide +kernel
theorem own_d9_58 : decode prog_10_method_3_code 58 = .ok (.areturn, 1) := by decide +kernel
theorem own_text_0_ef (m : MethodId) (r : Addr) : entryFrame m #[(.ref r), (.int 0)] 2 = mkF m 0 #[.val (.ref r), .val (.int 0)] [] := by  first | (simp [entryFrame, mkF, argsToLocals, Value.category]; done) | rfl
def own_text_0_Q (Z : State) (r : Addr) (tx : Addr) (u8 : Addr) (ofs : Addr) (les : Addr) (un : Addr) (kt : ClassId) (ku : ClassId) (ko : ClassId) (kl : ClassId) (kn : ClassId) (t1 : Value) (bb : Value) (o1 : Int32) (l1 : Int32) (m1 : Int32) (yb : Addr) (ky : ClassId) (b0 : Int32) (b1 : Int32) (b2 : Int32) (b3 : Int32) (on : Nat) (ln : Nat) (zCS : Int32) (fm : Value) (cs : Addr) (h0 : Heap) (n0 : Nat) (v : Option Value) (h : Heap) (L : List Loc) : Prop := ∃ (t tb : Addr) (kx : ClassId), v = some (.ref t) ∧ Fr n0 L ∧ Keep h0 h [tx] ∧ Exa Z h t "java/lang/String" ∧ Fld Z h t "java/lang/String" "value" "[B" (.ref tb) ∧ Fld Z h t "java/lang/String" "coder" "B" (.int 0) ∧ Arv Z h tb kx .byte (Int32.ofNat ln) (((([b0, b1, b2, b3] : List Int32).drop on).take ln).map Value.int) (.int 0) ∧ own_Row Z h r tx u8 ofs les un kt ku ko kl kn (.ref t) t1 (.ref yb) bb (Int32.ofNat on) o1 (Int32.ofNat ln) l1 (0 : Int32) m1
set_option maxRecDepth 65536 in
set_option maxHeartbeats 40000000 in
theorem own_text_0 (l : Launch) (Z : State) (a0 : Array Value) (hw : ∀ d ∈ tables_1, d.before a0 Z = true) (ws : List Jvm.Cond) (r : Addr) (tx : Addr) (u8 : Addr) (ofs : Addr) (les : Addr) (un : Addr) (kt : ClassId) (ku : ClassId) (ko : ClassId) (kl : ClassId) (kn : ClassId) (t1 : Value) (bb : Value) (o1 : Int32) (l1 : Int32) (m1 : Int32) (yb : Addr) (ky : ClassId) (b0 : Int32) (b1 : Int32) (b2 : Int32) (b3 : Int32) (on : Nat) (ln : Nat) (zCS : Int32) (fm : Value) (cs : Addr) (h0 : Heap) (n0 : Nat) (Z0 : n0 ≤ h0.size) (S_CS : own_A0 Z zCS) (nCS : ¬ zCS = 0) (S_SF : own_A2 Z fm) (hfm : fm.isRef = true) (S_UT : own_A1 Z cs) (S_IN : own_A3 Z cs) (E_cs : Exa Z Z.heap cs "sun/nio/cs/UTF_8") (O0 : Old Z n0 h0) (ht1 : t1.isRef = true) (hbb : bb.isRef = true) (RA : own_RowA Z n0 r tx u8 ofs les un kt ku ko kl kn) (RW : own_Row Z h0 r tx u8 ofs les un kt ku ko kl kn .null t1 (.ref yb) bb (Int32.ofNat on) o1 (Int32.ofNat ln) l1 (0 : Int32) m1) (A_y : Arv Z h0 yb ky .byte (4 : Int32) [(.int b0), (.int b1), (.int b2), (.int b3)] (.int 0)) (E_y : Exa Z h0 yb "[B") (U_y : Unt h0 yb) (hl0 : 0 < ln) (hl1 : on + ln ≤ 4) (hp : ∀ c ∈ ([b0, b1, b2, b3] : List Int32), ¬ c < 0) :
    MetFree l own_y6 (head1 (Jvm.Cond.code own_y6 prog_10_method_3_code 2 (some (.object "java/lang/String")) :: ws) (⟨5, 2, 8, 112⟩ : Room)) (fun aa U => aa = #[(.ref r), (.int 0)] ∧ Z.Warmed39 U.vm ∧ U.heap = h0) (fun _ _ _ _ _ => True) (fun _ U o U' => ∃ v L, o = .returned v ∧ own_text_0_Q Z r tx u8 ofs les un kt ku ko kl kn t1 bb o1 l1 m1 yb ky b0 b1 b2 b3 on ln zCS fm cs h0 n0 v U'.heap L ∧ FrameEnd U o U' L (⟨5, 2, 8, 112⟩ : Room).cells (⟨5, 2, 8, 112⟩ : Room).slots) := by
  refine MetFree.of_bodySF (plainFor_of_name own_pn_com_example_rowtide_rowtide_event_Row) hisR ?_
  intro p e s m args below meth c s₁ Bd hml0 hP hK
  obtain ⟨rfl, hZ, hh⟩ := hP
  have hx := Bd.exec
  have hby := Bd.bytes
  have hml : c.maxLocals = 2 := hml0
  have hown : s.vm.findClass "com/example/rowtide/rowtide/event/Row" = some m.cls := findClass_of_methodNamed Bd.named
  have hnm := (name_of_methodNamed Bd.named Bd.method).1
  have hlk := Bd.notSynchronized
  have X0 : Stand p l e (⟨5, 2, 8, 112⟩ : Room) s m #[(.ref r), (.int 0)] below meth c s₁ [] 0 0 := Stand.of_body Bd
  have e0 : s₁.heap = h0 := by rw [← hh, Bd.state]; rfl
  have N0 := Fr.nil n0
  refine own_start (Q := own_text_0_Q Z r tx u8 ofs les un kt ku ko kl kn t1 bb o1 l1 m1 yb ky b0 b1 b2 b3 on ln zCS fm cs h0 n0) (own_text_0_ef m r) ?_
  obtain ⟨OvT, OvU, g_tx, g_u8, g_ofs, g_les, g_un, ne_r_tx, ne_r_u8, ne_r_ofs, ne_r_les, ne_r_un, ne_tx_u8, ne_tx_ofs, ne_tx_les, ne_tx_un, ne_u8_ofs, ne_u8_les, ne_u8_un, ne_ofs_les, ne_ofs_un, ne_les_un⟩ := RA
  obtain ⟨E_r, F_texts, F_utf8, F_utf8Offsets, F_utf8Lengths, F_unavailable, A_tx, A_u8, A_ofs, A_les, A_un⟩ := RW
  refine own_g (mkF m 1 #[.val (.ref r), .val (.int 0)] [(.ref r)]) (fun _ q => XS.aloadN X0.here hx rfl (hb hby own_d9_0) rfl rfl q) ?_
  obtain ⟨T1, X1, e1, st1⟩ := getF X0 hx hZ hown (host := "") (Or.inl (own_h hw 15 rfl)) Via.refl e0 F_texts (g := (mkF m 1 #[.val (.ref r), .val (.int 0)] [(.ref r)])) rfl rfl (hb hby own_d9_1)
  refine own_by (g' := (mkF m 4 #[.val (.ref r), .val (.int 0)] [(.ref tx)])) st1 ?_
  refine own_g (mkF m 5 #[.val (.ref r), .val (.int 0)] [(.int 0), (.ref tx)]) (fun _ q => XS.iloadN X1.here hx rfl (hb hby own_d9_4) rfl q) ?_
  obtain ⟨cl2, Ar2, q2, S2, P2, H2, G2⟩ := id A_tx
  have hin2 : ¬ ((0 : Int32) < 0 ∨ cl2.slots.size ≤ ((0 : Int32)).toNatClampNeg) := inb_of S2 ⟨by decide, by decide⟩
  refine own_by (g' := (mkF m 6 #[.val (.ref r), .val (.int 0)] [.null])) (fun _ kq => X1.aaload hx (j := (0 : Int32)) (v := .null) (by rw [e1]; exact Ar2.1) (State.isArrayOf_alike hZ.alike Ar2.2.1) rfl Ar2.2.2 hin2 (H2.at hin2 rfl) (g := (mkF m 5 #[.val (.ref r), .val (.int 0)] [(.int 0), (.ref tx)])) rfl rfl (hb hby own_d9_5) _ kq) ?_
  refine own_g (mkF m 10 #[.val (.ref r), .val (.int 0)] [(.ref r)]) (fun _ q => XS.ifnonnullNo X1.here hx rfl (hb hby own_d9_6) rfl (XS.aloadN X1.here hx rfl (hb hby own_d9_9) rfl rfl q)) ?_
  obtain ⟨T3, X3, e3, st3⟩ := getF X1 hx hZ hown (host := "") (Or.inl (own_h hw 19 rfl)) Via.refl e1 F_utf8 (g := (mkF m 10 #[.val (.ref r), .val (.int 0)] [(.ref r)])) rfl rfl (hb hby own_d9_10)
  refine own_by (g' := (mkF m 13 #[.val (.ref r), .val (.int 0)] [(.ref u8)])) st3 ?_
  refine own_g (mkF m 14 #[.val (.ref r), .val (.int 0)] [(.int 0), (.ref u8)]) (fun _ q => XS.iloadN X3.here hx rfl (hb hby own_d9_13) rfl q) ?_
  obtain ⟨cl4, Ar4, q4, S4, P4, H4, G4⟩ := id A_u8
  have hin4 : ¬ ((0 : Int32) < 0 ∨ cl4.slots.size ≤ ((0 : Int32)).toNatClampNeg) := inb_of S4 ⟨by decide, by decide⟩
  refine own_by (g' := (mkF m 15 #[.val (.ref r), .val (.int 0)] [(.ref yb)])) (fun _ kq => X3.aaload hx (j := (0 : Int32)) (v := (.ref yb)) (by rw [e3]; exact Ar4.1) (State.isArrayOf_alike hZ.alike Ar4.2.1) rfl Ar4.2.2 hin4 (H4.at hin4 rfl) (g := (mkF m 14 #[.val (.ref r), .val (.int 0)] [(.int 0), (.ref u8)])) rfl rfl (hb hby own_d9_14) _ kq) ?_
  refine own_g (mkF m 19 #[.val (.ref r), .val (.int 0)] [(.ref r)]) (fun _ q => XS.ifnullNo X3.here hx rfl (hb hby own_d9_15) rfl (XS.aloadN X3.here hx rfl (hb hby own_d9_18) rfl rfl q)) ?_
  obtain ⟨T5, X5, e5, st5⟩ := getF X3 hx hZ hown (host := "") (Or.inl (own_h hw 15 rfl)) Via.refl e3 F_texts (g := (mkF m 19 #[.val (.ref r), .val (.int 0)] [(.ref r)])) rfl rfl (hb hby own_d9_19)
  refine own_by (g' := (mkF m 22 #[.val (.ref r), .val (.int 0)] [(.ref tx)])) st5 ?_
  refine own_g (mkF m 23 #[.val (.ref r), .val (.int 0)] [(.int 0), (.ref tx)]) (fun _ q => XS.iloadN X5.here hx rfl (hb hby own_d9_22) rfl q) ?_
  obtain ⟨T6, h6, X6, e6, E6, A6, D6, U6, st6⟩ := newO X5 hx hZ hown (own_h hw 13 rfl) (own_h hw 65 rfl) (own_h hw 66 rfl) e5 (g := (mkF m 23 #[.val (.ref r), .val (.int 0)] [(.int 0), (.ref tx)])) rfl (hb hby own_d9_23) (by decide) (by decide)
  obtain ⟨b6, g6⟩ : ∃ z, z = h0.size := ⟨_, rfl⟩
  rw [← g6] at A6 D6 U6 st6
  have g_b6 : n0 ≤ b6 := Nat.le_trans (Nat.le_trans Z0 (Keep.refl h0 [tx]).1) (Nat.le_of_eq g6.symm)
  have sz_b6 : h0.size ≤ b6 := Nat.le_trans (Keep.refl h0 [tx]).1 (Nat.le_of_eq g6.symm)
  have ne_r_b6 : r ≠ b6 := Nat.ne_of_lt (Nat.lt_of_lt_of_le E_r.lt (Nat.le_of_eq g6.symm))
  have ne_tx_b6 : tx ≠ b6 := Nat.ne_of_lt (Nat.lt_of_lt_of_le A_tx.lt (Nat.le_of_eq g6.symm))
  have ne_u8_b6 : u8 ≠ b6 := Nat.ne_of_lt (Nat.lt_of_lt_of_le A_u8.lt (Nat.le_of_eq g6.symm))
  have ne_ofs_b6 : ofs ≠ b6 := Nat.ne_of_lt (Nat.lt_of_lt_of_le A_ofs.lt (Nat.le_of_eq g6.symm))
  have ne_les_b6 : les ≠ b6 := Nat.ne_of_lt (Nat.lt_of_lt_of_le A_les.lt (Nat.le_of_eq g6.symm))
  have ne_un_b6 : un ≠ b6 := Nat.ne_of_lt (Nat.lt_of_lt_of_le A_un.lt (Nat.le_of_eq g6.symm))
  have ne_yb_b6 : yb ≠ b6 := Nat.ne_of_lt (Nat.lt_of_lt_of_le A_y.lt (Nat.le_of_eq g6.symm))
  have ne_cs_b6 : cs ≠ b6 := Nat.ne_of_lt (Nat.lt_of_lt_of_le (E_cs.ext O0.2).lt (Nat.le_of_eq g6.symm))
  have F_value_b6 : Fld Z h6 b6 "java/lang/String" "value" "[B" .null := D6 (Or.inr (own_h hw 92 rfl)) (ty := (.array .byte)) (by decide)
  have F_coder_b6 : Fld Z h6 b6 "java/lang/String" "coder" "B" (.int 0) := D6 (Or.inr (own_h hw 93 rfl)) (ty := .byte) (by decide)
  refine own_by (g' := (mkF m 26 #[.val (.ref r), .val (.int 0)] [(.ref b6), (.int 0), (.ref tx)])) st6 ?_
  refine own_g (mkF m 28 #[.val (.ref r), .val (.int 0)] [(.ref r), (.ref b6), (.ref b6), (.int 0), (.ref tx)]) (fun _ q => XS.dup X6.here hx rfl (hb hby own_d9_26) rfl rfl (XS.aloadN X6.here hx rfl (hb hby own_d9_27) rfl rfl q)) ?_
  have f7_r := (F_utf8.ext E6)
  obtain ⟨T8, X8, e8, st8⟩ := getF X6 hx hZ hown (host := "") (Or.inl (own_h hw 19 rfl)) Via.refl e6 f7_r (g := (mkF m 28 #[.val (.ref r), .val (.int 0)] [(.ref r), (.ref b6), (.ref b6), (.int 0), (.ref tx)])) rfl rfl (hb hby own_d9_28)
  refine own_by (g' := (mkF m 31 #[.val (.ref r), .val (.int 0)] [(.ref u8), (.ref b6), (.ref b6), (.int 0), (.ref tx)])) st8 ?_
  refine own_g (mkF m 32 #[.val (.ref r), .val (.int 0)] [(.int 0), (.ref u8), (.ref b6), (.ref b6), (.int 0), (.ref tx)]) (fun _ q => XS.iloadN X8.here hx rfl (hb hby own_d9_31) rfl q) ?_
  have a9_u8 := (A_u8.ext E6)
  obtain ⟨cl10, Ar10, q10, S10, P10, H10, G10⟩ := id a9_u8
  have hin10 : ¬ ((0 : Int32) < 0 ∨ cl10.slots.size ≤ ((0 : Int32)).toNatClampNeg) := inb_of S10 ⟨by decide, by decide⟩
  refine own_by (g' := (mkF m 33 #[.val (.ref r), .val (.int 0)] [(.ref yb), (.ref b6), (.ref b6), (.int 0), (.ref tx)])) (fun _ kq => X8.aaload hx (j := (0 : Int32)) (v := (.ref yb)) (by rw [e8]; exact Ar10.1) (State.isArrayOf_alike hZ.alike Ar10.2.1) rfl Ar10.2.2 hin10 (H10.at hin10 rfl) (g := (mkF m 32 #[.val (.ref r), .val (.int 0)] [(.int 0), (.ref u8), (.ref b6), (.ref b6), (.int 0), (.ref tx)])) rfl rfl (hb hby own_d9_32) _ kq) ?_
  refine own_g (mkF m 34 #[.val (.ref r), .val (.int 0)] [(.ref r), (.ref yb), (.ref b6), (.ref b6), (.int 0), (.ref tx)]) (fun _ q => XS.aloadN X8.here hx rfl (hb hby own_d9_33) rfl rfl q) ?_
  have f11_r := (F_utf8Offsets.ext E6)
  obtain ⟨T12, X12, e12, st12⟩ := getF X8 hx hZ hown (host := "") (Or.inl (own_h hw 22 rfl)) Via.refl e8 f11_r (g := (mkF m 34 #[.val (.ref r), .val (.int 0)] [(.ref r), (.ref yb), (.ref b6), (.ref b6), (.int 0), (.ref tx)])) rfl rfl (hb hby own_d9_34)
  refine own_by (g' := (mkF m 37 #[.val (.ref r), .val (.int 0)] [(.ref ofs), (.ref yb), (.ref b6), (.ref b6), (.int 0), (.ref tx)])) st12 ?_
  refine own_g (mkF m 38 #[.val (.ref r), .val (.int 0)] [(.int 0), (.ref ofs), (.ref yb), (.ref b6), (.ref b6), (.int 0), (.ref tx)]) (fun _ q => XS.iloadN X12.here hx rfl (hb hby own_d9_37) rfl q) ?_
  have a13_ofs := (A_ofs.ext E6)
  obtain ⟨cl14, Ar14, q14, S14, P14, H14, G14⟩ := id a13_ofs
  have hin14 : ¬ ((0 : Int32) < 0 ∨ cl14.slots.size ≤ ((0 : Int32)).toNatClampNeg) := inb_of S14 ⟨by decide, by decide⟩
  refine own_by (g' := (mkF m 39 #[.val (.ref r), .val (.int 0)] [(.int (Int32.ofNat on)), (.ref yb), (.ref b6), (.ref b6), (.int 0), (.ref tx)])) (fun _ kq => X12.iaload hx (j := (0 : Int32)) (v := (.int (Int32.ofNat on))) (by rw [e12]; exact Ar14.1) (State.isArrayOf_alike hZ.alike Ar14.2.1) Ar14.2.2 hin14 (H14.at hin14 rfl) (g := (mkF m 38 #[.val (.ref r), .val (.int 0)] [(.int 0), (.ref ofs), (.ref yb), (.ref b6), (.ref b6), (.int 0), (.ref tx)])) rfl rfl (hb hby own_d9_38) _ kq) ?_
  refine own_g (mkF m 40 #[.val (.ref r), .val (.int 0)] [(.ref r), (.int (Int32.ofNat on)), (.ref yb), (.ref b6), (.ref b6), (.int 0), (.ref tx)]) (fun _ q => XS.aloadN X12.here hx rfl (hb hby own_d9_39) rfl rfl q) ?_
  have f15_r := (F_utf8Lengths.ext E6)
  obtain ⟨T16, X16, e16, st16⟩ := getF X12 hx hZ hown (host := "") (Or.inl (own_h hw 24 rfl)) Via.refl e12 f15_r (g := (mkF m 40 #[.val (.ref r), .val (.int 0)] [(.ref r), (.int (Int32.ofNat on)), (.ref yb), (.ref b6), (.ref b6), (.int 0), (.ref tx)])) rfl rfl (hb hby own_d9_40)
  refine own_by (g' := (mkF m 43 #[.val (.ref r), .val (.int 0)] [(.ref les), (.int (Int32.ofNat on)), (.ref yb), (.ref b6), (.ref b6), (.int 0), (.ref tx)])) st16 ?_
  refine own_g (mkF m 44 #[.val (.ref r), .val (.int 0)] [(.int 0), (.ref les), (.int (Int32.ofNat on)), (.ref yb), (.ref b6), (.ref b6), (.int 0), (.ref tx)]) (fun _ q => XS.iloadN X16.here hx rfl (hb hby own_d9_43) rfl q) ?_
  have a17_les := (A_les.ext E6)
  obtain ⟨cl18, Ar18, q18, S18, P18, H18, G18⟩ := id a17_les
  have hin18 : ¬ ((0 : Int32) < 0 ∨ cl18.slots.size ≤ ((0 : Int32)).toNatClampNeg) := inb_of S18 ⟨by decide, by decide⟩
  refine own_by (g' := (mkF m 45 #[.val (.ref r), .val (.int 0)] [(.int (Int32.ofNat ln)), (.int (Int32.ofNat on)), (.ref yb), (.ref b6), (.ref b6), (.int 0), (.ref tx)])) (fun _ kq => X16.iaload hx (j := (0 : Int32)) (v := (.int (Int32.ofNat ln))) (by rw [e16]; exact Ar18.1) (State.isArrayOf_alike hZ.alike Ar18.2.1) Ar18.2.2 hin18 (H18.at hin18 rfl) (g := (mkF m 44 #[.val (.ref r), .val (.int 0)] [(.int 0), (.ref les), (.int (Int32.ofNat on)), (.ref yb), (.ref b6), (.ref b6), (.int 0), (.ref tx)])) rfl rfl (hb hby own_d9_44) _ kq) ?_
  have o19_ := (O0.ext E6)
  obtain ⟨T20, X20, e20, st20⟩ := getS2 X16 hx hZ hown (host := "") (Or.inl (own_h hw 67 rfl)) Via.refl e16 (S_UT.ext o19_.2) (g := (mkF m 45 #[.val (.ref r), .val (.int 0)] [(.int (Int32.ofNat ln)), (.int (Int32.ofNat on)), (.ref yb), (.ref b6), (.ref b6), (.int 0), (.ref tx)])) rfl (hb hby own_d9_45)
  refine own_by (g' := (mkF m 48 #[.val (.ref r), .val (.int 0)] [(.ref cs), (.int (Int32.ofNat ln)), (.int (Int32.ofNat on)), (.ref yb), (.ref b6), (.ref b6), (.int 0), (.ref tx)])) st20 ?_
  have a21_tx := (A_tx.ext E6)
  have k22_ := ((Keep.refl h0 [tx]).ext E6)
  have a23_yb := (A_y.ext E6)
  have e24_yb := (E_y.ext E6)
  have x25_yb := (Unt.ext E6 U_y)
  have e26_cs := ((E_cs.ext O0.2).ext E6)
  refine own_callIB X20 hx hZ (y := own_y13) rfl hown (own_h hw 69 rfl) (own_h hw 70 rfl) (own_h hw 71 rfl)  (by decide) (OwnU8.back (W := 3) hZ hw (kI := 4) (own_h hw 65 rfl) (bs := ([b0, b1, b2, b3] : List Int32)) (on := on) (ln := ln) g_b6 (Nat.le_trans Z0 k22_.1) A6 F_value_b6 F_coder_b6 a23_yb e24_yb x25_yb (S_CS.ext o19_.2) nCS (S_IN.ext o19_.2) e26_cs (S_SF.ext o19_.2) hfm rfl hl0 hl1 hp (by decide) (by decide)) e20 (g := (mkF m 48 #[.val (.ref r), .val (.int 0)] [(.ref cs), (.int (Int32.ofNat ln)), (.int (Int32.ofNat on)), (.ref yb), (.ref b6), (.ref b6), (.int 0), (.ref tx)])) rfl (by rw [hml]; rfl) (argsL := [(.ref yb), (.int (Int32.ofNat on)), (.int (Int32.ofNat ln)), (.ref cs)]) (rest := [(.ref b6), (.int 0), (.ref tx)]) (lenOf own_pd__28_5bBIILjava_2fnio_2fcharset_2fCharset_3b_29V rfl) rfl (W := 3) (Nat.le_of_eq rfl) (hb hby own_d9_48) rfl (by decide) (by decide) ?_
  rintro rv27 T27 L27 X27 ⟨rfl, Nq27, Kq27, Eq27, Cq27, tq, kq_, u127, u227, u327, Vq27, Aq27⟩
  have N27 := Fr.app N0 Nq27
  show own_Fin p e below _ T27 (mkF m 51 #[.val (.ref r), .val (.int 0)] [(.ref b6), (.int 0), (.ref tx)])
  have ne_tx_tq : tx ≠ tq := Nat.ne_of_lt (Nat.lt_of_lt_of_le a21_tx.lt u227)
  have a28_tx := (a21_tx.keep Kq27 (ninS ne_tx_b6 nin0))
  obtain ⟨cl29, Ar29, q29, S29, P29, H29, G29⟩ := id a28_tx
  have hin29 : ¬ ((0 : Int32) < 0 ∨ cl29.slots.size ≤ ((0 : Int32)).toNatClampNeg) := inb_of S29 ⟨by decide, by decide⟩
  obtain ⟨T30, h30, X30, e30, W30, st30⟩ := stR X27 hx hZ rfl Ar29 (j := (0 : Int32)) hin29 rfl (Sto.ofV Ar29 q29 OvT (Ins.self Eq27)) (g := (mkF m 51 #[.val (.ref r), .val (.int 0)] [(.ref b6), (.int 0), (.ref tx)])) rfl rfl (hb hby own_d9_51)
  have V30 : Arv Z h30 tx kt (.object "java/lang/String") (2 : Int32) [(.ref b6), t1] .null := Arv.set Ar29 q29 S29 P29 H29 G29 (own_fitsR rfl rfl) W30 0 rfl (Nat.le_of_ble_eq_true rfl)
  have N30 := Fr.snoc X30 N27 g_tx
  refine own_by (g' := (mkF m 52 #[.val (.ref r), .val (.int 0)] [])) st30 ?_
  refine own_g (mkF m 53 #[.val (.ref r), .val (.int 0)] [(.ref r)]) (fun _ q => XS.aloadN X30.here hx rfl (hb hby own_d9_52) rfl rfl q) ?_
  have f31_r := (((F_texts.ext E6).keep Kq27 (ninS ne_r_b6 nin0)).other W30 (Or.inl ne_r_tx))
  obtain ⟨T32, X32, e32, st32⟩ := getF X30 hx hZ hown (host := "") (Or.inl (own_h hw 15 rfl)) Via.refl e30 f31_r (g := (mkF m 53 #[.val (.ref r), .val (.int 0)] [(.ref r)])) rfl rfl (hb hby own_d9_53)
  refine own_by (g' := (mkF m 56 #[.val (.ref r), .val (.int 0)] [(.ref tx)])) st32 ?_
  refine own_g (mkF m 57 #[.val (.ref r), .val (.int 0)] [(.int 0), (.ref tx)]) (fun _ q => XS.iloadN X32.here hx rfl (hb hby own_d9_56) rfl q) ?_
  obtain ⟨cl33, Ar33, q33, S33, P33, H33, G33⟩ := id V30
  have hin33 : ¬ ((0 : Int32) < 0 ∨ cl33.slots.size ≤ ((0 : Int32)).toNatClampNeg) := inb_of S33 ⟨by decide, by decide⟩
  refine own_by (g' := (mkF m 58 #[.val (.ref r), .val (.int 0)] [(.ref b6)])) (fun _ kq => X32.aaload hx (j := (0 : Int32)) (v := (.ref b6)) (by rw [e32]; exact Ar33.1) (State.isArrayOf_alike hZ.alike Ar33.2.1) rfl Ar33.2.2 hin33 (H33.at hin33 rfl) (g := (mkF m 57 #[.val (.ref r), .val (.int 0)] [(.int 0), (.ref tx)])) rfl rfl (hb hby own_d9_57) _ kq) ?_
  have f34_r := ((f7_r.keep Kq27 (ninS ne_r_b6 nin0)).other W30 (Or.inl ne_r_tx))
  have f35_r := ((f11_r.keep Kq27 (ninS ne_r_b6 nin0)).other W30 (Or.inl ne_r_tx))
  have f36_r := ((f15_r.keep Kq27 (ninS ne_r_b6 nin0)).other W30 (Or.inl ne_r_tx))
  have f37_r := (((F_unavailable.ext E6).keep Kq27 (ninS ne_r_b6 nin0)).other W30 (Or.inl ne_r_tx))
  have a38_u8 := ((a9_u8.keep Kq27 (ninS ne_u8_b6 nin0)).other W30 (Ne.symm ne_tx_u8))
  have a39_ofs := ((a13_ofs.keep Kq27 (ninS ne_ofs_b6 nin0)).other W30 (Ne.symm ne_tx_ofs))
  have a40_les := ((a17_les.keep Kq27 (ninS ne_les_b6 nin0)).other W30 (Ne.symm ne_tx_les))
  have a41_un := (((A_un.ext E6).keep Kq27 (ninS ne_un_b6 nin0)).other W30 (Ne.symm ne_tx_un))
  have e42_r := (((E_r.ext E6).keep Kq27).wr W30)
  have k43_ := ((k22_.trans Kq27 (allS (Or.inr sz_b6) all0)).wr W30 (Or.inl (List.mem_of_getElem? (i := 0) rfl)))
  have e44_b6 := (Eq27.wr W30)
  have f45_b6 := (Vq27.other W30 (Or.inl (Ne.symm ne_tx_b6)))
  have f46_b6 := (Cq27.other W30 (Or.inl (Ne.symm ne_tx_b6)))
  have a47_tq := (Aq27.other W30 (Ne.symm ne_tx_tq))
  exact own_end X32 (v := some (.ref b6)) (fun h => by rw [Bd.returns] at h; cases h) hlk (fun hr => retOut X32 hx Bd.returns (own_narR rfl) (Or.inr (Or.inr (Or.inr (Or.inr ⟨rfl, rfl, rfl⟩)))) (hb hby own_d9_58) hr) (by rw [e32]; exact ⟨b6, tq, kq_, rfl, N30, k43_, e44_b6, f45_b6, f46_b6, a47_tq, ⟨e42_r, f31_r, f34_r, f35_r, f36_r, f37_r, V30, a38_u8, a39_ofs, a40_les, a41_un⟩⟩) (by decide) (by decide)
theorem own_text_1_ef (m : MethodId) (r : Addr) : entryFrame m #[(.ref r), (.int 1)] 2 = mkF m 0 #[.val (.ref r), .val (.int 1)] [] := by  first | (simp [entryFrame, mkF, argsToLocals, Value.category]; done) | rfl
def own_text_1_Q (Z : State) (r : Addr) (tx : Addr) (u8 : Addr) (ofs : Addr) (les : Addr) (un : Addr) (kt : ClassId) (ku : ClassId) (ko : ClassId) (kl : ClassId) (kn : ClassId) (t0 : Value) (bb : Value) (o0 : Int32) (l0 : Int32) (m0 : Int32) (yb : Addr) (ky : ClassId) (b0 : Int32) (b1 : Int32) (b2 : Int32) (b3 : Int32) (on : Nat) (ln : Nat) (zCS : Int32) (fm : Value) (cs : Addr) (h0 : Heap) (n0 : Nat) (v : Option Value) (h : Heap) (L : List Loc) : Prop := ∃ (t tb : Addr) (kx : ClassId), v = some (.ref t) ∧ Fr n0 L ∧ Keep h0 h [tx] ∧ Exa Z h t "java/lang/String" ∧ Fld Z h t "java/lang/String" "value" "[B" (.ref tb) ∧ Fld Z h t "java/lang/String" "coder" "B" (.int 0) ∧ Arv Z h tb kx .byte (Int32.ofNat ln) (((([b0, b1, b2, b3] : List Int32).drop on).take ln).map Value.int) (.int 0) ∧ own_Row Z h r tx u8 ofs les un kt ku ko kl kn t0 (.ref t) bb (.ref yb) o0 (Int32.ofNat on) l0 (Int32.ofNat ln) m0 (0 : Int32)
set_option maxRecDepth 65536 in
set_option maxHeartbeats 40000000 in
theorem own_text_1 (l : Launch) (Z : State) (a0 : Array Value) (hw : ∀ d ∈ tables_1, d.before a0 Z = true) (ws : List Jvm.Cond) (r : Addr) (tx : Addr) (u8 : Addr) (ofs : Addr) (les : Addr) (un : Addr) (kt : ClassId) (ku : ClassId) (ko : ClassId) (kl : ClassId) (kn : ClassId) (t0 : Value) (bb : Value) (o0 : Int32) (l0 : Int32) (m0 : Int32) (yb : Addr) (ky : ClassId) (b0 : Int32) (b1 : Int32) (b2 : Int32) (b3 : Int32) (on : Nat) (ln : Nat) (zCS : Int32) (fm : Value) (cs : Addr) (h0 : Heap) (n0 : Nat) (Z0 : n0 ≤ h0.size) (S_CS : own_A0 Z zCS) (nCS : ¬ zCS = 0) (S_SF : own_A2 Z fm) (hfm : fm.isRef = true) (S_UT : own_A1 Z cs) (S_IN : own_A3 Z cs) (E_cs : Exa Z Z.heap cs "sun/nio/cs/UTF_8") (O0 : Old Z n0 h0) (ht0 : t0.isRef = true) (hbb : bb.isRef = true) (RA : own_RowA Z n0 r tx u8 ofs les un kt ku ko kl kn) (RW : own_Row Z h0 r tx u8 ofs les un kt ku ko kl kn t0 .null bb (.ref yb) o0 (Int32.ofNat on) l0 (Int32.ofNat ln) m0 (0 : Int32)) (A_y : Arv Z h0 yb ky .byte (4 : Int32) [(.int b0), (.int b1), (.int b2), (.int b3)] (.int 0)) (E_y : Exa Z h0 yb "[B") (U_y : Unt h0 yb) (hl0 : 0 < ln) (hl1 : on + ln ≤ 4) (hp : ∀ c ∈ ([b0, b1, b2, b3] : List Int32), ¬ c < 0) :
    MetFree l own_y6 (head1 (Jvm.Cond.code own_y6 prog_10_method_3_code 2 (some (.object "java/lang/String")) :: ws) (⟨5, 2, 8, 112⟩ : Room)) (fun aa U => aa = #[(.ref r), (.int 1)] ∧ Z.Warmed39 U.vm ∧ U.heap = h0) (fun _ _ _ _ _ => True) (fun _ U o U' => ∃ v L, o = .returned v ∧ own_text_1_Q Z r tx u8 ofs les un kt ku ko kl kn t0 bb o0 l0 m0 yb ky b0 b1 b2 b3 on ln zCS fm cs h0 n0 v U'.heap L ∧ FrameEnd U o U' L (⟨5, 2, 8, 112⟩ : Room).cells (⟨5, 2, 8, 112⟩ : Room).slots) := by
  refine MetFree.of_bodySF (plainFor_of_name own_pn_com_example_rowtide_rowtide_event_Row) hisR ?_
  intro p e s m args below meth c s₁ Bd hml0 hP hK
  obtain ⟨rfl, hZ, hh⟩ := hP
  have hx := Bd.exec
  have hby := Bd.bytes
  have hml : c.maxLocals = 2 := hml0
  have hown : s.vm.findClass "com/example/rowtide/rowtide/event/Row" = some m.cls := findClass_of_methodNamed Bd.named
  have hnm := (name_of_methodNamed Bd.named Bd.method).1
  have hlk := Bd.notSynchronized
  have X0 : Stand p l e (⟨5, 2, 8, 112⟩ : Room) s m #[(.ref r), (.int 1)] below meth c s₁ [] 0 0 := Stand.of_body Bd
  have e0 : s₁.heap = h0 := by rw [← hh, Bd.state]; rfl
  have N0 := Fr.nil n0
  refine own_start (Q := own_text_1_Q Z r tx u8 ofs les un kt ku ko kl kn t0 bb o0 l0 m0 yb ky b0 b1 b2 b3 on ln zCS fm cs h0 n0) (own_text_1_ef m r) ?_
  obtain ⟨OvT, OvU, g_tx, g_u8, g_ofs, g_les, g_un, ne_r_tx, ne_r_u8, ne_r_ofs, ne_r_les, ne_r_un, ne_tx_u8, ne_tx_ofs, ne_tx_les, ne_tx_un, ne_u8_ofs, ne_u8_les, ne_u8_un, ne_ofs_les, ne_ofs_un, ne_les_un⟩ := RA
  obtain ⟨E_r, F_texts, F_utf8, F_utf8Offsets, F_utf8Lengths, F_unavailable, A_tx, A_u8, A_ofs, A_les, A_un⟩ := RW
  refine own_g (mkF m 1 #[.val (.ref r), .val (.int 1)] [(.ref r)]) (fun _ q => XS.aloadN X0.here hx rfl (hb hby own_d9_0) rfl rfl q) ?_
  obtain ⟨T1, X1, e1, st1⟩ := getF X0 hx hZ hown (host := "") (Or.inl (own_h hw 15 rfl)) Via.refl e0 F_texts (g := (mkF m 1 #[.val (.ref r), .val (.int 1)] [(.ref r)])) rfl rfl (hb hby own_d9_1)
  refine own_by (g' := (mkF m 4 #[.val (.ref r), .val (.int 1)] [(.ref tx)])) st1 ?_
  refine own_g (mkF m 5 #[.val (.ref r), .val (.int 1)] [(.int 1), (.ref tx)]) (fun _ q => XS.iloadN X1.here hx rfl (hb hby own_d9_4) rfl q) ?_
  obtain ⟨cl2, Ar2, q2, S2, P2, H2, G2⟩ := id A_tx
  have hin2 : ¬ ((1 : Int32) < 0 ∨ cl2.slots.size ≤ ((1 : Int32)).toNatClampNeg) := inb_of S2 ⟨by decide, by decide⟩
  refine own_by (g' := (mkF m 6 #[.val (.ref r), .val (.int 1)] [.null])) (fun _ kq => X1.aaload hx (j := (1 : Int32)) (v := .null) (by rw [e1]; exact Ar2.1) (State.isArrayOf_alike hZ.alike Ar2.2.1) rfl Ar2.2.2 hin2 (H2.at hin2 rfl) (g := (mkF m 5 #[.val (.ref r), .val (.int 1)] [(.int 1), (.ref tx)])) rfl rfl (hb hby own_d9_5) _ kq) ?_
  refine own_g (mkF m 10 #[.val (.ref r), .val (.int 1)] [(.ref r)]) (fun _ q => XS.ifnonnullNo X1.here hx rfl (hb hby own_d9_6) rfl (XS.aloadN X1.here hx rfl (hb hby own_d9_9) rfl rfl q)) ?_
  obtain ⟨T3, X3, e3, st3⟩ := getF X1 hx hZ hown (host := "") (Or.inl (own_h hw 19 rfl)) Via.refl e1 F_utf8 (g := (mkF m 10 #[.val (.ref r), .val (.int 1)] [(.ref r)])) rfl rfl (hb hby own_d9_10)
  refine own_by (g' := (mkF m 13 #[.val (.ref r), .val (.int 1)] [(.ref u8)])) st3 ?_
  refine own_g (mkF m 14 #[.val (.ref r), .val (.int 1)] [(.int 1), (.ref u8)]) (fun _ q => XS.iloadN X3.here hx rfl (hb hby own_d9_13) rfl q) ?_
  obtain ⟨cl4, Ar4, q4, S4, P4, H4, G4⟩ := id A_u8
  have hin4 : ¬ ((1 : Int32) < 0 ∨ cl4.slots.size ≤ ((1 : Int32)).toNatClampNeg) := inb_of S4 ⟨by decide, by decide⟩
  refine own_by (g' := (mkF m 15 #[.val (.ref r), .val (.int 1)] [(.ref yb)])) (fun _ kq => X3.aaload hx (j := (1 : Int32)) (v := (.ref yb)) (by rw [e3]; exact Ar4.1) (State.isArrayOf_alike hZ.alike Ar4.2.1) rfl Ar4.2.2 hin4 (H4.at hin4 rfl) (g := (mkF m 14 #[.val (.ref r), .val (.int 1)] [(.int 1), (.ref u8)])) rfl rfl (hb hby own_d9_14) _ kq) ?_
  refine own_g (mkF m 19 #[.val (.ref r), .val (.int 1)] [(.ref r)]) (fun _ q => XS.ifnullNo X3.here hx rfl (hb hby own_d9_15) rfl (XS.aloadN X3.here hx rfl (hb hby own_d9_18) rfl rfl q)) ?_
  obtain ⟨T5, X5, e5, st5⟩ := getF X3 hx hZ hown (host := "") (Or.inl (own_h hw 15 rfl)) Via.refl e3 F_texts (g := (mkF m 19 #[.val (.ref r), .val (.int 1)] [(.ref r)])) rfl rfl (hb hby own_d9_19)
  refine own_by (g' := (mkF m 22 #[.val (.ref r), .val (.int 1)] [(.ref tx)])) st5 ?_
  refine own_g (mkF m 23 #[.val (.ref r), .val (.int 1)] [(.int 1), (.ref tx)]) (fun _ q => XS.iloadN X5.here hx rfl (hb hby own_d9_22) rfl q) ?_
  obtain ⟨T6, h6, X6, e6, E6, A6, D6, U6, st6⟩ := newO X5 hx hZ hown (own_h hw 13 rfl) (own_h hw 65 rfl) (own_h hw 66 rfl) e5 (g := (mkF m 23 #[.val (.ref r), .val (.int 1)] [(.int 1), (.ref tx)])) rfl (hb hby own_d9_23) (by decide) (by decide)
  obtain ⟨b6, g6⟩ : ∃ z, z = h0.size := ⟨_, rfl⟩
  rw [← g6] at A6 D6 U6 st6
  have g_b6 : n0 ≤ b6 := Nat.le_trans (Nat.le_trans Z0 (Keep.refl h0 [tx]).1) (Nat.le_of_eq g6.symm)
  have sz_b6 : h0.size ≤ b6 := Nat.le_trans (Keep.refl h0 [tx]).1 (Nat.le_of_eq g6.symm)
  have ne_r_b6 : r ≠ b6 := Nat.ne_of_lt (Nat.lt_of_lt_of_le E_r.lt (Nat.le_of_eq g6.symm))
  have ne_tx_b6 : tx ≠ b6 := Nat.ne_of_lt (Nat.lt_of_lt_of_le A_tx.lt (Nat.le_of_eq g6.symm))
  have ne_u8_b6 : u8 ≠ b6 := Nat.ne_of_lt (Nat.lt_of_lt_of_le A_u8.lt (Nat.le_of_eq g6.symm))
  have ne_ofs_b6 : ofs ≠ b6 := Nat.ne_of_lt (Nat.lt_of_lt_of_le A_ofs.lt (Nat.le_of_eq g6.symm))
  have ne_les_b6 : les ≠ b6 := Nat.ne_of_lt (Nat.lt_of_lt_of_le A_les.lt (Nat.le_of_eq g6.symm))
  have ne_un_b6 : un ≠ b6 := Nat.ne_of_lt (Nat.lt_of_lt_of_le A_un.lt (Nat.le_of_eq g6.symm))
  have ne_yb_b6 : yb ≠ b6 := Nat.ne_of_lt (Nat.lt_of_lt_of_le A_y.lt (Nat.le_of_eq g6.symm))
  have ne_cs_b6 : cs ≠ b6 := Nat.ne_of_lt (Nat.lt_of_lt_of_le (E_cs.ext O0.2).lt (Nat.le_of_eq g6.symm))
  have F_value_b6 : Fld Z h6 b6 "java/lang/String" "value" "[B" .null := D6 (Or.inr (own_h hw 92 rfl)) (ty := (.array .byte)) (by decide)
  have F_coder_b6 : Fld Z h6 b6 "java/lang/String" "coder" "B" (.int 0) := D6 (Or.inr (own_h hw 93 rfl)) (ty := .byte) (by decide)
  refine own_by (g' := (mkF m 26 #[.val (.ref r), .val (.int 1)] [(.ref b6), (.int 1), (.ref tx)])) st6 ?_
  refine own_g (mkF m 28 #[.val (.ref r), .val (.int 1)] [(.ref r), (.ref b6), (.ref b6), (.int 1), (.ref tx)]) (fun _ q => XS.dup X6.here hx rfl (hb hby own_d9_26) rfl rfl (XS.aloadN X6.here hx rfl (hb hby own_d9_27) rfl rfl q)) ?_
  have f7_r := (F_utf8.ext E6)
  obtain ⟨T8, X8, e8, st8⟩ := getF X6 hx hZ hown (host := "") (Or.inl (own_h hw 19 rfl)) Via.refl e6 f7_r (g := (mkF m 28 #[.val (.ref r), .val (.int 1)] [(.ref r), (.ref b6), (.ref b6), (.int 1), (.ref tx)])) rfl rfl (hb hby own_d9_28)
  refine own_by (g' := (mkF m 31 #[.val (.ref r), .val (.int 1)] [(.ref u8), (.ref b6), (.ref b6), (.int 1), (.ref tx)])) st8 ?_
  refine own_g (mkF m 32 #[.val (.ref r), .val (.int 1)] [(.int 1), (.ref u8), (.ref b6), (.ref b6), (.int 1), (.ref tx)]) (fun _ q => XS.iloadN X8.here hx rfl (hb hby own_d9_31) rfl q) ?_
  have a9_u8 := (A_u8.ext E6)
  obtain ⟨cl10, Ar10, q10, S10, P10, H10, G10⟩ := id a9_u8
  have hin10 : ¬ ((1 : Int32) < 0 ∨ cl10.slots.size ≤ ((1 : Int32)).toNatClampNeg) := inb_of S10 ⟨by decide, by decide⟩
  refine own_by (g' := (mkF m 33 #[.val (.ref r), .val (.int 1)] [(.ref yb), (.ref b6), (.ref b6), (.int 1), (.ref tx)])) (fun _ kq => X8.aaload hx (j := (1 : Int32)) (v := (.ref yb)) (by rw [e8]; exact Ar10.1) (State.isArrayOf_alike hZ.alike Ar10.2.1) rfl Ar10.2.2 hin10 (H10.at hin10 rfl) (g := (mkF m 32 #[.val (.ref r), .val (.int 1)] [(.int 1), (.ref u8), (.ref b6), (.ref b6), (.int 1), (.ref tx)])) rfl rfl (hb hby own_d9_32) _ kq) ?_
  refine own_g (mkF m 34 #[.val (.ref r), .val (.int 1)] [(.ref r), (.ref yb), (.ref b6), (.ref b6), (.int 1), (.ref tx)]) (fun _ q => XS.aloadN X8.here hx rfl (hb hby own_d9_33) rfl rfl q) ?_
  have f11_r := (F_utf8Offsets.ext E6)
  obtain ⟨T12, X12, e12, st12⟩ := getF X8 hx hZ hown (host := "") (Or.inl (own_h hw 22 rfl)) Via.refl e8 f11_r (g := (mkF m 34 #[.val (.ref r), .val (.int 1)] [(.ref r), (.ref yb), (.ref b6), (.ref b6), (.int 1), (.ref tx)])) rfl rfl (hb hby own_d9_34)
  refine own_by (g' := (mkF m 37 #[.val (.ref r), .val (.int 1)] [(.ref ofs), (.ref yb), (.ref b6), (.ref b6), (.int 1), (.ref tx)])) st12 ?_
  refine own_g (mkF m 38 #[.val (.ref r), .val (.int 1)] [(.int 1), (.ref ofs), (.ref yb), (.ref b6), (.ref b6), (.int 1), (.ref tx)]) (fun _ q => XS.iloadN X12.here hx rfl (hb hby own_d9_37) rfl q) ?_
  have a13_ofs := (A_ofs.ext E6)
  obtain ⟨cl14, Ar14, q14, S14, P14, H14, G14⟩ := id a13_ofs
  have hin14 : ¬ ((1 : Int32) < 0 ∨ cl14.slots.size ≤ ((1 : Int32)).toNatClampNeg) := inb_of S14 ⟨by decide, by decide⟩
  refine own_by (g' := (mkF m 39 #[.val (.ref r), .val (.int 1)] [(.int (Int32.ofNat on)), (.ref yb), (.ref b6), (.ref b6), (.int 1), (.ref tx)])) (fun _ kq => X12.iaload hx (j := (1 : Int32)) (v := (.int (Int32.ofNat on))) (by rw [e12]; exact Ar14.1) (State.isArrayOf_alike hZ.alike Ar14.2.1) Ar14.2.2 hin14 (H14.at hin14 rfl) (g := (mkF m 38 #[.val (.ref r), .val (.int 1)] [(.int 1), (.ref ofs), (.ref yb), (.ref b6), (.ref b6), (.int 1), (.ref tx)])) rfl rfl (hb hby own_d9_38) _ kq) ?_
  refine own_g (mkF m 40 #[.val (.ref r), .val (.int 1)] [(.ref r), (.int (Int32.ofNat on)), (.ref yb), (.ref b6), (.ref b6), (.int 1), (.ref tx)]) (fun _ q => XS.aloadN X12.here hx rfl (hb hby own_d9_39) rfl rfl q) ?_
  have f15_r := (F_utf8Lengths.ext E6)
  obtain ⟨T16, X16, e16, st16⟩ := getF X12 hx hZ hown (host := "") (Or.inl (own_h hw 24 rfl)) Via.refl e12 f15_r (g := (mkF m 40 #[.val (.ref r), .val (.int 1)] [(.ref r), (.int (Int32.ofNat on)), (.ref yb), (.ref b6), (.ref b6), (.int 1), (.ref tx)])) rfl rfl (hb hby own_d9_40)
  refine own_by (g' := (mkF m 43 #[.val (.ref r), .val (.int 1)] [(.ref les), (.int (Int32.ofNat on)), (.ref yb), (.ref b6), (.ref b6), (.int 1), (.ref tx)])) st16 ?_
  refine own_g (mkF m 44 #[.val (.ref r), .val (.int 1)] [(.int 1), (.ref les), (.int (Int32.ofNat on)), (.ref yb), (.ref b6), (.ref b6), (.int 1), (.ref tx)]) (fun _ q => XS.iloadN X16.here hx rfl (hb hby own_d9_43) rfl q) ?_
  have a17_les := (A_les.ext E6)
  obtain ⟨cl18, Ar18, q18, S18, P18, H18, G18⟩ := id a17_les
  have hin18 : ¬ ((1 : Int32) < 0 ∨ cl18.slots.size ≤ ((1 : Int32)).toNatClampNeg) := inb_of S18 ⟨by decide, by decide⟩
  refine own_by (g' := (mkF m 45 #[.val (.ref r), .val (.int 1)] [(.int (Int32.ofNat ln)), (.int (Int32.ofNat on)), (.ref yb), (.ref b6), (.ref b6), (.int 1), (.ref tx)])) (fun _ kq => X16.iaload hx (j := (1 : Int32)) (v := (.int (Int32.ofNat ln))) (by rw [e16]; exact Ar18.1) (State.isArrayOf_alike hZ.alike Ar18.2.1) Ar18.2.2 hin18 (H18.at hin18 rfl) (g := (mkF m 44 #[.val (.ref r), .val (.int 1)] [(.int 1), (.ref les), (.int (Int32.ofNat on)), (.ref yb), (.ref b6), (.ref b6), (.int 1), (.ref tx)])) rfl rfl (hb hby own_d9_44) _ kq) ?_
  have o19_ := (O0.ext E6)
  obtain ⟨T20, X20, e20, st20⟩ := getS2 X16 hx hZ hown (host := "") (Or.inl (own_h hw 67 rfl)) Via.refl e16 (S_UT.ext o19_.2) (g := (mkF m 45 #[.val (.ref r), .val (.int 1)] [(.int (Int32.ofNat ln)), (.int (Int32.ofNat on)), (.ref yb), (.ref b6), (.ref b6), (.int 1), (.ref tx)])) rfl (hb hby own_d9_45)
  refine own_by (g' := (mkF m 48 #[.val (.ref r), .val (.int 1)] [(.ref cs), (.int (Int32.ofNat ln)), (.int (Int32.ofNat on)), (.ref yb), (.ref b6), (.ref b6), (.int 1), (.ref tx)])) st20 ?_
  have a21_tx := (A_tx.ext E6)
  have k22_ := ((Keep.refl h0 [tx]).ext E6)
  have a23_yb := (A_y.ext E6)
  have e24_yb := (E_y.ext E6)
  have x25_yb := (Unt.ext E6 U_y)
  have e26_cs := ((E_cs.ext O0.2).ext E6)
  refine own_callIB X20 hx hZ (y := own_y13) rfl hown (own_h hw 69 rfl) (own_h hw 70 rfl) (own_h hw 71 rfl)  (by decide) (OwnU8.back (W := 3) hZ hw (kI := 4) (own_h hw 65 rfl) (bs := ([b0, b1, b2, b3] : List Int32)) (on := on) (ln := ln) g_b6 (Nat.le_trans Z0 k22_.1) A6 F_value_b6 F_coder_b6 a23_yb e24_yb x25_yb (S_CS.ext o19_.2) nCS (S_IN.ext o19_.2) e26_cs (S_SF.ext o19_.2) hfm rfl hl0 hl1 hp (by decide) (by decide)) e20 (g := (mkF m 48 #[.val (.ref r), .val (.int 1)] [(.ref cs), (.int (Int32.ofNat ln)), (.int (Int32.ofNat on)), (.ref yb), (.ref b6), (.ref b6), (.int 1), (.ref tx)])) rfl (by rw [hml]; rfl) (argsL := [(.ref yb), (.int (Int32.ofNat on)), (.int (Int32.ofNat ln)), (.ref cs)]) (rest := [(.ref b6), (.int 1), (.ref tx)]) (lenOf own_pd__28_5bBIILjava_2fnio_2fcharset_2fCharset_3b_29V rfl) rfl (W := 3) (Nat.le_of_eq rfl) (hb hby own_d9_48) rfl (by decide) (by decide) ?_
  rintro rv27 T27 L27 X27 ⟨rfl, Nq27, Kq27, Eq27, Cq27, tq, kq_, u127, u227, u327, Vq27, Aq27⟩
  have N27 := Fr.app N0 Nq27
  show own_Fin p e below _ T27 (mkF m 51 #[.val (.ref r), .val (.int 1)] [(.ref b6), (.int 1), (.ref tx)])
  have ne_tx_tq : tx ≠ tq := Nat.ne_of_lt (Nat.lt_of_lt_of_le a21_tx.lt u227)
  have a28_tx := (a21_tx.keep Kq27 (ninS ne_tx_b6 nin0))
  obtain ⟨cl29, Ar29, q29, S29, P29, H29, G29⟩ := id a28_tx
  have hin29 : ¬ ((1 : Int32) < 0 ∨ cl29.slots.size ≤ ((1 : Int32)).toNatClampNeg) := inb_of S29 ⟨by decide, by decide⟩
  obtain ⟨T30, h30, X30, e30, W30, st30⟩ := stR X27 hx hZ rfl Ar29 (j := (1 : Int32)) hin29 rfl (Sto.ofV Ar29 q29 OvT (Ins.self Eq27)) (g := (mkF m 51 #[.val (.ref r), .val (.int 1)] [(.ref b6), (.int 1), (.ref tx)])) rfl rfl (hb hby own_d9_51)
  have V30 : Arv Z h30 tx kt (.object "java/lang/String") (2 : Int32) [t0, (.ref b6)] .null := Arv.set Ar29 q29 S29 P29 H29 G29 (own_fitsR rfl rfl) W30 1 rfl (Nat.le_of_ble_eq_true rfl)
  have N30 := Fr.snoc X30 N27 g_tx
  refine own_by (g' := (mkF m 52 #[.val (.ref r), .val (.int 1)] [])) st30 ?_
  refine own_g (mkF m 53 #[.val (.ref r), .val (.int 1)] [(.ref r)]) (fun _ q => XS.aloadN X30.here hx rfl (hb hby own_d9_52) rfl rfl q) ?_
  have f31_r := (((F_texts.ext E6).keep Kq27 (ninS ne_r_b6 nin0)).other W30 (Or.inl ne_r_tx))
  obtain ⟨T32, X32, e32, st32⟩ := getF X30 hx hZ hown (host := "") (Or.inl (own_h hw 15 rfl)) Via.refl e30 f31_r (g := (mkF m 53 #[.val (.ref r), .val (.int 1)] [(.ref r)])) rfl rfl (hb hby own_d9_53)
  refine own_by (g' := (mkF m 56 #[.val (.ref r), .val (.int 1)] [(.ref tx)])) st32 ?_
  refine own_g (mkF m 57 #[.val (.ref r), .val (.int 1)] [(.int 1), (.ref tx)]) (fun _ q => XS.iloadN X32.here hx rfl (hb hby own_d9_56) rfl q) ?_
  obtain ⟨cl33, Ar33, q33, S33, P33, H33, G33⟩ := id V30
  have hin33 : ¬ ((1 : Int32) < 0 ∨ cl33.slots.size ≤ ((1 : Int32)).toNatClampNeg) := inb_of S33 ⟨by decide, by decide⟩
  refine own_by (g' := (mkF m 58 #[.val (.ref r), .val (.int 1)] [(.ref b6)])) (fun _ kq => X32.aaload hx (j := (1 : Int32)) (v := (.ref b6)) (by rw [e32]; exact Ar33.1) (State.isArrayOf_alike hZ.alike Ar33.2.1) rfl Ar33.2.2 hin33 (H33.at hin33 rfl) (g := (mkF m 57 #[.val (.ref r), .val (.int 1)] [(.int 1), (.ref tx)])) rfl rfl (hb hby own_d9_57) _ kq) ?_
  have f34_r := ((f7_r.keep Kq27 (ninS ne_r_b6 nin0)).other W30 (Or.inl ne_r_tx))
  have f35_r := ((f11_r.keep Kq27 (ninS ne_r_b6 nin0)).other W30 (Or.inl ne_r_tx))
  have f36_r := ((f15_r.keep Kq27 (ninS ne_r_b6 nin0)).other W30 (Or.inl ne_r_tx))
  have f37_r := (((F_unavailable.ext E6).keep Kq27 (ninS ne_r_b6 nin0)).other W30 (Or.inl ne_r_tx))
  have a38_u8 := ((a9_u8.keep Kq27 (ninS ne_u8_b6 nin0)).other W30 (Ne.symm ne_tx_u8))
  have a39_ofs := ((a13_ofs.keep Kq27 (ninS ne_ofs_b6 nin0)).other W30 (Ne.symm ne_tx_ofs))
  have a40_les := ((a17_les.keep Kq27 (ninS ne_les_b6 nin0)).other W30 (Ne.symm ne_tx_les))
  have a41_un := (((A_un.ext E6).keep Kq27 (ninS ne_un_b6 nin0)).other W30 (Ne.symm ne_tx_un))
  have e42_r := (((E_r.ext E6).keep Kq27).wr W30)
  have k43_ := ((k22_.trans Kq27 (allS (Or.inr sz_b6) all0)).wr W30 (Or.inl (List.mem_of_getElem? (i := 0) rfl)))
  have e44_b6 := (Eq27.wr W30)
  have f45_b6 := (Vq27.other W30 (Or.inl (Ne.symm ne_tx_b6)))
  have f46_b6 := (Cq27.other W30 (Or.inl (Ne.symm ne_tx_b6)))
  have a47_tq := (Aq27.other W30 (Ne.symm ne_tx_tq))
  exact own_end X32 (v := some (.ref b6)) (fun h => by rw [Bd.returns] at h; cases h) hlk (fun hr => retOut X32 hx Bd.returns (own_narR rfl) (Or.inr (Or.inr (Or.inr (Or.inr ⟨rfl, rfl, rfl⟩)))) (hb hby own_d9_58) hr) (by rw [e32]; exact ⟨b6, tq, kq_, rfl, N30, k43_, e44_b6, f45_b6, f46_b6, a47_tq, ⟨e42_r, f31_r, f34_r, f35_r, f36_r, f37_r, V30, a38_u8, a39_ofs, a40_les, a41_un⟩⟩) (by decide) (by decide)
theorem own_text0_0_ef (m : MethodId) (r : Addr) : entryFrame m #[(.ref r), (.int 0)] 2 = mkF m 0 #[.val (.ref r), .val (.int 0)] [] := by  first | (simp [entryFrame, mkF, argsToLocals, Value.category]; done) | rfl
def own_text0_0_Q (Z : State) (r : Addr) (tx : Addr) (u8 : Addr) (ofs : Addr) (les : Addr) (un : Addr) (kt : ClassId) (ku : ClassId) (ko : ClassId) (kl : ClassId) (kn : ClassId) (t1 : Value) (bb : Value) (o1 : Int32) (l1 : Int32) (m1 : Int32) (yb : Addr) (ky : ClassId) (b0 : Int32) (b1 : Int32) (b2 : Int32) (b3 : Int32) (of : Int32) (zCS : Int32) (fm : Value) (cs : Addr) (h0 : Heap) (n0 : Nat) (v : Option Value) (h : Heap) (L : List Loc) : Prop := ∃ (t tb : Addr) (kx : ClassId), v = some (.ref t) ∧ Fr n0 L ∧ Keep h0 h [tx] ∧ Exa Z h t "java/lang/String" ∧ Fld Z h t "java/lang/String" "value" "[B" (.ref tb) ∧ Fld Z h t "java/lang/String" "coder" "B" (.int 0) ∧ Arv Z h tb kx .byte (0 : Int32) [] (.int 0) ∧ own_Row Z h r tx u8 ofs les un kt ku ko kl kn (.ref t) t1 (.ref yb) bb of o1 (0 : Int32) l1 (0 : Int32) m1
set_option maxRecDepth 65536 in
set_option maxHeartbeats 40000000 in
theorem own_text0_0 (l : Launch) (Z : State) (a0 : Array Value) (hw : ∀ d ∈ tables_1, d.before a0 Z = true) (ws : List Jvm.Cond) (r : Addr) (tx : Addr) (u8 : Addr) (ofs : Addr) (les : Addr) (un : Addr) (kt : ClassId) (ku : ClassId) (ko : ClassId) (kl : ClassId) (kn : ClassId) (t1 : Value) (bb : Value) (o1 : Int32) (l1 : Int32) (m1 : Int32) (yb : Addr) (ky : ClassId) (b0 : Int32) (b1 : Int32) (b2 : Int32) (b3 : Int32) (of : Int32) (zCS : Int32) (fm : Value) (cs : Addr) (h0 : Heap) (n0 : Nat) (Z0 : n0 ≤ h0.size) (S_CS : own_A0 Z zCS) (nCS : ¬ zCS = 0) (S_SF : own_A2 Z fm) (hfm : fm.isRef = true) (S_UT : own_A1 Z cs) (S_IN : own_A3 Z cs) (E_cs : Exa Z Z.heap cs "sun/nio/cs/UTF_8") (O0 : Old Z n0 h0) (ht1 : t1.isRef = true) (hbb : bb.isRef = true) (RA : own_RowA Z n0 r tx u8 ofs les un kt ku ko kl kn) (RW : own_Row Z h0 r tx u8 ofs les un kt ku ko kl kn .null t1 (.ref yb) bb of o1 (0 : Int32) l1 (0 : Int32) m1) (A_y : Arv Z h0 yb ky .byte (4 : Int32) [(.int b0), (.int b1), (.int b2), (.int b3)] (.int 0)) (hf1 : ¬ (((4 : Int32) ||| of) ||| (0 : Int32)) < (0 : Int32)) (hf2 : ¬ ((4 : Int32) - of) < (0 : Int32)) :
    MetFree l own_y6 (head1 (Jvm.Cond.code own_y6 prog_10_method_3_code 2 (some (.object "java/lang/String")) :: ws) (⟨3, 5, 12, 53⟩ : Room)) (fun aa U => aa = #[(.ref r), (.int 0)] ∧ Z.Warmed39 U.vm ∧ U.heap = h0 ∧ CHv Z consts_1 U.vm h0) (fun _ _ _ _ _ => True) (fun _ U o U' => ∃ v L, o = .returned v ∧ own_text0_0_Q Z r tx u8 ofs les un kt ku ko kl kn t1 bb o1 l1 m1 yb ky b0 b1 b2 b3 of zCS fm cs h0 n0 v U'.heap L ∧ CHr Z consts_1 U.vm U.heap U'.vm U'.heap ∧ ReturnedEndW U o U' L (⟨3, 5, 12, 53⟩ : Room).cells (⟨3, 5, 12, 53⟩ : Room).slots) := by
  refine MetFree.of_bodySF (plainFor_of_name own_pn_com_example_rowtide_rowtide_event_Row) hisR ?_
  intro p e s m args below meth c s₁ Bd hml0 hP hK
  obtain ⟨rfl, hZ, hh, CH0⟩ := hP
  have hx := Bd.exec
  have hby := Bd.bytes
  have hml : c.maxLocals = 2 := hml0
  have hown : s.vm.findClass "com/example/rowtide/rowtide/event/Row" = some m.cls := findClass_of_methodNamed Bd.named
  have hnm := (name_of_methodNamed Bd.named Bd.method).1
  have hlk := Bd.notSynchronized
  have X0 : Stand p l e (⟨3, 5, 12, 53⟩ : Room) (s.setVm s.vm) m #[(.ref r), (.int 0)] below meth c s₁ [] 0 0 := Stand.of_body Bd
  have e0 : s₁.heap = h0 := by rw [← hh, Bd.state]; rfl
  have N0 := Fr.nil n0
  have hS : s.Since s.vm 0 := (State.WarmedH.refl s).since 0
  have hk0 : 0 ≤ h0.size := Nat.zero_le _
  have wS := own_wS hw
  have C0 : CHr Z consts_1 s.vm h0 s.vm h0 := CHr.refl CH0
  have hEL := own_hEL hw
  refine own_startW (EL := consts_1) (Q := own_text0_0_Q Z r tx u8 ofs les un kt ku ko kl kn t1 bb o1 l1 m1 yb ky b0 b1 b2 b3 of zCS fm cs h0 n0) (own_text0_0_ef m r) ?_
  obtain ⟨OvT, OvU, g_tx, g_u8, g_ofs, g_les, g_un, ne_r_tx, ne_r_u8, ne_r_ofs, ne_r_les, ne_r_un, ne_tx_u8, ne_tx_ofs, ne_tx_les, ne_tx_un, ne_u8_ofs, ne_u8_les, ne_u8_un, ne_ofs_les, ne_ofs_un, ne_les_un⟩ := RA
  obtain ⟨E_r, F_texts, F_utf8, F_utf8Offsets, F_utf8Lengths, F_unavailable, A_tx, A_u8, A_ofs, A_les, A_un⟩ := RW
  refine own_g (mkF m 1 #[.val (.ref r), .val (.int 0)] [(.ref r)]) (fun _ q => XS.aloadN X0.here hx rfl (hb hby own_d9_0) rfl rfl q) ?_
  obtain ⟨T1, X1, e1, st1⟩ := getF X0 hx hZ hown (host := "") (Or.inl (own_h hw 15 rfl)) Via.refl e0 F_texts (g := (mkF m 1 #[.val (.ref r), .val (.int 0)] [(.ref r)])) rfl rfl (hb hby own_d9_1)
  refine own_by (g' := (mkF m 4 #[.val (.ref r), .val (.int 0)] [(.ref tx)])) st1 ?_
  refine own_g (mkF m 5 #[.val (.ref r), .val (.int 0)] [(.int 0), (.ref tx)]) (fun _ q => XS.iloadN X1.here hx rfl (hb hby own_d9_4) rfl q) ?_
  obtain ⟨cl2, Ar2, q2, S2, P2, H2, G2⟩ := id A_tx
  have hin2 : ¬ ((0 : Int32) < 0 ∨ cl2.slots.size ≤ ((0 : Int32)).toNatClampNeg) := inb_of S2 ⟨by decide, by decide⟩
  refine own_by (g' := (mkF m 6 #[.val (.ref r), .val (.int 0)] [.null])) (fun _ kq => X1.aaload hx (j := (0 : Int32)) (v := .null) (by rw [e1]; exact Ar2.1) (State.isArrayOf_alike hZ.alike Ar2.2.1) rfl Ar2.2.2 hin2 (H2.at hin2 rfl) (g := (mkF m 5 #[.val (.ref r), .val (.int 0)] [(.int 0), (.ref tx)])) rfl rfl (hb hby own_d9_5) _ kq) ?_
  refine own_g (mkF m 10 #[.val (.ref r), .val (.int 0)] [(.ref r)]) (fun _ q => XS.ifnonnullNo X1.here hx rfl (hb hby own_d9_6) rfl (XS.aloadN X1.here hx rfl (hb hby own_d9_9) rfl rfl q)) ?_
  obtain ⟨T3, X3, e3, st3⟩ := getF X1 hx hZ hown (host := "") (Or.inl (own_h hw 19 rfl)) Via.refl e1 F_utf8 (g := (mkF m 10 #[.val (.ref r), .val (.int 0)] [(.ref r)])) rfl rfl (hb hby own_d9_10)
  refine own_by (g' := (mkF m 13 #[.val (.ref r), .val (.int 0)] [(.ref u8)])) st3 ?_
  refine own_g (mkF m 14 #[.val (.ref r), .val (.int 0)] [(.int 0), (.ref u8)]) (fun _ q => XS.iloadN X3.here hx rfl (hb hby own_d9_13) rfl q) ?_
  obtain ⟨cl4, Ar4, q4, S4, P4, H4, G4⟩ := id A_u8
  have hin4 : ¬ ((0 : Int32) < 0 ∨ cl4.slots.size ≤ ((0 : Int32)).toNatClampNeg) := inb_of S4 ⟨by decide, by decide⟩
  refine own_by (g' := (mkF m 15 #[.val (.ref r), .val (.int 0)] [(.ref yb)])) (fun _ kq => X3.aaload hx (j := (0 : Int32)) (v := (.ref yb)) (by rw [e3]; exact Ar4.1) (State.isArrayOf_alike hZ.alike Ar4.2.1) rfl Ar4.2.2 hin4 (H4.at hin4 rfl) (g := (mkF m 14 #[.val (.ref r), .val (.int 0)] [(.int 0), (.ref u8)])) rfl rfl (hb hby own_d9_14) _ kq) ?_
  refine own_g (mkF m 19 #[.val (.ref r), .val (.int 0)] [(.ref r)]) (fun _ q => XS.ifnullNo X3.here hx rfl (hb hby own_d9_15) rfl (XS.aloadN X3.here hx rfl (hb hby own_d9_18) rfl rfl q)) ?_
  obtain ⟨T5, X5, e5, st5⟩ := getF X3 hx hZ hown (host := "") (Or.inl (own_h hw 15 rfl)) Via.refl e3 F_texts (g := (mkF m 19 #[.val (.ref r), .val (.int 0)] [(.ref r)])) rfl rfl (hb hby own_d9_19)
  refine own_by (g' := (mkF m 22 #[.val (.ref r), .val (.int 0)] [(.ref tx)])) st5 ?_
  refine own_g (mkF m 23 #[.val (.ref r), .val (.int 0)] [(.int 0), (.ref tx)]) (fun _ q => XS.iloadN X5.here hx rfl (hb hby own_d9_22) rfl q) ?_
  obtain ⟨T6, h6, X6, e6, E6, A6, D6, U6, st6⟩ := newO X5 hx hZ hown (own_h hw 13 rfl) (own_h hw 65 rfl) (own_h hw 66 rfl) e5 (g := (mkF m 23 #[.val (.ref r), .val (.int 0)] [(.int 0), (.ref tx)])) rfl (hb hby own_d9_23) (by decide) (by decide)
  obtain ⟨b6, g6⟩ : ∃ z, z = h0.size := ⟨_, rfl⟩
  rw [← g6] at A6 D6 U6 st6
  have g_b6 : n0 ≤ b6 := Nat.le_trans (Nat.le_trans Z0 (Keep.refl h0 [tx]).1) (Nat.le_of_eq g6.symm)
  have sz_b6 : h0.size ≤ b6 := Nat.le_trans (Keep.refl h0 [tx]).1 (Nat.le_of_eq g6.symm)
  have sf_b6 : Safe Z consts_1 s.vm h0 b6 := Safe.new (Nat.le_of_eq g6.symm)
  have ne_r_b6 : r ≠ b6 := Nat.ne_of_lt (Nat.lt_of_lt_of_le E_r.lt (Nat.le_of_eq g6.symm))
  have ne_tx_b6 : tx ≠ b6 := Nat.ne_of_lt (Nat.lt_of_lt_of_le A_tx.lt (Nat.le_of_eq g6.symm))
  have ne_u8_b6 : u8 ≠ b6 := Nat.ne_of_lt (Nat.lt_of_lt_of_le A_u8.lt (Nat.le_of_eq g6.symm))
  have ne_ofs_b6 : ofs ≠ b6 := Nat.ne_of_lt (Nat.lt_of_lt_of_le A_ofs.lt (Nat.le_of_eq g6.symm))
  have ne_les_b6 : les ≠ b6 := Nat.ne_of_lt (Nat.lt_of_lt_of_le A_les.lt (Nat.le_of_eq g6.symm))
  have ne_un_b6 : un ≠ b6 := Nat.ne_of_lt (Nat.lt_of_lt_of_le A_un.lt (Nat.le_of_eq g6.symm))
  have ne_yb_b6 : yb ≠ b6 := Nat.ne_of_lt (Nat.lt_of_lt_of_le A_y.lt (Nat.le_of_eq g6.symm))
  have ne_cs_b6 : cs ≠ b6 := Nat.ne_of_lt (Nat.lt_of_lt_of_le (E_cs.ext O0.2).lt (Nat.le_of_eq g6.symm))
  have C7 := C0.trans (CHr.ext E6 C0.1)
  have F_value_b6 : Fld Z h6 b6 "java/lang/String" "value" "[B" .null := D6 (Or.inr (own_h hw 92 rfl)) (ty := (.array .byte)) (by decide)
  have F_coder_b6 : Fld Z h6 b6 "java/lang/String" "coder" "B" (.int 0) := D6 (Or.inr (own_h hw 93 rfl)) (ty := .byte) (by decide)
  refine own_by (g' := (mkF m 26 #[.val (.ref r), .val (.int 0)] [(.ref b6), (.int 0), (.ref tx)])) st6 ?_
  refine own_g (mkF m 28 #[.val (.ref r), .val (.int 0)] [(.ref r), (.ref b6), (.ref b6), (.int 0), (.ref tx)]) (fun _ q => XS.dup X6.here hx rfl (hb hby own_d9_26) rfl rfl (XS.aloadN X6.here hx rfl (hb hby own_d9_27) rfl rfl q)) ?_
  have f8_r := (F_utf8.ext E6)
  obtain ⟨T9, X9, e9, st9⟩ := getF X6 hx hZ hown (host := "") (Or.inl (own_h hw 19 rfl)) Via.refl e6 f8_r (g := (mkF m 28 #[.val (.ref r), .val (.int 0)] [(.ref r), (.ref b6), (.ref b6), (.int 0), (.ref tx)])) rfl rfl (hb hby own_d9_28)
  refine own_by (g' := (mkF m 31 #[.val (.ref r), .val (.int 0)] [(.ref u8), (.ref b6), (.ref b6), (.int 0), (.ref tx)])) st9 ?_
  refine own_g (mkF m 32 #[.val (.ref r), .val (.int 0)] [(.int 0), (.ref u8), (.ref b6), (.ref b6), (.int 0), (.ref tx)]) (fun _ q => XS.iloadN X9.here hx rfl (hb hby own_d9_31) rfl q) ?_
  have a10_u8 := (A_u8.ext E6)
  obtain ⟨cl11, Ar11, q11, S11, P11, H11, G11⟩ := id a10_u8
  have hin11 : ¬ ((0 : Int32) < 0 ∨ cl11.slots.size ≤ ((0 : Int32)).toNatClampNeg) := inb_of S11 ⟨by decide, by decide⟩
  refine own_by (g' := (mkF m 33 #[.val (.ref r), .val (.int 0)] [(.ref yb), (.ref b6), (.ref b6), (.int 0), (.ref tx)])) (fun _ kq => X9.aaload hx (j := (0 : Int32)) (v := (.ref yb)) (by rw [e9]; exact Ar11.1) (State.isArrayOf_alike hZ.alike Ar11.2.1) rfl Ar11.2.2 hin11 (H11.at hin11 rfl) (g := (mkF m 32 #[.val (.ref r), .val (.int 0)] [(.int 0), (.ref u8), (.ref b6), (.ref b6), (.int 0), (.ref tx)])) rfl rfl (hb hby own_d9_32) _ kq) ?_
  refine own_g (mkF m 34 #[.val (.ref r), .val (.int 0)] [(.ref r), (.ref yb), (.ref b6), (.ref b6), (.int 0), (.ref tx)]) (fun _ q => XS.aloadN X9.here hx rfl (hb hby own_d9_33) rfl rfl q) ?_
  have f12_r := (F_utf8Offsets.ext E6)
  obtain ⟨T13, X13, e13, st13⟩ := getF X9 hx hZ hown (host := "") (Or.inl (own_h hw 22 rfl)) Via.refl e9 f12_r (g := (mkF m 34 #[.val (.ref r), .val (.int 0)] [(.ref r), (.ref yb), (.ref b6), (.ref b6), (.int 0), (.ref tx)])) rfl rfl (hb hby own_d9_34)
  refine own_by (g' := (mkF m 37 #[.val (.ref r), .val (.int 0)] [(.ref ofs), (.ref yb), (.ref b6), (.ref b6), (.int 0), (.ref tx)])) st13 ?_
  refine own_g (mkF m 38 #[.val (.ref r), .val (.int 0)] [(.int 0), (.ref ofs), (.ref yb), (.ref b6), (.ref b6), (.int 0), (.ref tx)]) (fun _ q => XS.iloadN X13.here hx rfl (hb hby own_d9_37) rfl q) ?_
  have a14_ofs := (A_ofs.ext E6)
  obtain ⟨cl15, Ar15, q15, S15, P15, H15, G15⟩ := id a14_ofs
  have hin15 : ¬ ((0 : Int32) < 0 ∨ cl15.slots.size ≤ ((0 : Int32)).toNatClampNeg) := inb_of S15 ⟨by decide, by decide⟩
  refine own_by (g' := (mkF m 39 #[.val (.ref r), .val (.int 0)] [(.int of), (.ref yb), (.ref b6), (.ref b6), (.int 0), (.ref tx)])) (fun _ kq => X13.iaload hx (j := (0 : Int32)) (v := (.int of)) (by rw [e13]; exact Ar15.1) (State.isArrayOf_alike hZ.alike Ar15.2.1) Ar15.2.2 hin15 (H15.at hin15 rfl) (g := (mkF m 38 #[.val (.ref r), .val (.int 0)] [(.int 0), (.ref ofs), (.ref yb), (.ref b6), (.ref b6), (.int 0), (.ref tx)])) rfl rfl (hb hby own_d9_38) _ kq) ?_
  refine own_g (mkF m 40 #[.val (.ref r), .val (.int 0)] [(.ref r), (.int of), (.ref yb), (.ref b6), (.ref b6), (.int 0), (.ref tx)]) (fun _ q => XS.aloadN X13.here hx rfl (hb hby own_d9_39) rfl rfl q) ?_
  have f16_r := (F_utf8Lengths.ext E6)
  obtain ⟨T17, X17, e17, st17⟩ := getF X13 hx hZ hown (host := "") (Or.inl (own_h hw 24 rfl)) Via.refl e13 f16_r (g := (mkF m 40 #[.val (.ref r), .val (.int 0)] [(.ref r), (.int of), (.ref yb), (.ref b6), (.ref b6), (.int 0), (.ref tx)])) rfl rfl (hb hby own_d9_40)
  refine own_by (g' := (mkF m 43 #[.val (.ref r), .val (.int 0)] [(.ref les), (.int of), (.ref yb), (.ref b6), (.ref b6), (.int 0), (.ref tx)])) st17 ?_
  refine own_g (mkF m 44 #[.val (.ref r), .val (.int 0)] [(.int 0), (.ref les), (.int of), (.ref yb), (.ref b6), (.ref b6), (.int 0), (.ref tx)]) (fun _ q => XS.iloadN X17.here hx rfl (hb hby own_d9_43) rfl q) ?_
  have a18_les := (A_les.ext E6)
  obtain ⟨cl19, Ar19, q19, S19, P19, H19, G19⟩ := id a18_les
  have hin19 : ¬ ((0 : Int32) < 0 ∨ cl19.slots.size ≤ ((0 : Int32)).toNatClampNeg) := inb_of S19 ⟨by decide, by decide⟩
  refine own_by (g' := (mkF m 45 #[.val (.ref r), .val (.int 0)] [(.int 0), (.int of), (.ref yb), (.ref b6), (.ref b6), (.int 0), (.ref tx)])) (fun _ kq => X17.iaload hx (j := (0 : Int32)) (v := (.int 0)) (by rw [e17]; exact Ar19.1) (State.isArrayOf_alike hZ.alike Ar19.2.1) Ar19.2.2 hin19 (H19.at hin19 rfl) (g := (mkF m 44 #[.val (.ref r), .val (.int 0)] [(.int 0), (.ref les), (.int of), (.ref yb), (.ref b6), (.ref b6), (.int 0), (.ref tx)])) rfl rfl (hb hby own_d9_44) _ kq) ?_
  have o20_ := (O0.ext E6)
  obtain ⟨T21, X21, e21, st21⟩ := getS2 X17 hx hZ hown (host := "") (Or.inl (own_h hw 67 rfl)) Via.refl e17 (S_UT.ext o20_.2) (g := (mkF m 45 #[.val (.ref r), .val (.int 0)] [(.int 0), (.int of), (.ref yb), (.ref b6), (.ref b6), (.int 0), (.ref tx)])) rfl (hb hby own_d9_45)
  refine own_by (g' := (mkF m 48 #[.val (.ref r), .val (.int 0)] [(.ref cs), (.int 0), (.int of), (.ref yb), (.ref b6), (.ref b6), (.int 0), (.ref tx)])) st21 ?_
  have a22_tx := (A_tx.ext E6)
  have e23_cs := ((E_cs.ext O0.2).ext E6)
  have a24_yb := (A_y.ext E6)
  have k25_ := ((Keep.refl h0 [tx]).ext E6)
  have hk27_ := (Nat.le_trans hk0 E6.1)
  refine own_callIW X21 hx hZ (y := own_y13) rfl hown (own_h hw 69 rfl) (own_h hw 70 rfl) (own_h hw 71 rfl) (own_h hw 66 rfl) (by decide) hS hk27_ hEL C7.1 (own_i10 l Z a0 hw [] b6 yb of cs ky _ _ zCS fm cs h6 n0 (Nat.le_trans Z0 k25_.1) S_CS nCS S_SF hfm S_UT S_IN E_cs o20_ A6 F_value_b6 F_coder_b6 g_b6 hf1 hf2 e23_cs a24_yb) (by decide) (by decide) e21 (g := (mkF m 48 #[.val (.ref r), .val (.int 0)] [(.ref cs), (.int 0), (.int of), (.ref yb), (.ref b6), (.ref b6), (.int 0), (.ref tx)])) rfl (by rw [hml]; rfl) (argsL := [(.ref yb), (.int of), (.int 0), (.ref cs)]) (rest := [(.ref b6), (.int 0), (.ref tx)]) (lenOf own_pd__28_5bBIILjava_2fnio_2fcharset_2fCharset_3b_29V rfl) rfl (W := 3) (Nat.le_of_eq rfl) (hb hby own_d9_48) rfl (by decide) (by decide) ?_
  rintro rv26 T26 L26 X26 hS hZ hown CH26 ⟨rfl, Nq26, Kq26, Eq26, Cq26, tq, kq_, nq26, Vq26, Aq26⟩
  have N26 := Fr.app N0 Nq26
  show own_Fin p e below _ T26 (mkF m 51 #[.val (.ref r), .val (.int 0)] [(.ref b6), (.int 0), (.ref tx)])
  have sf29_b6 := (sf_b6.ext E6 C0.1)
  have sf30 := CH26.safe A6.lt sf29_b6
  have C28 := C7.trans CH26
  have a31_tx := (a22_tx.keep Kq26 (ninS ne_tx_b6 nin0))
  have ne_tx_tq : tx ≠ tq := fun q => own_arrNe (q ▸ a31_tx) Aq26
  have sw32 : Safe Z consts_1 T26.vm T26.heap tx := (Safe.arv hZ.alike a31_tx (by decide))
  obtain ⟨cl33, Ar33, q33, S33, P33, H33, G33⟩ := id a31_tx
  have hin33 : ¬ ((0 : Int32) < 0 ∨ cl33.slots.size ≤ ((0 : Int32)).toNatClampNeg) := inb_of S33 ⟨by decide, by decide⟩
  obtain ⟨T34, h34, X34, e34, W34, st34⟩ := stR X26 hx hZ rfl Ar33 (j := (0 : Int32)) hin33 rfl (Sto.ofV Ar33 q33 OvT (Ins.self Eq26)) (g := (mkF m 51 #[.val (.ref r), .val (.int 0)] [(.ref b6), (.int 0), (.ref tx)])) rfl rfl (hb hby own_d9_51)
  have V34 : Arv Z h34 tx kt (.object "java/lang/String") (2 : Int32) [(.ref b6), t1] .null := Arv.set Ar33 q33 S33 P33 H33 G33 (own_fitsR rfl rfl) W34 0 rfl (Nat.le_of_ble_eq_true rfl)
  have C35 := C28.trans (CHr.wr W34 sw32 C28.1)
  have N34 := Fr.snoc X34 N26 g_tx
  refine own_by (g' := (mkF m 52 #[.val (.ref r), .val (.int 0)] [])) st34 ?_
  refine own_g (mkF m 53 #[.val (.ref r), .val (.int 0)] [(.ref r)]) (fun _ q => XS.aloadN X34.here hx rfl (hb hby own_d9_52) rfl rfl q) ?_
  have f36_r := (((F_texts.ext E6).keep Kq26 (ninS ne_r_b6 nin0)).other W34 (Or.inl ne_r_tx))
  obtain ⟨T37, X37, e37, st37⟩ := getF X34 hx hZ hown (host := "") (Or.inl (own_h hw 15 rfl)) Via.refl e34 f36_r (g := (mkF m 53 #[.val (.ref r), .val (.int 0)] [(.ref r)])) rfl rfl (hb hby own_d9_53)
  refine own_by (g' := (mkF m 56 #[.val (.ref r), .val (.int 0)] [(.ref tx)])) st37 ?_
  refine own_g (mkF m 57 #[.val (.ref r), .val (.int 0)] [(.int 0), (.ref tx)]) (fun _ q => XS.iloadN X37.here hx rfl (hb hby own_d9_56) rfl q) ?_
  obtain ⟨cl38, Ar38, q38, S38, P38, H38, G38⟩ := id V34
  have hin38 : ¬ ((0 : Int32) < 0 ∨ cl38.slots.size ≤ ((0 : Int32)).toNatClampNeg) := inb_of S38 ⟨by decide, by decide⟩
  refine own_by (g' := (mkF m 58 #[.val (.ref r), .val (.int 0)] [(.ref b6)])) (fun _ kq => X37.aaload hx (j := (0 : Int32)) (v := (.ref b6)) (by rw [e37]; exact Ar38.1) (State.isArrayOf_alike hZ.alike Ar38.2.1) rfl Ar38.2.2 hin38 (H38.at hin38 rfl) (g := (mkF m 57 #[.val (.ref r), .val (.int 0)] [(.int 0), (.ref tx)])) rfl rfl (hb hby own_d9_57) _ kq) ?_
  have f39_r := ((f8_r.keep Kq26 (ninS ne_r_b6 nin0)).other W34 (Or.inl ne_r_tx))
  have f40_r := ((f12_r.keep Kq26 (ninS ne_r_b6 nin0)).other W34 (Or.inl ne_r_tx))
  have f41_r := ((f16_r.keep Kq26 (ninS ne_r_b6 nin0)).other W34 (Or.inl ne_r_tx))
  have f42_r := (((F_unavailable.ext E6).keep Kq26 (ninS ne_r_b6 nin0)).other W34 (Or.inl ne_r_tx))
  have a43_u8 := ((a10_u8.keep Kq26 (ninS ne_u8_b6 nin0)).other W34 (Ne.symm ne_tx_u8))
  have a44_ofs := ((a14_ofs.keep Kq26 (ninS ne_ofs_b6 nin0)).other W34 (Ne.symm ne_tx_ofs))
  have a45_les := ((a18_les.keep Kq26 (ninS ne_les_b6 nin0)).other W34 (Ne.symm ne_tx_les))
  have a46_un := (((A_un.ext E6).keep Kq26 (ninS ne_un_b6 nin0)).other W34 (Ne.symm ne_tx_un))
  have e47_r := (((E_r.ext E6).keep Kq26).wr W34)
  have k48_ := ((k25_.trans Kq26 (allS (Or.inr sz_b6) all0)).wr W34 (Or.inl (List.mem_of_getElem? (i := 0) rfl)))
  have e49_b6 := (Eq26.wr W34)
  have f50_b6 := (Vq26.other W34 (Or.inl (Ne.symm ne_tx_b6)))
  have f51_b6 := (Cq26.other W34 (Or.inl (Ne.symm ne_tx_b6)))
  have a52_tq := (Aq26.other W34 (Ne.symm ne_tx_tq))
  have hk53_ := (Nat.le_trans (Nat.le_refl _) (Keep.of_wr W34).1)
  exact own_endW X37 hS (by rw [e37]; exact hk53_) hZ hEL (by rw [hh]; rw [e37]; exact C35) (v := some (.ref b6)) (fun h => by rw [Bd.returns] at h; cases h) hlk (fun hr => retOut X37 hx Bd.returns (own_narR rfl) (Or.inr (Or.inr (Or.inr (Or.inr ⟨rfl, rfl, rfl⟩)))) (hb hby own_d9_58) hr) (by rw [e37]; exact ⟨b6, tq, kq_, rfl, N34, k48_, e49_b6, f50_b6, f51_b6, a52_tq, ⟨e47_r, f36_r, f39_r, f40_r, f41_r, f42_r, V34, a43_u8, a44_ofs, a45_les, a46_un⟩⟩) (by decide) (by decide)
theorem own_text0_1_ef (m : MethodId) (r : Addr) : entryFrame m #[(.ref r), (.int 1)] 2 = mkF m 0 #[.val (.ref r), .val (.int 1)] [] := by  first | (simp [entryFrame, mkF, argsToLocals, Value.category]; done) | rfl
def own_text0_1_Q (Z : State) (r : Addr) (tx : Addr) (u8 : Addr) (ofs : Addr) (les : Addr) (un : Addr) (kt : ClassId) (ku : ClassId) (ko : ClassId) (kl : ClassId) (kn : ClassId) (t0 : Value) (bb : Value) (o0 : Int32) (l0 : Int32) (m0 : Int32) (yb : Addr) (ky : ClassId) (b0 : Int32) (b1 : Int32) (b2 : Int32) (b3 : Int32) (of : Int32) (zCS : Int32) (fm : Value) (cs : Addr) (h0 : Heap) (n0 : Nat) (v : Option Value) (h : Heap) (L : List Loc) : Prop := ∃ (t tb : Addr) (kx : ClassId), v = some (.ref t) ∧ Fr n0 L ∧ Keep h0 h [tx] ∧ Exa Z h t "java/lang/String" ∧ Fld Z h t "java/lang/String" "value" "[B" (.ref tb) ∧ Fld Z h t "java/lang/String" "coder" "B" (.int 0) ∧ Arv Z h tb kx .byte (0 : Int32) [] (.int 0) ∧ own_Row Z h r tx u8 ofs les un kt ku ko kl kn t0 (.ref t) bb (.ref yb) o0 of l0 (0 : Int32) m0 (0 : Int32)
set_option maxRecDepth 65536 in
set_option maxHeartbeats 40000000 in
theorem own_text0_1 (l : Launch) (Z : State) (a0 : Array Value) (hw : ∀ d ∈ tables_1, d.before a0 Z = true) (ws : List Jvm.Cond) (r : Addr) (tx : Addr) (u8 : Addr) (ofs : Addr) (les : Addr) (un : Addr) (kt : ClassId) (ku : ClassId) (ko : ClassId) (kl : ClassId) (kn : ClassId) (t0 : Value) (bb : Value) (o0 : Int32) (l0 : Int32) (m0 : Int32) (yb : Addr) (ky : ClassId) (b0 : Int32) (b1 : Int32) (b2 : Int32) (b3 : Int32) (of : Int32) (zCS : Int32) (fm : Value) (cs : Addr) (h0 : Heap) (n0 : Nat) (Z0 : n0 ≤ h0.size) (S_CS : own_A0 Z zCS) (nCS : ¬ zCS = 0) (S_SF : own_A2 Z fm) (hfm : fm.isRef = true) (S_UT : own_A1 Z cs) (S_IN : own_A3 Z cs) (E_cs : Exa Z Z.heap cs "sun/nio/cs/UTF_8") (O0 : Old Z n0 h0) (ht0 : t0.isRef = true) (hbb : bb.isRef = true) (RA : own_RowA Z n0 r tx u8 ofs les un kt ku ko kl kn) (RW : own_Row Z h0 r tx u8 ofs les un kt ku ko kl kn t0 .null bb (.ref yb) o0 of l0 (0 : Int32) m0 (0 : Int32)) (A_y : Arv Z h0 yb ky .byte (4 : Int32) [(.int b0), (.int b1), (.int b2), (.int b3)] (.int 0)) (hf1 : ¬ (((4 : Int32) ||| of) ||| (0 : Int32)) < (0 : Int32)) (hf2 : ¬ ((4 : Int32) - of) < (0 : Int32)) :
    MetFree l own_y6 (head1 (Jvm.Cond.code own_y6 prog_10_method_3_code 2 (some (.object "java/lang/String")) :: ws) (⟨3, 5, 12, 53⟩ : Room)) (fun aa U => aa = #[(.ref r), (.int 1)] ∧ Z.Warmed39 U.vm ∧ U.heap = h0 ∧ CHv Z consts_1 U.vm h0) (fun _ _ _ _ _ => True) (fun _ U o U' => ∃ v L, o = .returned v ∧ own_text0_1_Q Z r tx u8 ofs les un kt ku ko kl kn t0 bb o0 l0 m0 yb ky b0 b1 b2 b3 of zCS fm cs h0 n0 v U'.heap L ∧ CHr Z consts_1 U.vm U.heap U'.vm U'.heap ∧ ReturnedEndW U o U' L (⟨3, 5, 12, 53⟩ : Room).cells (⟨3, 5, 12, 53⟩ : Room).slots) := by
  refine MetFree.of_bodySF (plainFor_of_name own_pn_com_example_rowtide_rowtide_event_Row) hisR ?_
  intro p e s m args below meth c s₁ Bd hml0 hP hK
  obtain ⟨rfl, hZ, hh, CH0⟩ := hP
  have hx := Bd.exec
  have hby := Bd.bytes
  have hml : c.maxLocals = 2 := hml0
  have hown : s.vm.findClass "com/example/rowtide/rowtide/event/Row" = some m.cls := findClass_of_methodNamed Bd.named
  have hnm := (name_of_methodNamed Bd.named Bd.method).1
  have hlk := Bd.notSynchronized
  have X0 : Stand p l e (⟨3, 5, 12, 53⟩ : Room) (s.setVm s.vm) m #[(.ref r), (.int 1)] below meth c s₁ [] 0 0 := Stand.of_body Bd
  have e0 : s₁.heap = h0 := by rw [← hh, Bd.state]; rfl
  have N0 := Fr.nil n0
  have hS : s.Since s.vm 0 := (State.WarmedH.refl s).since 0
  have hk0 : 0 ≤ h0.size := Nat.zero_le _
  have wS := own_wS hw
  have C0 : CHr Z consts_1 s.vm h0 s.vm h0 := CHr.refl CH0
  have hEL := own_hEL hw
  refine own_startW (EL := consts_1) (Q := own_text0_1_Q Z r tx u8 ofs les un kt ku ko kl kn t0 bb o0 l0 m0 yb ky b0 b1 b2 b3 of zCS fm cs h0 n0) (own_text0_1_ef m r) ?_
  obtain ⟨OvT, OvU, g_tx, g_u8, g_ofs, g_les, g_un, ne_r_tx, ne_r_u8, ne_r_ofs, ne_r_les, ne_r_un, ne_tx_u8, ne_tx_ofs, ne_tx_les, ne_tx_un, ne_u8_ofs, ne_u8_les, ne_u8_un, ne_ofs_les, ne_ofs_un, ne_les_un⟩ := RA
  obtain ⟨E_r, F_texts, F_utf8, F_utf8Offsets, F_utf8Lengths, F_unavailable, A_tx, A_u8, A_ofs, A_les, A_un⟩ := RW
  refine own_g (mkF m 1 #[.val (.ref r), .val (.int 1)] [(.ref r)]) (fun _ q => XS.aloadN X0.here hx rfl (hb hby own_d9_0) rfl rfl q) ?_
  obtain ⟨T1, X1, e1, st1⟩ := getF X0 hx hZ hown (host := "") (Or.inl (own_h hw 15 rfl)) Via.refl e0 F_texts (g := (mkF m 1 #[.val (.ref r), .val (.int 1)] [(.ref r)])) rfl rfl (hb hby own_d9_1)
  refine own_by (g' := (mkF m 4 #[.val (.ref r), .val (.int 1)] [(.ref tx)])) st1 ?_
  refine own_g (mkF m 5 #[.val (.ref r), .val (.int 1)] [(.int 1), (.ref tx)]) (fun _ q => XS.iloadN X1.here hx rfl (hb hby own_d9_4) rfl q) ?_
  obtain ⟨cl2, Ar2, q2, S2, P2, H2, G2⟩ := id A_tx
  have hin2 : ¬ ((1 : Int32) < 0 ∨ cl2.slots.size ≤ ((1 : Int32)).toNatClampNeg) := inb_of S2 ⟨by decide, by decide⟩
  refine own_by (g' := (mkF m 6 #[.val (.ref r), .val (.int 1)] [.null])) (fun _ kq => X1.aaload hx (j := (1 : Int32)) (v := .null) (by rw [e1]; exact Ar2.1) (State.isArrayOf_alike hZ.alike Ar2.2.1) rfl Ar2.2.2 hin2 (H2.at hin2 rfl) (g := (mkF m 5 #[.val (.ref r), .val (.int 1)] [(.int 1), (.ref tx)])) rfl rfl (hb hby own_d9_5) _ kq) ?_
  refine own_g (mkF m 10 #[.val (.ref r), .val (.int 1)] [(.ref r)]) (fun _ q => XS.ifnonnullNo X1.here hx rfl (hb hby own_d9_6) rfl (XS.aloadN X1.here hx rfl (hb hby own_d9_9) rfl rfl q)) ?_
  obtain ⟨T3, X3, e3, st3⟩ := getF X1 hx hZ hown (host := "") (Or.inl (own_h hw 19 rfl)) Via.refl e1 F_utf8 (g := (mkF m 10 #[.val (.ref r), .val (.int 1)] [(.ref r)])) rfl rfl (hb hby own_d9_10)
  refine own_by (g' := (mkF m 13 #[.val (.ref r), .val (.int 1)] [(.ref u8)])) st3 ?_
  refine own_g (mkF m 14 #[.val (.ref r), .val (.int 1)] [(.int 1), (.ref u8)]) (fun _ q => XS.iloadN X3.here hx rfl (hb hby own_d9_13) rfl q) ?_
  obtain ⟨cl4, Ar4, q4, S4, P4, H4, G4⟩ := id A_u8
  have hin4 : ¬ ((1 : Int32) < 0 ∨ cl4.slots.size ≤ ((1 : Int32)).toNatClampNeg) := inb_of S4 ⟨by decide, by decide⟩
  refine own_by (g' := (mkF m 15 #[.val (.ref r), .val (.int 1)] [(.ref yb)])) (fun _ kq => X3.aaload hx (j := (1 : Int32)) (v := (.ref yb)) (by rw [e3]; exact Ar4.1) (State.isArrayOf_alike hZ.alike Ar4.2.1) rfl Ar4.2.2 hin4 (H4.at hin4 rfl) (g := (mkF m 14 #[.val (.ref r), .val (.int 1)] [(.int 1), (.ref u8)])) rfl rfl (hb hby own_d9_14) _ kq) ?_
  refine own_g (mkF m 19 #[.val (.ref r), .val (.int 1)] [(.ref r)]) (fun _ q => XS.ifnullNo X3.here hx rfl (hb hby own_d9_15) rfl (XS.aloadN X3.here hx rfl (hb hby own_d9_18) rfl rfl q)) ?_
  obtain ⟨T5, X5, e5, st5⟩ := getF X3 hx hZ hown (host := "") (Or.inl (own_h hw 15 rfl)) Via.refl e3 F_texts (g := (mkF m 19 #[.val (.ref r), .val (.int 1)] [(.ref r)])) rfl rfl (hb hby own_d9_19)
  refine own_by (g' := (mkF m 22 #[.val (.ref r), .val (.int 1)] [(.ref tx)])) st5 ?_
  refine own_g (mkF m 23 #[.val (.ref r), .val (.int 1)] [(.int 1), (.ref tx)]) (fun _ q => XS.iloadN X5.here hx rfl (hb hby own_d9_22) rfl q) ?_
  obtain ⟨T6, h6, X6, e6, E6, A6, D6, U6, st6⟩ := newO X5 hx hZ hown (own_h hw 13 rfl) (own_h hw 65 rfl) (own_h hw 66 rfl) e5 (g := (mkF m 23 #[.val (.ref r), .val (.int 1)] [(.int 1), (.ref tx)])) rfl (hb hby own_d9_23) (by decide) (by decide)
  obtain ⟨b6, g6⟩ : ∃ z, z = h0.size := ⟨_, rfl⟩
  rw [← g6] at A6 D6 U6 st6
  have g_b6 : n0 ≤ b6 := Nat.le_trans (Nat.le_trans Z0 (Keep.refl h0 [tx]).1) (Nat.le_of_eq g6.symm)
  have sz_b6 : h0.size ≤ b6 := Nat.le_trans (Keep.refl h0 [tx]).1 (Nat.le_of_eq g6.symm)
  have sf_b6 : Safe Z consts_1 s.vm h0 b6 := Safe.new (Nat.le_of_eq g6.symm)
  have ne_r_b6 : r ≠ b6 := Nat.ne_of_lt (Nat.lt_of_lt_of_le E_r.lt (Nat.le_of_eq g6.symm))
  have ne_tx_b6 : tx ≠ b6 := Nat.ne_of_lt (Nat.lt_of_lt_of_le A_tx.lt (Nat.le_of_eq g6.symm))
  have ne_u8_b6 : u8 ≠ b6 := Nat.ne_of_lt (Nat.lt_of_lt_of_le A_u8.lt (Nat.le_of_eq g6.symm))
  have ne_ofs_b6 : ofs ≠ b6 := Nat.ne_of_lt (Nat.lt_of_lt_of_le A_ofs.lt (Nat.le_of_eq g6.symm))
  have ne_les_b6 : les ≠ b6 := Nat.ne_of_lt (Nat.lt_of_lt_of_le A_les.lt (Nat.le_of_eq g6.symm))
  have ne_un_b6 : un ≠ b6 := Nat.ne_of_lt (Nat.lt_of_lt_of_le A_un.lt (Nat.le_of_eq g6.symm))
  have ne_yb_b6 : yb ≠ b6 := Nat.ne_of_lt (Nat.lt_of_lt_of_le A_y.lt (Nat.le_of_eq g6.symm))
  have ne_cs_b6 : cs ≠ b6 := Nat.ne_of_lt (Nat.lt_of_lt_of_le (E_cs.ext O0.2).lt (Nat.le_of_eq g6.symm))
  have C7 := C0.trans (CHr.ext E6 C0.1)
  have F_value_b6 : Fld Z h6 b6 "java/lang/String" "value" "[B" .null := D6 (Or.inr (own_h hw 92 rfl)) (ty := (.array .byte)) (by decide)
  have F_coder_b6 : Fld Z h6 b6 "java/lang/String" "coder" "B" (.int 0) := D6 (Or.inr (own_h hw 93 rfl)) (ty := .byte) (by decide)
  refine own_by (g' := (mkF m 26 #[.val (.ref r), .val (.int 1)] [(.ref b6), (.int 1), (.ref tx)])) st6 ?_
  refine own_g (mkF m 28 #[.val (.ref r), .val (.int 1)] [(.ref r), (.ref b6), (.ref b6), (.int 1), (.ref tx)]) (fun _ q => XS.dup X6.here hx rfl (hb hby own_d9_26) rfl rfl (XS.aloadN X6.here hx rfl (hb hby own_d9_27) rfl rfl q)) ?_
  have f8_r := (F_utf8.ext E6)
  obtain ⟨T9, X9, e9, st9⟩ := getF X6 hx hZ hown (host := "") (Or.inl (own_h hw 19 rfl)) Via.refl e6 f8_r (g := (mkF m 28 #[.val (.ref r), .val (.int 1)] [(.ref r), (.ref b6), (.ref b6), (.int 1), (.ref tx)])) rfl rfl (hb hby own_d9_28)
  refine own_by (g' := (mkF m 31 #[.val (.ref r), .val (.int 1)] [(.ref u8), (.ref b6), (.ref b6), (.int 1), (.ref tx)])) st9 ?_
  refine own_g (mkF m 32 #[.val (.ref r), .val (.int 1)] [(.int 1), (.ref u8), (.ref b6), (.ref b6), (.int 1), (.ref tx)]) (fun _ q => XS.iloadN X9.here hx rfl (hb hby own_d9_31) rfl q) ?_
  have a10_u8 := (A_u8.ext E6)
  obtain ⟨cl11, Ar11, q11, S11, P11, H11, G11⟩ := id a10_u8
  have hin11 : ¬ ((1 : Int32) < 0 ∨ cl11.slots.size ≤ ((1 : Int32)).toNatClampNeg) := inb_of S11 ⟨by decide, by decide⟩
  refine own_by (g' := (mkF m 33 #[.val (.ref r), .val (.int 1)] [(.ref yb), (.ref b6), (.ref b6), (.int 1), (.ref tx)])) (fun _ kq => X9.aaload hx (j := (1 : Int32)) (v := (.ref yb)) (by rw [e9]; exact Ar11.1) (State.isArrayOf_alike hZ.alike Ar11.2.1) rfl Ar11.2.2 hin11 (H11.at hin11 rfl) (g := (mkF m 32 #[.val (.ref r), .val (.int 1)] [(.int 1), (.ref u8), (.ref b6), (.ref b6), (.int 1), (.ref tx)])) rfl rfl (hb hby own_d9_32) _ kq) ?_
  refine own_g (mkF m 34 #[.val (.ref r), .val (.int 1)] [(.ref r), (.ref yb), (.ref b6), (.ref b6), (.int 1), (.ref tx)]) (fun _ q => XS.aloadN X9.here hx rfl (hb hby own_d9_33) rfl rfl q) ?_
  have f12_r := (F_utf8Offsets.ext E6)
  obtain ⟨T13, X13, e13, st13⟩ := getF X9 hx hZ hown (host := "") (Or.inl (own_h hw 22 rfl)) Via.refl e9 f12_r (g := (mkF m 34 #[.val (.ref r), .val (.int 1)] [(.ref r), (.ref yb), (.ref b6), (.ref b6), (.int 1), (.ref tx)])) rfl rfl (hb hby own_d9_34)
  refine own_by (g' := (mkF m 37 #[.val (.ref r), .val (.int 1)] [(.ref ofs), (.ref yb), (.ref b6), (.ref b6), (.int 1), (.ref tx)])) st13 ?_
  refine own_g (mkF m 38 #[.val (.ref r), .val (.int 1)] [(.int 1), (.ref ofs), (.ref yb), (.ref b6), (.ref b6), (.int 1), (.ref tx)]) (fun _ q => XS.iloadN X13.here hx rfl (hb hby own_d9_37) rfl q) ?_
  have a14_ofs := (A_ofs.ext E6)
  obtain ⟨cl15, Ar15, q15, S15, P15, H15, G15⟩ := id a14_ofs
  have hin15 : ¬ ((1 : Int32) < 0 ∨ cl15.slots.size ≤ ((1 : Int32)).toNatClampNeg) := inb_of S15 ⟨by decide, by decide⟩
  refine own_by (g' := (mkF m 39 #[.val (.ref r), .val (.int 1)] [(.int of), (.ref yb), (.ref b6), (.ref b6), (.int 1), (.ref tx)])) (fun _ kq => X13.iaload hx (j := (1 : Int32)) (v := (.int of)) (by rw [e13]; exact Ar15.1) (State.isArrayOf_alike hZ.alike Ar15.2.1) Ar15.2.2 hin15 (H15.at hin15 rfl) (g := (mkF m 38 #[.val (.ref r), .val (.int 1)] [(.int 1), (.ref ofs), (.ref yb), (.ref b6), (.ref b6), (.int 1), (.ref tx)])) rfl rfl (hb hby own_d9_38) _ kq) ?_
  refine own_g (mkF m 40 #[.val (.ref r), .val (.int 1)] [(.ref r), (.int of), (.ref yb), (.ref b6), (.ref b6), (.int 1), (.ref tx)]) (fun _ q => XS.aloadN X13.here hx rfl (hb hby own_d9_39) rfl rfl q) ?_
  have f16_r := (F_utf8Lengths.ext E6)
  obtain ⟨T17, X17, e17, st17⟩ := getF X13 hx hZ hown (host := "") (Or.inl (own_h hw 24 rfl)) Via.refl e13 f16_r (g := (mkF m 40 #[.val (.ref r), .val (.int 1)] [(.ref r), (.int of), (.ref yb), (.ref b6), (.ref b6), (.int 1), (.ref tx)])) rfl rfl (hb hby own_d9_40)
  refine own_by (g' := (mkF m 43 #[.val (.ref r), .val (.int 1)] [(.ref les), (.int of), (.ref yb), (.ref b6), (.ref b6), (.int 1), (.ref tx)])) st17 ?_
  refine own_g (mkF m 44 #[.val (.ref r), .val (.int 1)] [(.int 1), (.ref les), (.int of), (.ref yb), (.ref b6), (.ref b6), (.int 1), (.ref tx)]) (fun _ q => XS.iloadN X17.here hx rfl (hb hby own_d9_43) rfl q) ?_
  have a18_les := (A_les.ext E6)
  obtain ⟨cl19, Ar19, q19, S19, P19, H19, G19⟩ := id a18_les
  have hin19 : ¬ ((1 : Int32) < 0 ∨ cl19.slots.size ≤ ((1 : Int32)).toNatClampNeg) := inb_of S19 ⟨by decide, by decide⟩
  refine own_by (g' := (mkF m 45 #[.val (.ref r), .val (.int 1)] [(.int 0), (.int of), (.ref yb), (.ref b6), (.ref b6), (.int 1), (.ref tx)])) (fun _ kq => X17.iaload hx (j := (1 : Int32)) (v := (.int 0)) (by rw [e17]; exact Ar19.1) (State.isArrayOf_alike hZ.alike Ar19.2.1) Ar19.2.2 hin19 (H19.at hin19 rfl) (g := (mkF m 44 #[.val (.ref r), .val (.int 1)] [(.int 1), (.ref les), (.int of), (.ref yb), (.ref b6), (.ref b6), (.int 1), (.ref tx)])) rfl rfl (hb hby own_d9_44) _ kq) ?_
  have o20_ := (O0.ext E6)
  obtain ⟨T21, X21, e21, st21⟩ := getS2 X17 hx hZ hown (host := "") (Or.inl (own_h hw 67 rfl)) Via.refl e17 (S_UT.ext o20_.2) (g := (mkF m 45 #[.val (.ref r), .val (.int 1)] [(.int 0), (.int of), (.ref yb), (.ref b6), (.ref b6), (.int 1), (.ref tx)])) rfl (hb hby own_d9_45)
  refine own_by (g' := (mkF m 48 #[.val (.ref r), .val (.int 1)] [(.ref cs), (.int 0), (.int of), (.ref yb), (.ref b6), (.ref b6), (.int 1), (.ref tx)])) st21 ?_
  have a22_tx := (A_tx.ext E6)
  have e23_cs := ((E_cs.ext O0.2).ext E6)
  have a24_yb := (A_y.ext E6)
  have k25_ := ((Keep.refl h0 [tx]).ext E6)
  have hk27_ := (Nat.le_trans hk0 E6.1)
  refine own_callIW X21 hx hZ (y := own_y13) rfl hown (own_h hw 69 rfl) (own_h hw 70 rfl) (own_h hw 71 rfl) (own_h hw 66 rfl) (by decide) hS hk27_ hEL C7.1 (own_i10 l Z a0 hw [] b6 yb of cs ky _ _ zCS fm cs h6 n0 (Nat.le_trans Z0 k25_.1) S_CS nCS S_SF hfm S_UT S_IN E_cs o20_ A6 F_value_b6 F_coder_b6 g_b6 hf1 hf2 e23_cs a24_yb) (by decide) (by decide) e21 (g := (mkF m 48 #[.val (.ref r), .val (.int 1)] [(.ref cs), (.int 0), (.int of), (.ref yb), (.ref b6), (.ref b6), (.int 1), (.ref tx)])) rfl (by rw [hml]; rfl) (argsL := [(.ref yb), (.int of), (.int 0), (.ref cs)]) (rest := [(.ref b6), (.int 1), (.ref tx)]) (lenOf own_pd__28_5bBIILjava_2fnio_2fcharset_2fCharset_3b_29V rfl) rfl (W := 3) (Nat.le_of_eq rfl) (hb hby own_d9_48) rfl (by decide) (by decide) ?_
  rintro rv26 T26 L26 X26 hS hZ hown CH26 ⟨rfl, Nq26, Kq26, Eq26, Cq26, tq, kq_, nq26, Vq26, Aq26⟩
  have N26 := Fr.app N0 Nq26
  show own_Fin p e below _ T26 (mkF m 51 #[.val (.ref r), .val (.int 1)] [(.ref b6), (.int 1), (.ref tx)])
  have sf29_b6 := (sf_b6.ext E6 C0.1)
  have sf30 := CH26.safe A6.lt sf29_b6
  have C28 := C7.trans CH26
  have a31_tx := (a22_tx.keep Kq26 (ninS ne_tx_b6 nin0))
  have ne_tx_tq : tx ≠ tq := fun q => own_arrNe (q ▸ a31_tx) Aq26
  have sw32 : Safe Z consts_1 T26.vm T26.heap tx := (Safe.arv hZ.alike a31_tx (by decide))
  obtain ⟨cl33, Ar33, q33, S33, P33, H33, G33⟩ := id a31_tx
  have hin33 : ¬ ((1 : Int32) < 0 ∨ cl33.slots.size ≤ ((1 : Int32)).toNatClampNeg) := inb_of S33 ⟨by decide, by decide⟩
  obtain ⟨T34, h34, X34, e34, W34, st34⟩ := stR X26 hx hZ rfl Ar33 (j := (1 : Int32)) hin33 rfl (Sto.ofV Ar33 q33 OvT (Ins.self Eq26)) (g := (mkF m 51 #[.val (.ref r), .val (.int 1)] [(.ref b6), (.int 1), (.ref tx)])) rfl rfl (hb hby own_d9_51)
  have V34 : Arv Z h34 tx kt (.object "java/lang/String") (2 : Int32) [t0, (.ref b6)] .null := Arv.set Ar33 q33 S33 P33 H33 G33 (own_fitsR rfl rfl) W34 1 rfl (Nat.le_of_ble_eq_true rfl)
  have C35 := C28.trans (CHr.wr W34 sw32 C28.1)
  have N34 := Fr.snoc X34 N26 g_tx
  refine own_by (g' := (mkF m 52 #[.val (.ref r), .val (.int 1)] [])) st34 ?_
  refine own_g (mkF m 53 #[.val (.ref r), .val (.int 1)] [(.ref r)]) (fun _ q => XS.aloadN X34.here hx rfl (hb hby own_d9_52) rfl rfl q) ?_
  have f36_r := (((F_texts.ext E6).keep Kq26 (ninS ne_r_b6 nin0)).other W34 (Or.inl ne_r_tx))
  obtain ⟨T37, X37, e37, st37⟩ := getF X34 hx hZ hown (host := "") (Or.inl (own_h hw 15 rfl)) Via.refl e34 f36_r (g := (mkF m 53 #[.val (.ref r), .val (.int 1)] [(.ref r)])) rfl rfl (hb hby own_d9_53)
  refine own_by (g' := (mkF m 56 #[.val (.ref r), .val (.int 1)] [(.ref tx)])) st37 ?_
  refine own_g (mkF m 57 #[.val (.ref r), .val (.int 1)] [(.int 1), (.ref tx)]) (fun _ q => XS.iloadN X37.here hx rfl (hb hby own_d9_56) rfl q) ?_
  obtain ⟨cl38, Ar38, q38, S38, P38, H38, G38⟩ := id V34
  have hin38 : ¬ ((1 : Int32) < 0 ∨ cl38.slots.size ≤ ((1 : Int32)).toNatClampNeg) := inb_of S38 ⟨by decide, by decide⟩
  refine own_by (g' := (mkF m 58 #[.val (.ref r), .val (.int 1)] [(.ref b6)])) (fun _ kq => X37.aaload hx (j := (1 : Int32)) (v := (.ref b6)) (by rw [e37]; exact Ar38.1) (State.isArrayOf_alike hZ.alike Ar38.2.1) rfl Ar38.2.2 hin38 (H38.at hin38 rfl) (g := (mkF m 57 #[.val (.ref r), .val (.int 1)] [(.int 1), (.ref tx)])) rfl rfl (hb hby own_d9_57) _ kq) ?_
  have f39_r := ((f8_r.keep Kq26 (ninS ne_r_b6 nin0)).other W34 (Or.inl ne_r_tx))
  have f40_r := ((f12_r.keep Kq26 (ninS ne_r_b6 nin0)).other W34 (Or.inl ne_r_tx))
  have f41_r := ((f16_r.keep Kq26 (ninS ne_r_b6 nin0)).other W34 (Or.inl ne_r_tx))
  have f42_r := (((F_unavailable.ext E6).keep Kq26 (ninS ne_r_b6 nin0)).other W34 (Or.inl ne_r_tx))
  have a43_u8 := ((a10_u8.keep Kq26 (ninS ne_u8_b6 nin0)).other W34 (Ne.symm ne_tx_u8))
  have a44_ofs := ((a14_ofs.keep Kq26 (ninS ne_ofs_b6 nin0)).other W34 (Ne.symm ne_tx_ofs))
  have a45_les := ((a18_les.keep Kq26 (ninS ne_les_b6 nin0)).other W34 (Ne.symm ne_tx_les))
  have a46_un := (((A_un.ext E6).keep Kq26 (ninS ne_un_b6 nin0)).other W34 (Ne.symm ne_tx_un))
  have e47_r := (((E_r.ext E6).keep Kq26).wr W34)
  have k48_ := ((k25_.trans Kq26 (allS (Or.inr sz_b6) all0)).wr W34 (Or.inl (List.mem_of_getElem? (i := 0) rfl)))
  have e49_b6 := (Eq26.wr W34)
  have f50_b6 := (Vq26.other W34 (Or.inl (Ne.symm ne_tx_b6)))
  have f51_b6 := (Cq26.other W34 (Or.inl (Ne.symm ne_tx_b6)))
  have a52_tq := (Aq26.other W34 (Ne.symm ne_tx_tq))
  have hk53_ := (Nat.le_trans (Nat.le_refl _) (Keep.of_wr W34).1)
  exact own_endW X37 hS (by rw [e37]; exact hk53_) hZ hEL (by rw [hh]; rw [e37]; exact C35) (v := some (.ref b6)) (fun h => by rw [Bd.returns] at h; cases h) hlk (fun hr => retOut X37 hx Bd.returns (own_narR rfl) (Or.inr (Or.inr (Or.inr (Or.inr ⟨rfl, rfl, rfl⟩)))) (hb hby own_d9_58) hr) (by rw [e37]; exact ⟨b6, tq, kq_, rfl, N34, k48_, e49_b6, f50_b6, f51_b6, a52_tq, ⟨e47_r, f36_r, f39_r, f40_r, f41_r, f42_r, V34, a43_u8, a44_ofs, a45_les, a46_un⟩⟩) (by decide) (by decide)
theorem own_textG_0_ef (m : MethodId) (r : Addr) : entryFrame m #[(.ref r), (.int 0)] 2 = mkF m 0 #[.val (.ref r), .val (.int 0)] [] := by  first | (simp [entryFrame, mkF, argsToLocals, Value.category]; done) | rfl
def own_textG_0_Q (Z : State) (r : Addr) (tx : Addr) (u8 : Addr) (ofs : Addr) (les : Addr) (un : Addr) (kt : ClassId) (ku : ClassId) (ko : ClassId) (kl : ClassId) (kn : ClassId) (t1 : Value) (bb : Value) (o1 : Int32) (l1 : Int32) (m1 : Int32) (yb : Addr) (ky : ClassId) (b0 : Int32) (b1 : Int32) (b2 : Int32) (b3 : Int32) (of : Int32) (ln : Int32) (zCS : Int32) (fm : Value) (cs : Addr) (h0 : Heap) (n0 : Nat) (v : Option Value) (h : Heap) (L : List Loc) : Prop := ∃ (t tb : Addr) (kx : ClassId), v = some (.ref t) ∧ Fr n0 L ∧ Keep h0 h [tx] ∧ Exa Z h t "java/lang/String" ∧ Fld Z h t "java/lang/String" "value" "[B" (.ref tb) ∧ Fld Z h t "java/lang/String" "coder" "B" (.int 0) ∧ Arv Z h tb kx .byte ln (((([b0, b1, b2, b3] : List Int32).drop of.toNatClampNeg).take ln.toNatClampNeg).map Value.int) (.int 0) ∧ own_Row Z h r tx u8 ofs les un kt ku ko kl kn (.ref t) t1 (.ref yb) bb of o1 ln l1 (0 : Int32) m1
set_option maxRecDepth 65536 in
set_option maxHeartbeats 40000000 in
theorem own_textG_0 (l : Launch) (Z : State) (a0 : Array Value) (hw : ∀ d ∈ tables_1, d.before a0 Z = true) (ws : List Jvm.Cond) (r : Addr) (tx : Addr) (u8 : Addr) (ofs : Addr) (les : Addr) (un : Addr) (kt : ClassId) (ku : ClassId) (ko : ClassId) (kl : ClassId) (kn : ClassId) (t1 : Value) (bb : Value) (o1 : Int32) (l1 : Int32) (m1 : Int32) (yb : Addr) (ky : ClassId) (b0 : Int32) (b1 : Int32) (b2 : Int32) (b3 : Int32) (of : Int32) (ln : Int32) (zCS : Int32) (fm : Value) (cs : Addr) (h0 : Heap) (n0 : Nat) (Z0 : n0 ≤ h0.size) (S_CS : own_A0 Z zCS) (nCS : ¬ zCS = 0) (S_SF : own_A2 Z fm) (hfm : fm.isRef = true) (S_UT : own_A1 Z cs) (S_IN : own_A3 Z cs) (E_cs : Exa Z Z.heap cs "sun/nio/cs/UTF_8") (O0 : Old Z n0 h0) (ht1 : t1.isRef = true) (hbb : bb.isRef = true) (RA : own_RowA Z n0 r tx u8 ofs les un kt ku ko kl kn) (RW : own_Row Z h0 r tx u8 ofs les un kt ku ko kl kn .null t1 (.ref yb) bb of o1 ln l1 (0 : Int32) m1) (A_y : Arv Z h0 yb ky .byte (4 : Int32) [(.int b0), (.int b1), (.int b2), (.int b3)] (.int 0)) (E_y : Exa Z h0 yb "[B") (U_y : Unt h0 yb) (hp : ∀ c ∈ ([b0, b1, b2, b3] : List Int32), ¬ c < 0) (hOL : own_OL of ln) (hl : ¬ ln = (0 : Int32)) :
    MetFree l own_y6 (head1 (Jvm.Cond.code own_y6 prog_10_method_3_code 2 (some (.object "java/lang/String")) :: ws) (⟨5, 2, 8, 112⟩ : Room)) (fun aa U => aa = #[(.ref r), (.int 0)] ∧ Z.Warmed39 U.vm ∧ U.heap = h0) (fun _ _ _ _ _ => True) (fun _ U o U' => ∃ v L, o = .returned v ∧ own_textG_0_Q Z r tx u8 ofs les un kt ku ko kl kn t1 bb o1 l1 m1 yb ky b0 b1 b2 b3 of ln zCS fm cs h0 n0 v U'.heap L ∧ FrameEnd U o U' L (⟨5, 2, 8, 112⟩ : Room).cells (⟨5, 2, 8, 112⟩ : Room).slots) := by
  rcases hOL with ⟨rfl, rfl⟩ | ⟨rfl, rfl⟩ | ⟨rfl, rfl⟩ | ⟨rfl, rfl⟩ | ⟨rfl, rfl⟩ | ⟨rfl, rfl⟩ | ⟨rfl, rfl⟩ | ⟨rfl, rfl⟩ | ⟨rfl, rfl⟩ | ⟨rfl, rfl⟩ | ⟨rfl, rfl⟩ | ⟨rfl, rfl⟩ | ⟨rfl, rfl⟩ | ⟨rfl, rfl⟩ | ⟨rfl, rfl⟩
  · exact absurd rfl hl
  · exact own_text_0 l Z a0 hw ws r tx u8 ofs les un kt ku ko kl kn t1 bb o1 l1 m1 yb ky b0 b1 b2 b3 0 1 zCS fm cs h0 n0 Z0 S_CS nCS S_SF hfm S_UT S_IN E_cs O0 ht1 hbb RA RW A_y E_y U_y (by decide) (by decide) hp
  · exact own_text_0 l Z a0 hw ws r tx u8 ofs les un kt ku ko kl kn t1 bb o1 l1 m1 yb ky b0 b1 b2 b3 0 2 zCS fm cs h0 n0 Z0 S_CS nCS S_SF hfm S_UT S_IN E_cs O0 ht1 hbb RA RW A_y E_y U_y (by decide) (by decide) hp
  · exact own_text_0 l Z a0 hw ws r tx u8 ofs les un kt ku ko kl kn t1 bb o1 l1 m1 yb ky b0 b1 b2 b3 0 3 zCS fm cs h0 n0 Z0 S_CS nCS S_SF hfm S_UT S_IN E_cs O0 ht1 hbb RA RW A_y E_y U_y (by decide) (by decide) hp
  · exact own_text_0 l Z a0 hw ws r tx u8 ofs les un kt ku ko kl kn t1 bb o1 l1 m1 yb ky b0 b1 b2 b3 0 4 zCS fm cs h0 n0 Z0 S_CS nCS S_SF hfm S_UT S_IN E_cs O0 ht1 hbb RA RW A_y E_y U_y (by decide) (by decide) hp
  · exact absurd rfl hl
  · exact own_text_0 l Z a0 hw ws r tx u8 ofs les un kt ku ko kl kn t1 bb o1 l1 m1 yb ky b0 b1 b2 b3 1 1 zCS fm cs h0 n0 Z0 S_CS nCS S_SF hfm S_UT S_IN E_cs O0 ht1 hbb RA RW A_y E_y U_y (by decide) (by decide) hp
  · exact own_text_0 l Z a0 hw ws r tx u8 ofs les un kt ku ko kl kn t1 bb o1 l1 m1 yb ky b0 b1 b2 b3 1 2 zCS fm cs h0 n0 Z0 S_CS nCS S_SF hfm S_UT S_IN E_cs O0 ht1 hbb RA RW A_y E_y U_y (by decide) (by decide) hp
  · exact own_text_0 l Z a0 hw ws r tx u8 ofs les un kt ku ko kl kn t1 bb o1 l1 m1 yb ky b0 b1 b2 b3 1 3 zCS fm cs h0 n0 Z0 S_CS nCS S_SF hfm S_UT S_IN E_cs O0 ht1 hbb RA RW A_y E_y U_y (by decide) (by decide) hp
  · exact absurd rfl hl
  · exact own_text_0 l Z a0 hw ws r tx u8 ofs les un kt ku ko kl kn t1 bb o1 l1 m1 yb ky b0 b1 b2 b3 2 1 zCS fm cs h0 n0 Z0 S_CS nCS S_SF hfm S_UT S_IN E_cs O0 ht1 hbb RA RW A_y E_y U_y (by decide) (by decide) hp
  · exact own_text_0 l Z a0 hw ws r tx u8 ofs les un kt ku ko kl kn t1 bb o1 l1 m1 yb ky b0 b1 b2 b3 2 2 zCS fm cs h0 n0 Z0 S_CS nCS S_SF hfm S_UT S_IN E_cs O0 ht1 hbb RA RW A_y E_y U_y (by decide) (by decide) hp
  · exact absurd rfl hl
  · exact own_text_0 l Z a0 hw ws r tx u8 ofs les un kt ku ko kl kn t1 bb o1 l1 m1 yb ky b0 b1 b2 b3 3 1 zCS fm cs h0 n0 Z0 S_CS nCS S_SF hfm S_UT S_IN E_cs O0 ht1 hbb RA RW A_y E_y U_y (by decide) (by decide) hp
  · exact absurd rfl hl
theorem own_textG_1_ef (m : MethodId) (r : Addr) : entryFrame m #[(.ref r), (.int 1)] 2 = mkF m 0 #[.val (.ref r), .val (.int 1)] [] := by  first | (simp [entryFrame, mkF, argsToLocals, Value.category]; done) | rfl
def own_textG_1_Q (Z : State) (r : Addr) (tx : Addr) (u8 : Addr) (ofs : Addr) (les : Addr) (un : Addr) (kt : ClassId) (ku : ClassId) (ko : ClassId) (kl : ClassId) (kn : ClassId) (t0 : Value) (bb : Value) (o0 : Int32) (l0 : Int32) (m0 : Int32) (yb : Addr) (ky : ClassId) (b0 : Int32) (b1 : Int32) (b2 : Int32) (b3 : Int32) (of : Int32) (ln : Int32) (zCS : Int32) (fm : Value) (cs : Addr) (h0 : Heap) (n0 : Nat) (v : Option Value) (h : Heap) (L : List Loc) : Prop := ∃ (t tb : Addr) (kx : ClassId), v = some (.ref t) ∧ Fr n0 L ∧ Keep h0 h [tx] ∧ Exa Z h t "java/lang/String" ∧ Fld Z h t "java/lang/String" "value" "[B" (.ref tb) ∧ Fld Z h t "java/lang/String" "coder" "B" (.int 0) ∧ Arv Z h tb kx .byte ln (((([b0, b1, b2, b3] : List Int32).drop of.toNatClampNeg).take ln.toNatClampNeg).map Value.int) (.int 0) ∧ own_Row Z h r tx u8 ofs les un kt ku ko kl kn t0 (.ref t) bb (.ref yb) o0 of l0 ln m0 (0 : Int32)
set_option maxRecDepth 65536 in
set_option maxHeartbeats 40000000 in
theorem own_textG_1 (l : Launch) (Z : State) (a0 : Array Value) (hw : ∀ d ∈ tables_1, d.before a0 Z = true) (ws : List Jvm.Cond) (r : Addr) (tx : Addr) (u8 : Addr) (ofs : Addr) (les : Addr) (un : Addr) (kt : ClassId) (ku : ClassId) (ko : ClassId) (kl : ClassId) (kn : ClassId) (t0 : Value) (bb : Value) (o0 : Int32) (l0 : Int32) (m0 : Int32) (yb : Addr) (ky : ClassId) (b0 : Int32) (b1 : Int32) (b2 : Int32) (b3 : Int32) (of : Int32) (ln : Int32) (zCS : Int32) (fm : Value) (cs : Addr) (h0 : Heap) (n0 : Nat) (Z0 : n0 ≤ h0.size) (S_CS : own_A0 Z zCS) (nCS : ¬ zCS = 0) (S_SF : own_A2 Z fm) (hfm : fm.isRef = true) (S_UT : own_A1 Z cs) (S_IN : own_A3 Z cs) (E_cs : Exa Z Z.heap cs "sun/nio/cs/UTF_8") (O0 : Old Z n0 h0) (ht0 : t0.isRef = true) (hbb : bb.isRef = true) (RA : own_RowA Z n0 r tx u8 ofs les un kt ku ko kl kn) (RW : own_Row Z h0 r tx u8 ofs les un kt ku ko kl kn t0 .null bb (.ref yb) o0 of l0 ln m0 (0 : Int32)) (A_y : Arv Z h0 yb ky .byte (4 : Int32) [(.int b0), (.int b1), (.int b2), (.int b3)] (.int 0)) (E_y : Exa Z h0 yb "[B") (U_y : Unt h0 yb) (hp : ∀ c ∈ ([b0, b1, b2, b3] : List Int32), ¬ c < 0) (hOL : own_OL of ln) (hl : ¬ ln = (0 : Int32)) :
    MetFree l own_y6 (head1 (Jvm.Cond.code own_y6 prog_10_method_3_code 2 (some (.object "java/lang/String")) :: ws) (⟨5, 2, 8, 112⟩ : Room)) (fun aa U => aa = #[(.ref r), (.int 1)] ∧ Z.Warmed39 U.vm ∧ U.heap = h0) (fun _ _ _ _ _ => True) (fun _ U o U' => ∃ v L, o = .returned v ∧ own_textG_1_Q Z r tx u8 ofs les un kt ku ko kl kn t0 bb o0 l0 m0 yb ky b0 b1 b2 b3 of ln zCS fm cs h0 n0 v U'.heap L ∧ FrameEnd U o U' L (⟨5, 2, 8, 112⟩ : Room).cells (⟨5, 2, 8, 112⟩ : Room).slots) := by
  rcases hOL with ⟨rfl, rfl⟩ | ⟨rfl, rfl⟩ | ⟨rfl, rfl⟩ | ⟨rfl, rfl⟩ | ⟨rfl, rfl⟩ | ⟨rfl, rfl⟩ | ⟨rfl, rfl⟩ | ⟨rfl, rfl⟩ | ⟨rfl, rfl⟩ | ⟨rfl, rfl⟩ | ⟨rfl, rfl⟩ | ⟨rfl, rfl⟩ | ⟨rfl, rfl⟩ | ⟨rfl, rfl⟩ | ⟨rfl, rfl⟩
  · exact absurd rfl hl
  · exact own_text_1 l Z a0 hw ws r tx u8 ofs les un kt ku ko kl kn t0 bb o0 l0 m0 yb ky b0 b1 b2 b3 0 1 zCS fm cs h0 n0 Z0 S_CS nCS S_SF hfm S_UT S_IN E_cs O0 ht0 hbb RA RW A_y E_y U_y (by decide) (by decide) hp
  · exact own_text_1 l Z a0 hw ws r tx u8 ofs les un kt ku ko kl kn t0 bb o0 l0 m0 yb ky b0 b1 b2 b3 0 2 zCS fm cs h0 n0 Z0 S_CS nCS S_SF hfm S_UT S_IN E_cs O0 ht0 hbb RA RW A_y E_y U_y (by decide) (by decide) hp
  · exact own_text_1 l Z a0 hw ws r tx u8 ofs les un kt ku ko kl kn t0 bb o0 l0 m0 yb ky b0 b1 b2 b3 0 3 zCS fm cs h0 n0 Z0 S_CS nCS S_SF hfm S_UT S_IN E_cs O0 ht0 hbb RA RW A_y E_y U_y (by decide) (by decide) hp
  · exact own_text_1 l Z a0 hw ws r tx u8 ofs les un kt ku ko kl kn t0 bb o0 l0 m0 yb ky b0 b1 b2 b3 0 4 zCS fm cs h0 n0 Z0 S_CS nCS S_SF hfm S_UT S_IN E_cs O0 ht0 hbb RA RW A_y E_y U_y (by decide) (by decide) hp
  · exact absurd rfl hl
  · exact own_text_1 l Z a0 hw ws r tx u8 ofs les un kt ku ko kl kn t0 bb o0 l0 m0 yb ky b0 b1 b2 b3 1 1 zCS fm cs h0 n0 Z0 S_CS nCS S_SF hfm S_UT S_IN E_cs O0 ht0 hbb RA RW A_y E_y U_y (by decide) (by decide) hp
  · exact own_text_1 l Z a0 hw ws r tx u8 ofs les un kt ku ko kl kn t0 bb o0 l0 m0 yb ky b0 b1 b2 b3 1 2 zCS fm cs h0 n0 Z0 S_CS nCS S_SF hfm S_UT S_IN E_cs O0 ht0 hbb RA RW A_y E_y U_y (by decide) (by decide) hp
  · exact own_text_1 l Z a0 hw ws r tx u8 ofs les un kt ku ko kl kn t0 bb o0 l0 m0 yb ky b0 b1 b2 b3 1 3 zCS fm cs h0 n0 Z0 S_CS nCS S_SF hfm S_UT S_IN E_cs O0 ht0 hbb RA RW A_y E_y U_y (by decide) (by decide) hp
  · exact absurd rfl hl
  · exact own_text_1 l Z a0 hw ws r tx u8 ofs les un kt ku ko kl kn t0 bb o0 l0 m0 yb ky b0 b1 b2 b3 2 1 zCS fm cs h0 n0 Z0 S_CS nCS S_SF hfm S_UT S_IN E_cs O0 ht0 hbb RA RW A_y E_y U_y (by decide) (by decide) hp
  · exact own_text_1 l Z a0 hw ws r tx u8 ofs les un kt ku ko kl kn t0 bb o0 l0 m0 yb ky b0 b1 b2 b3 2 2 zCS fm cs h0 n0 Z0 S_CS nCS S_SF hfm S_UT S_IN E_cs O0 ht0 hbb RA RW A_y E_y U_y (by decide) (by decide) hp
  · exact absurd rfl hl
  · exact own_text_1 l Z a0 hw ws r tx u8 ofs les un kt ku ko kl kn t0 bb o0 l0 m0 yb ky b0 b1 b2 b3 3 1 zCS fm cs h0 n0 Z0 S_CS nCS S_SF hfm S_UT S_IN E_cs O0 ht0 hbb RA RW A_y E_y U_y (by decide) (by decide) hp
  · exact absurd rfl hl
theorem own_hf {of ln : Int32} (h : own_OL of ln) : ¬ (((4 : Int32) ||| of) ||| (0 : Int32)) < (0 : Int32) ∧ ¬ ((4 : Int32) - of) < (0 : Int32) := by
  rcases h with ⟨rfl, rfl⟩ | ⟨rfl, rfl⟩ | ⟨rfl, rfl⟩ | ⟨rfl, rfl⟩ | ⟨rfl, rfl⟩ | ⟨rfl, rfl⟩ | ⟨rfl, rfl⟩ | ⟨rfl, rfl⟩ | ⟨rfl, rfl⟩ | ⟨rfl, rfl⟩ | ⟨rfl, rfl⟩ | ⟨rfl, rfl⟩ | ⟨rfl, rfl⟩ | ⟨rfl, rfl⟩ | ⟨rfl, rfl⟩ <;> decide
theorem own_pd__28I_29V : parseMethodDescriptor "(I)V" = some ⟨[.int], none⟩ := by decide +kernel
theorem own_pd__28I_5bBII_29V : parseMethodDescriptor "(I[BII)V" = some ⟨[.int, (.array .byte), .int, .int], none⟩ := by decide +kernel
theorem own_pd__28I_29Z : parseMethodDescriptor "(I)Z" = some ⟨[.int], some .boolean⟩ := by decide +kernel
theorem own_pd__28I_29_5bB : parseMethodDescriptor "(I)[B" = some ⟨[.int], some (.array .byte)⟩ := by decide +kernel
theorem own_pd__28I_29I : parseMethodDescriptor "(I)I" = some ⟨[.int], some .int⟩ := by decide +kernel
theorem own_pd__28I_29Ljava_2flang_2fString_3b : parseMethodDescriptor "(I)Ljava/lang/String;" = some ⟨[.int], some (.object "java/lang/String")⟩ := by decide +kernel
theorem own_pd__28_29I : parseMethodDescriptor "()I" = some ⟨[], some .int⟩ := by decide +kernel
theorem own_pd__28Ljava_2flang_2fString_3bII_5bBI_29Z : parseMethodDescriptor "(Ljava/lang/String;II[BI)Z" = some ⟨[(.object "java/lang/String"), .int, .int, (.array .byte), .int], some .boolean⟩ := by decide +kernel
theorem own_pd__28C_29Ljava_2flang_2fString_3b : parseMethodDescriptor "(C)Ljava/lang/String;" = some ⟨[.char], some (.object "java/lang/String")⟩ := by decide +kernel
theorem own_pd__28ILjava_2flang_2fString_3b_29V : parseMethodDescriptor "(ILjava/lang/String;)V" = some ⟨[.int, (.object "java/lang/String")], none⟩ := by decide +kernel
theorem own_rm0_ef (m : MethodId) (p0 : Int32) (q0 : Int64) (p2 : Int32) (p3 : Int32) : entryFrame m #[(.int p0), (.long q0), (.int p2), (.int p3)] maxLocals = mkF m 0 #[.val (.int p0), .val (.long q0), .second, .val (.int p2), .val (.int p3), .unset, .unset, .unset, .unset, .unset, .unset, .unset, .unset, .unset, .unset] [] := by  first | (simp [entryFrame, mkF, argsToLocals, Value.category, maxLocals]; done) | rfl
def own_rm0_Q (Z : State) (p0 : Int32) (q0 : Int64) (p2 : Int32) (p3 : Int32) (zCS : Int32) (fm : Value) (cs : Addr) (h0 : Heap) (n0 : Nat) (v : Option Value) (h : Heap) (L : List Loc) : Prop := v = some (.int 1) ∧ Fr n0 L
abbrev own_fr (m : MethodId) (p0 : Int32) (q0 : Int64) (p2 p3 : Int32) (yb y2 r : Addr) (pc : Nat) (c d o l : Int32) (k t : Slot) (st : List Value) : JFrame := mkF m pc #[.val (.int p0), .val (.long q0), .second, .val (.int p2), .val (.int p3), .val (.int c), .val (.int d), .val (.ref yb), .val (.ref y2), .val (.int o), .val (.int l), .val (.ref r), .val (.int (p3 &&& (3 : Int32))), k, t] st
set_option maxRecDepth 65536 in
set_option maxHeartbeats 40000000 in
theorem own_rm0 (l : Launch) (Z : State) (a0 : Array Value) (hw : ∀ d ∈ tables_1, d.before a0 Z = true) (ws : List Jvm.Cond) (p0 : Int32) (q0 : Int64) (p2 : Int32) (p3 : Int32) (zCS : Int32) (fm : Value) (cs : Addr) (h0 : Heap) (n0 : Nat) (Z0 : n0 ≤ h0.size) (S_CS : own_A0 Z zCS) (nCS : ¬ zCS = 0) (S_SF : own_A2 Z fm) (hfm : fm.isRef = true) (S_UT : own_A1 Z cs) (S_IN : own_A3 Z cs) (E_cs : Exa Z Z.heap cs "sun/nio/cs/UTF_8") (O0 : Old Z n0 h0) :
    MetFree l x (head1 (Jvm.Cond.code x code maxLocals ret :: ws) room_1) (fun aa U => aa = #[(.int p0), (.long q0), (.int p2), (.int p3)] ∧ Z.Warmed39 U.vm ∧ U.heap = h0 ∧ CHv Z consts_1 U.vm h0) (fun _ _ _ _ _ => True) (fun _ U o U' => ∃ v L, o = .returned v ∧ own_rm0_Q Z p0 q0 p2 p3 zCS fm cs h0 n0 v U'.heap L ∧ CHr Z consts_1 U.vm U.heap U'.vm U'.heap ∧ ReturnedEndW U o U' L room_1.cells room_1.slots) := by
  refine MetFree.of_bodySF (plainFor_of_name own_pn_com_example_rowtide_rowtide_event_RowSetUtf8PinLaw) hisR ?_
  intro p e s m args below meth c s₁ Bd hml0 hP hK
  obtain ⟨rfl, hZ, hh, CH0⟩ := hP
  have hx := Bd.exec
  have hby := Bd.bytes
  have hml : c.maxLocals = 15 := hml0
  have hown : s.vm.findClass "com/example/rowtide/rowtide/event/RowSetUtf8PinLaw" = some m.cls := findClass_of_methodNamed Bd.named
  have hnm := (name_of_methodNamed Bd.named Bd.method).1
  have hlk := Bd.notSynchronized
  have X0 : Stand p l e room_1 (s.setVm s.vm) m #[(.int p0), (.long q0), (.int p2), (.int p3)] below meth c s₁ [] 0 0 := Stand.of_body Bd
  have e0 : s₁.heap = h0 := by rw [← hh, Bd.state]; rfl
  have N0 := Fr.nil n0
  have hS : s.Since s.vm 0 := (State.WarmedH.refl s).since 0
  have hk0 : 0 ≤ h0.size := Nat.zero_le _
  have wS := own_wS hw
  have C0 : CHr Z consts_1 s.vm h0 s.vm h0 := CHr.refl CH0
  have hEL := own_hEL hw
  refine own_startW (EL := consts_1) (Q := own_rm0_Q Z p0 q0 p2 p3 zCS fm cs h0 n0) (own_rm0_ef m p0 q0 p2 p3) ?_
  refine own_g (mkF m 11 #[.val (.int p0), .val (.long q0), .second, .val (.int p2), .val (.int p3), .val (.int (p0 &&& (1 : Int32))), .val (.int ((1 : Int32) - (p0 &&& (1 : Int32)))), .unset, .unset, .unset, .unset, .unset, .unset, .unset, .unset] []) (fun _ q => XS.iloadN X0.here hx rfl (hb hby at_0) rfl (XS.iconst X0.here hx rfl (hb hby at_1) (XS.iand X0.here hx rfl (hb hby at_2) rfl (XS.istore X0.here hx rfl (hb hby at_3) rfl (l' := #[.val (.int p0), .val (.long q0), .second, .val (.int p2), .val (.int p3), .val (.int (p0 &&& (1 : Int32))), .unset, .unset, .unset, .unset, .unset, .unset, .unset, .unset, .unset]) rfl (XS.iconst X0.here hx rfl (hb hby at_5) (XS.iload X0.here hx rfl (hb hby at_6) rfl (XS.isub X0.here hx rfl (hb hby at_8) rfl (XS.istore X0.here hx rfl (hb hby at_9) rfl (l' := #[.val (.int p0), .val (.long q0), .second, .val (.int p2), .val (.int p3), .val (.int (p0 &&& (1 : Int32))), .val (.int ((1 : Int32) - (p0 &&& (1 : Int32)))), .unset, .unset, .unset, .unset, .unset, .unset, .unset, .unset]) rfl q)))))))) ?_
  refine own_g (mkF m 12 #[.val (.int p0), .val (.long q0), .second, .val (.int p2), .val (.int p3), .val (.int (p0 &&& (1 : Int32))), .val (.int ((1 : Int32) - (p0 &&& (1 : Int32)))), .unset, .unset, .unset, .unset, .unset, .unset, .unset, .unset] [(.int 4)]) (fun _ q => XS.iconst X0.here hx rfl (hb hby at_11) q) ?_
  obtain ⟨T1, h1, k1, X1, e1, E1, A1, ⟨Ex1, Un1⟩, st1⟩ := own_newB X0 hx hZ (own_h hw 0 rfl) e0 (g := (mkF m 12 #[.val (.int p0), .val (.long q0), .second, .val (.int p2), .val (.int p3), .val (.int (p0 &&& (1 : Int32))), .val (.int ((1 : Int32) - (p0 &&& (1 : Int32)))), .unset, .unset, .unset, .unset, .unset, .unset, .unset, .unset] [(.int 4)])) rfl (hb hby at_12) rfl (by decide) (cap := 4) (by decide) (by decide) (by decide) (by decide)
  obtain ⟨yb, g1⟩ : ∃ z, z = h0.size := ⟨_, rfl⟩
  rw [← g1] at A1 Ex1 Un1 st1
  have g_yb : n0 ≤ yb := Nat.le_trans Z0 (Nat.le_of_eq g1.symm)
  have sz_yb : h0.size ≤ yb := Nat.le_trans (Keep.refl h0 []).1 (Nat.le_of_eq g1.symm)
  have sf_yb : Safe Z consts_1 s.vm h0 yb := Safe.new (Nat.le_of_eq g1.symm)
  have C2 := C0.trans (CHr.ext E1 C0.1)
  have V_yb : Arv Z h1 yb k1 .byte (4 : Int32) [(.int 0), (.int 0), (.int 0), (.int 0)] (.int 0) := (Arv.new A1 (by decide)).pad (pad_rep [] (.int 0) 4)
  refine own_by (g' := (mkF m 14 #[.val (.int p0), .val (.long q0), .second, .val (.int p2), .val (.int p3), .val (.int (p0 &&& (1 : Int32))), .val (.int ((1 : Int32) - (p0 &&& (1 : Int32)))), .unset, .unset, .unset, .unset, .unset, .unset, .unset, .unset] [(.ref yb)])) st1 ?_
  refine own_g (mkF m 20 #[.val (.int p0), .val (.long q0), .second, .val (.int p2), .val (.int p3), .val (.int (p0 &&& (1 : Int32))), .val (.int ((1 : Int32) - (p0 &&& (1 : Int32)))), .val (.ref yb), .unset, .unset, .unset, .unset, .unset, .unset, .unset] [(.long q0), (.int 0), (.ref yb)]) (fun _ q => XS.astore X1.here hx rfl (hb hby at_14) rfl rfl (l' := #[.val (.int p0), .val (.long q0), .second, .val (.int p2), .val (.int p3), .val (.int (p0 &&& (1 : Int32))), .val (.int ((1 : Int32) - (p0 &&& (1 : Int32)))), .val (.ref yb), .unset, .unset, .unset, .unset, .unset, .unset, .unset]) rfl (XS.aload X1.here hx rfl (hb hby at_16) rfl rfl (XS.iconst X1.here hx rfl (hb hby at_18) (XS.lloadN X1.here hx rfl (hb hby at_19) rfl q)))) ?_
  refine own_by (g' := (mkF m 23 #[.val (.int p0), .val (.long q0), .second, .val (.int p2), .val (.int p3), .val (.int (p0 &&& (1 : Int32))), .val (.int ((1 : Int32) - (p0 &&& (1 : Int32)))), .val (.ref yb), .unset, .unset, .unset, .unset, .unset, .unset, .unset] [(.long (127 : Int64)), (.long q0), (.int 0), (.ref yb)])) (fun _ kq => X1.ldc2Long hx hown (mvT hZ (own_h hw 1 rfl)) (g := (mkF m 20 #[.val (.int p0), .val (.long q0), .second, .val (.int p2), .val (.int p3), .val (.int (p0 &&& (1 : Int32))), .val (.int ((1 : Int32) - (p0 &&& (1 : Int32)))), .val (.ref yb), .unset, .unset, .unset, .unset, .unset, .unset, .unset] [(.long q0), (.int 0), (.ref yb)])) rfl (hb hby at_20) _ kq) ?_
  refine own_g (mkF m 26 #[.val (.int p0), .val (.long q0), .second, .val (.int p2), .val (.int p3), .val (.int (p0 &&& (1 : Int32))), .val (.int ((1 : Int32) - (p0 &&& (1 : Int32)))), .val (.ref yb), .unset, .unset, .unset, .unset, .unset, .unset, .unset] [(.int (((q0 &&& (127 : Int64)).toInt32).toInt8.toInt32)), (.int 0), (.ref yb)]) (fun _ q => XS.land X1.here hx rfl (hb hby at_23) rfl (XS.l2i X1.here hx rfl (hb hby at_24) rfl (XS.i2b X1.here hx rfl (hb hby at_25) rfl q))) ?_
  have sf4_yb := (sf_yb.ext E1 C0.1)
  have sw3 : Safe Z consts_1 s.vm h1 yb := sf4_yb
  obtain ⟨cl5, Ar5, q5, S5, P5, H5, G5⟩ := id V_yb
  have hin5 : ¬ ((0 : Int32) < 0 ∨ cl5.slots.size ≤ ((0 : Int32)).toNatClampNeg) := inb_of S5 ⟨by decide, by decide⟩
  obtain ⟨T6, h6, X6, e6, W6, st6⟩ := stB X1 hx hZ e1 Ar5 (j := (0 : Int32)) hin5 (g := (mkF m 26 #[.val (.int p0), .val (.long q0), .second, .val (.int p2), .val (.int p3), .val (.int (p0 &&& (1 : Int32))), .val (.int ((1 : Int32) - (p0 &&& (1 : Int32)))), .val (.ref yb), .unset, .unset, .unset, .unset, .unset, .unset, .unset] [(.int (((q0 &&& (127 : Int64)).toInt32).toInt8.toInt32)), (.int 0), (.ref yb)])) rfl rfl (hb hby at_26)
  have V6 : Arv Z h6 yb k1 .byte (4 : Int32) [(.int ((((q0 &&& (127 : Int64)).toInt32).toInt8.toInt32).toInt8.toInt32)), (.int 0), (.int 0), (.int 0)] (.int 0) := Arv.set Ar5 q5 S5 P5 H5 G5 (fits_nar_byte _) W6 0 rfl (Nat.le_of_ble_eq_true rfl)
  have C7 := C2.trans (CHr.wr W6 sw3 C2.1)
  have N6 := Fr.snoc X6 N0 g_yb
  refine own_by (g' := (mkF m 27 #[.val (.int p0), .val (.long q0), .second, .val (.int p2), .val (.int p3), .val (.int (p0 &&& (1 : Int32))), .val (.int ((1 : Int32) - (p0 &&& (1 : Int32)))), .val (.ref yb), .unset, .unset, .unset, .unset, .unset, .unset, .unset] [])) st6 ?_
  refine own_g (mkF m 34 #[.val (.int p0), .val (.long q0), .second, .val (.int p2), .val (.int p3), .val (.int (p0 &&& (1 : Int32))), .val (.int ((1 : Int32) - (p0 &&& (1 : Int32)))), .val (.ref yb), .unset, .unset, .unset, .unset, .unset, .unset, .unset] [(.long ((q0.toUInt64 >>> ((8 : Int32) &&& 0x3f).toInt64.toUInt64).toInt64)), (.int 1), (.ref yb)]) (fun _ q => XS.aload X6.here hx rfl (hb hby at_27) rfl rfl (XS.iconst X6.here hx rfl (hb hby at_29) (XS.lloadN X6.here hx rfl (hb hby at_30) rfl (XS.bipush X6.here hx rfl (hb hby at_31) (XS.lushr X6.here hx rfl (hb hby at_33) rfl q))))) ?_
  refine own_by (g' := (mkF m 37 #[.val (.int p0), .val (.long q0), .second, .val (.int p2), .val (.int p3), .val (.int (p0 &&& (1 : Int32))), .val (.int ((1 : Int32) - (p0 &&& (1 : Int32)))), .val (.ref yb), .unset, .unset, .unset, .unset, .unset, .unset, .unset] [(.long (127 : Int64)), (.long ((q0.toUInt64 >>> ((8 : Int32) &&& 0x3f).toInt64.toUInt64).toInt64)), (.int 1), (.ref yb)])) (fun _ kq => X6.ldc2Long hx hown (mvT hZ (own_h hw 1 rfl)) (g := (mkF m 34 #[.val (.int p0), .val (.long q0), .second, .val (.int p2), .val (.int p3), .val (.int (p0 &&& (1 : Int32))), .val (.int ((1 : Int32) - (p0 &&& (1 : Int32)))), .val (.ref yb), .unset, .unset, .unset, .unset, .unset, .unset, .unset] [(.long ((q0.toUInt64 >>> ((8 : Int32) &&& 0x3f).toInt64.toUInt64).toInt64)), (.int 1), (.ref yb)])) rfl (hb hby at_34) _ kq) ?_
  refine own_g (mkF m 40 #[.val (.int p0), .val (.long q0), .second, .val (.int p2), .val (.int p3), .val (.int (p0 &&& (1 : Int32))), .val (.int ((1 : Int32) - (p0 &&& (1 : Int32)))), .val (.ref yb), .unset, .unset, .unset, .unset, .unset, .unset, .unset] [(.int (((((q0.toUInt64 >>> ((8 : Int32) &&& 0x3f).toInt64.toUInt64).toInt64) &&& (127 : Int64)).toInt32).toInt8.toInt32)), (.int 1), (.ref yb)]) (fun _ q => XS.land X6.here hx rfl (hb hby at_37) rfl (XS.l2i X6.here hx rfl (hb hby at_38) rfl (XS.i2b X6.here hx rfl (hb hby at_39) rfl q))) ?_
  have sf9_yb := (Safe.wr W6 sw3 C2.1 sf4_yb)
  have sw8 : Safe Z consts_1 s.vm h6 yb := sf9_yb
  obtain ⟨cl10, Ar10, q10, S10, P10, H10, G10⟩ := id V6
  have hin10 : ¬ ((1 : Int32) < 0 ∨ cl10.slots.size ≤ ((1 : Int32)).toNatClampNeg) := inb_of S10 ⟨by decide, by decide⟩
  obtain ⟨T11, h11, X11, e11, W11, st11⟩ := stB X6 hx hZ e6 Ar10 (j := (1 : Int32)) hin10 (g := (mkF m 40 #[.val (.int p0), .val (.long q0), .second, .val (.int p2), .val (.int p3), .val (.int (p0 &&& (1 : Int32))), .val (.int ((1 : Int32) - (p0 &&& (1 : Int32)))), .val (.ref yb), .unset, .unset, .unset, .unset, .unset, .unset, .unset] [(.int (((((q0.toUInt64 >>> ((8 : Int32) &&& 0x3f).toInt64.toUInt64).toInt64) &&& (127 : Int64)).toInt32).toInt8.toInt32)), (.int 1), (.ref yb)])) rfl rfl (hb hby at_40)
  have V11 : Arv Z h11 yb k1 .byte (4 : Int32) [(.int ((((q0 &&& (127 : Int64)).toInt32).toInt8.toInt32).toInt8.toInt32)), (.int ((((((q0.toUInt64 >>> ((8 : Int32) &&& 0x3f).toInt64.toUInt64).toInt64) &&& (127 : Int64)).toInt32).toInt8.toInt32).toInt8.toInt32)), (.int 0), (.int 0)] (.int 0) := Arv.set Ar10 q10 S10 P10 H10 G10 (fits_nar_byte _) W11 1 rfl (Nat.le_of_ble_eq_true rfl)
  have C12 := C7.trans (CHr.wr W11 sw8 C7.1)
  have N11 := Fr.snoc X11 N6 g_yb
  refine own_by (g' := (mkF m 41 #[.val (.int p0), .val (.long q0), .second, .val (.int p2), .val (.int p3), .val (.int (p0 &&& (1 : Int32))), .val (.int ((1 : Int32) - (p0 &&& (1 : Int32)))), .val (.ref yb), .unset, .unset, .unset, .unset, .unset, .unset, .unset] [])) st11 ?_
  refine own_g (mkF m 48 #[.val (.int p0), .val (.long q0), .second, .val (.int p2), .val (.int p3), .val (.int (p0 &&& (1 : Int32))), .val (.int ((1 : Int32) - (p0 &&& (1 : Int32)))), .val (.ref yb), .unset, .unset, .unset, .unset, .unset, .unset, .unset] [(.long ((q0.toUInt64 >>> ((16 : Int32) &&& 0x3f).toInt64.toUInt64).toInt64)), (.int 2), (.ref yb)]) (fun _ q => XS.aload X11.here hx rfl (hb hby at_41) rfl rfl (XS.iconst X11.here hx rfl (hb hby at_43) (XS.lloadN X11.here hx rfl (hb hby at_44) rfl (XS.bipush X11.here hx rfl (hb hby at_45) (XS.lushr X11.here hx rfl (hb hby at_47) rfl q))))) ?_
  refine own_by (g' := (mkF m 51 #[.val (.int p0), .val (.long q0), .second, .val (.int p2), .val (.int p3), .val (.int (p0 &&& (1 : Int32))), .val (.int ((1 : Int32) - (p0 &&& (1 : Int32)))), .val (.ref yb), .unset, .unset, .unset, .unset, .unset, .unset, .unset] [(.long (127 : Int64)), (.long ((q0.toUInt64 >>> ((16 : Int32) &&& 0x3f).toInt64.toUInt64).toInt64)), (.int 2), (.ref yb)])) (fun _ kq => X11.ldc2Long hx hown (mvT hZ (own_h hw 1 rfl)) (g := (mkF m 48 #[.val (.int p0), .val (.long q0), .second, .val (.int p2), .val (.int p3), .val (.int (p0 &&& (1 : Int32))), .val (.int ((1 : Int32) - (p0 &&& (1 : Int32)))), .val (.ref yb), .unset, .unset, .unset, .unset, .unset, .unset, .unset] [(.long ((q0.toUInt64 >>> ((16 : Int32) &&& 0x3f).toInt64.toUInt64).toInt64)), (.int 2), (.ref yb)])) rfl (hb hby at_48) _ kq) ?_
  refine own_g (mkF m 54 #[.val (.int p0), .val (.long q0), .second, .val (.int p2), .val (.int p3), .val (.int (p0 &&& (1 : Int32))), .val (.int ((1 : Int32) - (p0 &&& (1 : Int32)))), .val (.ref yb), .unset, .unset, .unset, .unset, .unset, .unset, .unset] [(.int (((((q0.toUInt64 >>> ((16 : Int32) &&& 0x3f).toInt64.toUInt64).toInt64) &&& (127 : Int64)).toInt32).toInt8.toInt32)), (.int 2), (.ref yb)]) (fun _ q => XS.land X11.here hx rfl (hb hby at_51) rfl (XS.l2i X11.here hx rfl (hb hby at_52) rfl (XS.i2b X11.here hx rfl (hb hby at_53) rfl q))) ?_
  have sf14_yb := (Safe.wr W11 sw8 C7.1 sf9_yb)
  have sw13 : Safe Z consts_1 s.vm h11 yb := sf14_yb
  obtain ⟨cl15, Ar15, q15, S15, P15, H15, G15⟩ := id V11
  have hin15 : ¬ ((2 : Int32) < 0 ∨ cl15.slots.size ≤ ((2 : Int32)).toNatClampNeg) := inb_of S15 ⟨by decide, by decide⟩
  obtain ⟨T16, h16, X16, e16, W16, st16⟩ := stB X11 hx hZ e11 Ar15 (j := (2 : Int32)) hin15 (g := (mkF m 54 #[.val (.int p0), .val (.long q0), .second, .val (.int p2), .val (.int p3), .val (.int (p0 &&& (1 : Int32))), .val (.int ((1 : Int32) - (p0 &&& (1 : Int32)))), .val (.ref yb), .unset, .unset, .unset, .unset, .unset, .unset, .unset] [(.int (((((q0.toUInt64 >>> ((16 : Int32) &&& 0x3f).toInt64.toUInt64).toInt64) &&& (127 : Int64)).toInt32).toInt8.toInt32)), (.int 2), (.ref yb)])) rfl rfl (hb hby at_54)
  have V16 : Arv Z h16 yb k1 .byte (4 : Int32) [(.int ((((q0 &&& (127 : Int64)).toInt32).toInt8.toInt32).toInt8.toInt32)), (.int ((((((q0.toUInt64 >>> ((8 : Int32) &&& 0x3f).toInt64.toUInt64).toInt64) &&& (127 : Int64)).toInt32).toInt8.toInt32).toInt8.toInt32)), (.int ((((((q0.toUInt64 >>> ((16 : Int32) &&& 0x3f).toInt64.toUInt64).toInt64) &&& (127 : Int64)).toInt32).toInt8.toInt32).toInt8.toInt32)), (.int 0)] (.int 0) := Arv.set Ar15 q15 S15 P15 H15 G15 (fits_nar_byte _) W16 2 rfl (Nat.le_of_ble_eq_true rfl)
  have C17 := C12.trans (CHr.wr W16 sw13 C12.1)
  have N16 := Fr.snoc X16 N11 g_yb
  refine own_by (g' := (mkF m 55 #[.val (.int p0), .val (.long q0), .second, .val (.int p2), .val (.int p3), .val (.int (p0 &&& (1 : Int32))), .val (.int ((1 : Int32) - (p0 &&& (1 : Int32)))), .val (.ref yb), .unset, .unset, .unset, .unset, .unset, .unset, .unset] [])) st16 ?_
  refine own_g (mkF m 62 #[.val (.int p0), .val (.long q0), .second, .val (.int p2), .val (.int p3), .val (.int (p0 &&& (1 : Int32))), .val (.int ((1 : Int32) - (p0 &&& (1 : Int32)))), .val (.ref yb), .unset, .unset, .unset, .unset, .unset, .unset, .unset] [(.long ((q0.toUInt64 >>> ((24 : Int32) &&& 0x3f).toInt64.toUInt64).toInt64)), (.int 3), (.ref yb)]) (fun _ q => XS.aload X16.here hx rfl (hb hby at_55) rfl rfl (XS.iconst X16.here hx rfl (hb hby at_57) (XS.lloadN X16.here hx rfl (hb hby at_58) rfl (XS.bipush X16.here hx rfl (hb hby at_59) (XS.lushr X16.here hx rfl (hb hby at_61) rfl q))))) ?_
  refine own_by (g' := (mkF m 65 #[.val (.int p0), .val (.long q0), .second, .val (.int p2), .val (.int p3), .val (.int (p0 &&& (1 : Int32))), .val (.int ((1 : Int32) - (p0 &&& (1 : Int32)))), .val (.ref yb), .unset, .unset, .unset, .unset, .unset, .unset, .unset] [(.long (127 : Int64)), (.long ((q0.toUInt64 >>> ((24 : Int32) &&& 0x3f).toInt64.toUInt64).toInt64)), (.int 3), (.ref yb)])) (fun _ kq => X16.ldc2Long hx hown (mvT hZ (own_h hw 1 rfl)) (g := (mkF m 62 #[.val (.int p0), .val (.long q0), .second, .val (.int p2), .val (.int p3), .val (.int (p0 &&& (1 : Int32))), .val (.int ((1 : Int32) - (p0 &&& (1 : Int32)))), .val (.ref yb), .unset, .unset, .unset, .unset, .unset, .unset, .unset] [(.long ((q0.toUInt64 >>> ((24 : Int32) &&& 0x3f).toInt64.toUInt64).toInt64)), (.int 3), (.ref yb)])) rfl (hb hby at_62) _ kq) ?_
  refine own_g (mkF m 68 #[.val (.int p0), .val (.long q0), .second, .val (.int p2), .val (.int p3), .val (.int (p0 &&& (1 : Int32))), .val (.int ((1 : Int32) - (p0 &&& (1 : Int32)))), .val (.ref yb), .unset, .unset, .unset, .unset, .unset, .unset, .unset] [(.int (((((q0.toUInt64 >>> ((24 : Int32) &&& 0x3f).toInt64.toUInt64).toInt64) &&& (127 : Int64)).toInt32).toInt8.toInt32)), (.int 3), (.ref yb)]) (fun _ q => XS.land X16.here hx rfl (hb hby at_65) rfl (XS.l2i X16.here hx rfl (hb hby at_66) rfl (XS.i2b X16.here hx rfl (hb hby at_67) rfl q))) ?_
  have sf19_yb := (Safe.wr W16 sw13 C12.1 sf14_yb)
  have sw18 : Safe Z consts_1 s.vm h16 yb := sf19_yb
  obtain ⟨cl20, Ar20, q20, S20, P20, H20, G20⟩ := id V16
  have hin20 : ¬ ((3 : Int32) < 0 ∨ cl20.slots.size ≤ ((3 : Int32)).toNatClampNeg) := inb_of S20 ⟨by decide, by decide⟩
  obtain ⟨T21, h21, X21, e21, W21, st21⟩ := stB X16 hx hZ e16 Ar20 (j := (3 : Int32)) hin20 (g := (mkF m 68 #[.val (.int p0), .val (.long q0), .second, .val (.int p2), .val (.int p3), .val (.int (p0 &&& (1 : Int32))), .val (.int ((1 : Int32) - (p0 &&& (1 : Int32)))), .val (.ref yb), .unset, .unset, .unset, .unset, .unset, .unset, .unset] [(.int (((((q0.toUInt64 >>> ((24 : Int32) &&& 0x3f).toInt64.toUInt64).toInt64) &&& (127 : Int64)).toInt32).toInt8.toInt32)), (.int 3), (.ref yb)])) rfl rfl (hb hby at_68)
  have V21 : Arv Z h21 yb k1 .byte (4 : Int32) [(.int ((((q0 &&& (127 : Int64)).toInt32).toInt8.toInt32).toInt8.toInt32)), (.int ((((((q0.toUInt64 >>> ((8 : Int32) &&& 0x3f).toInt64.toUInt64).toInt64) &&& (127 : Int64)).toInt32).toInt8.toInt32).toInt8.toInt32)), (.int ((((((q0.toUInt64 >>> ((16 : Int32) &&& 0x3f).toInt64.toUInt64).toInt64) &&& (127 : Int64)).toInt32).toInt8.toInt32).toInt8.toInt32)), (.int ((((((q0.toUInt64 >>> ((24 : Int32) &&& 0x3f).toInt64.toUInt64).toInt64) &&& (127 : Int64)).toInt32).toInt8.toInt32).toInt8.toInt32))] (.int 0) := Arv.set Ar20 q20 S20 P20 H20 G20 (fits_nar_byte _) W21 3 rfl (Nat.le_of_ble_eq_true rfl)
  have C22 := C17.trans (CHr.wr W21 sw18 C17.1)
  have N21 := Fr.snoc X21 N16 g_yb
  refine own_by (g' := (mkF m 69 #[.val (.int p0), .val (.long q0), .second, .val (.int p2), .val (.int p3), .val (.int (p0 &&& (1 : Int32))), .val (.int ((1 : Int32) - (p0 &&& (1 : Int32)))), .val (.ref yb), .unset, .unset, .unset, .unset, .unset, .unset, .unset] [])) st21 ?_
  obtain ⟨b0, eb0, hb0⟩ : ∃ z : Int32, ((((q0 &&& (127 : Int64)).toInt32).toInt8.toInt32).toInt8.toInt32) = z ∧ (¬ z < 0 ∧ ¬ (127 : Int32) < z) := ⟨_, rfl, own_b7 _⟩
  obtain ⟨b1, eb1, hb1⟩ : ∃ z : Int32, ((((((q0.toUInt64 >>> ((8 : Int32) &&& 0x3f).toInt64.toUInt64).toInt64) &&& (127 : Int64)).toInt32).toInt8.toInt32).toInt8.toInt32) = z ∧ (¬ z < 0 ∧ ¬ (127 : Int32) < z) := ⟨_, rfl, own_b7 _⟩
  obtain ⟨b2, eb2, hb2⟩ : ∃ z : Int32, ((((((q0.toUInt64 >>> ((16 : Int32) &&& 0x3f).toInt64.toUInt64).toInt64) &&& (127 : Int64)).toInt32).toInt8.toInt32).toInt8.toInt32) = z ∧ (¬ z < 0 ∧ ¬ (127 : Int32) < z) := ⟨_, rfl, own_b7 _⟩
  obtain ⟨b3, eb3, hb3⟩ : ∃ z : Int32, ((((((q0.toUInt64 >>> ((24 : Int32) &&& 0x3f).toInt64.toUInt64).toInt64) &&& (127 : Int64)).toInt32).toInt8.toInt32).toInt8.toInt32) = z ∧ (¬ z < 0 ∧ ¬ (127 : Int32) < z) := ⟨_, rfl, own_b7 _⟩
  have A_y : Arv Z h21 yb k1 .byte (4 : Int32) [(.int b0), (.int b1), (.int b2), (.int b3)] (.int 0) := by have q := V21; rw [eb0, eb1, eb2, eb3] at q; exact q
  refine own_g (mkF m 70 #[.val (.int p0), .val (.long q0), .second, .val (.int p2), .val (.int p3), .val (.int (p0 &&& (1 : Int32))), .val (.int ((1 : Int32) - (p0 &&& (1 : Int32)))), .val (.ref yb), .unset, .unset, .unset, .unset, .unset, .unset, .unset] [(.int 2)]) (fun _ q => XS.iconst X21.here hx rfl (hb hby at_69) q) ?_
  obtain ⟨T23, h23, k23, X23, e23, E23, A23, ⟨Ex23, Un23⟩, st23⟩ := own_newB X21 hx hZ (own_h hw 0 rfl) e21 (g := (mkF m 70 #[.val (.int p0), .val (.long q0), .second, .val (.int p2), .val (.int p3), .val (.int (p0 &&& (1 : Int32))), .val (.int ((1 : Int32) - (p0 &&& (1 : Int32)))), .val (.ref yb), .unset, .unset, .unset, .unset, .unset, .unset, .unset] [(.int 2)])) rfl (hb hby at_70) rfl (by decide) (cap := 2) (by decide) (by decide) (by decide) (by decide)
  obtain ⟨y2, g23⟩ : ∃ z, z = h21.size := ⟨_, rfl⟩
  rw [← g23] at A23 Ex23 Un23 st23
  have k24_ := ((((((Keep.refl h0 []).ext E1).wr W6 (Or.inr sz_yb)).wr W11 (Or.inr sz_yb)).wr W16 (Or.inr sz_yb)).wr W21 (Or.inr sz_yb))
  have g_y2 : n0 ≤ y2 := Nat.le_trans (Nat.le_trans Z0 k24_.1) (Nat.le_of_eq g23.symm)
  have sz_y2 : h0.size ≤ y2 := Nat.le_trans k24_.1 (Nat.le_of_eq g23.symm)
  have sf_y2 : Safe Z consts_1 s.vm h21 y2 := Safe.new (Nat.le_of_eq g23.symm)
  have ne_yb_y2 : yb ≠ y2 := Nat.ne_of_lt (Nat.lt_of_lt_of_le A_y.lt (Nat.le_of_eq g23.symm))
  have C25 := C22.trans (CHr.ext E23 C22.1)
  have V_y2 : Arv Z h23 y2 k23 .byte (2 : Int32) [(.int 0), (.int 0)] (.int 0) := (Arv.new A23 (by decide)).pad (pad_rep [] (.int 0) 2)
  refine own_by (g' := (mkF m 72 #[.val (.int p0), .val (.long q0), .second, .val (.int p2), .val (.int p3), .val (.int (p0 &&& (1 : Int32))), .val (.int ((1 : Int32) - (p0 &&& (1 : Int32)))), .val (.ref yb), .unset, .unset, .unset, .unset, .unset, .unset, .unset] [(.ref y2)])) st23 ?_
  refine own_g (mkF m 81 #[.val (.int p0), .val (.long q0), .second, .val (.int p2), .val (.int p3), .val (.int (p0 &&& (1 : Int32))), .val (.int ((1 : Int32) - (p0 &&& (1 : Int32)))), .val (.ref yb), .val (.ref y2), .unset, .unset, .unset, .unset, .unset, .unset] [(.long ((q0.toUInt64 >>> ((32 : Int32) &&& 0x3f).toInt64.toUInt64).toInt64)), (.int 0), (.ref y2)]) (fun _ q => XS.astore X23.here hx rfl (hb hby at_72) rfl rfl (l' := #[.val (.int p0), .val (.long q0), .second, .val (.int p2), .val (.int p3), .val (.int (p0 &&& (1 : Int32))), .val (.int ((1 : Int32) - (p0 &&& (1 : Int32)))), .val (.ref yb), .val (.ref y2), .unset, .unset, .unset, .unset, .unset, .unset]) rfl (XS.aload X23.here hx rfl (hb hby at_74) rfl rfl (XS.iconst X23.here hx rfl (hb hby at_76) (XS.lloadN X23.here hx rfl (hb hby at_77) rfl (XS.bipush X23.here hx rfl (hb hby at_78) (XS.lushr X23.here hx rfl (hb hby at_80) rfl q)))))) ?_
  refine own_by (g' := (mkF m 84 #[.val (.int p0), .val (.long q0), .second, .val (.int p2), .val (.int p3), .val (.int (p0 &&& (1 : Int32))), .val (.int ((1 : Int32) - (p0 &&& (1 : Int32)))), .val (.ref yb), .val (.ref y2), .unset, .unset, .unset, .unset, .unset, .unset] [(.long (127 : Int64)), (.long ((q0.toUInt64 >>> ((32 : Int32) &&& 0x3f).toInt64.toUInt64).toInt64)), (.int 0), (.ref y2)])) (fun _ kq => X23.ldc2Long hx hown (mvT hZ (own_h hw 1 rfl)) (g := (mkF m 81 #[.val (.int p0), .val (.long q0), .second, .val (.int p2), .val (.int p3), .val (.int (p0 &&& (1 : Int32))), .val (.int ((1 : Int32) - (p0 &&& (1 : Int32)))), .val (.ref yb), .val (.ref y2), .unset, .unset, .unset, .unset, .unset, .unset] [(.long ((q0.toUInt64 >>> ((32 : Int32) &&& 0x3f).toInt64.toUInt64).toInt64)), (.int 0), (.ref y2)])) rfl (hb hby at_81) _ kq) ?_
  refine own_g (mkF m 87 #[.val (.int p0), .val (.long q0), .second, .val (.int p2), .val (.int p3), .val (.int (p0 &&& (1 : Int32))), .val (.int ((1 : Int32) - (p0 &&& (1 : Int32)))), .val (.ref yb), .val (.ref y2), .unset, .unset, .unset, .unset, .unset, .unset] [(.int (((((q0.toUInt64 >>> ((32 : Int32) &&& 0x3f).toInt64.toUInt64).toInt64) &&& (127 : Int64)).toInt32).toInt8.toInt32)), (.int 0), (.ref y2)]) (fun _ q => XS.land X23.here hx rfl (hb hby at_84) rfl (XS.l2i X23.here hx rfl (hb hby at_85) rfl (XS.i2b X23.here hx rfl (hb hby at_86) rfl q))) ?_
  have sf27_y2 := (sf_y2.ext E23 C22.1)
  have sw26 : Safe Z consts_1 s.vm h23 y2 := sf27_y2
  obtain ⟨cl28, Ar28, q28, S28, P28, H28, G28⟩ := id V_y2
  have hin28 : ¬ ((0 : Int32) < 0 ∨ cl28.slots.size ≤ ((0 : Int32)).toNatClampNeg) := inb_of S28 ⟨by decide, by decide⟩
  obtain ⟨T29, h29, X29, e29, W29, st29⟩ := stB X23 hx hZ e23 Ar28 (j := (0 : Int32)) hin28 (g := (mkF m 87 #[.val (.int p0), .val (.long q0), .second, .val (.int p2), .val (.int p3), .val (.int (p0 &&& (1 : Int32))), .val (.int ((1 : Int32) - (p0 &&& (1 : Int32)))), .val (.ref yb), .val (.ref y2), .unset, .unset, .unset, .unset, .unset, .unset] [(.int (((((q0.toUInt64 >>> ((32 : Int32) &&& 0x3f).toInt64.toUInt64).toInt64) &&& (127 : Int64)).toInt32).toInt8.toInt32)), (.int 0), (.ref y2)])) rfl rfl (hb hby at_87)
  have V29 : Arv Z h29 y2 k23 .byte (2 : Int32) [(.int ((((((q0.toUInt64 >>> ((32 : Int32) &&& 0x3f).toInt64.toUInt64).toInt64) &&& (127 : Int64)).toInt32).toInt8.toInt32).toInt8.toInt32)), (.int 0)] (.int 0) := Arv.set Ar28 q28 S28 P28 H28 G28 (fits_nar_byte _) W29 0 rfl (Nat.le_of_ble_eq_true rfl)
  have C30 := C25.trans (CHr.wr W29 sw26 C25.1)
  have N29 := Fr.snoc X29 N21 g_y2
  refine own_by (g' := (mkF m 88 #[.val (.int p0), .val (.long q0), .second, .val (.int p2), .val (.int p3), .val (.int (p0 &&& (1 : Int32))), .val (.int ((1 : Int32) - (p0 &&& (1 : Int32)))), .val (.ref yb), .val (.ref y2), .unset, .unset, .unset, .unset, .unset, .unset] [])) st29 ?_
  refine own_g (mkF m 95 #[.val (.int p0), .val (.long q0), .second, .val (.int p2), .val (.int p3), .val (.int (p0 &&& (1 : Int32))), .val (.int ((1 : Int32) - (p0 &&& (1 : Int32)))), .val (.ref yb), .val (.ref y2), .unset, .unset, .unset, .unset, .unset, .unset] [(.long ((q0.toUInt64 >>> ((40 : Int32) &&& 0x3f).toInt64.toUInt64).toInt64)), (.int 1), (.ref y2)]) (fun _ q => XS.aload X29.here hx rfl (hb hby at_88) rfl rfl (XS.iconst X29.here hx rfl (hb hby at_90) (XS.lloadN X29.here hx rfl (hb hby at_91) rfl (XS.bipush X29.here hx rfl (hb hby at_92) (XS.lushr X29.here hx rfl (hb hby at_94) rfl q))))) ?_
  refine own_by (g' := (mkF m 98 #[.val (.int p0), .val (.long q0), .second, .val (.int p2), .val (.int p3), .val (.int (p0 &&& (1 : Int32))), .val (.int ((1 : Int32) - (p0 &&& (1 : Int32)))), .val (.ref yb), .val (.ref y2), .unset, .unset, .unset, .unset, .unset, .unset] [(.long (127 : Int64)), (.long ((q0.toUInt64 >>> ((40 : Int32) &&& 0x3f).toInt64.toUInt64).toInt64)), (.int 1), (.ref y2)])) (fun _ kq => X29.ldc2Long hx hown (mvT hZ (own_h hw 1 rfl)) (g := (mkF m 95 #[.val (.int p0), .val (.long q0), .second, .val (.int p2), .val (.int p3), .val (.int (p0 &&& (1 : Int32))), .val (.int ((1 : Int32) - (p0 &&& (1 : Int32)))), .val (.ref yb), .val (.ref y2), .unset, .unset, .unset, .unset, .unset, .unset] [(.long ((q0.toUInt64 >>> ((40 : Int32) &&& 0x3f).toInt64.toUInt64).toInt64)), (.int 1), (.ref y2)])) rfl (hb hby at_95) _ kq) ?_
  refine own_g (mkF m 101 #[.val (.int p0), .val (.long q0), .second, .val (.int p2), .val (.int p3), .val (.int (p0 &&& (1 : Int32))), .val (.int ((1 : Int32) - (p0 &&& (1 : Int32)))), .val (.ref yb), .val (.ref y2), .unset, .unset, .unset, .unset, .unset, .unset] [(.int (((((q0.toUInt64 >>> ((40 : Int32) &&& 0x3f).toInt64.toUInt64).toInt64) &&& (127 : Int64)).toInt32).toInt8.toInt32)), (.int 1), (.ref y2)]) (fun _ q => XS.land X29.here hx rfl (hb hby at_98) rfl (XS.l2i X29.here hx rfl (hb hby at_99) rfl (XS.i2b X29.here hx rfl (hb hby at_100) rfl q))) ?_
  have sf32_y2 := (Safe.wr W29 sw26 C25.1 sf27_y2)
  have sw31 : Safe Z consts_1 s.vm h29 y2 := sf32_y2
  obtain ⟨cl33, Ar33, q33, S33, P33, H33, G33⟩ := id V29
  have hin33 : ¬ ((1 : Int32) < 0 ∨ cl33.slots.size ≤ ((1 : Int32)).toNatClampNeg) := inb_of S33 ⟨by decide, by decide⟩
  obtain ⟨T34, h34, X34, e34, W34, st34⟩ := stB X29 hx hZ e29 Ar33 (j := (1 : Int32)) hin33 (g := (mkF m 101 #[.val (.int p0), .val (.long q0), .second, .val (.int p2), .val (.int p3), .val (.int (p0 &&& (1 : Int32))), .val (.int ((1 : Int32) - (p0 &&& (1 : Int32)))), .val (.ref yb), .val (.ref y2), .unset, .unset, .unset, .unset, .unset, .unset] [(.int (((((q0.toUInt64 >>> ((40 : Int32) &&& 0x3f).toInt64.toUInt64).toInt64) &&& (127 : Int64)).toInt32).toInt8.toInt32)), (.int 1), (.ref y2)])) rfl rfl (hb hby at_101)
  have V34 : Arv Z h34 y2 k23 .byte (2 : Int32) [(.int ((((((q0.toUInt64 >>> ((32 : Int32) &&& 0x3f).toInt64.toUInt64).toInt64) &&& (127 : Int64)).toInt32).toInt8.toInt32).toInt8.toInt32)), (.int ((((((q0.toUInt64 >>> ((40 : Int32) &&& 0x3f).toInt64.toUInt64).toInt64) &&& (127 : Int64)).toInt32).toInt8.toInt32).toInt8.toInt32))] (.int 0) := Arv.set Ar33 q33 S33 P33 H33 G33 (fits_nar_byte _) W34 1 rfl (Nat.le_of_ble_eq_true rfl)
  have C35 := C30.trans (CHr.wr W34 sw31 C30.1)
  have N34 := Fr.snoc X34 N29 g_y2
  refine own_by (g' := (mkF m 102 #[.val (.int p0), .val (.long q0), .second, .val (.int p2), .val (.int p3), .val (.int (p0 &&& (1 : Int32))), .val (.int ((1 : Int32) - (p0 &&& (1 : Int32)))), .val (.ref yb), .val (.ref y2), .unset, .unset, .unset, .unset, .unset, .unset] [])) st34 ?_
  refine own_g (mkF m 103 #[.val (.int p0), .val (.long q0), .second, .val (.int p2), .val (.int p3), .val (.int (p0 &&& (1 : Int32))), .val (.int ((1 : Int32) - (p0 &&& (1 : Int32)))), .val (.ref yb), .val (.ref y2), .unset, .unset, .unset, .unset, .unset, .unset] [(.int p2)]) (fun _ q => XS.iloadN X34.here hx rfl (hb hby at_102) rfl q) ?_
  refine own_by (g' := (mkF m 105 #[.val (.int p0), .val (.long q0), .second, .val (.int p2), .val (.int p3), .val (.int (p0 &&& (1 : Int32))), .val (.int ((1 : Int32) - (p0 &&& (1 : Int32)))), .val (.ref yb), .val (.ref y2), .unset, .unset, .unset, .unset, .unset, .unset] [(.int 2147483647), (.int p2)])) (fun _ kq => X34.ldcInt hx hown (mvT hZ (own_h hw 2 rfl)) (g := (mkF m 103 #[.val (.int p0), .val (.long q0), .second, .val (.int p2), .val (.int p3), .val (.int (p0 &&& (1 : Int32))), .val (.int ((1 : Int32) - (p0 &&& (1 : Int32)))), .val (.ref yb), .val (.ref y2), .unset, .unset, .unset, .unset, .unset, .unset] [(.int p2)])) rfl (hb hby at_103) _ kq) ?_
  refine own_g (mkF m 107 #[.val (.int p0), .val (.long q0), .second, .val (.int p2), .val (.int p3), .val (.int (p0 &&& (1 : Int32))), .val (.int ((1 : Int32) - (p0 &&& (1 : Int32)))), .val (.ref yb), .val (.ref y2), .unset, .unset, .unset, .unset, .unset, .unset] [(.int 5), (.int (p2 &&& (2147483647 : Int32)))]) (fun _ q => XS.iand X34.here hx rfl (hb hby at_105) rfl (XS.iconst X34.here hx rfl (hb hby at_106) q)) ?_
  refine own_by (g' := (mkF m 108 #[.val (.int p0), .val (.long q0), .second, .val (.int p2), .val (.int p3), .val (.int (p0 &&& (1 : Int32))), .val (.int ((1 : Int32) - (p0 &&& (1 : Int32)))), .val (.ref yb), .val (.ref y2), .unset, .unset, .unset, .unset, .unset, .unset] [(.int ((p2 &&& (2147483647 : Int32)) % (5 : Int32)))])) (fun _ kq => Jvm.RoadKit.iremM (g := (mkF m 107 #[.val (.int p0), .val (.long q0), .second, .val (.int p2), .val (.int p3), .val (.int (p0 &&& (1 : Int32))), .val (.int ((1 : Int32) - (p0 &&& (1 : Int32)))), .val (.ref yb), .val (.ref y2), .unset, .unset, .unset, .unset, .unset, .unset] [(.int 5), (.int (p2 &&& (2147483647 : Int32)))])) X34 hx rfl (hb hby at_107) rfl (by decide) kq) ?_
  refine own_g (mkF m 110 #[.val (.int p0), .val (.long q0), .second, .val (.int p2), .val (.int p3), .val (.int (p0 &&& (1 : Int32))), .val (.int ((1 : Int32) - (p0 &&& (1 : Int32)))), .val (.ref yb), .val (.ref y2), .val (.int ((p2 &&& (2147483647 : Int32)) % (5 : Int32))), .unset, .unset, .unset, .unset, .unset] []) (fun _ q => XS.istore X34.here hx rfl (hb hby at_108) rfl (l' := #[.val (.int p0), .val (.long q0), .second, .val (.int p2), .val (.int p3), .val (.int (p0 &&& (1 : Int32))), .val (.int ((1 : Int32) - (p0 &&& (1 : Int32)))), .val (.ref yb), .val (.ref y2), .val (.int ((p2 &&& (2147483647 : Int32)) % (5 : Int32))), .unset, .unset, .unset, .unset, .unset]) rfl q) ?_
  obtain ⟨of, eof, hof⟩ : ∃ z : Int32, ((p2 &&& (2147483647 : Int32)) % (5 : Int32)) = z ∧ own_five z := ⟨_, rfl, own_off5 _⟩
  rw [eof]
  refine own_g (mkF m 114 #[.val (.int p0), .val (.long q0), .second, .val (.int p2), .val (.int p3), .val (.int (p0 &&& (1 : Int32))), .val (.int ((1 : Int32) - (p0 &&& (1 : Int32)))), .val (.ref yb), .val (.ref y2), .val (.int of), .unset, .unset, .unset, .unset, .unset] [(.int ((p2.toUInt32 >>> ((8 : Int32) &&& 31).toUInt32).toInt32))]) (fun _ q => XS.iloadN X34.here hx rfl (hb hby at_110) rfl (XS.bipush X34.here hx rfl (hb hby at_111) (XS.iushr X34.here hx rfl (hb hby at_113) rfl q))) ?_
  refine own_by (g' := (mkF m 116 #[.val (.int p0), .val (.long q0), .second, .val (.int p2), .val (.int p3), .val (.int (p0 &&& (1 : Int32))), .val (.int ((1 : Int32) - (p0 &&& (1 : Int32)))), .val (.ref yb), .val (.ref y2), .val (.int of), .unset, .unset, .unset, .unset, .unset] [(.int 8388607), (.int ((p2.toUInt32 >>> ((8 : Int32) &&& 31).toUInt32).toInt32))])) (fun _ kq => X34.ldcInt hx hown (mvT hZ (own_h hw 3 rfl)) (g := (mkF m 114 #[.val (.int p0), .val (.long q0), .second, .val (.int p2), .val (.int p3), .val (.int (p0 &&& (1 : Int32))), .val (.int ((1 : Int32) - (p0 &&& (1 : Int32)))), .val (.ref yb), .val (.ref y2), .val (.int of), .unset, .unset, .unset, .unset, .unset] [(.int ((p2.toUInt32 >>> ((8 : Int32) &&& 31).toUInt32).toInt32))])) rfl (hb hby at_114) _ kq) ?_
  refine own_g (mkF m 121 #[.val (.int p0), .val (.long q0), .second, .val (.int p2), .val (.int p3), .val (.int (p0 &&& (1 : Int32))), .val (.int ((1 : Int32) - (p0 &&& (1 : Int32)))), .val (.ref yb), .val (.ref y2), .val (.int of), .unset, .unset, .unset, .unset, .unset] [(.int ((5 : Int32) - of)), (.int (((p2.toUInt32 >>> ((8 : Int32) &&& 31).toUInt32).toInt32) &&& (8388607 : Int32)))]) (fun _ q => XS.iand X34.here hx rfl (hb hby at_116) rfl (XS.iconst X34.here hx rfl (hb hby at_117) (XS.iload X34.here hx rfl (hb hby at_118) rfl (XS.isub X34.here hx rfl (hb hby at_120) rfl q)))) ?_
  refine own_by (g' := (mkF m 122 #[.val (.int p0), .val (.long q0), .second, .val (.int p2), .val (.int p3), .val (.int (p0 &&& (1 : Int32))), .val (.int ((1 : Int32) - (p0 &&& (1 : Int32)))), .val (.ref yb), .val (.ref y2), .val (.int of), .unset, .unset, .unset, .unset, .unset] [(.int ((((p2.toUInt32 >>> ((8 : Int32) &&& 31).toUInt32).toInt32) &&& (8388607 : Int32)) % ((5 : Int32) - of)))])) (fun _ kq => Jvm.RoadKit.iremM (g := (mkF m 121 #[.val (.int p0), .val (.long q0), .second, .val (.int p2), .val (.int p3), .val (.int (p0 &&& (1 : Int32))), .val (.int ((1 : Int32) - (p0 &&& (1 : Int32)))), .val (.ref yb), .val (.ref y2), .val (.int of), .unset, .unset, .unset, .unset, .unset] [(.int ((5 : Int32) - of)), (.int (((p2.toUInt32 >>> ((8 : Int32) &&& 31).toUInt32).toInt32) &&& (8388607 : Int32)))])) X34 hx rfl (hb hby at_121) rfl (own_nz5 hof) kq) ?_
  refine own_g (mkF m 124 #[.val (.int p0), .val (.long q0), .second, .val (.int p2), .val (.int p3), .val (.int (p0 &&& (1 : Int32))), .val (.int ((1 : Int32) - (p0 &&& (1 : Int32)))), .val (.ref yb), .val (.ref y2), .val (.int of), .val (.int ((((p2.toUInt32 >>> ((8 : Int32) &&& 31).toUInt32).toInt32) &&& (8388607 : Int32)) % ((5 : Int32) - of))), .unset, .unset, .unset, .unset] []) (fun _ q => XS.istore X34.here hx rfl (hb hby at_122) rfl (l' := #[.val (.int p0), .val (.long q0), .second, .val (.int p2), .val (.int p3), .val (.int (p0 &&& (1 : Int32))), .val (.int ((1 : Int32) - (p0 &&& (1 : Int32)))), .val (.ref yb), .val (.ref y2), .val (.int of), .val (.int ((((p2.toUInt32 >>> ((8 : Int32) &&& 31).toUInt32).toInt32) &&& (8388607 : Int32)) % ((5 : Int32) - of))), .unset, .unset, .unset, .unset]) rfl q) ?_
  obtain ⟨ln, eln, hln⟩ : ∃ z : Int32, ((((p2.toUInt32 >>> ((8 : Int32) &&& 31).toUInt32).toInt32) &&& (8388607 : Int32)) % ((5 : Int32) - of)) = z ∧ own_OL of z := ⟨_, rfl, own_ol hof (c_and _ 8388607 (by decide)).1⟩
  rw [eln]
  show own_Fin p e below _ T34 (mkF m 124 #[.val (.int p0), .val (.long q0), .second, .val (.int p2), .val (.int p3), .val (.int (p0 &&& (1 : Int32))), .val (.int ((1 : Int32) - (p0 &&& (1 : Int32)))), .val (.ref yb), .val (.ref y2), .val (.int of), .val (.int ln), .unset, .unset, .unset, .unset] [])
  obtain ⟨T36, h36, X36, e36, E36, A36, D36, U36, st36⟩ := newO X34 hx hZ hown (own_h hw 4 rfl) (own_h hw 5 rfl) (own_h hw 6 rfl) e34 (g := (mkF m 124 #[.val (.int p0), .val (.long q0), .second, .val (.int p2), .val (.int p3), .val (.int (p0 &&& (1 : Int32))), .val (.int ((1 : Int32) - (p0 &&& (1 : Int32)))), .val (.ref yb), .val (.ref y2), .val (.int of), .val (.int ln), .unset, .unset, .unset, .unset] [])) rfl (hb hby at_124) (by decide) (by decide)
  obtain ⟨b36, g36⟩ : ∃ z, z = h34.size := ⟨_, rfl⟩
  rw [← g36] at A36 D36 U36 st36
  have k37_ := (((k24_.ext E23).wr W29 (Or.inr sz_y2)).wr W34 (Or.inr sz_y2))
  have g_b36 : n0 ≤ b36 := Nat.le_trans (Nat.le_trans Z0 k37_.1) (Nat.le_of_eq g36.symm)
  have sz_b36 : h0.size ≤ b36 := Nat.le_trans k37_.1 (Nat.le_of_eq g36.symm)
  have sf_b36 : Safe Z consts_1 s.vm h34 b36 := Safe.new (Nat.le_of_eq g36.symm)
  have a38_yb := (((A_y.ext E23).other W29 ne_yb_y2).other W34 ne_yb_y2)
  have ne_yb_b36 : yb ≠ b36 := Nat.ne_of_lt (Nat.lt_of_lt_of_le a38_yb.lt (Nat.le_of_eq g36.symm))
  have ne_y2_b36 : y2 ≠ b36 := Nat.ne_of_lt (Nat.lt_of_lt_of_le V34.lt (Nat.le_of_eq g36.symm))
  have C39 := C35.trans (CHr.ext E36 C35.1)
  have F_texts_b36 : Fld Z h36 b36 "com/example/rowtide/rowtide/event/Row" "texts" "[Ljava/lang/String;" .null := D36 (Or.inr (own_h hw 16 rfl)) (ty := (.array (.object "java/lang/String"))) (by decide)
  have F_utf8_b36 : Fld Z h36 b36 "com/example/rowtide/rowtide/event/Row" "utf8" "[[B" .null := D36 (Or.inr (own_h hw 20 rfl)) (ty := (.array (.array .byte))) (by decide)
  have F_utf8Offsets_b36 : Fld Z h36 b36 "com/example/rowtide/rowtide/event/Row" "utf8Offsets" "[I" .null := D36 (Or.inr (own_h hw 23 rfl)) (ty := (.array .int)) (by decide)
  have F_utf8Lengths_b36 : Fld Z h36 b36 "com/example/rowtide/rowtide/event/Row" "utf8Lengths" "[I" .null := D36 (Or.inr (own_h hw 25 rfl)) (ty := (.array .int)) (by decide)
  have F_unavailable_b36 : Fld Z h36 b36 "com/example/rowtide/rowtide/event/Row" "unavailable" "[Z" .null := D36 (Or.inr (own_h hw 28 rfl)) (ty := (.array .boolean)) (by decide)
  refine own_by (g' := (mkF m 127 #[.val (.int p0), .val (.long q0), .second, .val (.int p2), .val (.int p3), .val (.int (p0 &&& (1 : Int32))), .val (.int ((1 : Int32) - (p0 &&& (1 : Int32)))), .val (.ref yb), .val (.ref y2), .val (.int of), .val (.int ln), .unset, .unset, .unset, .unset] [(.ref b36)])) st36 ?_
  refine own_g (mkF m 129 #[.val (.int p0), .val (.long q0), .second, .val (.int p2), .val (.int p3), .val (.int (p0 &&& (1 : Int32))), .val (.int ((1 : Int32) - (p0 &&& (1 : Int32)))), .val (.ref yb), .val (.ref y2), .val (.int of), .val (.int ln), .unset, .unset, .unset, .unset] [(.int 2), (.ref b36), (.ref b36)]) (fun _ q => XS.dup X36.here hx rfl (hb hby at_127) rfl rfl (XS.iconst X36.here hx rfl (hb hby at_128) q)) ?_
  have k40_ := (k37_.ext E36)
  have a41_yb := (a38_yb.ext E36)
  have a42_y2 := (V34.ext E36)
  refine own_callI X36 hx hZ (y := (⟨"com/example/rowtide/rowtide/event/Row", "<init>", "(I)V"⟩ : MethodName)) rfl hown (own_h hw 7 rfl) (own_h hw 8 rfl) (own_h hw 9 rfl) (own_h hw 6 rfl) (by decide) (own_rowInit l Z a0 hw [] b36 h36 n0 (Nat.le_trans Z0 k40_.1) A36 g_b36 F_texts_b36 F_utf8_b36 F_utf8Offsets_b36 F_utf8Lengths_b36 F_unavailable_b36) (by decide) (by decide) e36 (g := (mkF m 129 #[.val (.int p0), .val (.long q0), .second, .val (.int p2), .val (.int p3), .val (.int (p0 &&& (1 : Int32))), .val (.int ((1 : Int32) - (p0 &&& (1 : Int32)))), .val (.ref yb), .val (.ref y2), .val (.int of), .val (.int ln), .unset, .unset, .unset, .unset] [(.int 2), (.ref b36), (.ref b36)])) rfl (by rw [hml]; rfl) (argsL := [(.int 2)]) (rest := [(.ref b36)]) (lenOf own_pd__28I_29V rfl) rfl (W := 1) (Nat.le_of_eq rfl) (hb hby at_129) rfl (by decide) (by decide) ?_
  rintro rv43 T43 L43 X43 ⟨rfl, Nq43, Kq43, tx, u8, ofs, les, un, kt, ku, ko, kl, kn, RA, RW43, z_tx, z_u8, z_ofs, z_les, z_un⟩
  have N43 := Fr.app N34 Nq43
  show own_Fin p e below _ T43 (mkF m 132 #[.val (.int p0), .val (.long q0), .second, .val (.int p2), .val (.int p3), .val (.int (p0 &&& (1 : Int32))), .val (.int ((1 : Int32) - (p0 &&& (1 : Int32)))), .val (.ref yb), .val (.ref y2), .val (.int of), .val (.int ln), .unset, .unset, .unset, .unset] [(.ref b36)])
  obtain ⟨OvT, OvU, g_tx, g_u8, g_ofs, g_les, g_un, ne_r_tx, ne_r_u8, ne_r_ofs, ne_r_les, ne_r_un, ne_tx_u8, ne_tx_ofs, ne_tx_les, ne_tx_un, ne_u8_ofs, ne_u8_les, ne_u8_un, ne_ofs_les, ne_ofs_un, ne_les_un⟩ := id RA
  have sz_tx := Nat.le_trans k40_.1 z_tx
  have sz_u8 := Nat.le_trans k40_.1 z_u8
  have sz_ofs := Nat.le_trans k40_.1 z_ofs
  have sz_les := Nat.le_trans k40_.1 z_les
  have sz_un := Nat.le_trans k40_.1 z_un
  have ne_yb_tx : yb ≠ tx := Nat.ne_of_lt (Nat.lt_of_lt_of_le a41_yb.lt z_tx)
  have ne_yb_u8 : yb ≠ u8 := Nat.ne_of_lt (Nat.lt_of_lt_of_le a41_yb.lt z_u8)
  have ne_yb_ofs : yb ≠ ofs := Nat.ne_of_lt (Nat.lt_of_lt_of_le a41_yb.lt z_ofs)
  have ne_yb_les : yb ≠ les := Nat.ne_of_lt (Nat.lt_of_lt_of_le a41_yb.lt z_les)
  have ne_yb_un : yb ≠ un := Nat.ne_of_lt (Nat.lt_of_lt_of_le a41_yb.lt z_un)
  have ne_y2_tx : y2 ≠ tx := Nat.ne_of_lt (Nat.lt_of_lt_of_le a42_y2.lt z_tx)
  have ne_y2_u8 : y2 ≠ u8 := Nat.ne_of_lt (Nat.lt_of_lt_of_le a42_y2.lt z_u8)
  have ne_y2_ofs : y2 ≠ ofs := Nat.ne_of_lt (Nat.lt_of_lt_of_le a42_y2.lt z_ofs)
  have ne_y2_les : y2 ≠ les := Nat.ne_of_lt (Nat.lt_of_lt_of_le a42_y2.lt z_les)
  have ne_y2_un : y2 ≠ un := Nat.ne_of_lt (Nat.lt_of_lt_of_le a42_y2.lt z_un)
  have C44 := C39.trans (CHr.keep Kq43 (sfS (Safe.exa hZ.alike A36 (by decide) (by decide)) sf0) C39.1)
  obtain ⟨E_rq43, F_textsq43, F_utf8q43, F_utf8Offsetsq43, F_utf8Lengthsq43, F_unavailableq43, A_txq43, A_u8q43, A_ofsq43, A_lesq43, A_unq43⟩ := RW43
  refine own_g (mkF m 134 #[.val (.int p0), .val (.long q0), .second, .val (.int p2), .val (.int p3), .val (.int (p0 &&& (1 : Int32))), .val (.int ((1 : Int32) - (p0 &&& (1 : Int32)))), .val (.ref yb), .val (.ref y2), .val (.int of), .val (.int ln), .val (.ref b36), .unset, .unset, .unset] []) (fun _ q => XS.astore X43.here hx rfl (hb hby at_132) rfl rfl (l' := #[.val (.int p0), .val (.long q0), .second, .val (.int p2), .val (.int p3), .val (.int (p0 &&& (1 : Int32))), .val (.int ((1 : Int32) - (p0 &&& (1 : Int32)))), .val (.ref yb), .val (.ref y2), .val (.int of), .val (.int ln), .val (.ref b36), .unset, .unset, .unset]) rfl q) ?_
  rcases own_c01 p0 with hcc | hcc
  · rw [hcc]
    refine own_g (own_fr m p0 q0 p2 p3 yb y2 b36 140 0 1 of ln .unset .unset []) (fun _ q => XS.iload X43.here hx rfl (hb hby at_134) rfl (XS.iconst X43.here hx rfl (hb hby at_136) (XS.iand X43.here hx rfl (hb hby at_137) rfl (XS.istore X43.here hx rfl (hb hby at_138) rfl (l' := #[.val (.int p0), .val (.long q0), .second, .val (.int p2), .val (.int p3), .val (.int 0), .val (.int 1), .val (.ref yb), .val (.ref y2), .val (.int of), .val (.int ln), .val (.ref b36), .val (.int (p3 &&& (3 : Int32))), .unset, .unset]) rfl q)))) ?_
    have J201 : ∀ (TJ : State) (hJ : Heap) (LJ : List Loc) (tq bq : Value) (oq lq mq : Int32), Stand p l e room_1 (s.setVm s.vm) m #[(.int p0), (.long q0), (.int p2), (.int p3)] below meth c TJ LJ 10 26 → TJ.heap = hJ → Fr n0 LJ → CHr Z consts_1 s.vm h0 s.vm hJ → Keep h0 hJ [] → Old Z n0 hJ → own_Row Z hJ b36 tx u8 ofs les un kt ku ko kl kn tq .null bq .null oq (0 : Int32) lq (0 : Int32) mq (0 : Int32) → tq.isRef = true → bq.isRef = true → Arv Z hJ yb k1 .byte (4 : Int32) [(.int b0), (.int b1), (.int b2), (.int b3)] (.int 0) → Exa Z hJ yb "[B" → Unt hJ yb → own_Fin p e below (own_PW Z consts_1 s (own_rm0_Q Z p0 q0 p2 p3 zCS fm cs h0 n0) room_1.cells room_1.slots) TJ (own_fr m p0 q0 p2 p3 yb y2 b36 201 0 1 of ln .unset .unset []) := by
      intro TJ hJ LJ tq bq oq lq mq XJ eJ NJ CJ KJ OJ RWJ htq hbq AyJ EyJ UyJ
      obtain ⟨E_rJ, F_textsJ, F_utf8J, F_utf8OffsetsJ, F_utf8LengthsJ, F_unavailableJ, A_txJ, A_u8J, A_ofsJ, A_lesJ, A_unJ⟩ := RWJ
      refine own_g (own_fr m p0 q0 p2 p3 yb y2 b36 211 0 1 of ln .unset .unset [(.int ln), (.int of), (.ref yb), (.int 0), (.ref b36)]) (fun _ q => XS.aload XJ.here hx rfl (hb hby at_201) rfl rfl (XS.iload XJ.here hx rfl (hb hby at_203) rfl (XS.aload XJ.here hx rfl (hb hby at_205) rfl rfl (XS.iload XJ.here hx rfl (hb hby at_207) rfl (XS.iload XJ.here hx rfl (hb hby at_209) rfl q))))) ?_
      obtain ⟨cl45, Ar45, qa45, -⟩ := id A_u8J
      refine own_callV XJ hx hZ (y := own_y5) (z := own_y5) hown (own_h hw 29 rfl) (own_h hw 30 rfl) (own_nf (own_h hw 32 rfl)) (own_h hw 32 rfl) (own_h hw 31 rfl) (own_h hw 33 rfl) (own_h hw 6 rfl) (by decide) E_rJ (own_setUtf8_0 l Z a0 hw [] b36 yb of ln tx u8 ofs les un kt ku ko kl kn tq .null bq .null oq (0 : Int32) lq (0 : Int32) mq (0 : Int32) hJ n0 (Nat.le_trans Z0 KJ.1) htq rfl hbq rfl RA ⟨E_rJ, F_textsJ, F_utf8J, F_utf8OffsetsJ, F_utf8LengthsJ, F_unavailableJ, A_txJ, A_u8J, A_ofsJ, A_lesJ, A_unJ⟩ (Sto.ofVA Ar45 qa45 OvU (Ins.self EyJ))) (by decide) (by decide) eJ (g := (own_fr m p0 q0 p2 p3 yb y2 b36 211 0 1 of ln .unset .unset [(.int ln), (.int of), (.ref yb), (.int 0), (.ref b36)])) rfl (by rw [hml]; rfl) (argsL := [(.int 0), (.ref yb), (.int of), (.int ln)]) (rest := []) (lenOf own_pd__28I_5bBII_29V rfl) rfl (W := 0) (Nat.le_of_eq rfl) (hb hby at_211) rfl (by decide) (by decide) ?_
      rintro rv46 T46 L46 X46 ⟨rfl, Nq46, Kq46, RW46⟩
      have N46 := Fr.app NJ Nq46
      show own_Fin p e below _ T46 (own_fr m p0 q0 p2 p3 yb y2 b36 214 0 1 of ln .unset .unset [])
      have C47 := CJ.trans (CHr.keep Kq46 (sfS (Safe.arv hZ.alike A_txJ (by decide)) (sfS (Safe.arv hZ.alike A_u8J (by decide)) (sfS (Safe.arv hZ.alike A_ofsJ (by decide)) (sfS (Safe.arv hZ.alike A_lesJ (by decide)) (sfS (Safe.arv hZ.alike A_unJ (by decide)) sf0))))) CJ.1)
      obtain ⟨E_rq46, F_textsq46, F_utf8q46, F_utf8Offsetsq46, F_utf8Lengthsq46, F_unavailableq46, A_txq46, A_u8q46, A_ofsq46, A_lesq46, A_unq46⟩ := RW46
      refine own_g (own_fr m p0 q0 p2 p3 yb y2 b36 218 0 1 of ln .unset .unset [(.int 0), (.ref b36)]) (fun _ q => XS.aload X46.here hx rfl (hb hby at_214) rfl rfl (XS.iload X46.here hx rfl (hb hby at_216) rfl q)) ?_
      have k48_ := (KJ.trans Kq46 (allS (Or.inr sz_tx) (allS (Or.inr sz_u8) (allS (Or.inr sz_ofs) (allS (Or.inr sz_les) (allS (Or.inr sz_un) all0))))))
      refine own_callV X46 hx hZ (y := own_y1) (z := own_y1) hown (own_h hw 35 rfl) (own_h hw 36 rfl) (own_nf (own_h hw 38 rfl)) (own_h hw 38 rfl) (own_h hw 37 rfl) (own_h hw 39 rfl) (own_h hw 6 rfl) (by decide) E_rq46 (own_isNull0 l Z a0 hw [] b36 tx u8 ofs les un kt ku ko kl kn .null .null (.ref yb) .null of (0 : Int32) ln (0 : Int32) (0 : Int32) (0 : Int32) T46.heap n0 (Nat.le_trans Z0 k48_.1) rfl rfl rfl rfl RA ⟨E_rq46, F_textsq46, F_utf8q46, F_utf8Offsetsq46, F_utf8Lengthsq46, F_unavailableq46, A_txq46, A_u8q46, A_ofsq46, A_lesq46, A_unq46⟩) (by decide) (by decide) rfl (g := (own_fr m p0 q0 p2 p3 yb y2 b36 218 0 1 of ln .unset .unset [(.int 0), (.ref b36)])) rfl (by rw [hml]; rfl) (argsL := [(.int 0)]) (rest := []) (lenOf own_pd__28I_29Z rfl) rfl (W := 0) (Nat.le_of_eq rfl) (hb hby at_218) rfl (by decide) (by decide) ?_
      rintro rv49 T49 L49 X49 ⟨hv49, Nq49, eh49⟩
      have N49 := Fr.app N46 Nq49
      simp [own_isn, own_b] at hv49
      subst hv49
      refine own_g (own_fr m p0 q0 p2 p3 yb y2 b36 228 0 1 of ln .unset .unset [(.int 0), (.ref b36)]) (fun _ q => XS.ifNo X49.here hx rfl (hb hby at_221) rfl ((if0 _ _).trans (teq (by decide : (0 : Int32) = (0 : Int32))).2) (XS.aload X49.here hx rfl (hb hby at_224) rfl rfl (XS.iload X49.here hx rfl (hb hby at_226) rfl q))) ?_
      refine own_callV X49 hx hZ (y := own_y2) (z := own_y2) hown (own_h hw 40 rfl) (own_h hw 41 rfl) (own_nf (own_h hw 43 rfl)) (own_h hw 43 rfl) (own_h hw 42 rfl) (own_h hw 44 rfl) (own_h hw 6 rfl) (by decide) E_rq46 (own_isUn0 l Z a0 hw [] b36 tx u8 ofs les un kt ku ko kl kn .null .null (.ref yb) .null of (0 : Int32) ln (0 : Int32) (0 : Int32) (0 : Int32) T46.heap n0 (Nat.le_trans Z0 k48_.1) rfl rfl rfl rfl RA ⟨E_rq46, F_textsq46, F_utf8q46, F_utf8Offsetsq46, F_utf8Lengthsq46, F_unavailableq46, A_txq46, A_u8q46, A_ofsq46, A_lesq46, A_unq46⟩) (by decide) (by decide) eh49 (g := (own_fr m p0 q0 p2 p3 yb y2 b36 228 0 1 of ln .unset .unset [(.int 0), (.ref b36)])) rfl (by rw [hml]; rfl) (argsL := [(.int 0)]) (rest := []) (lenOf own_pd__28I_29Z rfl) rfl (W := 0) (Nat.le_of_eq rfl) (hb hby at_228) rfl (by decide) (by decide) ?_
      rintro rv50 T50 L50 X50 ⟨rfl, Nq50, eh50⟩
      have N50 := Fr.app N49 Nq50
      refine own_g (own_fr m p0 q0 p2 p3 yb y2 b36 250 0 1 of ln (.val (.int 1)) .unset [(.int 0), (.ref b36)]) (fun _ q => XS.ifNo X50.here hx rfl (hb hby at_231) rfl ((if0 _ _).trans (teq (by decide : (0 : Int32) = (0 : Int32))).2) (XS.iconst X50.here hx rfl (hb hby at_234) (XS.goto X50.here hx rfl (pc0 := 235) (pc' := 239) rfl (hb hby at_235) (by decide) (by decide) (XS.istore X50.here hx rfl (hb hby at_239) rfl (l' := #[.val (.int p0), .val (.long q0), .second, .val (.int p2), .val (.int p3), .val (.int 0), .val (.int 1), .val (.ref yb), .val (.ref y2), .val (.int of), .val (.int ln), .val (.ref b36), .val (.int (p3 &&& (3 : Int32))), .val (.int 1), .unset]) rfl (XS.iload X50.here hx rfl (hb hby at_241) rfl (XS.ifNo X50.here hx rfl (hb hby at_243) rfl ((if0 _ _).trans (feq (by decide : ¬ ((1 : Int32) = (0 : Int32)))).1) (XS.aload X50.here hx rfl (hb hby at_246) rfl rfl (XS.iload X50.here hx rfl (hb hby at_248) rfl q)))))))) ?_
      refine own_callV X50 hx hZ (y := own_y7) (z := own_y7) hown (own_h hw 45 rfl) (own_h hw 46 rfl) (own_nf (own_h hw 48 rfl)) (own_h hw 48 rfl) (own_h hw 47 rfl) (own_h hw 49 rfl) (own_h hw 6 rfl) (by decide) E_rq46 (own_utf8_0 l Z a0 hw [] b36 tx u8 ofs les un kt ku ko kl kn .null .null (.ref yb) .null of (0 : Int32) ln (0 : Int32) (0 : Int32) (0 : Int32) T46.heap n0 (Nat.le_trans Z0 k48_.1) rfl rfl rfl rfl RA ⟨E_rq46, F_textsq46, F_utf8q46, F_utf8Offsetsq46, F_utf8Lengthsq46, F_unavailableq46, A_txq46, A_u8q46, A_ofsq46, A_lesq46, A_unq46⟩) (by decide) (by decide) eh50 (g := (own_fr m p0 q0 p2 p3 yb y2 b36 250 0 1 of ln (.val (.int 1)) .unset [(.int 0), (.ref b36)])) rfl (by rw [hml]; rfl) (argsL := [(.int 0)]) (rest := []) (lenOf own_pd__28I_29_5bB rfl) rfl (W := 0) (Nat.le_of_eq rfl) (hb hby at_250) rfl (by decide) (by decide) ?_
      rintro rv51 T51 L51 X51 ⟨rfl, Nq51, eh51⟩
      have N51 := Fr.app N50 Nq51
      refine own_g (own_fr m p0 q0 p2 p3 yb y2 b36 255 0 1 of ln (.val (.int 1)) .unset [(.ref yb), (.ref yb)]) (fun _ q => XS.aload X51.here hx rfl (hb hby at_253) rfl rfl q) ?_
      refine own_by (g' := (own_fr m p0 q0 p2 p3 yb y2 b36 258 0 1 of ln (.val (.int 1)) .unset [])) (fun _ kq => Jvm.RoadKit.acmp (g := (own_fr m p0 q0 p2 p3 yb y2 b36 255 0 1 of ln (.val (.int 1)) .unset [(.ref yb), (.ref yb)])) X51 hx rfl rfl rfl (pc0 := 255) (pc' := 258) (same := true) rfl (hb hby at_255) rfl (decide_eq_true rfl) (by decide) (by decide) kq) ?_
      refine own_g (own_fr m p0 q0 p2 p3 yb y2 b36 262 0 1 of ln (.val (.int 1)) .unset [(.int 0), (.ref b36)]) (fun _ q => XS.aload X51.here hx rfl (hb hby at_258) rfl rfl (XS.iload X51.here hx rfl (hb hby at_260) rfl q)) ?_
      refine own_callV X51 hx hZ (y := own_y9) (z := own_y9) hown (own_h hw 50 rfl) (own_h hw 51 rfl) (own_nf (own_h hw 53 rfl)) (own_h hw 53 rfl) (own_h hw 52 rfl) (own_h hw 54 rfl) (own_h hw 6 rfl) (by decide) E_rq46 (own_off0 l Z a0 hw [] b36 tx u8 ofs les un kt ku ko kl kn .null .null (.ref yb) .null of (0 : Int32) ln (0 : Int32) (0 : Int32) (0 : Int32) T46.heap n0 (Nat.le_trans Z0 k48_.1) rfl rfl rfl rfl RA ⟨E_rq46, F_textsq46, F_utf8q46, F_utf8Offsetsq46, F_utf8Lengthsq46, F_unavailableq46, A_txq46, A_u8q46, A_ofsq46, A_lesq46, A_unq46⟩) (by decide) (by decide) eh51 (g := (own_fr m p0 q0 p2 p3 yb y2 b36 262 0 1 of ln (.val (.int 1)) .unset [(.int 0), (.ref b36)])) rfl (by rw [hml]; rfl) (argsL := [(.int 0)]) (rest := []) (lenOf own_pd__28I_29I rfl) rfl (W := 0) (Nat.le_of_eq rfl) (hb hby at_262) rfl (by decide) (by decide) ?_
      rintro rv52 T52 L52 X52 ⟨rfl, Nq52, eh52⟩
      have N52 := Fr.app N51 Nq52
      refine own_g (own_fr m p0 q0 p2 p3 yb y2 b36 274 0 1 of ln (.val (.int 1)) .unset [(.int 0), (.ref b36)]) (fun _ q => XS.iload X52.here hx rfl (hb hby at_265) rfl (XS.icmpNo X52.here hx rfl (hb hby at_267) rfl (teq (rfl : of = of)).2 (XS.aload X52.here hx rfl (hb hby at_270) rfl rfl (XS.iload X52.here hx rfl (hb hby at_272) rfl q)))) ?_
      refine own_callV X52 hx hZ (y := own_y8) (z := own_y8) hown (own_h hw 55 rfl) (own_h hw 56 rfl) (own_nf (own_h hw 58 rfl)) (own_h hw 58 rfl) (own_h hw 57 rfl) (own_h hw 59 rfl) (own_h hw 6 rfl) (by decide) E_rq46 (own_len0 l Z a0 hw [] b36 tx u8 ofs les un kt ku ko kl kn .null .null (.ref yb) .null of (0 : Int32) ln (0 : Int32) (0 : Int32) (0 : Int32) T46.heap n0 (Nat.le_trans Z0 k48_.1) rfl rfl rfl rfl RA ⟨E_rq46, F_textsq46, F_utf8q46, F_utf8Offsetsq46, F_utf8Lengthsq46, F_unavailableq46, A_txq46, A_u8q46, A_ofsq46, A_lesq46, A_unq46⟩) (by decide) (by decide) eh52 (g := (own_fr m p0 q0 p2 p3 yb y2 b36 274 0 1 of ln (.val (.int 1)) .unset [(.int 0), (.ref b36)])) rfl (by rw [hml]; rfl) (argsL := [(.int 0)]) (rest := []) (lenOf own_pd__28I_29I rfl) rfl (W := 0) (Nat.le_of_eq rfl) (hb hby at_274) rfl (by decide) (by decide) ?_
      rintro rv53 T53 L53 X53 ⟨rfl, Nq53, eh53⟩
      have N53 := Fr.app N52 Nq53
      refine own_g (own_fr m p0 q0 p2 p3 yb y2 b36 289 0 1 of ln (.val (.int 1)) .unset []) (fun _ q => XS.iload X53.here hx rfl (hb hby at_277) rfl (XS.icmpNo X53.here hx rfl (hb hby at_279) rfl (teq (rfl : ln = ln)).2 (XS.iconst X53.here hx rfl (hb hby at_282) (XS.goto X53.here hx rfl (pc0 := 283) (pc' := 287) rfl (hb hby at_283) (by decide) (by decide) (XS.istore X53.here hx rfl (hb hby at_287) rfl (l' := #[.val (.int p0), .val (.long q0), .second, .val (.int p2), .val (.int p3), .val (.int 0), .val (.int 1), .val (.ref yb), .val (.ref y2), .val (.int of), .val (.int ln), .val (.ref b36), .val (.int (p3 &&& (3 : Int32))), .val (.int 1), .unset]) rfl q))))) ?_
      by_cases hl : ln = (0 : Int32)
      · subst hl
        refine own_g (own_fr m p0 q0 p2 p3 yb y2 b36 293 0 1 of 0 (.val (.int 1)) .unset [(.int 0), (.ref b36)]) (fun _ q => XS.aload X53.here hx rfl (hb hby at_289) rfl rfl (XS.iload X53.here hx rfl (hb hby at_291) rfl q)) ?_
        have a54_yb := (AyJ.keep Kq46 (ninS ne_yb_tx (ninS ne_yb_u8 (ninS ne_yb_ofs (ninS ne_yb_les (ninS ne_yb_un nin0))))))
        have o55_ := (OJ.keep Kq46 (allS g_tx (allS g_u8 (allS g_ofs (allS g_les (allS g_un all0))))))
        have hk57_ := (Nat.le_trans (Nat.zero_le _) Kq46.1)
        refine own_callVW X53 hx hZ (y := own_y6) (z := own_y6) hown (own_h hw 60 rfl) (own_h hw 61 rfl) (own_nf (own_h hw 63 rfl)) (own_h hw 63 rfl) (own_h hw 62 rfl) (own_h hw 64 rfl) (own_h hw 6 rfl) (by decide) E_rq46 hS hk57_ hEL C47.1 (own_text0_0 l Z a0 hw [] b36 tx u8 ofs les un kt ku ko kl kn .null .null (0 : Int32) (0 : Int32) (0 : Int32) yb k1 b0 b1 b2 b3 of zCS fm cs T46.heap n0 (Nat.le_trans Z0 k48_.1) S_CS nCS S_SF hfm S_UT S_IN E_cs o55_ rfl rfl RA ⟨E_rq46, F_textsq46, F_utf8q46, F_utf8Offsetsq46, F_utf8Lengthsq46, F_unavailableq46, A_txq46, A_u8q46, A_ofsq46, A_lesq46, A_unq46⟩ a54_yb (own_hf hln).1 (own_hf hln).2) (by decide) (by decide) eh53 (g := (own_fr m p0 q0 p2 p3 yb y2 b36 293 0 1 of 0 (.val (.int 1)) .unset [(.int 0), (.ref b36)])) rfl (by rw [hml]; rfl) (argsL := [(.int 0)]) (rest := []) (lenOf own_pd__28I_29Ljava_2flang_2fString_3b rfl) rfl (W := 0) (Nat.le_of_eq rfl) (hb hby at_293) rfl (by decide) (by decide) ?_
        rintro rv56 T56 L56 X56 hS hZ hown CH56 ⟨tt, tb, kx, rfl, Nq56, Kq56, Et56, Vt56, Ct56, At56, RW56⟩
        have N56 := Fr.app N53 Nq56
        show own_Fin p e below _ T56 (own_fr m p0 q0 p2 p3 yb y2 b36 296 0 1 of 0 (.val (.int 1)) .unset [(.ref tt)])
        have C58 := C47.trans CH56
        obtain ⟨E_rq56, F_textsq56, F_utf8q56, F_utf8Offsetsq56, F_utf8Lengthsq56, F_unavailableq56, A_txq56, A_u8q56, A_ofsq56, A_lesq56, A_unq56⟩ := RW56
        refine own_g (own_fr m p0 q0 p2 p3 yb y2 b36 310 0 1 of 0 (.val (.int 1)) (.val (.ref tt)) [(.ref tt)]) (fun _ q => XS.astore X56.here hx rfl (hb hby at_296) rfl rfl (l' := #[.val (.int p0), .val (.long q0), .second, .val (.int p2), .val (.int p3), .val (.int 0), .val (.int 1), .val (.ref yb), .val (.ref y2), .val (.int of), .val (.int 0), .val (.ref b36), .val (.int (p3 &&& (3 : Int32))), .val (.int 1), .val (.ref tt)]) rfl (XS.iload X56.here hx rfl (hb hby at_298) rfl (XS.ifNo X56.here hx rfl (hb hby at_300) rfl ((if0 _ _).trans (feq (by decide : ¬ ((1 : Int32) = (0 : Int32)))).1) (XS.aload X56.here hx rfl (hb hby at_303) rfl rfl (XS.ifnullNo X56.here hx rfl (hb hby at_305) rfl (XS.aload X56.here hx rfl (hb hby at_308) rfl rfl q)))))) ?_
        have k59_ := (k48_.trans Kq56 (allS (Or.inr sz_tx) all0))
        have o60_ := (o55_.keep Kq56 (allS g_tx all0))
        refine own_callV X56 hx hZ (y := own_y19) (z := own_y19) hown (own_h hw 98 rfl) (own_h hw 99 rfl) (own_nf (own_h hw 101 rfl)) (own_h hw 101 rfl) (own_h hw 100 rfl) (own_h hw 102 rfl) (own_h hw 66 rfl) (by decide) Et56 (own_lenG l Z a0 hw [] tt tb kx of (0 : Int32) b0 b1 b2 b3 zCS fm cs T56.heap n0 (Nat.le_trans Z0 k59_.1) S_CS nCS S_SF hfm S_UT S_IN E_cs o60_ Et56 Vt56 Ct56 At56 hln) (by decide) (by decide) rfl (g := (own_fr m p0 q0 p2 p3 yb y2 b36 310 0 1 of 0 (.val (.int 1)) (.val (.ref tt)) [(.ref tt)])) rfl (by rw [hml]; rfl) (argsL := []) (rest := []) (lenOf own_pd__28_29I rfl) rfl (W := 0) (Nat.le_of_eq rfl) (hb hby at_310) rfl (by decide) (by decide) ?_
        rintro rv61 T61 L61 X61 ⟨rfl, Nq61, eh61⟩
        have N61 := Fr.app N56 Nq61
        refine own_g (own_fr m p0 q0 p2 p3 yb y2 b36 332 0 1 of 0 (.val (.int 1)) (.val (.ref tt)) [(.ref tt)]) (fun _ q => XS.iload X61.here hx rfl (hb hby at_313) rfl (XS.icmpNo X61.here hx rfl (hb hby at_315) rfl (teq (by decide : (0 : Int32) = (0 : Int32))).2 (XS.iconst X61.here hx rfl (hb hby at_318) (XS.goto X61.here hx rfl (pc0 := 319) (pc' := 323) rfl (hb hby at_319) (by decide) (by decide) (XS.istore X61.here hx rfl (hb hby at_323) rfl (l' := #[.val (.int p0), .val (.long q0), .second, .val (.int p2), .val (.int p3), .val (.int 0), .val (.int 1), .val (.ref yb), .val (.ref y2), .val (.int of), .val (.int 0), .val (.ref b36), .val (.int (p3 &&& (3 : Int32))), .val (.int 1), .val (.ref tt)]) rfl (XS.iload X61.here hx rfl (hb hby at_325) rfl (XS.ifNo X61.here hx rfl (hb hby at_327) rfl ((if0 _ _).trans (feq (by decide : ¬ ((1 : Int32) = (0 : Int32)))).1) (XS.aload X61.here hx rfl (hb hby at_330) rfl rfl q)))))))) ?_
        refine own_g (own_fr m p0 q0 p2 p3 yb y2 b36 339 0 1 of 0 (.val (.int 1)) (.val (.ref tt)) [(.int of), (.ref yb), (.int 0), (.int 0), (.ref tt)]) (fun _ q => XS.iconst X61.here hx rfl (hb hby at_332) (XS.iload X61.here hx rfl (hb hby at_333) rfl (XS.aload X61.here hx rfl (hb hby at_335) rfl rfl (XS.iload X61.here hx rfl (hb hby at_337) rfl q)))) ?_
        have a62_yb := (a54_yb.keep Kq56 (ninS ne_yb_tx nin0))
        refine own_callS X61 hx hZ (y := own_y10) hown (own_h hw 109 rfl) (own_h hw 110 rfl) (own_h hw 111 rfl) (own_h hw 112 rfl) (by decide) (own_ckG_0 l Z a0 hw [] tt (0 : Int32) yb of tb kx k1 b0 b1 b2 b3 zCS fm cs T56.heap n0 (Nat.le_trans Z0 k59_.1) S_CS nCS S_SF hfm S_UT S_IN E_cs o60_ Et56 Vt56 Ct56 At56 hln a62_yb hb0 hb1 hb2 hb3) (by decide) (by decide) eh61 (g := (own_fr m p0 q0 p2 p3 yb y2 b36 339 0 1 of 0 (.val (.int 1)) (.val (.ref tt)) [(.int of), (.ref yb), (.int 0), (.int 0), (.ref tt)])) rfl (by rw [hml]; rfl) (argsL := [(.ref tt), (.int 0), (.int 0), (.ref yb), (.int of)]) (rest := []) (lenOf own_pd__28Ljava_2flang_2fString_3bII_5bBI_29Z rfl) rfl (W := 0) (Nat.le_of_eq rfl) (hb hby at_339) rfl (by decide) (by decide) ?_
        rintro rv63 T63 L63 X63 ⟨rfl, Nq63, eh63⟩
        have N63 := Fr.app N61 Nq63
        refine own_g (own_fr m p0 q0 p2 p3 yb y2 b36 354 0 1 of 0 (.val (.int 1)) (.val (.ref tt)) [(.int of), (.ref yb), (.int 0), (.int 1), (.ref tt)]) (fun _ q => XS.ifNo X63.here hx rfl (hb hby at_342) rfl ((if0 _ _).trans (feq (by decide : ¬ ((1 : Int32) = (0 : Int32)))).1) (XS.aload X63.here hx rfl (hb hby at_345) rfl rfl (XS.iconst X63.here hx rfl (hb hby at_347) (XS.iload X63.here hx rfl (hb hby at_348) rfl (XS.aload X63.here hx rfl (hb hby at_350) rfl rfl (XS.iload X63.here hx rfl (hb hby at_352) rfl q)))))) ?_
        refine own_callS X63 hx hZ (y := own_y10) hown (own_h hw 109 rfl) (own_h hw 110 rfl) (own_h hw 111 rfl) (own_h hw 112 rfl) (by decide) (own_ckG_1 l Z a0 hw [] tt (0 : Int32) yb of tb kx k1 b0 b1 b2 b3 zCS fm cs T56.heap n0 (Nat.le_trans Z0 k59_.1) S_CS nCS S_SF hfm S_UT S_IN E_cs o60_ Et56 Vt56 Ct56 At56 hln a62_yb hb0 hb1 hb2 hb3) (by decide) (by decide) eh63 (g := (own_fr m p0 q0 p2 p3 yb y2 b36 354 0 1 of 0 (.val (.int 1)) (.val (.ref tt)) [(.int of), (.ref yb), (.int 0), (.int 1), (.ref tt)])) rfl (by rw [hml]; rfl) (argsL := [(.ref tt), (.int 1), (.int 0), (.ref yb), (.int of)]) (rest := []) (lenOf own_pd__28Ljava_2flang_2fString_3bII_5bBI_29Z rfl) rfl (W := 0) (Nat.le_of_eq rfl) (hb hby at_354) rfl (by decide) (by decide) ?_
        rintro rv64 T64 L64 X64 ⟨rfl, Nq64, eh64⟩
        have N64 := Fr.app N63 Nq64
        refine own_g (own_fr m p0 q0 p2 p3 yb y2 b36 369 0 1 of 0 (.val (.int 1)) (.val (.ref tt)) [(.int of), (.ref yb), (.int 0), (.int 2), (.ref tt)]) (fun _ q => XS.ifNo X64.here hx rfl (hb hby at_357) rfl ((if0 _ _).trans (feq (by decide : ¬ ((1 : Int32) = (0 : Int32)))).1) (XS.aload X64.here hx rfl (hb hby at_360) rfl rfl (XS.iconst X64.here hx rfl (hb hby at_362) (XS.iload X64.here hx rfl (hb hby at_363) rfl (XS.aload X64.here hx rfl (hb hby at_365) rfl rfl (XS.iload X64.here hx rfl (hb hby at_367) rfl q)))))) ?_
        refine own_callS X64 hx hZ (y := own_y10) hown (own_h hw 109 rfl) (own_h hw 110 rfl) (own_h hw 111 rfl) (own_h hw 112 rfl) (by decide) (own_ckG_2 l Z a0 hw [] tt (0 : Int32) yb of tb kx k1 b0 b1 b2 b3 zCS fm cs T56.heap n0 (Nat.le_trans Z0 k59_.1) S_CS nCS S_SF hfm S_UT S_IN E_cs o60_ Et56 Vt56 Ct56 At56 hln a62_yb hb0 hb1 hb2 hb3) (by decide) (by decide) eh64 (g := (own_fr m p0 q0 p2 p3 yb y2 b36 369 0 1 of 0 (.val (.int 1)) (.val (.ref tt)) [(.int of), (.ref yb), (.int 0), (.int 2), (.ref tt)])) rfl (by rw [hml]; rfl) (argsL := [(.ref tt), (.int 2), (.int 0), (.ref yb), (.int of)]) (rest := []) (lenOf own_pd__28Ljava_2flang_2fString_3bII_5bBI_29Z rfl) rfl (W := 0) (Nat.le_of_eq rfl) (hb hby at_369) rfl (by decide) (by decide) ?_
        rintro rv65 T65 L65 X65 ⟨rfl, Nq65, eh65⟩
        have N65 := Fr.app N64 Nq65
        refine own_g (own_fr m p0 q0 p2 p3 yb y2 b36 384 0 1 of 0 (.val (.int 1)) (.val (.ref tt)) [(.int of), (.ref yb), (.int 0), (.int 3), (.ref tt)]) (fun _ q => XS.ifNo X65.here hx rfl (hb hby at_372) rfl ((if0 _ _).trans (feq (by decide : ¬ ((1 : Int32) = (0 : Int32)))).1) (XS.aload X65.here hx rfl (hb hby at_375) rfl rfl (XS.iconst X65.here hx rfl (hb hby at_377) (XS.iload X65.here hx rfl (hb hby at_378) rfl (XS.aload X65.here hx rfl (hb hby at_380) rfl rfl (XS.iload X65.here hx rfl (hb hby at_382) rfl q)))))) ?_
        refine own_callS X65 hx hZ (y := own_y10) hown (own_h hw 109 rfl) (own_h hw 110 rfl) (own_h hw 111 rfl) (own_h hw 112 rfl) (by decide) (own_ckG_3 l Z a0 hw [] tt (0 : Int32) yb of tb kx k1 b0 b1 b2 b3 zCS fm cs T56.heap n0 (Nat.le_trans Z0 k59_.1) S_CS nCS S_SF hfm S_UT S_IN E_cs o60_ Et56 Vt56 Ct56 At56 hln a62_yb hb0 hb1 hb2 hb3) (by decide) (by decide) eh65 (g := (own_fr m p0 q0 p2 p3 yb y2 b36 384 0 1 of 0 (.val (.int 1)) (.val (.ref tt)) [(.int of), (.ref yb), (.int 0), (.int 3), (.ref tt)])) rfl (by rw [hml]; rfl) (argsL := [(.ref tt), (.int 3), (.int 0), (.ref yb), (.int of)]) (rest := []) (lenOf own_pd__28Ljava_2flang_2fString_3bII_5bBI_29Z rfl) rfl (W := 0) (Nat.le_of_eq rfl) (hb hby at_384) rfl (by decide) (by decide) ?_
        rintro rv66 T66 L66 X66 ⟨rfl, Nq66, eh66⟩
        have N66 := Fr.app N65 Nq66
        refine own_g (own_fr m p0 q0 p2 p3 yb y2 b36 406 0 1 of 0 (.val (.int 1)) (.val (.ref tt)) [(.int 1), (.ref b36)]) (fun _ q => XS.ifNo X66.here hx rfl (hb hby at_387) rfl ((if0 _ _).trans (feq (by decide : ¬ ((1 : Int32) = (0 : Int32)))).1) (XS.iconst X66.here hx rfl (hb hby at_390) (XS.goto X66.here hx rfl (pc0 := 391) (pc' := 395) rfl (hb hby at_391) (by decide) (by decide) (XS.istore X66.here hx rfl (hb hby at_395) rfl (l' := #[.val (.int p0), .val (.long q0), .second, .val (.int p2), .val (.int p3), .val (.int 0), .val (.int 1), .val (.ref yb), .val (.ref y2), .val (.int of), .val (.int 0), .val (.ref b36), .val (.int (p3 &&& (3 : Int32))), .val (.int 1), .val (.ref tt)]) rfl (XS.iload X66.here hx rfl (hb hby at_397) rfl (XS.ifNo X66.here hx rfl (hb hby at_399) rfl ((if0 _ _).trans (feq (by decide : ¬ ((1 : Int32) = (0 : Int32)))).1) (XS.aload X66.here hx rfl (hb hby at_402) rfl rfl (XS.iload X66.here hx rfl (hb hby at_404) rfl q)))))))) ?_
        refine own_callV X66 hx hZ (y := own_y1) (z := own_y1) hown (own_h hw 35 rfl) (own_h hw 36 rfl) (own_nf (own_h hw 38 rfl)) (own_h hw 38 rfl) (own_h hw 37 rfl) (own_h hw 39 rfl) (own_h hw 6 rfl) (by decide) E_rq56 (own_isNull1 l Z a0 hw [] b36 tx u8 ofs les un kt ku ko kl kn (.ref tt) .null (.ref yb) .null of (0 : Int32) (0 : Int32) (0 : Int32) (0 : Int32) (0 : Int32) T56.heap n0 (Nat.le_trans Z0 k59_.1) rfl rfl rfl rfl RA ⟨E_rq56, F_textsq56, F_utf8q56, F_utf8Offsetsq56, F_utf8Lengthsq56, F_unavailableq56, A_txq56, A_u8q56, A_ofsq56, A_lesq56, A_unq56⟩) (by decide) (by decide) eh66 (g := (own_fr m p0 q0 p2 p3 yb y2 b36 406 0 1 of 0 (.val (.int 1)) (.val (.ref tt)) [(.int 1), (.ref b36)])) rfl (by rw [hml]; rfl) (argsL := [(.int 1)]) (rest := []) (lenOf own_pd__28I_29Z rfl) rfl (W := 0) (Nat.le_of_eq rfl) (hb hby at_406) rfl (by decide) (by decide) ?_
        rintro rv67 T67 L67 X67 ⟨hv67, Nq67, eh67⟩
        have N67 := Fr.app N66 Nq67
        simp [own_isn, own_b] at hv67
        subst hv67
        refine own_g (own_fr m p0 q0 p2 p3 yb y2 b36 421 0 1 of 0 (.val (.int 1)) (.val (.ref tt)) [(.int 1)]) (fun _ q => XS.ifNo X67.here hx rfl (hb hby at_409) rfl ((if0 _ _).trans (feq (by decide : ¬ ((1 : Int32) = (0 : Int32)))).1) (XS.iconst X67.here hx rfl (hb hby at_412) (XS.goto X67.here hx rfl (pc0 := 413) (pc' := 417) rfl (hb hby at_413) (by decide) (by decide) (XS.istore X67.here hx rfl (hb hby at_417) rfl (l' := #[.val (.int p0), .val (.long q0), .second, .val (.int p2), .val (.int p3), .val (.int 0), .val (.int 1), .val (.ref yb), .val (.ref y2), .val (.int of), .val (.int 0), .val (.ref b36), .val (.int (p3 &&& (3 : Int32))), .val (.int 1), .val (.ref tt)]) rfl (XS.iload X67.here hx rfl (hb hby at_419) rfl q))))) ?_
        exact own_endW X67 hS (by rw [eh67]; exact (Nat.le_refl _)) hZ hEL (by rw [hh]; rw [eh67]; exact C58) (v := some (.int (nar .boolean (1 : Int32)))) (fun h => by rw [Bd.returns] at h; cases h) hlk (fun hr => retN X67 hx (t := .boolean) Bd.returns (by simp) (hb hby at_421) hr) (by rw [eh67]; exact ⟨rfl, N67⟩) (by decide) (by decide)
      · skip
        refine own_g (own_fr m p0 q0 p2 p3 yb y2 b36 293 0 1 of ln (.val (.int 1)) .unset [(.int 0), (.ref b36)]) (fun _ q => XS.aload X53.here hx rfl (hb hby at_289) rfl rfl (XS.iload X53.here hx rfl (hb hby at_291) rfl q)) ?_
        have a68_yb := (AyJ.keep Kq46 (ninS ne_yb_tx (ninS ne_yb_u8 (ninS ne_yb_ofs (ninS ne_yb_les (ninS ne_yb_un nin0))))))
        have e69_yb := (EyJ.keep Kq46)
        have x70_yb := (Unt.keep Kq46 (ninS ne_yb_tx (ninS ne_yb_u8 (ninS ne_yb_ofs (ninS ne_yb_les (ninS ne_yb_un nin0))))) UyJ)
        have o71_ := (OJ.keep Kq46 (allS g_tx (allS g_u8 (allS g_ofs (allS g_les (allS g_un all0))))))
        refine own_callV X53 hx hZ (y := own_y6) (z := own_y6) hown (own_h hw 60 rfl) (own_h hw 61 rfl) (own_nf (own_h hw 63 rfl)) (own_h hw 63 rfl) (own_h hw 62 rfl) (own_h hw 64 rfl) (own_h hw 6 rfl) (by decide) E_rq46 (own_textG_0 l Z a0 hw [] b36 tx u8 ofs les un kt ku ko kl kn .null .null (0 : Int32) (0 : Int32) (0 : Int32) yb k1 b0 b1 b2 b3 of ln zCS fm cs T46.heap n0 (Nat.le_trans Z0 k48_.1) S_CS nCS S_SF hfm S_UT S_IN E_cs o71_ rfl rfl RA ⟨E_rq46, F_textsq46, F_utf8q46, F_utf8Offsetsq46, F_utf8Lengthsq46, F_unavailableq46, A_txq46, A_u8q46, A_ofsq46, A_lesq46, A_unq46⟩ a68_yb e69_yb x70_yb (own_hp hb0 hb1 hb2 hb3) hln hl) (by decide) (by decide) eh53 (g := (own_fr m p0 q0 p2 p3 yb y2 b36 293 0 1 of ln (.val (.int 1)) .unset [(.int 0), (.ref b36)])) rfl (by rw [hml]; rfl) (argsL := [(.int 0)]) (rest := []) (lenOf own_pd__28I_29Ljava_2flang_2fString_3b rfl) rfl (W := 0) (Nat.le_of_eq rfl) (hb hby at_293) rfl (by decide) (by decide) ?_
        rintro rv72 T72 L72 X72 ⟨tt, tb, kx, rfl, Nq72, Kq72, Et72, Vt72, Ct72, At72, RW72⟩
        have N72 := Fr.app N53 Nq72
        show own_Fin p e below _ T72 (own_fr m p0 q0 p2 p3 yb y2 b36 296 0 1 of ln (.val (.int 1)) .unset [(.ref tt)])
        have C73 := C47.trans (CHr.keep Kq72 (sfS (Safe.arv hZ.alike A_txq46 (by decide)) sf0) C47.1)
        obtain ⟨E_rq72, F_textsq72, F_utf8q72, F_utf8Offsetsq72, F_utf8Lengthsq72, F_unavailableq72, A_txq72, A_u8q72, A_ofsq72, A_lesq72, A_unq72⟩ := RW72
        refine own_g (own_fr m p0 q0 p2 p3 yb y2 b36 310 0 1 of ln (.val (.int 1)) (.val (.ref tt)) [(.ref tt)]) (fun _ q => XS.astore X72.here hx rfl (hb hby at_296) rfl rfl (l' := #[.val (.int p0), .val (.long q0), .second, .val (.int p2), .val (.int p3), .val (.int 0), .val (.int 1), .val (.ref yb), .val (.ref y2), .val (.int of), .val (.int ln), .val (.ref b36), .val (.int (p3 &&& (3 : Int32))), .val (.int 1), .val (.ref tt)]) rfl (XS.iload X72.here hx rfl (hb hby at_298) rfl (XS.ifNo X72.here hx rfl (hb hby at_300) rfl ((if0 _ _).trans (feq (by decide : ¬ ((1 : Int32) = (0 : Int32)))).1) (XS.aload X72.here hx rfl (hb hby at_303) rfl rfl (XS.ifnullNo X72.here hx rfl (hb hby at_305) rfl (XS.aload X72.here hx rfl (hb hby at_308) rfl rfl q)))))) ?_
        have k74_ := (k48_.trans Kq72 (allS (Or.inr sz_tx) all0))
        have o75_ := (o71_.keep Kq72 (allS g_tx all0))
        refine own_callV X72 hx hZ (y := own_y19) (z := own_y19) hown (own_h hw 98 rfl) (own_h hw 99 rfl) (own_nf (own_h hw 101 rfl)) (own_h hw 101 rfl) (own_h hw 100 rfl) (own_h hw 102 rfl) (own_h hw 66 rfl) (by decide) Et72 (own_lenG l Z a0 hw [] tt tb kx of ln b0 b1 b2 b3 zCS fm cs T72.heap n0 (Nat.le_trans Z0 k74_.1) S_CS nCS S_SF hfm S_UT S_IN E_cs o75_ Et72 Vt72 Ct72 At72 hln) (by decide) (by decide) rfl (g := (own_fr m p0 q0 p2 p3 yb y2 b36 310 0 1 of ln (.val (.int 1)) (.val (.ref tt)) [(.ref tt)])) rfl (by rw [hml]; rfl) (argsL := []) (rest := []) (lenOf own_pd__28_29I rfl) rfl (W := 0) (Nat.le_of_eq rfl) (hb hby at_310) rfl (by decide) (by decide) ?_
        rintro rv76 T76 L76 X76 ⟨rfl, Nq76, eh76⟩
        have N76 := Fr.app N72 Nq76
        refine own_g (own_fr m p0 q0 p2 p3 yb y2 b36 332 0 1 of ln (.val (.int 1)) (.val (.ref tt)) [(.ref tt)]) (fun _ q => XS.iload X76.here hx rfl (hb hby at_313) rfl (XS.icmpNo X76.here hx rfl (hb hby at_315) rfl (teq (rfl : ln = ln)).2 (XS.iconst X76.here hx rfl (hb hby at_318) (XS.goto X76.here hx rfl (pc0 := 319) (pc' := 323) rfl (hb hby at_319) (by decide) (by decide) (XS.istore X76.here hx rfl (hb hby at_323) rfl (l' := #[.val (.int p0), .val (.long q0), .second, .val (.int p2), .val (.int p3), .val (.int 0), .val (.int 1), .val (.ref yb), .val (.ref y2), .val (.int of), .val (.int ln), .val (.ref b36), .val (.int (p3 &&& (3 : Int32))), .val (.int 1), .val (.ref tt)]) rfl (XS.iload X76.here hx rfl (hb hby at_325) rfl (XS.ifNo X76.here hx rfl (hb hby at_327) rfl ((if0 _ _).trans (feq (by decide : ¬ ((1 : Int32) = (0 : Int32)))).1) (XS.aload X76.here hx rfl (hb hby at_330) rfl rfl q)))))))) ?_
        refine own_g (own_fr m p0 q0 p2 p3 yb y2 b36 339 0 1 of ln (.val (.int 1)) (.val (.ref tt)) [(.int of), (.ref yb), (.int ln), (.int 0), (.ref tt)]) (fun _ q => XS.iconst X76.here hx rfl (hb hby at_332) (XS.iload X76.here hx rfl (hb hby at_333) rfl (XS.aload X76.here hx rfl (hb hby at_335) rfl rfl (XS.iload X76.here hx rfl (hb hby at_337) rfl q)))) ?_
        have a77_yb := (a68_yb.keep Kq72 (ninS ne_yb_tx nin0))
        refine own_callS X76 hx hZ (y := own_y10) hown (own_h hw 109 rfl) (own_h hw 110 rfl) (own_h hw 111 rfl) (own_h hw 112 rfl) (by decide) (own_ckG_0 l Z a0 hw [] tt ln yb of tb kx k1 b0 b1 b2 b3 zCS fm cs T72.heap n0 (Nat.le_trans Z0 k74_.1) S_CS nCS S_SF hfm S_UT S_IN E_cs o75_ Et72 Vt72 Ct72 At72 hln a77_yb hb0 hb1 hb2 hb3) (by decide) (by decide) eh76 (g := (own_fr m p0 q0 p2 p3 yb y2 b36 339 0 1 of ln (.val (.int 1)) (.val (.ref tt)) [(.int of), (.ref yb), (.int ln), (.int 0), (.ref tt)])) rfl (by rw [hml]; rfl) (argsL := [(.ref tt), (.int 0), (.int ln), (.ref yb), (.int of)]) (rest := []) (lenOf own_pd__28Ljava_2flang_2fString_3bII_5bBI_29Z rfl) rfl (W := 0) (Nat.le_of_eq rfl) (hb hby at_339) rfl (by decide) (by decide) ?_
        rintro rv78 T78 L78 X78 ⟨rfl, Nq78, eh78⟩
        have N78 := Fr.app N76 Nq78
        refine own_g (own_fr m p0 q0 p2 p3 yb y2 b36 354 0 1 of ln (.val (.int 1)) (.val (.ref tt)) [(.int of), (.ref yb), (.int ln), (.int 1), (.ref tt)]) (fun _ q => XS.ifNo X78.here hx rfl (hb hby at_342) rfl ((if0 _ _).trans (feq (by decide : ¬ ((1 : Int32) = (0 : Int32)))).1) (XS.aload X78.here hx rfl (hb hby at_345) rfl rfl (XS.iconst X78.here hx rfl (hb hby at_347) (XS.iload X78.here hx rfl (hb hby at_348) rfl (XS.aload X78.here hx rfl (hb hby at_350) rfl rfl (XS.iload X78.here hx rfl (hb hby at_352) rfl q)))))) ?_
        refine own_callS X78 hx hZ (y := own_y10) hown (own_h hw 109 rfl) (own_h hw 110 rfl) (own_h hw 111 rfl) (own_h hw 112 rfl) (by decide) (own_ckG_1 l Z a0 hw [] tt ln yb of tb kx k1 b0 b1 b2 b3 zCS fm cs T72.heap n0 (Nat.le_trans Z0 k74_.1) S_CS nCS S_SF hfm S_UT S_IN E_cs o75_ Et72 Vt72 Ct72 At72 hln a77_yb hb0 hb1 hb2 hb3) (by decide) (by decide) eh78 (g := (own_fr m p0 q0 p2 p3 yb y2 b36 354 0 1 of ln (.val (.int 1)) (.val (.ref tt)) [(.int of), (.ref yb), (.int ln), (.int 1), (.ref tt)])) rfl (by rw [hml]; rfl) (argsL := [(.ref tt), (.int 1), (.int ln), (.ref yb), (.int of)]) (rest := []) (lenOf own_pd__28Ljava_2flang_2fString_3bII_5bBI_29Z rfl) rfl (W := 0) (Nat.le_of_eq rfl) (hb hby at_354) rfl (by decide) (by decide) ?_
        rintro rv79 T79 L79 X79 ⟨rfl, Nq79, eh79⟩
        have N79 := Fr.app N78 Nq79
        refine own_g (own_fr m p0 q0 p2 p3 yb y2 b36 369 0 1 of ln (.val (.int 1)) (.val (.ref tt)) [(.int of), (.ref yb), (.int ln), (.int 2), (.ref tt)]) (fun _ q => XS.ifNo X79.here hx rfl (hb hby at_357) rfl ((if0 _ _).trans (feq (by decide : ¬ ((1 : Int32) = (0 : Int32)))).1) (XS.aload X79.here hx rfl (hb hby at_360) rfl rfl (XS.iconst X79.here hx rfl (hb hby at_362) (XS.iload X79.here hx rfl (hb hby at_363) rfl (XS.aload X79.here hx rfl (hb hby at_365) rfl rfl (XS.iload X79.here hx rfl (hb hby at_367) rfl q)))))) ?_
        refine own_callS X79 hx hZ (y := own_y10) hown (own_h hw 109 rfl) (own_h hw 110 rfl) (own_h hw 111 rfl) (own_h hw 112 rfl) (by decide) (own_ckG_2 l Z a0 hw [] tt ln yb of tb kx k1 b0 b1 b2 b3 zCS fm cs T72.heap n0 (Nat.le_trans Z0 k74_.1) S_CS nCS S_SF hfm S_UT S_IN E_cs o75_ Et72 Vt72 Ct72 At72 hln a77_yb hb0 hb1 hb2 hb3) (by decide) (by decide) eh79 (g := (own_fr m p0 q0 p2 p3 yb y2 b36 369 0 1 of ln (.val (.int 1)) (.val (.ref tt)) [(.int of), (.ref yb), (.int ln), (.int 2), (.ref tt)])) rfl (by rw [hml]; rfl) (argsL := [(.ref tt), (.int 2), (.int ln), (.ref yb), (.int of)]) (rest := []) (lenOf own_pd__28Ljava_2flang_2fString_3bII_5bBI_29Z rfl) rfl (W := 0) (Nat.le_of_eq rfl) (hb hby at_369) rfl (by decide) (by decide) ?_
        rintro rv80 T80 L80 X80 ⟨rfl, Nq80, eh80⟩
        have N80 := Fr.app N79 Nq80
        refine own_g (own_fr m p0 q0 p2 p3 yb y2 b36 384 0 1 of ln (.val (.int 1)) (.val (.ref tt)) [(.int of), (.ref yb), (.int ln), (.int 3), (.ref tt)]) (fun _ q => XS.ifNo X80.here hx rfl (hb hby at_372) rfl ((if0 _ _).trans (feq (by decide : ¬ ((1 : Int32) = (0 : Int32)))).1) (XS.aload X80.here hx rfl (hb hby at_375) rfl rfl (XS.iconst X80.here hx rfl (hb hby at_377) (XS.iload X80.here hx rfl (hb hby at_378) rfl (XS.aload X80.here hx rfl (hb hby at_380) rfl rfl (XS.iload X80.here hx rfl (hb hby at_382) rfl q)))))) ?_
        refine own_callS X80 hx hZ (y := own_y10) hown (own_h hw 109 rfl) (own_h hw 110 rfl) (own_h hw 111 rfl) (own_h hw 112 rfl) (by decide) (own_ckG_3 l Z a0 hw [] tt ln yb of tb kx k1 b0 b1 b2 b3 zCS fm cs T72.heap n0 (Nat.le_trans Z0 k74_.1) S_CS nCS S_SF hfm S_UT S_IN E_cs o75_ Et72 Vt72 Ct72 At72 hln a77_yb hb0 hb1 hb2 hb3) (by decide) (by decide) eh80 (g := (own_fr m p0 q0 p2 p3 yb y2 b36 384 0 1 of ln (.val (.int 1)) (.val (.ref tt)) [(.int of), (.ref yb), (.int ln), (.int 3), (.ref tt)])) rfl (by rw [hml]; rfl) (argsL := [(.ref tt), (.int 3), (.int ln), (.ref yb), (.int of)]) (rest := []) (lenOf own_pd__28Ljava_2flang_2fString_3bII_5bBI_29Z rfl) rfl (W := 0) (Nat.le_of_eq rfl) (hb hby at_384) rfl (by decide) (by decide) ?_
        rintro rv81 T81 L81 X81 ⟨rfl, Nq81, eh81⟩
        have N81 := Fr.app N80 Nq81
        refine own_g (own_fr m p0 q0 p2 p3 yb y2 b36 406 0 1 of ln (.val (.int 1)) (.val (.ref tt)) [(.int 1), (.ref b36)]) (fun _ q => XS.ifNo X81.here hx rfl (hb hby at_387) rfl ((if0 _ _).trans (feq (by decide : ¬ ((1 : Int32) = (0 : Int32)))).1) (XS.iconst X81.here hx rfl (hb hby at_390) (XS.goto X81.here hx rfl (pc0 := 391) (pc' := 395) rfl (hb hby at_391) (by decide) (by decide) (XS.istore X81.here hx rfl (hb hby at_395) rfl (l' := #[.val (.int p0), .val (.long q0), .second, .val (.int p2), .val (.int p3), .val (.int 0), .val (.int 1), .val (.ref yb), .val (.ref y2), .val (.int of), .val (.int ln), .val (.ref b36), .val (.int (p3 &&& (3 : Int32))), .val (.int 1), .val (.ref tt)]) rfl (XS.iload X81.here hx rfl (hb hby at_397) rfl (XS.ifNo X81.here hx rfl (hb hby at_399) rfl ((if0 _ _).trans (feq (by decide : ¬ ((1 : Int32) = (0 : Int32)))).1) (XS.aload X81.here hx rfl (hb hby at_402) rfl rfl (XS.iload X81.here hx rfl (hb hby at_404) rfl q)))))))) ?_
        refine own_callV X81 hx hZ (y := own_y1) (z := own_y1) hown (own_h hw 35 rfl) (own_h hw 36 rfl) (own_nf (own_h hw 38 rfl)) (own_h hw 38 rfl) (own_h hw 37 rfl) (own_h hw 39 rfl) (own_h hw 6 rfl) (by decide) E_rq72 (own_isNull1 l Z a0 hw [] b36 tx u8 ofs les un kt ku ko kl kn (.ref tt) .null (.ref yb) .null of (0 : Int32) ln (0 : Int32) (0 : Int32) (0 : Int32) T72.heap n0 (Nat.le_trans Z0 k74_.1) rfl rfl rfl rfl RA ⟨E_rq72, F_textsq72, F_utf8q72, F_utf8Offsetsq72, F_utf8Lengthsq72, F_unavailableq72, A_txq72, A_u8q72, A_ofsq72, A_lesq72, A_unq72⟩) (by decide) (by decide) eh81 (g := (own_fr m p0 q0 p2 p3 yb y2 b36 406 0 1 of ln (.val (.int 1)) (.val (.ref tt)) [(.int 1), (.ref b36)])) rfl (by rw [hml]; rfl) (argsL := [(.int 1)]) (rest := []) (lenOf own_pd__28I_29Z rfl) rfl (W := 0) (Nat.le_of_eq rfl) (hb hby at_406) rfl (by decide) (by decide) ?_
        rintro rv82 T82 L82 X82 ⟨hv82, Nq82, eh82⟩
        have N82 := Fr.app N81 Nq82
        simp [own_isn, own_b] at hv82
        subst hv82
        refine own_g (own_fr m p0 q0 p2 p3 yb y2 b36 421 0 1 of ln (.val (.int 1)) (.val (.ref tt)) [(.int 1)]) (fun _ q => XS.ifNo X82.here hx rfl (hb hby at_409) rfl ((if0 _ _).trans (feq (by decide : ¬ ((1 : Int32) = (0 : Int32)))).1) (XS.iconst X82.here hx rfl (hb hby at_412) (XS.goto X82.here hx rfl (pc0 := 413) (pc' := 417) rfl (hb hby at_413) (by decide) (by decide) (XS.istore X82.here hx rfl (hb hby at_417) rfl (l' := #[.val (.int p0), .val (.long q0), .second, .val (.int p2), .val (.int p3), .val (.int 0), .val (.int 1), .val (.ref yb), .val (.ref y2), .val (.int of), .val (.int ln), .val (.ref b36), .val (.int (p3 &&& (3 : Int32))), .val (.int 1), .val (.ref tt)]) rfl (XS.iload X82.here hx rfl (hb hby at_419) rfl q))))) ?_
        have hk83_ := (Nat.le_trans (Nat.le_trans (Nat.zero_le _) Kq46.1) Kq72.1)
        exact own_endW X82 hS (by rw [eh82]; exact hk83_) hZ hEL (by rw [hh]; rw [eh82]; exact C73) (v := some (.int (nar .boolean (1 : Int32)))) (fun h => by rw [Bd.returns] at h; cases h) hlk (fun hr => retN X82 hx (t := .boolean) Bd.returns (by simp) (hb hby at_421) hr) (by rw [eh82]; exact ⟨rfl, N82⟩) (by decide) (by decide)
    refine own_g (own_fr m p0 q0 p2 p3 yb y2 b36 143 0 1 of ln .unset .unset [(.int 1), (.int (p3 &&& (3 : Int32)))]) (fun _ q => XS.iload X43.here hx rfl (hb hby at_140) rfl (XS.iconst X43.here hx rfl (hb hby at_142) q)) ?_
    by_cases hc84 : (p3 &&& (3 : Int32)) = (1 : Int32)
    · refine own_g (own_fr m p0 q0 p2 p3 yb y2 b36 158 0 1 of ln .unset .unset [(.int (((p3.toUInt32 >>> ((2 : Int32) &&& 31).toUInt32).toInt32) &&& (255 : Int32))), (.int 0), (.ref b36)]) (fun _ q => XS.icmpNo X43.here hx rfl (hb hby at_143) rfl (teq hc84).2 (XS.aload X43.here hx rfl (hb hby at_146) rfl rfl (XS.iload X43.here hx rfl (hb hby at_148) rfl (XS.iload X43.here hx rfl (hb hby at_150) rfl (XS.iconst X43.here hx rfl (hb hby at_152) (XS.iushr X43.here hx rfl (hb hby at_153) rfl (XS.sipush X43.here hx rfl (hb hby at_154) (XS.iand X43.here hx rfl (hb hby at_157) rfl q)))))))) ?_
      refine own_g (own_fr m p0 q0 p2 p3 yb y2 b36 159 0 1 of ln .unset .unset [(.int ((((p3.toUInt32 >>> ((2 : Int32) &&& 31).toUInt32).toInt32) &&& (255 : Int32)).toUInt32.toUInt16.toUInt32.toInt32)), (.int 0), (.ref b36)]) (fun _ q => XS.i2c X43.here hx rfl (hb hby at_158) rfl q) ?_
      have k85_ := (k40_.trans Kq43 (allS (Or.inr sz_b36) all0))
      have o86_ := ((((((((((O0.ext E1).wr W6 g_yb).wr W11 g_yb).wr W16 g_yb).wr W21 g_yb).ext E23).wr W29 g_y2).wr W34 g_y2).ext E36).keep Kq43 (allS g_b36 all0))
      refine own_callS X43 hx hZ (y := own_y20) hown (own_h hw 162 rfl) (own_h hw 163 rfl) (own_h hw 66 rfl) (own_h hw 164 rfl) (by decide) (own_vo l Z a0 hw [] ((((p3.toUInt32 >>> ((2 : Int32) &&& 31).toUInt32).toInt32) &&& (255 : Int32)).toUInt32.toUInt16.toUInt32.toInt32) zCS fm cs T43.heap n0 (Nat.le_trans Z0 k85_.1) S_CS nCS S_SF hfm S_UT S_IN E_cs o86_ (own_c255 _)) (by decide) (by decide) rfl (g := (own_fr m p0 q0 p2 p3 yb y2 b36 159 0 1 of ln .unset .unset [(.int ((((p3.toUInt32 >>> ((2 : Int32) &&& 31).toUInt32).toInt32) &&& (255 : Int32)).toUInt32.toUInt16.toUInt32.toInt32)), (.int 0), (.ref b36)])) rfl (by rw [hml]; rfl) (argsL := [(.int ((((p3.toUInt32 >>> ((2 : Int32) &&& 31).toUInt32).toInt32) &&& (255 : Int32)).toUInt32.toUInt16.toUInt32.toInt32))]) (rest := [(.int 0), (.ref b36)]) (lenOf own_pd__28C_29Ljava_2flang_2fString_3b rfl) rfl (W := 2) (Nat.le_of_eq rfl) (hb hby at_159) rfl (by decide) (by decide) ?_
      rintro rv87 T87 L87 X87 ⟨tt, rfl, Nq87, Kq87, sz87, Et87⟩
      have N87 := Fr.app N43 Nq87
      show own_Fin p e below _ T87 (own_fr m p0 q0 p2 p3 yb y2 b36 162 0 1 of ln .unset .unset [(.ref tt), (.int 0), (.ref b36)])
      have C88 := C44.trans (CHr.keep Kq87 sf0 C44.1)
      have a90_tx := (A_txq43.keep Kq87 nin0)
      obtain ⟨cl89, Ar89, qa89, -⟩ := id a90_tx
      have f91_b36 := (F_textsq43.keep Kq87 nin0)
      have f92_b36 := (F_utf8q43.keep Kq87 nin0)
      have f93_b36 := (F_utf8Offsetsq43.keep Kq87 nin0)
      have f94_b36 := (F_utf8Lengthsq43.keep Kq87 nin0)
      have f95_b36 := (F_unavailableq43.keep Kq87 nin0)
      have a96_u8 := (A_u8q43.keep Kq87 nin0)
      have a97_ofs := (A_ofsq43.keep Kq87 nin0)
      have a98_les := (A_lesq43.keep Kq87 nin0)
      have a99_un := (A_unq43.keep Kq87 nin0)
      have e100_b36 := (E_rq43.keep Kq87)
      have k101_ := (k85_.trans Kq87 all0)
      refine own_callV X87 hx hZ (y := own_y3) (z := own_y3) hown (own_h hw 175 rfl) (own_h hw 176 rfl) (own_nf (own_h hw 178 rfl)) (own_h hw 178 rfl) (own_h hw 177 rfl) (own_h hw 179 rfl) (own_h hw 6 rfl) (by decide) e100_b36 (own_setText0 l Z a0 hw [] b36 (.ref tt) tx u8 ofs les un kt ku ko kl kn .null .null .null .null (0 : Int32) (0 : Int32) (0 : Int32) (0 : Int32) (0 : Int32) (0 : Int32) T87.heap n0 (Nat.le_trans Z0 k101_.1) rfl rfl rfl rfl rfl RA ⟨e100_b36, f91_b36, f92_b36, f93_b36, f94_b36, f95_b36, a90_tx, a96_u8, a97_ofs, a98_les, a99_un⟩ (Sto.ofV Ar89 qa89 OvT (Ins.self Et87))) (by decide) (by decide) rfl (g := (own_fr m p0 q0 p2 p3 yb y2 b36 162 0 1 of ln .unset .unset [(.ref tt), (.int 0), (.ref b36)])) rfl (by rw [hml]; rfl) (argsL := [(.int 0), (.ref tt)]) (rest := []) (lenOf own_pd__28ILjava_2flang_2fString_3b_29V rfl) rfl (W := 0) (Nat.le_of_eq rfl) (hb hby at_162) rfl (by decide) (by decide) ?_
      rintro rv102 T102 L102 X102 ⟨rfl, Nq102, Kq102, RW102⟩
      have N102 := Fr.app N87 Nq102
      show own_Fin p e below _ T102 (own_fr m p0 q0 p2 p3 yb y2 b36 165 0 1 of ln .unset .unset [])
      have C103 := C88.trans (CHr.keep Kq102 (sfS (Safe.arv hZ.alike a90_tx (by decide)) (sfS (Safe.arv hZ.alike a96_u8 (by decide)) (sfS (Safe.arv hZ.alike a97_ofs (by decide)) (sfS (Safe.arv hZ.alike a98_les (by decide)) (sfS (Safe.arv hZ.alike a99_un (by decide)) sf0))))) C88.1)
      obtain ⟨E_rq102, F_textsq102, F_utf8q102, F_utf8Offsetsq102, F_utf8Lengthsq102, F_unavailableq102, A_txq102, A_u8q102, A_ofsq102, A_lesq102, A_unq102⟩ := RW102
      refine own_g (own_fr m p0 q0 p2 p3 yb y2 b36 201 0 1 of ln .unset .unset []) (fun _ q => XS.goto X102.here hx rfl (pc0 := 165) (pc' := 201) rfl (hb hby at_165) (by decide) (by decide) q) ?_
      have k104_ := (k101_.trans Kq102 (allS (Or.inr sz_tx) (allS (Or.inr sz_u8) (allS (Or.inr sz_ofs) (allS (Or.inr sz_les) (allS (Or.inr sz_un) all0))))))
      have o105_ := ((o86_.keep Kq87 all0).keep Kq102 (allS g_tx (allS g_u8 (allS g_ofs (allS g_les (allS g_un all0))))))
      have a106_yb := (((a41_yb.keep Kq43 (ninS ne_yb_b36 nin0)).keep Kq87 nin0).keep Kq102 (ninS ne_yb_tx (ninS ne_yb_u8 (ninS ne_yb_ofs (ninS ne_yb_les (ninS ne_yb_un nin0))))))
      have e107_yb := (((((((((((Ex1.wr W6).wr W11).wr W16).wr W21).ext E23).wr W29).wr W34).ext E36).keep Kq43).keep Kq87).keep Kq102)
      have x108_yb := (Unt.keep Kq102 (ninS ne_yb_tx (ninS ne_yb_u8 (ninS ne_yb_ofs (ninS ne_yb_les (ninS ne_yb_un nin0))))) (Unt.keep Kq87 nin0 (Unt.keep Kq43 (ninS ne_yb_b36 nin0) (Unt.ext E36 (Unt.wr W34 (Unt.wr W29 (Unt.ext E23 (Unt.wr W21 (Unt.wr W16 (Unt.wr W11 (Unt.wr W6 Un1)))))))))))
      exact J201 _ _ _ (.ref tt) .null (0 : Int32) (0 : Int32) (0 : Int32) (X102.more (by decide) (by decide)) rfl N102 C103 k104_ o105_ ⟨E_rq102, F_textsq102, F_utf8q102, F_utf8Offsetsq102, F_utf8Lengthsq102, F_unavailableq102, A_txq102, A_u8q102, A_ofsq102, A_lesq102, A_unq102⟩ rfl rfl a106_yb e107_yb x108_yb
    · refine own_g (own_fr m p0 q0 p2 p3 yb y2 b36 171 0 1 of ln .unset .unset [(.int 2), (.int (p3 &&& (3 : Int32)))]) (fun _ q => XS.icmpYes X43.here hx rfl (pc0 := 143) (pc' := 168) rfl (hb hby at_143) rfl (feq hc84).2 (by decide) (by decide) (XS.iload X43.here hx rfl (hb hby at_168) rfl (XS.iconst X43.here hx rfl (hb hby at_170) q))) ?_
      by_cases hc109 : (p3 &&& (3 : Int32)) = (2 : Int32)
      · refine own_g (own_fr m p0 q0 p2 p3 yb y2 b36 178 0 1 of ln .unset .unset [(.int 0), (.ref b36)]) (fun _ q => XS.icmpNo X43.here hx rfl (hb hby at_171) rfl (teq hc109).2 (XS.aload X43.here hx rfl (hb hby at_174) rfl rfl (XS.iload X43.here hx rfl (hb hby at_176) rfl q))) ?_
        have k110_ := (k40_.trans Kq43 (allS (Or.inr sz_b36) all0))
        refine own_callV X43 hx hZ (y := own_y4) (z := own_y4) hown (own_h hw 157 rfl) (own_h hw 158 rfl) (own_nf (own_h hw 160 rfl)) (own_h hw 160 rfl) (own_h hw 159 rfl) (own_h hw 161 rfl) (own_h hw 6 rfl) (by decide) E_rq43 (own_setUn0 l Z a0 hw [] b36 tx u8 ofs les un kt ku ko kl kn .null .null .null .null (0 : Int32) (0 : Int32) (0 : Int32) (0 : Int32) (0 : Int32) (0 : Int32) T43.heap n0 (Nat.le_trans Z0 k110_.1) rfl rfl rfl rfl RA ⟨E_rq43, F_textsq43, F_utf8q43, F_utf8Offsetsq43, F_utf8Lengthsq43, F_unavailableq43, A_txq43, A_u8q43, A_ofsq43, A_lesq43, A_unq43⟩ ) (by decide) (by decide) rfl (g := (own_fr m p0 q0 p2 p3 yb y2 b36 178 0 1 of ln .unset .unset [(.int 0), (.ref b36)])) rfl (by rw [hml]; rfl) (argsL := [(.int 0)]) (rest := []) (lenOf own_pd__28I_29V rfl) rfl (W := 0) (Nat.le_of_eq rfl) (hb hby at_178) rfl (by decide) (by decide) ?_
        rintro rv111 T111 L111 X111 ⟨rfl, Nq111, Kq111, RW111⟩
        have N111 := Fr.app N43 Nq111
        show own_Fin p e below _ T111 (own_fr m p0 q0 p2 p3 yb y2 b36 181 0 1 of ln .unset .unset [])
        have C112 := C44.trans (CHr.keep Kq111 (sfS (Safe.arv hZ.alike A_txq43 (by decide)) (sfS (Safe.arv hZ.alike A_u8q43 (by decide)) (sfS (Safe.arv hZ.alike A_ofsq43 (by decide)) (sfS (Safe.arv hZ.alike A_lesq43 (by decide)) (sfS (Safe.arv hZ.alike A_unq43 (by decide)) sf0))))) C44.1)
        obtain ⟨E_rq111, F_textsq111, F_utf8q111, F_utf8Offsetsq111, F_utf8Lengthsq111, F_unavailableq111, A_txq111, A_u8q111, A_ofsq111, A_lesq111, A_unq111⟩ := RW111
        refine own_g (own_fr m p0 q0 p2 p3 yb y2 b36 201 0 1 of ln .unset .unset []) (fun _ q => XS.goto X111.here hx rfl (pc0 := 181) (pc' := 201) rfl (hb hby at_181) (by decide) (by decide) q) ?_
        have k113_ := (k110_.trans Kq111 (allS (Or.inr sz_tx) (allS (Or.inr sz_u8) (allS (Or.inr sz_ofs) (allS (Or.inr sz_les) (allS (Or.inr sz_un) all0))))))
        have o114_ := (((((((((((O0.ext E1).wr W6 g_yb).wr W11 g_yb).wr W16 g_yb).wr W21 g_yb).ext E23).wr W29 g_y2).wr W34 g_y2).ext E36).keep Kq43 (allS g_b36 all0)).keep Kq111 (allS g_tx (allS g_u8 (allS g_ofs (allS g_les (allS g_un all0))))))
        have a115_yb := ((a41_yb.keep Kq43 (ninS ne_yb_b36 nin0)).keep Kq111 (ninS ne_yb_tx (ninS ne_yb_u8 (ninS ne_yb_ofs (ninS ne_yb_les (ninS ne_yb_un nin0))))))
        have e116_yb := ((((((((((Ex1.wr W6).wr W11).wr W16).wr W21).ext E23).wr W29).wr W34).ext E36).keep Kq43).keep Kq111)
        have x117_yb := (Unt.keep Kq111 (ninS ne_yb_tx (ninS ne_yb_u8 (ninS ne_yb_ofs (ninS ne_yb_les (ninS ne_yb_un nin0))))) (Unt.keep Kq43 (ninS ne_yb_b36 nin0) (Unt.ext E36 (Unt.wr W34 (Unt.wr W29 (Unt.ext E23 (Unt.wr W21 (Unt.wr W16 (Unt.wr W11 (Unt.wr W6 Un1))))))))))
        exact J201 _ _ _ .null .null (0 : Int32) (0 : Int32) (1 : Int32) (X111.more (by decide) (by decide)) rfl N111 C112 k113_ o114_ ⟨E_rq111, F_textsq111, F_utf8q111, F_utf8Offsetsq111, F_utf8Lengthsq111, F_unavailableq111, A_txq111, A_u8q111, A_ofsq111, A_lesq111, A_unq111⟩ rfl rfl a115_yb e116_yb x117_yb
      · refine own_g (own_fr m p0 q0 p2 p3 yb y2 b36 187 0 1 of ln .unset .unset [(.int 3), (.int (p3 &&& (3 : Int32)))]) (fun _ q => XS.icmpYes X43.here hx rfl (pc0 := 171) (pc' := 184) rfl (hb hby at_171) rfl (feq hc109).2 (by decide) (by decide) (XS.iload X43.here hx rfl (hb hby at_184) rfl (XS.iconst X43.here hx rfl (hb hby at_186) q))) ?_
        by_cases hc118 : (p3 &&& (3 : Int32)) = (3 : Int32)
        · refine own_g (own_fr m p0 q0 p2 p3 yb y2 b36 198 0 1 of ln .unset .unset [(.int 2), (.int 0), (.ref y2), (.int 0), (.ref b36)]) (fun _ q => XS.icmpNo X43.here hx rfl (hb hby at_187) rfl (teq hc118).2 (XS.aload X43.here hx rfl (hb hby at_190) rfl rfl (XS.iload X43.here hx rfl (hb hby at_192) rfl (XS.aload X43.here hx rfl (hb hby at_194) rfl rfl (XS.iconst X43.here hx rfl (hb hby at_196) (XS.iconst X43.here hx rfl (hb hby at_197) q)))))) ?_
          have e119_y2 := ((((Ex23.wr W29).wr W34).ext E36).keep Kq43)
          obtain ⟨cl120, Ar120, qa120, -⟩ := id A_u8q43
          have k121_ := (k40_.trans Kq43 (allS (Or.inr sz_b36) all0))
          refine own_callV X43 hx hZ (y := own_y5) (z := own_y5) hown (own_h hw 29 rfl) (own_h hw 30 rfl) (own_nf (own_h hw 32 rfl)) (own_h hw 32 rfl) (own_h hw 31 rfl) (own_h hw 33 rfl) (own_h hw 6 rfl) (by decide) E_rq43 (own_setUtf8_0 l Z a0 hw [] b36 y2 (0 : Int32) (2 : Int32) tx u8 ofs les un kt ku ko kl kn .null .null .null .null (0 : Int32) (0 : Int32) (0 : Int32) (0 : Int32) (0 : Int32) (0 : Int32) T43.heap n0 (Nat.le_trans Z0 k121_.1) rfl rfl rfl rfl RA ⟨E_rq43, F_textsq43, F_utf8q43, F_utf8Offsetsq43, F_utf8Lengthsq43, F_unavailableq43, A_txq43, A_u8q43, A_ofsq43, A_lesq43, A_unq43⟩ (Sto.ofVA Ar120 qa120 OvU (Ins.self e119_y2))) (by decide) (by decide) rfl (g := (own_fr m p0 q0 p2 p3 yb y2 b36 198 0 1 of ln .unset .unset [(.int 2), (.int 0), (.ref y2), (.int 0), (.ref b36)])) rfl (by rw [hml]; rfl) (argsL := [(.int 0), (.ref y2), (.int 0), (.int 2)]) (rest := []) (lenOf own_pd__28I_5bBII_29V rfl) rfl (W := 0) (Nat.le_of_eq rfl) (hb hby at_198) rfl (by decide) (by decide) ?_
          rintro rv122 T122 L122 X122 ⟨rfl, Nq122, Kq122, RW122⟩
          have N122 := Fr.app N43 Nq122
          show own_Fin p e below _ T122 (own_fr m p0 q0 p2 p3 yb y2 b36 201 0 1 of ln .unset .unset [])
          have C123 := C44.trans (CHr.keep Kq122 (sfS (Safe.arv hZ.alike A_txq43 (by decide)) (sfS (Safe.arv hZ.alike A_u8q43 (by decide)) (sfS (Safe.arv hZ.alike A_ofsq43 (by decide)) (sfS (Safe.arv hZ.alike A_lesq43 (by decide)) (sfS (Safe.arv hZ.alike A_unq43 (by decide)) sf0))))) C44.1)
          obtain ⟨E_rq122, F_textsq122, F_utf8q122, F_utf8Offsetsq122, F_utf8Lengthsq122, F_unavailableq122, A_txq122, A_u8q122, A_ofsq122, A_lesq122, A_unq122⟩ := RW122
          have k124_ := (k121_.trans Kq122 (allS (Or.inr sz_tx) (allS (Or.inr sz_u8) (allS (Or.inr sz_ofs) (allS (Or.inr sz_les) (allS (Or.inr sz_un) all0))))))
          have o125_ := (((((((((((O0.ext E1).wr W6 g_yb).wr W11 g_yb).wr W16 g_yb).wr W21 g_yb).ext E23).wr W29 g_y2).wr W34 g_y2).ext E36).keep Kq43 (allS g_b36 all0)).keep Kq122 (allS g_tx (allS g_u8 (allS g_ofs (allS g_les (allS g_un all0))))))
          have a126_yb := ((a41_yb.keep Kq43 (ninS ne_yb_b36 nin0)).keep Kq122 (ninS ne_yb_tx (ninS ne_yb_u8 (ninS ne_yb_ofs (ninS ne_yb_les (ninS ne_yb_un nin0))))))
          have e127_yb := ((((((((((Ex1.wr W6).wr W11).wr W16).wr W21).ext E23).wr W29).wr W34).ext E36).keep Kq43).keep Kq122)
          have x128_yb := (Unt.keep Kq122 (ninS ne_yb_tx (ninS ne_yb_u8 (ninS ne_yb_ofs (ninS ne_yb_les (ninS ne_yb_un nin0))))) (Unt.keep Kq43 (ninS ne_yb_b36 nin0) (Unt.ext E36 (Unt.wr W34 (Unt.wr W29 (Unt.ext E23 (Unt.wr W21 (Unt.wr W16 (Unt.wr W11 (Unt.wr W6 Un1))))))))))
          exact J201 _ _ _ .null (.ref y2) (0 : Int32) (2 : Int32) (0 : Int32) (X122.more (by decide) (by decide)) rfl N122 C123 k124_ o125_ ⟨E_rq122, F_textsq122, F_utf8q122, F_utf8Offsetsq122, F_utf8Lengthsq122, F_unavailableq122, A_txq122, A_u8q122, A_ofsq122, A_lesq122, A_unq122⟩ rfl rfl a126_yb e127_yb x128_yb
        · refine own_g (own_fr m p0 q0 p2 p3 yb y2 b36 201 0 1 of ln .unset .unset []) (fun _ q => XS.icmpYes X43.here hx rfl (pc0 := 187) (pc' := 201) rfl (hb hby at_187) rfl (feq hc118).2 (by decide) (by decide) q) ?_
          have k129_ := (k40_.trans Kq43 (allS (Or.inr sz_b36) all0))
          have o130_ := ((((((((((O0.ext E1).wr W6 g_yb).wr W11 g_yb).wr W16 g_yb).wr W21 g_yb).ext E23).wr W29 g_y2).wr W34 g_y2).ext E36).keep Kq43 (allS g_b36 all0))
          have a131_yb := (a41_yb.keep Kq43 (ninS ne_yb_b36 nin0))
          have e132_yb := (((((((((Ex1.wr W6).wr W11).wr W16).wr W21).ext E23).wr W29).wr W34).ext E36).keep Kq43)
          have x133_yb := (Unt.keep Kq43 (ninS ne_yb_b36 nin0) (Unt.ext E36 (Unt.wr W34 (Unt.wr W29 (Unt.ext E23 (Unt.wr W21 (Unt.wr W16 (Unt.wr W11 (Unt.wr W6 Un1)))))))))
          exact J201 _ _ _ .null .null (0 : Int32) (0 : Int32) (0 : Int32) (X43.more (by decide) (by decide)) rfl N43 C44 k129_ o130_ ⟨E_rq43, F_textsq43, F_utf8q43, F_utf8Offsetsq43, F_utf8Lengthsq43, F_unavailableq43, A_txq43, A_u8q43, A_ofsq43, A_lesq43, A_unq43⟩ rfl rfl a131_yb e132_yb x133_yb
  · rw [hcc]
    refine own_g (own_fr m p0 q0 p2 p3 yb y2 b36 140 1 0 of ln .unset .unset []) (fun _ q => XS.iload X43.here hx rfl (hb hby at_134) rfl (XS.iconst X43.here hx rfl (hb hby at_136) (XS.iand X43.here hx rfl (hb hby at_137) rfl (XS.istore X43.here hx rfl (hb hby at_138) rfl (l' := #[.val (.int p0), .val (.long q0), .second, .val (.int p2), .val (.int p3), .val (.int 1), .val (.int 0), .val (.ref yb), .val (.ref y2), .val (.int of), .val (.int ln), .val (.ref b36), .val (.int (p3 &&& (3 : Int32))), .unset, .unset]) rfl q)))) ?_
    have J201 : ∀ (TJ : State) (hJ : Heap) (LJ : List Loc) (tq bq : Value) (oq lq mq : Int32), Stand p l e room_1 (s.setVm s.vm) m #[(.int p0), (.long q0), (.int p2), (.int p3)] below meth c TJ LJ 10 26 → TJ.heap = hJ → Fr n0 LJ → CHr Z consts_1 s.vm h0 s.vm hJ → Keep h0 hJ [] → Old Z n0 hJ → own_Row Z hJ b36 tx u8 ofs les un kt ku ko kl kn .null tq .null bq (0 : Int32) oq (0 : Int32) lq (0 : Int32) mq → tq.isRef = true → bq.isRef = true → Arv Z hJ yb k1 .byte (4 : Int32) [(.int b0), (.int b1), (.int b2), (.int b3)] (.int 0) → Exa Z hJ yb "[B" → Unt hJ yb → own_Fin p e below (own_PW Z consts_1 s (own_rm0_Q Z p0 q0 p2 p3 zCS fm cs h0 n0) room_1.cells room_1.slots) TJ (own_fr m p0 q0 p2 p3 yb y2 b36 201 1 0 of ln .unset .unset []) := by
      intro TJ hJ LJ tq bq oq lq mq XJ eJ NJ CJ KJ OJ RWJ htq hbq AyJ EyJ UyJ
      obtain ⟨E_rJ, F_textsJ, F_utf8J, F_utf8OffsetsJ, F_utf8LengthsJ, F_unavailableJ, A_txJ, A_u8J, A_ofsJ, A_lesJ, A_unJ⟩ := RWJ
      refine own_g (own_fr m p0 q0 p2 p3 yb y2 b36 211 1 0 of ln .unset .unset [(.int ln), (.int of), (.ref yb), (.int 1), (.ref b36)]) (fun _ q => XS.aload XJ.here hx rfl (hb hby at_201) rfl rfl (XS.iload XJ.here hx rfl (hb hby at_203) rfl (XS.aload XJ.here hx rfl (hb hby at_205) rfl rfl (XS.iload XJ.here hx rfl (hb hby at_207) rfl (XS.iload XJ.here hx rfl (hb hby at_209) rfl q))))) ?_
      obtain ⟨cl134, Ar134, qa134, -⟩ := id A_u8J
      refine own_callV XJ hx hZ (y := own_y5) (z := own_y5) hown (own_h hw 29 rfl) (own_h hw 30 rfl) (own_nf (own_h hw 32 rfl)) (own_h hw 32 rfl) (own_h hw 31 rfl) (own_h hw 33 rfl) (own_h hw 6 rfl) (by decide) E_rJ (own_setUtf8_1 l Z a0 hw [] b36 yb of ln tx u8 ofs les un kt ku ko kl kn .null tq .null bq (0 : Int32) oq (0 : Int32) lq (0 : Int32) mq hJ n0 (Nat.le_trans Z0 KJ.1) rfl htq rfl hbq RA ⟨E_rJ, F_textsJ, F_utf8J, F_utf8OffsetsJ, F_utf8LengthsJ, F_unavailableJ, A_txJ, A_u8J, A_ofsJ, A_lesJ, A_unJ⟩ (Sto.ofVA Ar134 qa134 OvU (Ins.self EyJ))) (by decide) (by decide) eJ (g := (own_fr m p0 q0 p2 p3 yb y2 b36 211 1 0 of ln .unset .unset [(.int ln), (.int of), (.ref yb), (.int 1), (.ref b36)])) rfl (by rw [hml]; rfl) (argsL := [(.int 1), (.ref yb), (.int of), (.int ln)]) (rest := []) (lenOf own_pd__28I_5bBII_29V rfl) rfl (W := 0) (Nat.le_of_eq rfl) (hb hby at_211) rfl (by decide) (by decide) ?_
      rintro rv135 T135 L135 X135 ⟨rfl, Nq135, Kq135, RW135⟩
      have N135 := Fr.app NJ Nq135
      show own_Fin p e below _ T135 (own_fr m p0 q0 p2 p3 yb y2 b36 214 1 0 of ln .unset .unset [])
      have C136 := CJ.trans (CHr.keep Kq135 (sfS (Safe.arv hZ.alike A_txJ (by decide)) (sfS (Safe.arv hZ.alike A_u8J (by decide)) (sfS (Safe.arv hZ.alike A_ofsJ (by decide)) (sfS (Safe.arv hZ.alike A_lesJ (by decide)) (sfS (Safe.arv hZ.alike A_unJ (by decide)) sf0))))) CJ.1)
      obtain ⟨E_rq135, F_textsq135, F_utf8q135, F_utf8Offsetsq135, F_utf8Lengthsq135, F_unavailableq135, A_txq135, A_u8q135, A_ofsq135, A_lesq135, A_unq135⟩ := RW135
      refine own_g (own_fr m p0 q0 p2 p3 yb y2 b36 218 1 0 of ln .unset .unset [(.int 1), (.ref b36)]) (fun _ q => XS.aload X135.here hx rfl (hb hby at_214) rfl rfl (XS.iload X135.here hx rfl (hb hby at_216) rfl q)) ?_
      have k137_ := (KJ.trans Kq135 (allS (Or.inr sz_tx) (allS (Or.inr sz_u8) (allS (Or.inr sz_ofs) (allS (Or.inr sz_les) (allS (Or.inr sz_un) all0))))))
      refine own_callV X135 hx hZ (y := own_y1) (z := own_y1) hown (own_h hw 35 rfl) (own_h hw 36 rfl) (own_nf (own_h hw 38 rfl)) (own_h hw 38 rfl) (own_h hw 37 rfl) (own_h hw 39 rfl) (own_h hw 6 rfl) (by decide) E_rq135 (own_isNull1 l Z a0 hw [] b36 tx u8 ofs les un kt ku ko kl kn .null .null .null (.ref yb) (0 : Int32) of (0 : Int32) ln (0 : Int32) (0 : Int32) T135.heap n0 (Nat.le_trans Z0 k137_.1) rfl rfl rfl rfl RA ⟨E_rq135, F_textsq135, F_utf8q135, F_utf8Offsetsq135, F_utf8Lengthsq135, F_unavailableq135, A_txq135, A_u8q135, A_ofsq135, A_lesq135, A_unq135⟩) (by decide) (by decide) rfl (g := (own_fr m p0 q0 p2 p3 yb y2 b36 218 1 0 of ln .unset .unset [(.int 1), (.ref b36)])) rfl (by rw [hml]; rfl) (argsL := [(.int 1)]) (rest := []) (lenOf own_pd__28I_29Z rfl) rfl (W := 0) (Nat.le_of_eq rfl) (hb hby at_218) rfl (by decide) (by decide) ?_
      rintro rv138 T138 L138 X138 ⟨hv138, Nq138, eh138⟩
      have N138 := Fr.app N135 Nq138
      simp [own_isn, own_b] at hv138
      subst hv138
      refine own_g (own_fr m p0 q0 p2 p3 yb y2 b36 228 1 0 of ln .unset .unset [(.int 1), (.ref b36)]) (fun _ q => XS.ifNo X138.here hx rfl (hb hby at_221) rfl ((if0 _ _).trans (teq (by decide : (0 : Int32) = (0 : Int32))).2) (XS.aload X138.here hx rfl (hb hby at_224) rfl rfl (XS.iload X138.here hx rfl (hb hby at_226) rfl q))) ?_
      refine own_callV X138 hx hZ (y := own_y2) (z := own_y2) hown (own_h hw 40 rfl) (own_h hw 41 rfl) (own_nf (own_h hw 43 rfl)) (own_h hw 43 rfl) (own_h hw 42 rfl) (own_h hw 44 rfl) (own_h hw 6 rfl) (by decide) E_rq135 (own_isUn1 l Z a0 hw [] b36 tx u8 ofs les un kt ku ko kl kn .null .null .null (.ref yb) (0 : Int32) of (0 : Int32) ln (0 : Int32) (0 : Int32) T135.heap n0 (Nat.le_trans Z0 k137_.1) rfl rfl rfl rfl RA ⟨E_rq135, F_textsq135, F_utf8q135, F_utf8Offsetsq135, F_utf8Lengthsq135, F_unavailableq135, A_txq135, A_u8q135, A_ofsq135, A_lesq135, A_unq135⟩) (by decide) (by decide) eh138 (g := (own_fr m p0 q0 p2 p3 yb y2 b36 228 1 0 of ln .unset .unset [(.int 1), (.ref b36)])) rfl (by rw [hml]; rfl) (argsL := [(.int 1)]) (rest := []) (lenOf own_pd__28I_29Z rfl) rfl (W := 0) (Nat.le_of_eq rfl) (hb hby at_228) rfl (by decide) (by decide) ?_
      rintro rv139 T139 L139 X139 ⟨rfl, Nq139, eh139⟩
      have N139 := Fr.app N138 Nq139
      refine own_g (own_fr m p0 q0 p2 p3 yb y2 b36 250 1 0 of ln (.val (.int 1)) .unset [(.int 1), (.ref b36)]) (fun _ q => XS.ifNo X139.here hx rfl (hb hby at_231) rfl ((if0 _ _).trans (teq (by decide : (0 : Int32) = (0 : Int32))).2) (XS.iconst X139.here hx rfl (hb hby at_234) (XS.goto X139.here hx rfl (pc0 := 235) (pc' := 239) rfl (hb hby at_235) (by decide) (by decide) (XS.istore X139.here hx rfl (hb hby at_239) rfl (l' := #[.val (.int p0), .val (.long q0), .second, .val (.int p2), .val (.int p3), .val (.int 1), .val (.int 0), .val (.ref yb), .val (.ref y2), .val (.int of), .val (.int ln), .val (.ref b36), .val (.int (p3 &&& (3 : Int32))), .val (.int 1), .unset]) rfl (XS.iload X139.here hx rfl (hb hby at_241) rfl (XS.ifNo X139.here hx rfl (hb hby at_243) rfl ((if0 _ _).trans (feq (by decide : ¬ ((1 : Int32) = (0 : Int32)))).1) (XS.aload X139.here hx rfl (hb hby at_246) rfl rfl (XS.iload X139.here hx rfl (hb hby at_248) rfl q)))))))) ?_
      refine own_callV X139 hx hZ (y := own_y7) (z := own_y7) hown (own_h hw 45 rfl) (own_h hw 46 rfl) (own_nf (own_h hw 48 rfl)) (own_h hw 48 rfl) (own_h hw 47 rfl) (own_h hw 49 rfl) (own_h hw 6 rfl) (by decide) E_rq135 (own_utf8_1 l Z a0 hw [] b36 tx u8 ofs les un kt ku ko kl kn .null .null .null (.ref yb) (0 : Int32) of (0 : Int32) ln (0 : Int32) (0 : Int32) T135.heap n0 (Nat.le_trans Z0 k137_.1) rfl rfl rfl rfl RA ⟨E_rq135, F_textsq135, F_utf8q135, F_utf8Offsetsq135, F_utf8Lengthsq135, F_unavailableq135, A_txq135, A_u8q135, A_ofsq135, A_lesq135, A_unq135⟩) (by decide) (by decide) eh139 (g := (own_fr m p0 q0 p2 p3 yb y2 b36 250 1 0 of ln (.val (.int 1)) .unset [(.int 1), (.ref b36)])) rfl (by rw [hml]; rfl) (argsL := [(.int 1)]) (rest := []) (lenOf own_pd__28I_29_5bB rfl) rfl (W := 0) (Nat.le_of_eq rfl) (hb hby at_250) rfl (by decide) (by decide) ?_
      rintro rv140 T140 L140 X140 ⟨rfl, Nq140, eh140⟩
      have N140 := Fr.app N139 Nq140
      refine own_g (own_fr m p0 q0 p2 p3 yb y2 b36 255 1 0 of ln (.val (.int 1)) .unset [(.ref yb), (.ref yb)]) (fun _ q => XS.aload X140.here hx rfl (hb hby at_253) rfl rfl q) ?_
      refine own_by (g' := (own_fr m p0 q0 p2 p3 yb y2 b36 258 1 0 of ln (.val (.int 1)) .unset [])) (fun _ kq => Jvm.RoadKit.acmp (g := (own_fr m p0 q0 p2 p3 yb y2 b36 255 1 0 of ln (.val (.int 1)) .unset [(.ref yb), (.ref yb)])) X140 hx rfl rfl rfl (pc0 := 255) (pc' := 258) (same := true) rfl (hb hby at_255) rfl (decide_eq_true rfl) (by decide) (by decide) kq) ?_
      refine own_g (own_fr m p0 q0 p2 p3 yb y2 b36 262 1 0 of ln (.val (.int 1)) .unset [(.int 1), (.ref b36)]) (fun _ q => XS.aload X140.here hx rfl (hb hby at_258) rfl rfl (XS.iload X140.here hx rfl (hb hby at_260) rfl q)) ?_
      refine own_callV X140 hx hZ (y := own_y9) (z := own_y9) hown (own_h hw 50 rfl) (own_h hw 51 rfl) (own_nf (own_h hw 53 rfl)) (own_h hw 53 rfl) (own_h hw 52 rfl) (own_h hw 54 rfl) (own_h hw 6 rfl) (by decide) E_rq135 (own_off1 l Z a0 hw [] b36 tx u8 ofs les un kt ku ko kl kn .null .null .null (.ref yb) (0 : Int32) of (0 : Int32) ln (0 : Int32) (0 : Int32) T135.heap n0 (Nat.le_trans Z0 k137_.1) rfl rfl rfl rfl RA ⟨E_rq135, F_textsq135, F_utf8q135, F_utf8Offsetsq135, F_utf8Lengthsq135, F_unavailableq135, A_txq135, A_u8q135, A_ofsq135, A_lesq135, A_unq135⟩) (by decide) (by decide) eh140 (g := (own_fr m p0 q0 p2 p3 yb y2 b36 262 1 0 of ln (.val (.int 1)) .unset [(.int 1), (.ref b36)])) rfl (by rw [hml]; rfl) (argsL := [(.int 1)]) (rest := []) (lenOf own_pd__28I_29I rfl) rfl (W := 0) (Nat.le_of_eq rfl) (hb hby at_262) rfl (by decide) (by decide) ?_
      rintro rv141 T141 L141 X141 ⟨rfl, Nq141, eh141⟩
      have N141 := Fr.app N140 Nq141
      refine own_g (own_fr m p0 q0 p2 p3 yb y2 b36 274 1 0 of ln (.val (.int 1)) .unset [(.int 1), (.ref b36)]) (fun _ q => XS.iload X141.here hx rfl (hb hby at_265) rfl (XS.icmpNo X141.here hx rfl (hb hby at_267) rfl (teq (rfl : of = of)).2 (XS.aload X141.here hx rfl (hb hby at_270) rfl rfl (XS.iload X141.here hx rfl (hb hby at_272) rfl q)))) ?_
      refine own_callV X141 hx hZ (y := own_y8) (z := own_y8) hown (own_h hw 55 rfl) (own_h hw 56 rfl) (own_nf (own_h hw 58 rfl)) (own_h hw 58 rfl) (own_h hw 57 rfl) (own_h hw 59 rfl) (own_h hw 6 rfl) (by decide) E_rq135 (own_len1 l Z a0 hw [] b36 tx u8 ofs les un kt ku ko kl kn .null .null .null (.ref yb) (0 : Int32) of (0 : Int32) ln (0 : Int32) (0 : Int32) T135.heap n0 (Nat.le_trans Z0 k137_.1) rfl rfl rfl rfl RA ⟨E_rq135, F_textsq135, F_utf8q135, F_utf8Offsetsq135, F_utf8Lengthsq135, F_unavailableq135, A_txq135, A_u8q135, A_ofsq135, A_lesq135, A_unq135⟩) (by decide) (by decide) eh141 (g := (own_fr m p0 q0 p2 p3 yb y2 b36 274 1 0 of ln (.val (.int 1)) .unset [(.int 1), (.ref b36)])) rfl (by rw [hml]; rfl) (argsL := [(.int 1)]) (rest := []) (lenOf own_pd__28I_29I rfl) rfl (W := 0) (Nat.le_of_eq rfl) (hb hby at_274) rfl (by decide) (by decide) ?_
      rintro rv142 T142 L142 X142 ⟨rfl, Nq142, eh142⟩
      have N142 := Fr.app N141 Nq142
      refine own_g (own_fr m p0 q0 p2 p3 yb y2 b36 289 1 0 of ln (.val (.int 1)) .unset []) (fun _ q => XS.iload X142.here hx rfl (hb hby at_277) rfl (XS.icmpNo X142.here hx rfl (hb hby at_279) rfl (teq (rfl : ln = ln)).2 (XS.iconst X142.here hx rfl (hb hby at_282) (XS.goto X142.here hx rfl (pc0 := 283) (pc' := 287) rfl (hb hby at_283) (by decide) (by decide) (XS.istore X142.here hx rfl (hb hby at_287) rfl (l' := #[.val (.int p0), .val (.long q0), .second, .val (.int p2), .val (.int p3), .val (.int 1), .val (.int 0), .val (.ref yb), .val (.ref y2), .val (.int of), .val (.int ln), .val (.ref b36), .val (.int (p3 &&& (3 : Int32))), .val (.int 1), .unset]) rfl q))))) ?_
      by_cases hl : ln = (0 : Int32)
      · subst hl
        refine own_g (own_fr m p0 q0 p2 p3 yb y2 b36 293 1 0 of 0 (.val (.int 1)) .unset [(.int 1), (.ref b36)]) (fun _ q => XS.aload X142.here hx rfl (hb hby at_289) rfl rfl (XS.iload X142.here hx rfl (hb hby at_291) rfl q)) ?_
        have a143_yb := (AyJ.keep Kq135 (ninS ne_yb_tx (ninS ne_yb_u8 (ninS ne_yb_ofs (ninS ne_yb_les (ninS ne_yb_un nin0))))))
        have o144_ := (OJ.keep Kq135 (allS g_tx (allS g_u8 (allS g_ofs (allS g_les (allS g_un all0))))))
        have hk146_ := (Nat.le_trans (Nat.zero_le _) Kq135.1)
        refine own_callVW X142 hx hZ (y := own_y6) (z := own_y6) hown (own_h hw 60 rfl) (own_h hw 61 rfl) (own_nf (own_h hw 63 rfl)) (own_h hw 63 rfl) (own_h hw 62 rfl) (own_h hw 64 rfl) (own_h hw 6 rfl) (by decide) E_rq135 hS hk146_ hEL C136.1 (own_text0_1 l Z a0 hw [] b36 tx u8 ofs les un kt ku ko kl kn .null .null (0 : Int32) (0 : Int32) (0 : Int32) yb k1 b0 b1 b2 b3 of zCS fm cs T135.heap n0 (Nat.le_trans Z0 k137_.1) S_CS nCS S_SF hfm S_UT S_IN E_cs o144_ rfl rfl RA ⟨E_rq135, F_textsq135, F_utf8q135, F_utf8Offsetsq135, F_utf8Lengthsq135, F_unavailableq135, A_txq135, A_u8q135, A_ofsq135, A_lesq135, A_unq135⟩ a143_yb (own_hf hln).1 (own_hf hln).2) (by decide) (by decide) eh142 (g := (own_fr m p0 q0 p2 p3 yb y2 b36 293 1 0 of 0 (.val (.int 1)) .unset [(.int 1), (.ref b36)])) rfl (by rw [hml]; rfl) (argsL := [(.int 1)]) (rest := []) (lenOf own_pd__28I_29Ljava_2flang_2fString_3b rfl) rfl (W := 0) (Nat.le_of_eq rfl) (hb hby at_293) rfl (by decide) (by decide) ?_
        rintro rv145 T145 L145 X145 hS hZ hown CH145 ⟨tt, tb, kx, rfl, Nq145, Kq145, Et145, Vt145, Ct145, At145, RW145⟩
        have N145 := Fr.app N142 Nq145
        show own_Fin p e below _ T145 (own_fr m p0 q0 p2 p3 yb y2 b36 296 1 0 of 0 (.val (.int 1)) .unset [(.ref tt)])
        have C147 := C136.trans CH145
        obtain ⟨E_rq145, F_textsq145, F_utf8q145, F_utf8Offsetsq145, F_utf8Lengthsq145, F_unavailableq145, A_txq145, A_u8q145, A_ofsq145, A_lesq145, A_unq145⟩ := RW145
        refine own_g (own_fr m p0 q0 p2 p3 yb y2 b36 310 1 0 of 0 (.val (.int 1)) (.val (.ref tt)) [(.ref tt)]) (fun _ q => XS.astore X145.here hx rfl (hb hby at_296) rfl rfl (l' := #[.val (.int p0), .val (.long q0), .second, .val (.int p2), .val (.int p3), .val (.int 1), .val (.int 0), .val (.ref yb), .val (.ref y2), .val (.int of), .val (.int 0), .val (.ref b36), .val (.int (p3 &&& (3 : Int32))), .val (.int 1), .val (.ref tt)]) rfl (XS.iload X145.here hx rfl (hb hby at_298) rfl (XS.ifNo X145.here hx rfl (hb hby at_300) rfl ((if0 _ _).trans (feq (by decide : ¬ ((1 : Int32) = (0 : Int32)))).1) (XS.aload X145.here hx rfl (hb hby at_303) rfl rfl (XS.ifnullNo X145.here hx rfl (hb hby at_305) rfl (XS.aload X145.here hx rfl (hb hby at_308) rfl rfl q)))))) ?_
        have k148_ := (k137_.trans Kq145 (allS (Or.inr sz_tx) all0))
        have o149_ := (o144_.keep Kq145 (allS g_tx all0))
        refine own_callV X145 hx hZ (y := own_y19) (z := own_y19) hown (own_h hw 98 rfl) (own_h hw 99 rfl) (own_nf (own_h hw 101 rfl)) (own_h hw 101 rfl) (own_h hw 100 rfl) (own_h hw 102 rfl) (own_h hw 66 rfl) (by decide) Et145 (own_lenG l Z a0 hw [] tt tb kx of (0 : Int32) b0 b1 b2 b3 zCS fm cs T145.heap n0 (Nat.le_trans Z0 k148_.1) S_CS nCS S_SF hfm S_UT S_IN E_cs o149_ Et145 Vt145 Ct145 At145 hln) (by decide) (by decide) rfl (g := (own_fr m p0 q0 p2 p3 yb y2 b36 310 1 0 of 0 (.val (.int 1)) (.val (.ref tt)) [(.ref tt)])) rfl (by rw [hml]; rfl) (argsL := []) (rest := []) (lenOf own_pd__28_29I rfl) rfl (W := 0) (Nat.le_of_eq rfl) (hb hby at_310) rfl (by decide) (by decide) ?_
        rintro rv150 T150 L150 X150 ⟨rfl, Nq150, eh150⟩
        have N150 := Fr.app N145 Nq150
        refine own_g (own_fr m p0 q0 p2 p3 yb y2 b36 332 1 0 of 0 (.val (.int 1)) (.val (.ref tt)) [(.ref tt)]) (fun _ q => XS.iload X150.here hx rfl (hb hby at_313) rfl (XS.icmpNo X150.here hx rfl (hb hby at_315) rfl (teq (by decide : (0 : Int32) = (0 : Int32))).2 (XS.iconst X150.here hx rfl (hb hby at_318) (XS.goto X150.here hx rfl (pc0 := 319) (pc' := 323) rfl (hb hby at_319) (by decide) (by decide) (XS.istore X150.here hx rfl (hb hby at_323) rfl (l' := #[.val (.int p0), .val (.long q0), .second, .val (.int p2), .val (.int p3), .val (.int 1), .val (.int 0), .val (.ref yb), .val (.ref y2), .val (.int of), .val (.int 0), .val (.ref b36), .val (.int (p3 &&& (3 : Int32))), .val (.int 1), .val (.ref tt)]) rfl (XS.iload X150.here hx rfl (hb hby at_325) rfl (XS.ifNo X150.here hx rfl (hb hby at_327) rfl ((if0 _ _).trans (feq (by decide : ¬ ((1 : Int32) = (0 : Int32)))).1) (XS.aload X150.here hx rfl (hb hby at_330) rfl rfl q)))))))) ?_
        refine own_g (own_fr m p0 q0 p2 p3 yb y2 b36 339 1 0 of 0 (.val (.int 1)) (.val (.ref tt)) [(.int of), (.ref yb), (.int 0), (.int 0), (.ref tt)]) (fun _ q => XS.iconst X150.here hx rfl (hb hby at_332) (XS.iload X150.here hx rfl (hb hby at_333) rfl (XS.aload X150.here hx rfl (hb hby at_335) rfl rfl (XS.iload X150.here hx rfl (hb hby at_337) rfl q)))) ?_
        have a151_yb := (a143_yb.keep Kq145 (ninS ne_yb_tx nin0))
        refine own_callS X150 hx hZ (y := own_y10) hown (own_h hw 109 rfl) (own_h hw 110 rfl) (own_h hw 111 rfl) (own_h hw 112 rfl) (by decide) (own_ckG_0 l Z a0 hw [] tt (0 : Int32) yb of tb kx k1 b0 b1 b2 b3 zCS fm cs T145.heap n0 (Nat.le_trans Z0 k148_.1) S_CS nCS S_SF hfm S_UT S_IN E_cs o149_ Et145 Vt145 Ct145 At145 hln a151_yb hb0 hb1 hb2 hb3) (by decide) (by decide) eh150 (g := (own_fr m p0 q0 p2 p3 yb y2 b36 339 1 0 of 0 (.val (.int 1)) (.val (.ref tt)) [(.int of), (.ref yb), (.int 0), (.int 0), (.ref tt)])) rfl (by rw [hml]; rfl) (argsL := [(.ref tt), (.int 0), (.int 0), (.ref yb), (.int of)]) (rest := []) (lenOf own_pd__28Ljava_2flang_2fString_3bII_5bBI_29Z rfl) rfl (W := 0) (Nat.le_of_eq rfl) (hb hby at_339) rfl (by decide) (by decide) ?_
        rintro rv152 T152 L152 X152 ⟨rfl, Nq152, eh152⟩
        have N152 := Fr.app N150 Nq152
        refine own_g (own_fr m p0 q0 p2 p3 yb y2 b36 354 1 0 of 0 (.val (.int 1)) (.val (.ref tt)) [(.int of), (.ref yb), (.int 0), (.int 1), (.ref tt)]) (fun _ q => XS.ifNo X152.here hx rfl (hb hby at_342) rfl ((if0 _ _).trans (feq (by decide : ¬ ((1 : Int32) = (0 : Int32)))).1) (XS.aload X152.here hx rfl (hb hby at_345) rfl rfl (XS.iconst X152.here hx rfl (hb hby at_347) (XS.iload X152.here hx rfl (hb hby at_348) rfl (XS.aload X152.here hx rfl (hb hby at_350) rfl rfl (XS.iload X152.here hx rfl (hb hby at_352) rfl q)))))) ?_
        refine own_callS X152 hx hZ (y := own_y10) hown (own_h hw 109 rfl) (own_h hw 110 rfl) (own_h hw 111 rfl) (own_h hw 112 rfl) (by decide) (own_ckG_1 l Z a0 hw [] tt (0 : Int32) yb of tb kx k1 b0 b1 b2 b3 zCS fm cs T145.heap n0 (Nat.le_trans Z0 k148_.1) S_CS nCS S_SF hfm S_UT S_IN E_cs o149_ Et145 Vt145 Ct145 At145 hln a151_yb hb0 hb1 hb2 hb3) (by decide) (by decide) eh152 (g := (own_fr m p0 q0 p2 p3 yb y2 b36 354 1 0 of 0 (.val (.int 1)) (.val (.ref tt)) [(.int of), (.ref yb), (.int 0), (.int 1), (.ref tt)])) rfl (by rw [hml]; rfl) (argsL := [(.ref tt), (.int 1), (.int 0), (.ref yb), (.int of)]) (rest := []) (lenOf own_pd__28Ljava_2flang_2fString_3bII_5bBI_29Z rfl) rfl (W := 0) (Nat.le_of_eq rfl) (hb hby at_354) rfl (by decide) (by decide) ?_
        rintro rv153 T153 L153 X153 ⟨rfl, Nq153, eh153⟩
        have N153 := Fr.app N152 Nq153
        refine own_g (own_fr m p0 q0 p2 p3 yb y2 b36 369 1 0 of 0 (.val (.int 1)) (.val (.ref tt)) [(.int of), (.ref yb), (.int 0), (.int 2), (.ref tt)]) (fun _ q => XS.ifNo X153.here hx rfl (hb hby at_357) rfl ((if0 _ _).trans (feq (by decide : ¬ ((1 : Int32) = (0 : Int32)))).1) (XS.aload X153.here hx rfl (hb hby at_360) rfl rfl (XS.iconst X153.here hx rfl (hb hby at_362) (XS.iload X153.here hx rfl (hb hby at_363) rfl (XS.aload X153.here hx rfl (hb hby at_365) rfl rfl (XS.iload X153.here hx rfl (hb hby at_367) rfl q)))))) ?_
        refine own_callS X153 hx hZ (y := own_y10) hown (own_h hw 109 rfl) (own_h hw 110 rfl) (own_h hw 111 rfl) (own_h hw 112 rfl) (by decide) (own_ckG_2 l Z a0 hw [] tt (0 : Int32) yb of tb kx k1 b0 b1 b2 b3 zCS fm cs T145.heap n0 (Nat.le_trans Z0 k148_.1) S_CS nCS S_SF hfm S_UT S_IN E_cs o149_ Et145 Vt145 Ct145 At145 hln a151_yb hb0 hb1 hb2 hb3) (by decide) (by decide) eh153 (g := (own_fr m p0 q0 p2 p3 yb y2 b36 369 1 0 of 0 (.val (.int 1)) (.val (.ref tt)) [(.int of), (.ref yb), (.int 0), (.int 2), (.ref tt)])) rfl (by rw [hml]; rfl) (argsL := [(.ref tt), (.int 2), (.int 0), (.ref yb), (.int of)]) (rest := []) (lenOf own_pd__28Ljava_2flang_2fString_3bII_5bBI_29Z rfl) rfl (W := 0) (Nat.le_of_eq rfl) (hb hby at_369) rfl (by decide) (by decide) ?_
        rintro rv154 T154 L154 X154 ⟨rfl, Nq154, eh154⟩
        have N154 := Fr.app N153 Nq154
        refine own_g (own_fr m p0 q0 p2 p3 yb y2 b36 384 1 0 of 0 (.val (.int 1)) (.val (.ref tt)) [(.int of), (.ref yb), (.int 0), (.int 3), (.ref tt)]) (fun _ q => XS.ifNo X154.here hx rfl (hb hby at_372) rfl ((if0 _ _).trans (feq (by decide : ¬ ((1 : Int32) = (0 : Int32)))).1) (XS.aload X154.here hx rfl (hb hby at_375) rfl rfl (XS.iconst X154.here hx rfl (hb hby at_377) (XS.iload X154.here hx rfl (hb hby at_378) rfl (XS.aload X154.here hx rfl (hb hby at_380) rfl rfl (XS.iload X154.here hx rfl (hb hby at_382) rfl q)))))) ?_
        refine own_callS X154 hx hZ (y := own_y10) hown (own_h hw 109 rfl) (own_h hw 110 rfl) (own_h hw 111 rfl) (own_h hw 112 rfl) (by decide) (own_ckG_3 l Z a0 hw [] tt (0 : Int32) yb of tb kx k1 b0 b1 b2 b3 zCS fm cs T145.heap n0 (Nat.le_trans Z0 k148_.1) S_CS nCS S_SF hfm S_UT S_IN E_cs o149_ Et145 Vt145 Ct145 At145 hln a151_yb hb0 hb1 hb2 hb3) (by decide) (by decide) eh154 (g := (own_fr m p0 q0 p2 p3 yb y2 b36 384 1 0 of 0 (.val (.int 1)) (.val (.ref tt)) [(.int of), (.ref yb), (.int 0), (.int 3), (.ref tt)])) rfl (by rw [hml]; rfl) (argsL := [(.ref tt), (.int 3), (.int 0), (.ref yb), (.int of)]) (rest := []) (lenOf own_pd__28Ljava_2flang_2fString_3bII_5bBI_29Z rfl) rfl (W := 0) (Nat.le_of_eq rfl) (hb hby at_384) rfl (by decide) (by decide) ?_
        rintro rv155 T155 L155 X155 ⟨rfl, Nq155, eh155⟩
        have N155 := Fr.app N154 Nq155
        refine own_g (own_fr m p0 q0 p2 p3 yb y2 b36 406 1 0 of 0 (.val (.int 1)) (.val (.ref tt)) [(.int 0), (.ref b36)]) (fun _ q => XS.ifNo X155.here hx rfl (hb hby at_387) rfl ((if0 _ _).trans (feq (by decide : ¬ ((1 : Int32) = (0 : Int32)))).1) (XS.iconst X155.here hx rfl (hb hby at_390) (XS.goto X155.here hx rfl (pc0 := 391) (pc' := 395) rfl (hb hby at_391) (by decide) (by decide) (XS.istore X155.here hx rfl (hb hby at_395) rfl (l' := #[.val (.int p0), .val (.long q0), .second, .val (.int p2), .val (.int p3), .val (.int 1), .val (.int 0), .val (.ref yb), .val (.ref y2), .val (.int of), .val (.int 0), .val (.ref b36), .val (.int (p3 &&& (3 : Int32))), .val (.int 1), .val (.ref tt)]) rfl (XS.iload X155.here hx rfl (hb hby at_397) rfl (XS.ifNo X155.here hx rfl (hb hby at_399) rfl ((if0 _ _).trans (feq (by decide : ¬ ((1 : Int32) = (0 : Int32)))).1) (XS.aload X155.here hx rfl (hb hby at_402) rfl rfl (XS.iload X155.here hx rfl (hb hby at_404) rfl q)))))))) ?_
        refine own_callV X155 hx hZ (y := own_y1) (z := own_y1) hown (own_h hw 35 rfl) (own_h hw 36 rfl) (own_nf (own_h hw 38 rfl)) (own_h hw 38 rfl) (own_h hw 37 rfl) (own_h hw 39 rfl) (own_h hw 6 rfl) (by decide) E_rq145 (own_isNull0 l Z a0 hw [] b36 tx u8 ofs les un kt ku ko kl kn .null (.ref tt) .null (.ref yb) (0 : Int32) of (0 : Int32) (0 : Int32) (0 : Int32) (0 : Int32) T145.heap n0 (Nat.le_trans Z0 k148_.1) rfl rfl rfl rfl RA ⟨E_rq145, F_textsq145, F_utf8q145, F_utf8Offsetsq145, F_utf8Lengthsq145, F_unavailableq145, A_txq145, A_u8q145, A_ofsq145, A_lesq145, A_unq145⟩) (by decide) (by decide) eh155 (g := (own_fr m p0 q0 p2 p3 yb y2 b36 406 1 0 of 0 (.val (.int 1)) (.val (.ref tt)) [(.int 0), (.ref b36)])) rfl (by rw [hml]; rfl) (argsL := [(.int 0)]) (rest := []) (lenOf own_pd__28I_29Z rfl) rfl (W := 0) (Nat.le_of_eq rfl) (hb hby at_406) rfl (by decide) (by decide) ?_
        rintro rv156 T156 L156 X156 ⟨hv156, Nq156, eh156⟩
        have N156 := Fr.app N155 Nq156
        simp [own_isn, own_b] at hv156
        subst hv156
        refine own_g (own_fr m p0 q0 p2 p3 yb y2 b36 421 1 0 of 0 (.val (.int 1)) (.val (.ref tt)) [(.int 1)]) (fun _ q => XS.ifNo X156.here hx rfl (hb hby at_409) rfl ((if0 _ _).trans (feq (by decide : ¬ ((1 : Int32) = (0 : Int32)))).1) (XS.iconst X156.here hx rfl (hb hby at_412) (XS.goto X156.here hx rfl (pc0 := 413) (pc' := 417) rfl (hb hby at_413) (by decide) (by decide) (XS.istore X156.here hx rfl (hb hby at_417) rfl (l' := #[.val (.int p0), .val (.long q0), .second, .val (.int p2), .val (.int p3), .val (.int 1), .val (.int 0), .val (.ref yb), .val (.ref y2), .val (.int of), .val (.int 0), .val (.ref b36), .val (.int (p3 &&& (3 : Int32))), .val (.int 1), .val (.ref tt)]) rfl (XS.iload X156.here hx rfl (hb hby at_419) rfl q))))) ?_
        exact own_endW X156 hS (by rw [eh156]; exact (Nat.le_refl _)) hZ hEL (by rw [hh]; rw [eh156]; exact C147) (v := some (.int (nar .boolean (1 : Int32)))) (fun h => by rw [Bd.returns] at h; cases h) hlk (fun hr => retN X156 hx (t := .boolean) Bd.returns (by simp) (hb hby at_421) hr) (by rw [eh156]; exact ⟨rfl, N156⟩) (by decide) (by decide)
      · skip
        refine own_g (own_fr m p0 q0 p2 p3 yb y2 b36 293 1 0 of ln (.val (.int 1)) .unset [(.int 1), (.ref b36)]) (fun _ q => XS.aload X142.here hx rfl (hb hby at_289) rfl rfl (XS.iload X142.here hx rfl (hb hby at_291) rfl q)) ?_
        have a157_yb := (AyJ.keep Kq135 (ninS ne_yb_tx (ninS ne_yb_u8 (ninS ne_yb_ofs (ninS ne_yb_les (ninS ne_yb_un nin0))))))
        have e158_yb := (EyJ.keep Kq135)
        have x159_yb := (Unt.keep Kq135 (ninS ne_yb_tx (ninS ne_yb_u8 (ninS ne_yb_ofs (ninS ne_yb_les (ninS ne_yb_un nin0))))) UyJ)
        have o160_ := (OJ.keep Kq135 (allS g_tx (allS g_u8 (allS g_ofs (allS g_les (allS g_un all0))))))
        refine own_callV X142 hx hZ (y := own_y6) (z := own_y6) hown (own_h hw 60 rfl) (own_h hw 61 rfl) (own_nf (own_h hw 63 rfl)) (own_h hw 63 rfl) (own_h hw 62 rfl) (own_h hw 64 rfl) (own_h hw 6 rfl) (by decide) E_rq135 (own_textG_1 l Z a0 hw [] b36 tx u8 ofs les un kt ku ko kl kn .null .null (0 : Int32) (0 : Int32) (0 : Int32) yb k1 b0 b1 b2 b3 of ln zCS fm cs T135.heap n0 (Nat.le_trans Z0 k137_.1) S_CS nCS S_SF hfm S_UT S_IN E_cs o160_ rfl rfl RA ⟨E_rq135, F_textsq135, F_utf8q135, F_utf8Offsetsq135, F_utf8Lengthsq135, F_unavailableq135, A_txq135, A_u8q135, A_ofsq135, A_lesq135, A_unq135⟩ a157_yb e158_yb x159_yb (own_hp hb0 hb1 hb2 hb3) hln hl) (by decide) (by decide) eh142 (g := (own_fr m p0 q0 p2 p3 yb y2 b36 293 1 0 of ln (.val (.int 1)) .unset [(.int 1), (.ref b36)])) rfl (by rw [hml]; rfl) (argsL := [(.int 1)]) (rest := []) (lenOf own_pd__28I_29Ljava_2flang_2fString_3b rfl) rfl (W := 0) (Nat.le_of_eq rfl) (hb hby at_293) rfl (by decide) (by decide) ?_
        rintro rv161 T161 L161 X161 ⟨tt, tb, kx, rfl, Nq161, Kq161, Et161, Vt161, Ct161, At161, RW161⟩
        have N161 := Fr.app N142 Nq161
        show own_Fin p e below _ T161 (own_fr m p0 q0 p2 p3 yb y2 b36 296 1 0 of ln (.val (.int 1)) .unset [(.ref tt)])
        have C162 := C136.trans (CHr.keep Kq161 (sfS (Safe.arv hZ.alike A_txq135 (by decide)) sf0) C136.1)
        obtain ⟨E_rq161, F_textsq161, F_utf8q161, F_utf8Offsetsq161, F_utf8Lengthsq161, F_unavailableq161, A_txq161, A_u8q161, A_ofsq161, A_lesq161, A_unq161⟩ := RW161
        refine own_g (own_fr m p0 q0 p2 p3 yb y2 b36 310 1 0 of ln (.val (.int 1)) (.val (.ref tt)) [(.ref tt)]) (fun _ q => XS.astore X161.here hx rfl (hb hby at_296) rfl rfl (l' := #[.val (.int p0), .val (.long q0), .second, .val (.int p2), .val (.int p3), .val (.int 1), .val (.int 0), .val (.ref yb), .val (.ref y2), .val (.int of), .val (.int ln), .val (.ref b36), .val (.int (p3 &&& (3 : Int32))), .val (.int 1), .val (.ref tt)]) rfl (XS.iload X161.here hx rfl (hb hby at_298) rfl (XS.ifNo X161.here hx rfl (hb hby at_300) rfl ((if0 _ _).trans (feq (by decide : ¬ ((1 : Int32) = (0 : Int32)))).1) (XS.aload X161.here hx rfl (hb hby at_303) rfl rfl (XS.ifnullNo X161.here hx rfl (hb hby at_305) rfl (XS.aload X161.here hx rfl (hb hby at_308) rfl rfl q)))))) ?_
        have k163_ := (k137_.trans Kq161 (allS (Or.inr sz_tx) all0))
        have o164_ := (o160_.keep Kq161 (allS g_tx all0))
        refine own_callV X161 hx hZ (y := own_y19) (z := own_y19) hown (own_h hw 98 rfl) (own_h hw 99 rfl) (own_nf (own_h hw 101 rfl)) (own_h hw 101 rfl) (own_h hw 100 rfl) (own_h hw 102 rfl) (own_h hw 66 rfl) (by decide) Et161 (own_lenG l Z a0 hw [] tt tb kx of ln b0 b1 b2 b3 zCS fm cs T161.heap n0 (Nat.le_trans Z0 k163_.1) S_CS nCS S_SF hfm S_UT S_IN E_cs o164_ Et161 Vt161 Ct161 At161 hln) (by decide) (by decide) rfl (g := (own_fr m p0 q0 p2 p3 yb y2 b36 310 1 0 of ln (.val (.int 1)) (.val (.ref tt)) [(.ref tt)])) rfl (by rw [hml]; rfl) (argsL := []) (rest := []) (lenOf own_pd__28_29I rfl) rfl (W := 0) (Nat.le_of_eq rfl) (hb hby at_310) rfl (by decide) (by decide) ?_
        rintro rv165 T165 L165 X165 ⟨rfl, Nq165, eh165⟩
        have N165 := Fr.app N161 Nq165
        refine own_g (own_fr m p0 q0 p2 p3 yb y2 b36 332 1 0 of ln (.val (.int 1)) (.val (.ref tt)) [(.ref tt)]) (fun _ q => XS.iload X165.here hx rfl (hb hby at_313) rfl (XS.icmpNo X165.here hx rfl (hb hby at_315) rfl (teq (rfl : ln = ln)).2 (XS.iconst X165.here hx rfl (hb hby at_318) (XS.goto X165.here hx rfl (pc0 := 319) (pc' := 323) rfl (hb hby at_319) (by decide) (by decide) (XS.istore X165.here hx rfl (hb hby at_323) rfl (l' := #[.val (.int p0), .val (.long q0), .second, .val (.int p2), .val (.int p3), .val (.int 1), .val (.int 0), .val (.ref yb), .val (.ref y2), .val (.int of), .val (.int ln), .val (.ref b36), .val (.int (p3 &&& (3 : Int32))), .val (.int 1), .val (.ref tt)]) rfl (XS.iload X165.here hx rfl (hb hby at_325) rfl (XS.ifNo X165.here hx rfl (hb hby at_327) rfl ((if0 _ _).trans (feq (by decide : ¬ ((1 : Int32) = (0 : Int32)))).1) (XS.aload X165.here hx rfl (hb hby at_330) rfl rfl q)))))))) ?_
        refine own_g (own_fr m p0 q0 p2 p3 yb y2 b36 339 1 0 of ln (.val (.int 1)) (.val (.ref tt)) [(.int of), (.ref yb), (.int ln), (.int 0), (.ref tt)]) (fun _ q => XS.iconst X165.here hx rfl (hb hby at_332) (XS.iload X165.here hx rfl (hb hby at_333) rfl (XS.aload X165.here hx rfl (hb hby at_335) rfl rfl (XS.iload X165.here hx rfl (hb hby at_337) rfl q)))) ?_
        have a166_yb := (a157_yb.keep Kq161 (ninS ne_yb_tx nin0))
        refine own_callS X165 hx hZ (y := own_y10) hown (own_h hw 109 rfl) (own_h hw 110 rfl) (own_h hw 111 rfl) (own_h hw 112 rfl) (by decide) (own_ckG_0 l Z a0 hw [] tt ln yb of tb kx k1 b0 b1 b2 b3 zCS fm cs T161.heap n0 (Nat.le_trans Z0 k163_.1) S_CS nCS S_SF hfm S_UT S_IN E_cs o164_ Et161 Vt161 Ct161 At161 hln a166_yb hb0 hb1 hb2 hb3) (by decide) (by decide) eh165 (g := (own_fr m p0 q0 p2 p3 yb y2 b36 339 1 0 of ln (.val (.int 1)) (.val (.ref tt)) [(.int of), (.ref yb), (.int ln), (.int 0), (.ref tt)])) rfl (by rw [hml]; rfl) (argsL := [(.ref tt), (.int 0), (.int ln), (.ref yb), (.int of)]) (rest := []) (lenOf own_pd__28Ljava_2flang_2fString_3bII_5bBI_29Z rfl) rfl (W := 0) (Nat.le_of_eq rfl) (hb hby at_339) rfl (by decide) (by decide) ?_
        rintro rv167 T167 L167 X167 ⟨rfl, Nq167, eh167⟩
        have N167 := Fr.app N165 Nq167
        refine own_g (own_fr m p0 q0 p2 p3 yb y2 b36 354 1 0 of ln (.val (.int 1)) (.val (.ref tt)) [(.int of), (.ref yb), (.int ln), (.int 1), (.ref tt)]) (fun _ q => XS.ifNo X167.here hx rfl (hb hby at_342) rfl ((if0 _ _).trans (feq (by decide : ¬ ((1 : Int32) = (0 : Int32)))).1) (XS.aload X167.here hx rfl (hb hby at_345) rfl rfl (XS.iconst X167.here hx rfl (hb hby at_347) (XS.iload X167.here hx rfl (hb hby at_348) rfl (XS.aload X167.here hx rfl (hb hby at_350) rfl rfl (XS.iload X167.here hx rfl (hb hby at_352) rfl q)))))) ?_
        refine own_callS X167 hx hZ (y := own_y10) hown (own_h hw 109 rfl) (own_h hw 110 rfl) (own_h hw 111 rfl) (own_h hw 112 rfl) (by decide) (own_ckG_1 l Z a0 hw [] tt ln yb of tb kx k1 b0 b1 b2 b3 zCS fm cs T161.heap n0 (Nat.le_trans Z0 k163_.1) S_CS nCS S_SF hfm S_UT S_IN E_cs o164_ Et161 Vt161 Ct161 At161 hln a166_yb hb0 hb1 hb2 hb3) (by decide) (by decide) eh167 (g := (own_fr m p0 q0 p2 p3 yb y2 b36 354 1 0 of ln (.val (.int 1)) (.val (.ref tt)) [(.int of), (.ref yb), (.int ln), (.int 1), (.ref tt)])) rfl (by rw [hml]; rfl) (argsL := [(.ref tt), (.int 1), (.int ln), (.ref yb), (.int of)]) (rest := []) (lenOf own_pd__28Ljava_2flang_2fString_3bII_5bBI_29Z rfl) rfl (W := 0) (Nat.le_of_eq rfl) (hb hby at_354) rfl (by decide) (by decide) ?_
        rintro rv168 T168 L168 X168 ⟨rfl, Nq168, eh168⟩
        have N168 := Fr.app N167 Nq168
        refine own_g (own_fr m p0 q0 p2 p3 yb y2 b36 369 1 0 of ln (.val (.int 1)) (.val (.ref tt)) [(.int of), (.ref yb), (.int ln), (.int 2), (.ref tt)]) (fun _ q => XS.ifNo X168.here hx rfl (hb hby at_357) rfl ((if0 _ _).trans (feq (by decide : ¬ ((1 : Int32) = (0 : Int32)))).1) (XS.aload X168.here hx rfl (hb hby at_360) rfl rfl (XS.iconst X168.here hx rfl (hb hby at_362) (XS.iload X168.here hx rfl (hb hby at_363) rfl (XS.aload X168.here hx rfl (hb hby at_365) rfl rfl (XS.iload X168.here hx rfl (hb hby at_367) rfl q)))))) ?_
        refine own_callS X168 hx hZ (y := own_y10) hown (own_h hw 109 rfl) (own_h hw 110 rfl) (own_h hw 111 rfl) (own_h hw 112 rfl) (by decide) (own_ckG_2 l Z a0 hw [] tt ln yb of tb kx k1 b0 b1 b2 b3 zCS fm cs T161.heap n0 (Nat.le_trans Z0 k163_.1) S_CS nCS S_SF hfm S_UT S_IN E_cs o164_ Et161 Vt161 Ct161 At161 hln a166_yb hb0 hb1 hb2 hb3) (by decide) (by decide) eh168 (g := (own_fr m p0 q0 p2 p3 yb y2 b36 369 1 0 of ln (.val (.int 1)) (.val (.ref tt)) [(.int of), (.ref yb), (.int ln), (.int 2), (.ref tt)])) rfl (by rw [hml]; rfl) (argsL := [(.ref tt), (.int 2), (.int ln), (.ref yb), (.int of)]) (rest := []) (lenOf own_pd__28Ljava_2flang_2fString_3bII_5bBI_29Z rfl) rfl (W := 0) (Nat.le_of_eq rfl) (hb hby at_369) rfl (by decide) (by decide) ?_
        rintro rv169 T169 L169 X169 ⟨rfl, Nq169, eh169⟩
        have N169 := Fr.app N168 Nq169
        refine own_g (own_fr m p0 q0 p2 p3 yb y2 b36 384 1 0 of ln (.val (.int 1)) (.val (.ref tt)) [(.int of), (.ref yb), (.int ln), (.int 3), (.ref tt)]) (fun _ q => XS.ifNo X169.here hx rfl (hb hby at_372) rfl ((if0 _ _).trans (feq (by decide : ¬ ((1 : Int32) = (0 : Int32)))).1) (XS.aload X169.here hx rfl (hb hby at_375) rfl rfl (XS.iconst X169.here hx rfl (hb hby at_377) (XS.iload X169.here hx rfl (hb hby at_378) rfl (XS.aload X169.here hx rfl (hb hby at_380) rfl rfl (XS.iload X169.here hx rfl (hb hby at_382) rfl q)))))) ?_
        refine own_callS X169 hx hZ (y := own_y10) hown (own_h hw 109 rfl) (own_h hw 110 rfl) (own_h hw 111 rfl) (own_h hw 112 rfl) (by decide) (own_ckG_3 l Z a0 hw [] tt ln yb of tb kx k1 b0 b1 b2 b3 zCS fm cs T161.heap n0 (Nat.le_trans Z0 k163_.1) S_CS nCS S_SF hfm S_UT S_IN E_cs o164_ Et161 Vt161 Ct161 At161 hln a166_yb hb0 hb1 hb2 hb3) (by decide) (by decide) eh169 (g := (own_fr m p0 q0 p2 p3 yb y2 b36 384 1 0 of ln (.val (.int 1)) (.val (.ref tt)) [(.int of), (.ref yb), (.int ln), (.int 3), (.ref tt)])) rfl (by rw [hml]; rfl) (argsL := [(.ref tt), (.int 3), (.int ln), (.ref yb), (.int of)]) (rest := []) (lenOf own_pd__28Ljava_2flang_2fString_3bII_5bBI_29Z rfl) rfl (W := 0) (Nat.le_of_eq rfl) (hb hby at_384) rfl (by decide) (by decide) ?_
        rintro rv170 T170 L170 X170 ⟨rfl, Nq170, eh170⟩
        have N170 := Fr.app N169 Nq170
        refine own_g (own_fr m p0 q0 p2 p3 yb y2 b36 406 1 0 of ln (.val (.int 1)) (.val (.ref tt)) [(.int 0), (.ref b36)]) (fun _ q => XS.ifNo X170.here hx rfl (hb hby at_387) rfl ((if0 _ _).trans (feq (by decide : ¬ ((1 : Int32) = (0 : Int32)))).1) (XS.iconst X170.here hx rfl (hb hby at_390) (XS.goto X170.here hx rfl (pc0 := 391) (pc' := 395) rfl (hb hby at_391) (by decide) (by decide) (XS.istore X170.here hx rfl (hb hby at_395) rfl (l' := #[.val (.int p0), .val (.long q0), .second, .val (.int p2), .val (.int p3), .val (.int 1), .val (.int 0), .val (.ref yb), .val (.ref y2), .val (.int of), .val (.int ln), .val (.ref b36), .val (.int (p3 &&& (3 : Int32))), .val (.int 1), .val (.ref tt)]) rfl (XS.iload X170.here hx rfl (hb hby at_397) rfl (XS.ifNo X170.here hx rfl (hb hby at_399) rfl ((if0 _ _).trans (feq (by decide : ¬ ((1 : Int32) = (0 : Int32)))).1) (XS.aload X170.here hx rfl (hb hby at_402) rfl rfl (XS.iload X170.here hx rfl (hb hby at_404) rfl q)))))))) ?_
        refine own_callV X170 hx hZ (y := own_y1) (z := own_y1) hown (own_h hw 35 rfl) (own_h hw 36 rfl) (own_nf (own_h hw 38 rfl)) (own_h hw 38 rfl) (own_h hw 37 rfl) (own_h hw 39 rfl) (own_h hw 6 rfl) (by decide) E_rq161 (own_isNull0 l Z a0 hw [] b36 tx u8 ofs les un kt ku ko kl kn .null (.ref tt) .null (.ref yb) (0 : Int32) of (0 : Int32) ln (0 : Int32) (0 : Int32) T161.heap n0 (Nat.le_trans Z0 k163_.1) rfl rfl rfl rfl RA ⟨E_rq161, F_textsq161, F_utf8q161, F_utf8Offsetsq161, F_utf8Lengthsq161, F_unavailableq161, A_txq161, A_u8q161, A_ofsq161, A_lesq161, A_unq161⟩) (by decide) (by decide) eh170 (g := (own_fr m p0 q0 p2 p3 yb y2 b36 406 1 0 of ln (.val (.int 1)) (.val (.ref tt)) [(.int 0), (.ref b36)])) rfl (by rw [hml]; rfl) (argsL := [(.int 0)]) (rest := []) (lenOf own_pd__28I_29Z rfl) rfl (W := 0) (Nat.le_of_eq rfl) (hb hby at_406) rfl (by decide) (by decide) ?_
        rintro rv171 T171 L171 X171 ⟨hv171, Nq171, eh171⟩
        have N171 := Fr.app N170 Nq171
        simp [own_isn, own_b] at hv171
        subst hv171
        refine own_g (own_fr m p0 q0 p2 p3 yb y2 b36 421 1 0 of ln (.val (.int 1)) (.val (.ref tt)) [(.int 1)]) (fun _ q => XS.ifNo X171.here hx rfl (hb hby at_409) rfl ((if0 _ _).trans (feq (by decide : ¬ ((1 : Int32) = (0 : Int32)))).1) (XS.iconst X171.here hx rfl (hb hby at_412) (XS.goto X171.here hx rfl (pc0 := 413) (pc' := 417) rfl (hb hby at_413) (by decide) (by decide) (XS.istore X171.here hx rfl (hb hby at_417) rfl (l' := #[.val (.int p0), .val (.long q0), .second, .val (.int p2), .val (.int p3), .val (.int 1), .val (.int 0), .val (.ref yb), .val (.ref y2), .val (.int of), .val (.int ln), .val (.ref b36), .val (.int (p3 &&& (3 : Int32))), .val (.int 1), .val (.ref tt)]) rfl (XS.iload X171.here hx rfl (hb hby at_419) rfl q))))) ?_
        have hk172_ := (Nat.le_trans (Nat.le_trans (Nat.zero_le _) Kq135.1) Kq161.1)
        exact own_endW X171 hS (by rw [eh171]; exact hk172_) hZ hEL (by rw [hh]; rw [eh171]; exact C162) (v := some (.int (nar .boolean (1 : Int32)))) (fun h => by rw [Bd.returns] at h; cases h) hlk (fun hr => retN X171 hx (t := .boolean) Bd.returns (by simp) (hb hby at_421) hr) (by rw [eh171]; exact ⟨rfl, N171⟩) (by decide) (by decide)
    refine own_g (own_fr m p0 q0 p2 p3 yb y2 b36 143 1 0 of ln .unset .unset [(.int 1), (.int (p3 &&& (3 : Int32)))]) (fun _ q => XS.iload X43.here hx rfl (hb hby at_140) rfl (XS.iconst X43.here hx rfl (hb hby at_142) q)) ?_
    by_cases hc173 : (p3 &&& (3 : Int32)) = (1 : Int32)
    · refine own_g (own_fr m p0 q0 p2 p3 yb y2 b36 158 1 0 of ln .unset .unset [(.int (((p3.toUInt32 >>> ((2 : Int32) &&& 31).toUInt32).toInt32) &&& (255 : Int32))), (.int 1), (.ref b36)]) (fun _ q => XS.icmpNo X43.here hx rfl (hb hby at_143) rfl (teq hc173).2 (XS.aload X43.here hx rfl (hb hby at_146) rfl rfl (XS.iload X43.here hx rfl (hb hby at_148) rfl (XS.iload X43.here hx rfl (hb hby at_150) rfl (XS.iconst X43.here hx rfl (hb hby at_152) (XS.iushr X43.here hx rfl (hb hby at_153) rfl (XS.sipush X43.here hx rfl (hb hby at_154) (XS.iand X43.here hx rfl (hb hby at_157) rfl q)))))))) ?_
      refine own_g (own_fr m p0 q0 p2 p3 yb y2 b36 159 1 0 of ln .unset .unset [(.int ((((p3.toUInt32 >>> ((2 : Int32) &&& 31).toUInt32).toInt32) &&& (255 : Int32)).toUInt32.toUInt16.toUInt32.toInt32)), (.int 1), (.ref b36)]) (fun _ q => XS.i2c X43.here hx rfl (hb hby at_158) rfl q) ?_
      have k174_ := (k40_.trans Kq43 (allS (Or.inr sz_b36) all0))
      have o175_ := ((((((((((O0.ext E1).wr W6 g_yb).wr W11 g_yb).wr W16 g_yb).wr W21 g_yb).ext E23).wr W29 g_y2).wr W34 g_y2).ext E36).keep Kq43 (allS g_b36 all0))
      refine own_callS X43 hx hZ (y := own_y20) hown (own_h hw 162 rfl) (own_h hw 163 rfl) (own_h hw 66 rfl) (own_h hw 164 rfl) (by decide) (own_vo l Z a0 hw [] ((((p3.toUInt32 >>> ((2 : Int32) &&& 31).toUInt32).toInt32) &&& (255 : Int32)).toUInt32.toUInt16.toUInt32.toInt32) zCS fm cs T43.heap n0 (Nat.le_trans Z0 k174_.1) S_CS nCS S_SF hfm S_UT S_IN E_cs o175_ (own_c255 _)) (by decide) (by decide) rfl (g := (own_fr m p0 q0 p2 p3 yb y2 b36 159 1 0 of ln .unset .unset [(.int ((((p3.toUInt32 >>> ((2 : Int32) &&& 31).toUInt32).toInt32) &&& (255 : Int32)).toUInt32.toUInt16.toUInt32.toInt32)), (.int 1), (.ref b36)])) rfl (by rw [hml]; rfl) (argsL := [(.int ((((p3.toUInt32 >>> ((2 : Int32) &&& 31).toUInt32).toInt32) &&& (255 : Int32)).toUInt32.toUInt16.toUInt32.toInt32))]) (rest := [(.int 1), (.ref b36)]) (lenOf own_pd__28C_29Ljava_2flang_2fString_3b rfl) rfl (W := 2) (Nat.le_of_eq rfl) (hb hby at_159) rfl (by decide) (by decide) ?_
      rintro rv176 T176 L176 X176 ⟨tt, rfl, Nq176, Kq176, sz176, Et176⟩
      have N176 := Fr.app N43 Nq176
      show own_Fin p e below _ T176 (own_fr m p0 q0 p2 p3 yb y2 b36 162 1 0 of ln .unset .unset [(.ref tt), (.int 1), (.ref b36)])
      have C177 := C44.trans (CHr.keep Kq176 sf0 C44.1)
      have a179_tx := (A_txq43.keep Kq176 nin0)
      obtain ⟨cl178, Ar178, qa178, -⟩ := id a179_tx
      have f180_b36 := (F_textsq43.keep Kq176 nin0)
      have f181_b36 := (F_utf8q43.keep Kq176 nin0)
      have f182_b36 := (F_utf8Offsetsq43.keep Kq176 nin0)
      have f183_b36 := (F_utf8Lengthsq43.keep Kq176 nin0)
      have f184_b36 := (F_unavailableq43.keep Kq176 nin0)
      have a185_u8 := (A_u8q43.keep Kq176 nin0)
      have a186_ofs := (A_ofsq43.keep Kq176 nin0)
      have a187_les := (A_lesq43.keep Kq176 nin0)
      have a188_un := (A_unq43.keep Kq176 nin0)
      have e189_b36 := (E_rq43.keep Kq176)
      have k190_ := (k174_.trans Kq176 all0)
      refine own_callV X176 hx hZ (y := own_y3) (z := own_y3) hown (own_h hw 175 rfl) (own_h hw 176 rfl) (own_nf (own_h hw 178 rfl)) (own_h hw 178 rfl) (own_h hw 177 rfl) (own_h hw 179 rfl) (own_h hw 6 rfl) (by decide) e189_b36 (own_setText1 l Z a0 hw [] b36 (.ref tt) tx u8 ofs les un kt ku ko kl kn .null .null .null .null (0 : Int32) (0 : Int32) (0 : Int32) (0 : Int32) (0 : Int32) (0 : Int32) T176.heap n0 (Nat.le_trans Z0 k190_.1) rfl rfl rfl rfl rfl RA ⟨e189_b36, f180_b36, f181_b36, f182_b36, f183_b36, f184_b36, a179_tx, a185_u8, a186_ofs, a187_les, a188_un⟩ (Sto.ofV Ar178 qa178 OvT (Ins.self Et176))) (by decide) (by decide) rfl (g := (own_fr m p0 q0 p2 p3 yb y2 b36 162 1 0 of ln .unset .unset [(.ref tt), (.int 1), (.ref b36)])) rfl (by rw [hml]; rfl) (argsL := [(.int 1), (.ref tt)]) (rest := []) (lenOf own_pd__28ILjava_2flang_2fString_3b_29V rfl) rfl (W := 0) (Nat.le_of_eq rfl) (hb hby at_162) rfl (by decide) (by decide) ?_
      rintro rv191 T191 L191 X191 ⟨rfl, Nq191, Kq191, RW191⟩
      have N191 := Fr.app N176 Nq191
      show own_Fin p e below _ T191 (own_fr m p0 q0 p2 p3 yb y2 b36 165 1 0 of ln .unset .unset [])
      have C192 := C177.trans (CHr.keep Kq191 (sfS (Safe.arv hZ.alike a179_tx (by decide)) (sfS (Safe.arv hZ.alike a185_u8 (by decide)) (sfS (Safe.arv hZ.alike a186_ofs (by decide)) (sfS (Safe.arv hZ.alike a187_les (by decide)) (sfS (Safe.arv hZ.alike a188_un (by decide)) sf0))))) C177.1)
      obtain ⟨E_rq191, F_textsq191, F_utf8q191, F_utf8Offsetsq191, F_utf8Lengthsq191, F_unavailableq191, A_txq191, A_u8q191, A_ofsq191, A_lesq191, A_unq191⟩ := RW191
      refine own_g (own_fr m p0 q0 p2 p3 yb y2 b36 201 1 0 of ln .unset .unset []) (fun _ q => XS.goto X191.here hx rfl (pc0 := 165) (pc' := 201) rfl (hb hby at_165) (by decide) (by decide) q) ?_
      have k193_ := (k190_.trans Kq191 (allS (Or.inr sz_tx) (allS (Or.inr sz_u8) (allS (Or.inr sz_ofs) (allS (Or.inr sz_les) (allS (Or.inr sz_un) all0))))))
      have o194_ := ((o175_.keep Kq176 all0).keep Kq191 (allS g_tx (allS g_u8 (allS g_ofs (allS g_les (allS g_un all0))))))
      have a195_yb := (((a41_yb.keep Kq43 (ninS ne_yb_b36 nin0)).keep Kq176 nin0).keep Kq191 (ninS ne_yb_tx (ninS ne_yb_u8 (ninS ne_yb_ofs (ninS ne_yb_les (ninS ne_yb_un nin0))))))
      have e196_yb := (((((((((((Ex1.wr W6).wr W11).wr W16).wr W21).ext E23).wr W29).wr W34).ext E36).keep Kq43).keep Kq176).keep Kq191)
      have x197_yb := (Unt.keep Kq191 (ninS ne_yb_tx (ninS ne_yb_u8 (ninS ne_yb_ofs (ninS ne_yb_les (ninS ne_yb_un nin0))))) (Unt.keep Kq176 nin0 (Unt.keep Kq43 (ninS ne_yb_b36 nin0) (Unt.ext E36 (Unt.wr W34 (Unt.wr W29 (Unt.ext E23 (Unt.wr W21 (Unt.wr W16 (Unt.wr W11 (Unt.wr W6 Un1)))))))))))
      exact J201 _ _ _ (.ref tt) .null (0 : Int32) (0 : Int32) (0 : Int32) (X191.more (by decide) (by decide)) rfl N191 C192 k193_ o194_ ⟨E_rq191, F_textsq191, F_utf8q191, F_utf8Offsetsq191, F_utf8Lengthsq191, F_unavailableq191, A_txq191, A_u8q191, A_ofsq191, A_lesq191, A_unq191⟩ rfl rfl a195_yb e196_yb x197_yb
    · refine own_g (own_fr m p0 q0 p2 p3 yb y2 b36 171 1 0 of ln .unset .unset [(.int 2), (.int (p3 &&& (3 : Int32)))]) (fun _ q => XS.icmpYes X43.here hx rfl (pc0 := 143) (pc' := 168) rfl (hb hby at_143) rfl (feq hc173).2 (by decide) (by decide) (XS.iload X43.here hx rfl (hb hby at_168) rfl (XS.iconst X43.here hx rfl (hb hby at_170) q))) ?_
      by_cases hc198 : (p3 &&& (3 : Int32)) = (2 : Int32)
      · refine own_g (own_fr m p0 q0 p2 p3 yb y2 b36 178 1 0 of ln .unset .unset [(.int 1), (.ref b36)]) (fun _ q => XS.icmpNo X43.here hx rfl (hb hby at_171) rfl (teq hc198).2 (XS.aload X43.here hx rfl (hb hby at_174) rfl rfl (XS.iload X43.here hx rfl (hb hby at_176) rfl q))) ?_
        have k199_ := (k40_.trans Kq43 (allS (Or.inr sz_b36) all0))
        refine own_callV X43 hx hZ (y := own_y4) (z := own_y4) hown (own_h hw 157 rfl) (own_h hw 158 rfl) (own_nf (own_h hw 160 rfl)) (own_h hw 160 rfl) (own_h hw 159 rfl) (own_h hw 161 rfl) (own_h hw 6 rfl) (by decide) E_rq43 (own_setUn1 l Z a0 hw [] b36 tx u8 ofs les un kt ku ko kl kn .null .null .null .null (0 : Int32) (0 : Int32) (0 : Int32) (0 : Int32) (0 : Int32) (0 : Int32) T43.heap n0 (Nat.le_trans Z0 k199_.1) rfl rfl rfl rfl RA ⟨E_rq43, F_textsq43, F_utf8q43, F_utf8Offsetsq43, F_utf8Lengthsq43, F_unavailableq43, A_txq43, A_u8q43, A_ofsq43, A_lesq43, A_unq43⟩ ) (by decide) (by decide) rfl (g := (own_fr m p0 q0 p2 p3 yb y2 b36 178 1 0 of ln .unset .unset [(.int 1), (.ref b36)])) rfl (by rw [hml]; rfl) (argsL := [(.int 1)]) (rest := []) (lenOf own_pd__28I_29V rfl) rfl (W := 0) (Nat.le_of_eq rfl) (hb hby at_178) rfl (by decide) (by decide) ?_
        rintro rv200 T200 L200 X200 ⟨rfl, Nq200, Kq200, RW200⟩
        have N200 := Fr.app N43 Nq200
        show own_Fin p e below _ T200 (own_fr m p0 q0 p2 p3 yb y2 b36 181 1 0 of ln .unset .unset [])
        have C201 := C44.trans (CHr.keep Kq200 (sfS (Safe.arv hZ.alike A_txq43 (by decide)) (sfS (Safe.arv hZ.alike A_u8q43 (by decide)) (sfS (Safe.arv hZ.alike A_ofsq43 (by decide)) (sfS (Safe.arv hZ.alike A_lesq43 (by decide)) (sfS (Safe.arv hZ.alike A_unq43 (by decide)) sf0))))) C44.1)
        obtain ⟨E_rq200, F_textsq200, F_utf8q200, F_utf8Offsetsq200, F_utf8Lengthsq200, F_unavailableq200, A_txq200, A_u8q200, A_ofsq200, A_lesq200, A_unq200⟩ := RW200
        refine own_g (own_fr m p0 q0 p2 p3 yb y2 b36 201 1 0 of ln .unset .unset []) (fun _ q => XS.goto X200.here hx rfl (pc0 := 181) (pc' := 201) rfl (hb hby at_181) (by decide) (by decide) q) ?_
        have k202_ := (k199_.trans Kq200 (allS (Or.inr sz_tx) (allS (Or.inr sz_u8) (allS (Or.inr sz_ofs) (allS (Or.inr sz_les) (allS (Or.inr sz_un) all0))))))
        have o203_ := (((((((((((O0.ext E1).wr W6 g_yb).wr W11 g_yb).wr W16 g_yb).wr W21 g_yb).ext E23).wr W29 g_y2).wr W34 g_y2).ext E36).keep Kq43 (allS g_b36 all0)).keep Kq200 (allS g_tx (allS g_u8 (allS g_ofs (allS g_les (allS g_un all0))))))
        have a204_yb := ((a41_yb.keep Kq43 (ninS ne_yb_b36 nin0)).keep Kq200 (ninS ne_yb_tx (ninS ne_yb_u8 (ninS ne_yb_ofs (ninS ne_yb_les (ninS ne_yb_un nin0))))))
        have e205_yb := ((((((((((Ex1.wr W6).wr W11).wr W16).wr W21).ext E23).wr W29).wr W34).ext E36).keep Kq43).keep Kq200)
        have x206_yb := (Unt.keep Kq200 (ninS ne_yb_tx (ninS ne_yb_u8 (ninS ne_yb_ofs (ninS ne_yb_les (ninS ne_yb_un nin0))))) (Unt.keep Kq43 (ninS ne_yb_b36 nin0) (Unt.ext E36 (Unt.wr W34 (Unt.wr W29 (Unt.ext E23 (Unt.wr W21 (Unt.wr W16 (Unt.wr W11 (Unt.wr W6 Un1))))))))))
        exact J201 _ _ _ .null .null (0 : Int32) (0 : Int32) (1 : Int32) (X200.more (by decide) (by decide)) rfl N200 C201 k202_ o203_ ⟨E_rq200, F_textsq200, F_utf8q200, F_utf8Offsetsq200, F_utf8Lengthsq200, F_unavailableq200, A_txq200, A_u8q200, A_ofsq200, A_lesq200, A_unq200⟩ rfl rfl a204_yb e205_yb x206_yb
      · refine own_g (own_fr m p0 q0 p2 p3 yb y2 b36 187 1 0 of ln .unset .unset [(.int 3), (.int (p3 &&& (3 : Int32)))]) (fun _ q => XS.icmpYes X43.here hx rfl (pc0 := 171) (pc' := 184) rfl (hb hby at_171) rfl (feq hc198).2 (by decide) (by decide) (XS.iload X43.here hx rfl (hb hby at_184) rfl (XS.iconst X43.here hx rfl (hb hby at_186) q))) ?_
        by_cases hc207 : (p3 &&& (3 : Int32)) = (3 : Int32)
        · refine own_g (own_fr m p0 q0 p2 p3 yb y2 b36 198 1 0 of ln .unset .unset [(.int 2), (.int 0), (.ref y2), (.int 1), (.ref b36)]) (fun _ q => XS.icmpNo X43.here hx rfl (hb hby at_187) rfl (teq hc207).2 (XS.aload X43.here hx rfl (hb hby at_190) rfl rfl (XS.iload X43.here hx rfl (hb hby at_192) rfl (XS.aload X43.here hx rfl (hb hby at_194) rfl rfl (XS.iconst X43.here hx rfl (hb hby at_196) (XS.iconst X43.here hx rfl (hb hby at_197) q)))))) ?_
          have e208_y2 := ((((Ex23.wr W29).wr W34).ext E36).keep Kq43)
          obtain ⟨cl209, Ar209, qa209, -⟩ := id A_u8q43
          have k210_ := (k40_.trans Kq43 (allS (Or.inr sz_b36) all0))
          refine own_callV X43 hx hZ (y := own_y5) (z := own_y5) hown (own_h hw 29 rfl) (own_h hw 30 rfl) (own_nf (own_h hw 32 rfl)) (own_h hw 32 rfl) (own_h hw 31 rfl) (own_h hw 33 rfl) (own_h hw 6 rfl) (by decide) E_rq43 (own_setUtf8_1 l Z a0 hw [] b36 y2 (0 : Int32) (2 : Int32) tx u8 ofs les un kt ku ko kl kn .null .null .null .null (0 : Int32) (0 : Int32) (0 : Int32) (0 : Int32) (0 : Int32) (0 : Int32) T43.heap n0 (Nat.le_trans Z0 k210_.1) rfl rfl rfl rfl RA ⟨E_rq43, F_textsq43, F_utf8q43, F_utf8Offsetsq43, F_utf8Lengthsq43, F_unavailableq43, A_txq43, A_u8q43, A_ofsq43, A_lesq43, A_unq43⟩ (Sto.ofVA Ar209 qa209 OvU (Ins.self e208_y2))) (by decide) (by decide) rfl (g := (own_fr m p0 q0 p2 p3 yb y2 b36 198 1 0 of ln .unset .unset [(.int 2), (.int 0), (.ref y2), (.int 1), (.ref b36)])) rfl (by rw [hml]; rfl) (argsL := [(.int 1), (.ref y2), (.int 0), (.int 2)]) (rest := []) (lenOf own_pd__28I_5bBII_29V rfl) rfl (W := 0) (Nat.le_of_eq rfl) (hb hby at_198) rfl (by decide) (by decide) ?_
          rintro rv211 T211 L211 X211 ⟨rfl, Nq211, Kq211, RW211⟩
          have N211 := Fr.app N43 Nq211
          show own_Fin p e below _ T211 (own_fr m p0 q0 p2 p3 yb y2 b36 201 1 0 of ln .unset .unset [])
          have C212 := C44.trans (CHr.keep Kq211 (sfS (Safe.arv hZ.alike A_txq43 (by decide)) (sfS (Safe.arv hZ.alike A_u8q43 (by decide)) (sfS (Safe.arv hZ.alike A_ofsq43 (by decide)) (sfS (Safe.arv hZ.alike A_lesq43 (by decide)) (sfS (Safe.arv hZ.alike A_unq43 (by decide)) sf0))))) C44.1)
          obtain ⟨E_rq211, F_textsq211, F_utf8q211, F_utf8Offsetsq211, F_utf8Lengthsq211, F_unavailableq211, A_txq211, A_u8q211, A_ofsq211, A_lesq211, A_unq211⟩ := RW211
          have k213_ := (k210_.trans Kq211 (allS (Or.inr sz_tx) (allS (Or.inr sz_u8) (allS (Or.inr sz_ofs) (allS (Or.inr sz_les) (allS (Or.inr sz_un) all0))))))
          have o214_ := (((((((((((O0.ext E1).wr W6 g_yb).wr W11 g_yb).wr W16 g_yb).wr W21 g_yb).ext E23).wr W29 g_y2).wr W34 g_y2).ext E36).keep Kq43 (allS g_b36 all0)).keep Kq211 (allS g_tx (allS g_u8 (allS g_ofs (allS g_les (allS g_un all0))))))
          have a215_yb := ((a41_yb.keep Kq43 (ninS ne_yb_b36 nin0)).keep Kq211 (ninS ne_yb_tx (ninS ne_yb_u8 (ninS ne_yb_ofs (ninS ne_yb_les (ninS ne_yb_un nin0))))))
          have e216_yb := ((((((((((Ex1.wr W6).wr W11).wr W16).wr W21).ext E23).wr W29).wr W34).ext E36).keep Kq43).keep Kq211)
          have x217_yb := (Unt.keep Kq211 (ninS ne_yb_tx (ninS ne_yb_u8 (ninS ne_yb_ofs (ninS ne_yb_les (ninS ne_yb_un nin0))))) (Unt.keep Kq43 (ninS ne_yb_b36 nin0) (Unt.ext E36 (Unt.wr W34 (Unt.wr W29 (Unt.ext E23 (Unt.wr W21 (Unt.wr W16 (Unt.wr W11 (Unt.wr W6 Un1))))))))))
          exact J201 _ _ _ .null (.ref y2) (0 : Int32) (2 : Int32) (0 : Int32) (X211.more (by decide) (by decide)) rfl N211 C212 k213_ o214_ ⟨E_rq211, F_textsq211, F_utf8q211, F_utf8Offsetsq211, F_utf8Lengthsq211, F_unavailableq211, A_txq211, A_u8q211, A_ofsq211, A_lesq211, A_unq211⟩ rfl rfl a215_yb e216_yb x217_yb
        · refine own_g (own_fr m p0 q0 p2 p3 yb y2 b36 201 1 0 of ln .unset .unset []) (fun _ q => XS.icmpYes X43.here hx rfl (pc0 := 187) (pc' := 201) rfl (hb hby at_187) rfl (feq hc207).2 (by decide) (by decide) q) ?_
          have k218_ := (k40_.trans Kq43 (allS (Or.inr sz_b36) all0))
          have o219_ := ((((((((((O0.ext E1).wr W6 g_yb).wr W11 g_yb).wr W16 g_yb).wr W21 g_yb).ext E23).wr W29 g_y2).wr W34 g_y2).ext E36).keep Kq43 (allS g_b36 all0))
          have a220_yb := (a41_yb.keep Kq43 (ninS ne_yb_b36 nin0))
          have e221_yb := (((((((((Ex1.wr W6).wr W11).wr W16).wr W21).ext E23).wr W29).wr W34).ext E36).keep Kq43)
          have x222_yb := (Unt.keep Kq43 (ninS ne_yb_b36 nin0) (Unt.ext E36 (Unt.wr W34 (Unt.wr W29 (Unt.ext E23 (Unt.wr W21 (Unt.wr W16 (Unt.wr W11 (Unt.wr W6 Un1)))))))))
          exact J201 _ _ _ .null .null (0 : Int32) (0 : Int32) (0 : Int32) (X43.more (by decide) (by decide)) rfl N43 C44 k218_ o219_ ⟨E_rq43, F_textsq43, F_utf8q43, F_utf8Offsetsq43, F_utf8Lengthsq43, F_unavailableq43, A_txq43, A_u8q43, A_ofsq43, A_lesq43, A_unq43⟩ rfl rfl a220_yb e221_yb x222_yb
set_option maxRecDepth 65536 in
set_option maxHeartbeats 40000000 in
theorem own_comes {Post : Tables → Env → Array Value → State → Outcome → State → Prop} (hpost : ∀ tb e args s v u, (limb_1_1.after args s (.returned v) u = true ∧ limb_1_2.after args s (.returned v) u = true ∧ True) → ReturnedEndW s (.returned v) u (Jvm.fieldLocs frame_1_writes args s ++ Jvm.arrayLocs frame_1_arrays args s ++ Jvm.staticLocs frame_1_statics s) 40 1216 → Post tb e args s (.returned v) u) :
    ArmFor flags0 classFile x code maxLocals ret World_1 tables_1 room_1 Calls_1 rest_1 Pre_1 Post := by
  intro l hfl _ _ p e ha hc hk s m args below hf hA hF happ hP
  obtain ⟨hcalls, hrest, hpre⟩ := hP
  obtain ⟨-, -, -, hnamed, -, -, -, hat⟩ := (Spec.applies_iff hf).mp happ
  obtain ⟨hg, hn⟩ := and_e (Cond.before_iff.mp (show (Jvm.Cond.and given_1 narrow_1).before args s = true from hpre))
  obtain ⟨g0, g1⟩ := and_e hg
  obtain ⟨g2, g3⟩ := and_e g1
  obtain ⟨g4, g5⟩ := and_e g3
  obtain ⟨g6, g7⟩ := and_e g5
  obtain ⟨w0, w1, w2, w3, rfl⟩ : ∃ w0 w1 w2 w3 : Value, args = #[w0, w1, w2, w3] := by
    have hs : args.size = 4 := by simpa [Jvm.Cond.value, given_1] using g0
    obtain ⟨L⟩ := args
    match L, hs with
    | [w0, w1, w2, w3], _ => exact ⟨w0, w1, w2, w3, rfl⟩
  have hw := fun d (hd : d ∈ tables_1) => atoms_spec (ws := Jvm.Cond.code x code maxLocals ret :: tables_1) hat d (List.mem_cons_of_mem _ hd)
  have hfit : Fit s := fun {y c} hc i hi => by
    obtain ⟨ha, rfl⟩ := Array.getElem?_eq_some_iff.mp hc
    have q := List.all_eq_true.mp ((Array.all_eq_true_iff_forall_mem.mp hF) _ (Array.getElem_mem ha)) i (List.mem_range.mpr hi)
    simpa [Array.getElem?_eq_getElem hi] using q
  obtain ⟨i0, ei0⟩ := is_v g2
  obtain rfl : w0 = (.int i0) := Option.some.inj ei0
  obtain ⟨i1, ei1⟩ := isL_v g4
  obtain rfl : w1 = (.long i1) := Option.some.inj ei1
  obtain ⟨i2, ei2⟩ := is_v g6
  obtain rfl : w2 = (.int i2) := Option.some.inj ei2
  obtain ⟨i3, ei3⟩ := is_v g7
  obtain rfl : w3 = (.int i3) := Option.some.inj ei3
  obtain ⟨hsets, hown0⟩ := atoms_of _ (rest_1_c_eq ▸ (show rest_1_c.before _ s = true from hrest))
  have hr0 := Cond.before_iff.mp hown0
  obtain ⟨zCS, eCS⟩ := is_v (Cond.before_iff.mp (hsets _ (List.mem_of_getElem? (i := 7) rfl)))
  have S_CS := Sta.start eCS (Or.inl (hsets _ (List.mem_of_getElem? (i := 6) rfl)))
  have hcw : Jvm.Lit.compactW.before _ s = true := (hsets _ (List.mem_of_getElem? (i := 8) rfl))
  have nCS : ¬ zCS = 0 := fun q => by subst q; have hq := not_v (Cond.before_iff.mp (hsets _ (List.mem_of_getElem? (i := 8) rfl))); simp [Jvm.Cond.value, eCS, Term.int_eval] at hq
  have CH0 : CHv s consts_1 s.vm s.heap := CHv.start (own_hEL hw) (fun p hp => hcalls.1 p hp) hcw (own_h hw 0 rfl) (own_h hw 65 rfl)
  obtain ⟨fm, eSF, hfm⟩ := isR_v (Cond.before_iff.mp (hsets _ (List.mem_of_getElem? (i := 14) rfl)))
  have S_SF := Sta.start eSF (Or.inl (hsets _ (List.mem_of_getElem? (i := 13) rfl)))
  obtain ⟨cs, eUT⟩ := exa_v (Cond.before_iff.mp (hsets _ (List.mem_of_getElem? (i := 5) rfl)))
  have E_cs := Exa.start eUT (Cond.before_iff.mp (hsets _ (List.mem_of_getElem? (i := 5) rfl)))
  have S_UT := Sta.start eUT (Or.inl (hsets _ (List.mem_of_getElem? (i := 1) rfl)))
  obtain ⟨cs2, eIN⟩ := exa_v (Cond.before_iff.mp (hsets _ (List.mem_of_getElem? (i := 17) rfl)))
  obtain rfl : cs = cs2 := own_eqR (Cond.before_iff.mp (hsets _ (List.mem_of_getElem? (i := 4) rfl))) eUT eIN
  have S_IN := Sta.start eIN (Or.inl (hsets _ (List.mem_of_getElem? (i := 3) rfl)))
  obtain ⟨n, o, h1, h2, h3, _, L, rfl, ⟨rfl, N⟩, -, hq⟩ := own_rm0 l s _ hw tables_1 i0 i1 i2 i3 zCS fm cs s.heap s.heap.size (Nat.le_refl _) S_CS nCS S_SF hfm S_UT S_IN E_cs (Old.start s) p e ha hc hk s m _ below hf ((Spec.applies_iff_loose hf).mp happ).1 ⟨rfl, State.Warmed39.refl s, rfl, CH0⟩ trivial
  refine ⟨n, _, h1, h2, h3, hpost _ _ _ _ _ _ ⟨Cond.after_iff.mpr rfl, Cond.after_iff.mpr (eq_i res_at (Term.int_eval (1)) rfl), trivial⟩ ⟨hq.1, hq.2.1, hq.2.2.1, (hq.2.2.2.sift fun y hy => Or.inr (N y hy)).mono (by decide) (by decide)⟩⟩
theorem main_1_1 : Claimed_1_1 := own_comes fun _ _ _ _ _ _ h hF => ⟨h.1, hF⟩
theorem main_1_2 : Claimed_1_2 := own_comes fun _ _ _ _ _ _ h hF => ⟨h.2.1, hF⟩
end Jvm.Pilot.@@N@@
namespace Jvm.Pilot.@@N@@
open Jvm Jvm.ClassFile Sem Op Lib Jvm.Free Jvm.Stand Jvm.Pilot.@@N@@.Jvm.D
/-! MADE BY PROGRAM (witnessworld.py) out of the Statement's table words and the real class files: 30 classes; the members and pool entries that the words name. The judged class is class 1, her method 2. -/
namespace start1
open Jvm.ClassFile
def u (s : String) : CpInfo := .utf8 (stringToUtf16 s)
/-- a pool by its gaps: so many unusable entries, then the entry; so many at the end -/
def gap : Nat → List CpInfo → List CpInfo
  | 0, r => r
  | n + 1, r => .unusable :: gap n r
def poolList (es : List (Nat × CpInfo)) (last : Nat) : List CpInfo := es.foldr (fun e r => gap e.1 (e.2 :: r)) (gap last [])
def pool (es : List (Nat × CpInfo)) (last : Nat) : Array CpInfo := ⟨poolList es last⟩
def fileOf (pool : Array CpInfo) (this : Nat) (attrs : Array Attribute := #[]) (ms : Array MethodInfo := #[]) (fl : Nat := 33) (sup : Nat := 0) (ifs : Array Nat := #[]) (fds : Array FieldInfo := #[]) : ClassFile where
  minorVersion := 0
  majorVersion := 65
  constantPool := pool
  accessFlags := fl
  thisClass := this
  superClass := sup
  interfaces := ifs
  fields := fds
  methods := ms
  attributes := attrs
def plain (name : String) (sup : Option ClassId) : Class where
  name := name
  kind := .ordinary
  loader := none
  accessFlags := 33
  super := sup
  interfaces := #[]
  cf := none
  fields := #[]
  methods := #[]
  instanceTypes := #[]
  staticTypes := #[]
  resolved := #[]
  callSites := []
  init := .initialized
  statics := none
  mirror := none

def pool0 : Array CpInfo := pool [(5, u "<init>"), (0, u "()V"), (1, .class_ 10), (1, u "java/lang/Object"), (85, u "clone"), (0, u "()Ljava/lang/Object;")] 26

def k0c0 : Code := { maxStack := 0, maxLocals := 1, code := object_method_1_code, exceptionTable := #[], attributes := #[] }
def k0m0 : Method := { name := "<init>", desc := "()V", sig := { parameters := [], returnType := none }, accessFlags := 1, code := some k0c0 }
def k0m1 : Method := { name := "clone", desc := "()Ljava/lang/Object;", sig := { parameters := [], returnType := some (.object "java/lang/Object") }, accessFlags := 260, code := none }
/-- java/lang/Object -/
def k0 : Class := { plain "java/lang/Object" none with
  accessFlags := 33
  interfaces := #[]
  cf := some (fileOf pool0 8 #[] #[{ accessFlags := 1, nameIndex := 5, descriptorIndex := 6, attributes := #[] }, { accessFlags := 260, nameIndex := 96, descriptorIndex := 97, attributes := #[] }] 33 0 #[] #[])
  fields := #[]
  methods := #[k0m0, k0m1]
  instanceTypes := #[]
  staticTypes := #[]
  resolved := Array.replicate 124 none
  statics := none }

def pool1 : Array CpInfo := pool [(2, .class_ 4), (1, u "java/lang/Object"), (0, u "<init>"), (0, u "()V"), (0, .methodref 8 9), (0, .class_ 10), (0, .nameAndType 11 12), (0, u "java/lang/String"), (0, u "charAt"), (0, u "(I)C"), (0, .long 127), (1, .integer 2147483647), (0, .integer 8388607), (0, .class_ 18), (0, u "com/example/rowtide/rowtide/event/Row"), (0, .methodref 17 20), (0, .nameAndType 5 21), (0, u "(I)V"), (0, .methodref 8 23), (0, .nameAndType 24 25), (0, u "valueOf"), (0, u "(C)Ljava/lang/String;"), (0, .methodref 17 27), (0, .nameAndType 28 29), (0, u "setText"), (0, u "(ILjava/lang/String;)V"), (0, .methodref 17 31), (0, .nameAndType 32 21), (0, u "setUnavailable"), (0, .methodref 17 34), (0, .nameAndType 35 36), (0, u "setUtf8"), (0, u "(I[BII)V"), (0, .methodref 17 38), (0, .nameAndType 39 40), (0, u "isNull"), (0, u "(I)Z"), (0, .methodref 17 42), (0, .nameAndType 43 40), (0, u "isUnavailable"), (0, .methodref 17 45), (0, .nameAndType 46 47), (0, u "utf8"), (0, u "(I)[B"), (0, .methodref 17 49), (0, .nameAndType 50 51), (0, u "utf8Offset"), (0, u "(I)I"), (0, .methodref 17 53), (0, .nameAndType 54 51), (0, u "utf8Length"), (0, .methodref 17 56), (0, .nameAndType 57 58), (0, u "text"), (0, u "(I)Ljava/lang/String;"), (0, .methodref 8 60), (0, .nameAndType 61 62), (0, u "length"), (0, u "()I"), (0, .methodref 64 65), (0, .class_ 66), (0, .nameAndType 67 68), (0, u "com/example/rowtide/rowtide/event/RowSetUtf8PinLaw"), (0, u "charOk"), (0, u "(Ljava/lang/String;II[BI)Z"), (3, u "law"), (0, u "(IJII)Z")] 4

def k1m0 : Method := { name := "<init>", desc := "()V", sig := { parameters := [], returnType := none }, accessFlags := 1, code := none }
def k1c1 : Code := { maxStack := 4, maxLocals := 5, code := method_2_code, exceptionTable := #[], attributes := #[] }
def k1m1 : Method := { name := "charOk", desc := "(Ljava/lang/String;II[BI)Z", sig := { parameters := [(.object "java/lang/String"), .int, .int, (.array .byte), .int], returnType := some .boolean }, accessFlags := 10, code := some k1c1 }
def k1c2 : Code := { maxStack := 6, maxLocals := 15, code := code, exceptionTable := #[], attributes := #[] }
def k1m2 : Method := { name := "law", desc := "(IJII)Z", sig := { parameters := [.int, .long, .int, .int], returnType := some .boolean }, accessFlags := 9, code := some k1c2 }
/-- com/example/rowtide/rowtide/event/RowSetUtf8PinLaw -/
def k1 : Class := { plain "com/example/rowtide/rowtide/event/RowSetUtf8PinLaw" (some 0) with
  accessFlags := 49
  interfaces := #[]
  cf := some (fileOf pool1 64 #[] #[{ accessFlags := 1, nameIndex := 5, descriptorIndex := 6, attributes := #[] }, { accessFlags := 10, nameIndex := 67, descriptorIndex := 68, attributes := #[] }, { accessFlags := 9, nameIndex := 72, descriptorIndex := 73, attributes := #[] }] 49 2 #[] #[])
  fields := #[]
  methods := #[k1m0, k1m1, k1m2]
  instanceTypes := #[]
  staticTypes := #[]
  resolved := Array.replicate 78 none
  statics := none }

def pool2 : Array CpInfo := pool [(1, .methodref 2 3), (0, .class_ 4), (0, .nameAndType 5 6), (0, u "java/lang/Object"), (0, u "<init>"), (0, u "()V"), (0, .class_ 8), (0, u "java/lang/String"), (0, .fieldref 10 11), (0, .class_ 12), (0, .nameAndType 13 14), (0, u "com/example/rowtide/rowtide/event/Row"), (0, u "texts"), (0, u "[Ljava/lang/String;"), (0, .class_ 16), (0, u "[B"), (0, .fieldref 10 18), (0, .nameAndType 19 20), (0, u "utf8"), (0, u "[[B"), (0, .fieldref 10 22), (0, .nameAndType 23 24), (0, u "utf8Offsets"), (0, u "[I"), (0, .fieldref 10 26), (0, .nameAndType 27 24), (0, u "utf8Lengths"), (0, .fieldref 10 29), (0, .nameAndType 30 31), (0, u "unavailable"), (0, u "[Z"), (0, .fieldref 33 34), (0, .class_ 35), (0, .nameAndType 36 37), (0, u "java/nio/charset/StandardCharsets"), (0, u "UTF_8"), (0, u "Ljava/nio/charset/Charset;"), (0, .methodref 7 39), (0, .nameAndType 5 40), (0, u "([BIILjava/nio/charset/Charset;)V"), (0, u "(I)V"), (4, u "text"), (0, u "(I)Ljava/lang/String;"), (1, u "isNull"), (0, u "(I)Z"), (0, u "isUnavailable"), (0, u "setText"), (0, u "(ILjava/lang/String;)V"), (0, u "setUtf8"), (0, u "(I[BII)V"), (0, u "setUnavailable"), (0, u "(I)[B"), (0, u "utf8Offset"), (0, u "(I)I"), (0, u "utf8Length")] 2

def k2c0 : Code := { maxStack := 2, maxLocals := 2, code := prog_10_method_1_code, exceptionTable := #[], attributes := #[] }
def k2m0 : Method := { name := "<init>", desc := "(I)V", sig := { parameters := [.int], returnType := none }, accessFlags := 1, code := some k2c0 }
def k2c1 : Code := { maxStack := 8, maxLocals := 2, code := prog_10_method_3_code, exceptionTable := #[], attributes := #[] }
def k2m1 : Method := { name := "text", desc := "(I)Ljava/lang/String;", sig := { parameters := [.int], returnType := some (.object "java/lang/String") }, accessFlags := 1, code := some k2c1 }
def k2c2 : Code := { maxStack := 2, maxLocals := 2, code := prog_10_method_4_code, exceptionTable := #[], attributes := #[] }
def k2m2 : Method := { name := "isNull", desc := "(I)Z", sig := { parameters := [.int], returnType := some .boolean }, accessFlags := 1, code := some k2c2 }
def k2c3 : Code := { maxStack := 2, maxLocals := 2, code := prog_10_method_5_code, exceptionTable := #[], attributes := #[] }
def k2m3 : Method := { name := "isUnavailable", desc := "(I)Z", sig := { parameters := [.int], returnType := some .boolean }, accessFlags := 1, code := some k2c3 }
def k2c4 : Code := { maxStack := 3, maxLocals := 3, code := prog_10_method_6_code, exceptionTable := #[], attributes := #[] }
def k2m4 : Method := { name := "setText", desc := "(ILjava/lang/String;)V", sig := { parameters := [.int, (.object "java/lang/String")], returnType := none }, accessFlags := 1, code := some k2c4 }
def k2c5 : Code := { maxStack := 3, maxLocals := 5, code := prog_10_method_7_code, exceptionTable := #[], attributes := #[] }
def k2m5 : Method := { name := "setUtf8", desc := "(I[BII)V", sig := { parameters := [.int, (.array .byte), .int, .int], returnType := none }, accessFlags := 1, code := some k2c5 }
def k2c6 : Code := { maxStack := 3, maxLocals := 2, code := prog_10_method_8_code, exceptionTable := #[], attributes := #[] }
def k2m6 : Method := { name := "setUnavailable", desc := "(I)V", sig := { parameters := [.int], returnType := none }, accessFlags := 1, code := some k2c6 }
def k2c7 : Code := { maxStack := 2, maxLocals := 2, code := prog_10_method_9_code, exceptionTable := #[], attributes := #[] }
def k2m7 : Method := { name := "utf8", desc := "(I)[B", sig := { parameters := [.int], returnType := some (.array .byte) }, accessFlags := 0, code := some k2c7 }
def k2c8 : Code := { maxStack := 2, maxLocals := 2, code := prog_10_method_10_code, exceptionTable := #[], attributes := #[] }
def k2m8 : Method := { name := "utf8Offset", desc := "(I)I", sig := { parameters := [.int], returnType := some .int }, accessFlags := 0, code := some k2c8 }
def k2c9 : Code := { maxStack := 2, maxLocals := 2, code := prog_10_method_11_code, exceptionTable := #[], attributes := #[] }
def k2m9 : Method := { name := "utf8Length", desc := "(I)I", sig := { parameters := [.int], returnType := some .int }, accessFlags := 0, code := some k2c9 }
/-- com/example/rowtide/rowtide/event/Row -/
def k2 : Class := { plain "com/example/rowtide/rowtide/event/Row" (some 0) with
  accessFlags := 49
  interfaces := #[]
  cf := some (fileOf pool2 10 #[] #[{ accessFlags := 1, nameIndex := 5, descriptorIndex := 41, attributes := #[] }, { accessFlags := 1, nameIndex := 46, descriptorIndex := 47, attributes := #[] }, { accessFlags := 1, nameIndex := 49, descriptorIndex := 50, attributes := #[] }, { accessFlags := 1, nameIndex := 51, descriptorIndex := 50, attributes := #[] }, { accessFlags := 1, nameIndex := 52, descriptorIndex := 53, attributes := #[] }, { accessFlags := 1, nameIndex := 54, descriptorIndex := 55, attributes := #[] }, { accessFlags := 1, nameIndex := 56, descriptorIndex := 41, attributes := #[] }, { accessFlags := 0, nameIndex := 19, descriptorIndex := 57, attributes := #[] }, { accessFlags := 0, nameIndex := 58, descriptorIndex := 59, attributes := #[] }, { accessFlags := 0, nameIndex := 60, descriptorIndex := 59, attributes := #[] }] 49 2 #[] #[{ accessFlags := 18, nameIndex := 13, descriptorIndex := 14, attributes := #[] }, { accessFlags := 18, nameIndex := 19, descriptorIndex := 20, attributes := #[] }, { accessFlags := 18, nameIndex := 23, descriptorIndex := 24, attributes := #[] }, { accessFlags := 18, nameIndex := 27, descriptorIndex := 24, attributes := #[] }, { accessFlags := 18, nameIndex := 30, descriptorIndex := 31, attributes := #[] }])
  fields := #[{ name := "texts", type := (.array (.object "java/lang/String")), accessFlags := 18, slot := 0, constantValue := 0 }, { name := "utf8", type := (.array (.array .byte)), accessFlags := 18, slot := 1, constantValue := 0 }, { name := "utf8Offsets", type := (.array .int), accessFlags := 18, slot := 2, constantValue := 0 }, { name := "utf8Lengths", type := (.array .int), accessFlags := 18, slot := 3, constantValue := 0 }, { name := "unavailable", type := (.array .boolean), accessFlags := 18, slot := 4, constantValue := 0 }]
  methods := #[k2m0, k2m1, k2m2, k2m3, k2m4, k2m5, k2m6, k2m7, k2m8, k2m9]
  instanceTypes := #[(.array (.object "java/lang/String")), (.array (.array .byte)), (.array .int), (.array .int), (.array .boolean)]
  staticTypes := #[]
  resolved := Array.replicate 63 none
  statics := none }

def pool3 : Array CpInfo := pool [(1, .class_ 2), (0, u "java/io/Serializable"), (0, .class_ 4), (0, u "java/lang/Object")] 2

/-- java/io/Serializable -/
def k3 : Class := { plain "java/io/Serializable" (some 0) with
  accessFlags := 1537
  interfaces := #[]
  cf := some (fileOf pool3 1 #[] #[] 1537 3 #[] #[])
  fields := #[]
  methods := #[]
  instanceTypes := #[]
  staticTypes := #[]
  resolved := Array.replicate 7 none
  statics := none }

def pool4 : Array CpInfo := pool [(1, .class_ 2), (0, u "java/lang/Comparable"), (0, .class_ 4), (0, u "java/lang/Object")] 7

/-- java/lang/Comparable -/
def k4 : Class := { plain "java/lang/Comparable" (some 0) with
  accessFlags := 1537
  interfaces := #[]
  cf := some (fileOf pool4 1 #[] #[] 1537 3 #[] #[])
  fields := #[]
  methods := #[]
  instanceTypes := #[]
  staticTypes := #[]
  resolved := Array.replicate 12 none
  statics := none }

def pool5 : Array CpInfo := pool [(2, .class_ 4), (1, u "java/lang/CharSequence"), (42, .class_ 48), (0, u "java/lang/CharSequence$1CodePointIterator"), (10, .class_ 60), (0, u "java/lang/CharSequence$1CharIterator"), (5, .class_ 67), (0, u "java/lang/Object")] 63

/-- java/lang/CharSequence -/
def k5 : Class := { plain "java/lang/CharSequence" (some 0) with
  accessFlags := 1537
  interfaces := #[]
  cf := some (fileOf pool5 2 #[.nestMembers #[47, 59]] #[] 1537 66 #[] #[])
  fields := #[]
  methods := #[]
  instanceTypes := #[]
  staticTypes := #[]
  resolved := Array.replicate 131 none
  statics := none }

def pool6 : Array CpInfo := pool [(1, .class_ 2), (0, u "java/lang/constant/Constable"), (0, .class_ 4), (0, u "java/lang/Object")] 6

/-- java/lang/constant/Constable -/
def k6 : Class := { plain "java/lang/constant/Constable" (some 0) with
  accessFlags := 1537
  interfaces := #[]
  cf := some (fileOf pool6 1 #[] #[] 1537 3 #[] #[])
  fields := #[]
  methods := #[]
  instanceTypes := #[]
  staticTypes := #[]
  resolved := Array.replicate 11 none
  statics := none }

def pool7 : Array CpInfo := pool [(1, .class_ 2), (0, u "java/lang/constant/ConstantDesc"), (0, .class_ 4), (0, u "java/lang/Object")] 32

/-- java/lang/constant/ConstantDesc -/
def k7 : Class := { plain "java/lang/constant/ConstantDesc" (some 0) with
  accessFlags := 1537
  interfaces := #[]
  cf := some (fileOf pool7 1 #[] #[] 1537 3 #[] #[])
  fields := #[]
  methods := #[]
  instanceTypes := #[]
  staticTypes := #[]
  resolved := Array.replicate 37 none
  statics := none }

def pool8 : Array CpInfo := pool [(1, .methodref 2 3), (0, .class_ 4), (0, .nameAndType 5 6), (0, u "java/lang/Object"), (0, u "<init>"), (0, u "()V"), (0, .string 8), (0, u ""), (0, .fieldref 10 11), (0, .class_ 12), (0, .nameAndType 13 14), (0, u "java/lang/String"), (0, u "value"), (0, u "[B"), (0, .fieldref 10 16), (0, .nameAndType 17 18), (0, u "coder"), (0, u "B"), (2, u "hash"), (0, u "I"), (2, u "hashIsZero"), (0, u "Z"), (7, .methodref 10 35), (0, .nameAndType 36 37), (0, u "checkBoundsOffCount"), (0, u "(III)I"), (0, .fieldref 10 39), (0, .nameAndType 40 26), (0, u "COMPACT_STRINGS"), (12, u "toBytes"), (0, .methodref 55 56), (0, .class_ 57), (0, .nameAndType 58 59), (0, u "java/util/Arrays"), (0, u "copyOfRange"), (0, u "([BII)[B"), (15, .methodref 10 76), (0, .nameAndType 5 77), (0, u "(Ljava/nio/charset/Charset;[BII)V"), (0, .methodref 79 80), (0, .class_ 81), (0, .nameAndType 82 83), (0, u "java/util/Objects"), (0, u "requireNonNull"), (0, u "(Ljava/lang/Object;)Ljava/lang/Object;"), (0, .class_ 85), (0, u "java/nio/charset/Charset"), (0, .fieldref 87 88), (0, .class_ 89), (0, .nameAndType 90 91), (0, u "sun/nio/cs/UTF_8"), (0, u "INSTANCE"), (0, u "Lsun/nio/cs/UTF_8;"), (0, .methodref 93 94), (0, .class_ 95), (0, .nameAndType 96 97), (0, u "java/lang/StringCoding"), (0, u "countPositives"), (0, u "([BII)I"), (9, .class_ 109), (1, u "java/lang/StringLatin1"), (32, u "()Z"), (66, .methodref 10 210), (0, .nameAndType 5 211), (0, u "([BB)V"), (26, u "([BIILjava/nio/charset/Charset;)V"), (95, u "()I"), (0, .methodref 10 336), (0, .nameAndType 17 337), (0, u "()B"), (25, u "([BI)C"), (5, u "(C)Z"), (21, u "(II)V"), (35, u "(I)C"), (64, .methodref 10 493), (0, .nameAndType 494 142), (0, u "isLatin1"), (0, .methodref 107 496), (0, .nameAndType 497 363), (0, u "charAt"), (3, u "checkIndex"), (5, u "length"), (67, .class_ 576), (0, u "java/lang/CharSequence"), (22, u "CASE_INSENSITIVE_ORDER"), (0, u "Ljava/util/Comparator;"), (181, u "valueOf"), (0, u "(C)Ljava/lang/String;"), (231, .methodref 107 1016), (0, .nameAndType 1017 369), (0, u "canEncode"), (0, .methodref 107 1019), (0, .nameAndType 53 1020), (0, u "(C)[B"), (32, .fieldref 1054 1055), (0, .class_ 1056), (0, .nameAndType 1057 1058), (0, u "jdk/internal/util/Preconditions"), (0, u "SIOOBE_FORMATTER"), (0, u "Ljava/util/function/BiFunction;"), (0, .methodref 1054 1060), (0, .nameAndType 501 1061), (0, u "(IILjava/util/function/BiFunction;)I"), (2, u "(IIILjava/util/function/BiFunction;)I"), (0, .methodref 1054 1066), (0, .nameAndType 1067 1064), (0, u "checkFromIndexSize"), (33, u "serialPersistentFields"), (0, u "[Ljava/io/ObjectStreamField;"), (0, .class_ 1104), (0, u "java/lang/String$CaseInsensitiveComparator"), (1, .class_ 1107), (0, u "java/io/Serializable"), (0, .class_ 1109), (0, u "java/lang/Comparable"), (0, .class_ 1111), (0, u "java/lang/constant/Constable"), (0, .class_ 1113), (0, u "java/lang/constant/ConstantDesc"), (2, u "serialVersionUID"), (0, u "J"), (3, u "REPL"), (0, u "C"), (2, u "LATIN1"), (1, u "UTF16")] 323

def k8m0 : Method := { name := "<init>", desc := "()V", sig := { parameters := [], returnType := none }, accessFlags := 1, code := none }
def k8c1 : Code := { maxStack := 6, maxLocals := 5, code := jdk_42_method_10_code, exceptionTable := #[], attributes := #[] }
def k8m1 : Method := { name := "<init>", desc := "([BIILjava/nio/charset/Charset;)V", sig := { parameters := [(.array .byte), .int, .int, (.object "java/nio/charset/Charset")], returnType := none }, accessFlags := 1, code := some k8c1 }
def k8c2 : Code := { maxStack := 6, maxLocals := 11, code := jdk_42_method_11_code, exceptionTable := #[{ startPc := 800, endPc := 813, handlerPc := 816, catchType := 202 }], attributes := #[] }
def k8m2 : Method := { name := "<init>", desc := "(Ljava/nio/charset/Charset;[BII)V", sig := { parameters := [(.object "java/nio/charset/Charset"), (.array .byte), .int, .int], returnType := none }, accessFlags := 2, code := some k8c2 }
def k8c3 : Code := { maxStack := 2, maxLocals := 1, code := jdk_42_method_54_code, exceptionTable := #[], attributes := #[] }
def k8m3 : Method := { name := "length", desc := "()I", sig := { parameters := [], returnType := some .int }, accessFlags := 1, code := some k8c3 }
def k8c4 : Code := { maxStack := 2, maxLocals := 2, code := jdk_42_method_56_code, exceptionTable := #[], attributes := #[] }
def k8m4 : Method := { name := "charAt", desc := "(I)C", sig := { parameters := [.int], returnType := some .char }, accessFlags := 1, code := some k8c4 }
def k8c5 : Code := { maxStack := 4, maxLocals := 1, code := jdk_42_method_139_code, exceptionTable := #[], attributes := #[] }
def k8m5 : Method := { name := "valueOf", desc := "(C)Ljava/lang/String;", sig := { parameters := [.char], returnType := some (.object "java/lang/String") }, accessFlags := 9, code := some k8c5 }
def k8c6 : Code := { maxStack := 2, maxLocals := 3, code := jdk_42_method_151_code, exceptionTable := #[], attributes := #[] }
def k8m6 : Method := { name := "<init>", desc := "([BB)V", sig := { parameters := [(.array .byte), .byte], returnType := none }, accessFlags := 0, code := some k8c6 }
def k8c7 : Code := { maxStack := 1, maxLocals := 1, code := jdk_42_method_152_code, exceptionTable := #[], attributes := #[] }
def k8m7 : Method := { name := "coder", desc := "()B", sig := { parameters := [], returnType := some .byte }, accessFlags := 0, code := some k8c7 }
def k8c8 : Code := { maxStack := 1, maxLocals := 1, code := jdk_42_method_154_code, exceptionTable := #[], attributes := #[] }
def k8m8 : Method := { name := "isLatin1", desc := "()Z", sig := { parameters := [], returnType := some .boolean }, accessFlags := 0, code := some k8c8 }
def k8c9 : Code := { maxStack := 3, maxLocals := 2, code := jdk_42_method_155_code, exceptionTable := #[], attributes := #[] }
def k8m9 : Method := { name := "checkIndex", desc := "(II)V", sig := { parameters := [.int, .int], returnType := none }, accessFlags := 8, code := some k8c9 }
def k8c10 : Code := { maxStack := 4, maxLocals := 3, code := jdk_42_method_157_code, exceptionTable := #[], attributes := #[] }
def k8m10 : Method := { name := "checkBoundsOffCount", desc := "(III)I", sig := { parameters := [.int, .int, .int], returnType := some .int }, accessFlags := 8, code := some k8c10 }
/-- java/lang/String -/
def k8 : Class := { plain "java/lang/String" (some 0) with
  accessFlags := 49
  interfaces := #[3, 4, 5, 6, 7]
  cf := some (fileOf pool8 10 #[.nestMembers #[1103]] #[{ accessFlags := 1, nameIndex := 5, descriptorIndex := 6, attributes := #[] }, { accessFlags := 1, nameIndex := 5, descriptorIndex := 238, attributes := #[] }, { accessFlags := 2, nameIndex := 5, descriptorIndex := 77, attributes := #[] }, { accessFlags := 1, nameIndex := 507, descriptorIndex := 334, attributes := #[] }, { accessFlags := 1, nameIndex := 497, descriptorIndex := 427, attributes := #[] }, { accessFlags := 9, nameIndex := 782, descriptorIndex := 783, attributes := #[] }, { accessFlags := 0, nameIndex := 5, descriptorIndex := 211, attributes := #[] }, { accessFlags := 0, nameIndex := 17, descriptorIndex := 337, attributes := #[] }, { accessFlags := 0, nameIndex := 494, descriptorIndex := 142, attributes := #[] }, { accessFlags := 8, nameIndex := 501, descriptorIndex := 391, attributes := #[] }, { accessFlags := 8, nameIndex := 36, descriptorIndex := 37, attributes := #[] }] 49 2 #[1106, 1108, 575, 1110, 1112] #[{ accessFlags := 18, nameIndex := 13, descriptorIndex := 14, attributes := #[] }, { accessFlags := 18, nameIndex := 17, descriptorIndex := 18, attributes := #[] }, { accessFlags := 2, nameIndex := 21, descriptorIndex := 22, attributes := #[] }, { accessFlags := 2, nameIndex := 25, descriptorIndex := 26, attributes := #[] }, { accessFlags := 26, nameIndex := 1116, descriptorIndex := 1117, attributes := #[] }, { accessFlags := 24, nameIndex := 40, descriptorIndex := 26, attributes := #[] }, { accessFlags := 26, nameIndex := 1101, descriptorIndex := 1102, attributes := #[] }, { accessFlags := 26, nameIndex := 1121, descriptorIndex := 1122, attributes := #[] }, { accessFlags := 25, nameIndex := 599, descriptorIndex := 600, attributes := #[] }, { accessFlags := 24, nameIndex := 1125, descriptorIndex := 18, attributes := #[] }, { accessFlags := 24, nameIndex := 1127, descriptorIndex := 18, attributes := #[] }])
  fields := #[{ name := "value", type := (.array .byte), accessFlags := 18, slot := 0, constantValue := 0 }, { name := "coder", type := .byte, accessFlags := 18, slot := 1, constantValue := 0 }, { name := "hash", type := .int, accessFlags := 2, slot := 2, constantValue := 0 }, { name := "hashIsZero", type := .boolean, accessFlags := 2, slot := 3, constantValue := 0 }, { name := "serialVersionUID", type := .long, accessFlags := 26, slot := 0, constantValue := 0 }, { name := "COMPACT_STRINGS", type := .boolean, accessFlags := 24, slot := 1, constantValue := 0 }, { name := "serialPersistentFields", type := (.array (.object "java/io/ObjectStreamField")), accessFlags := 26, slot := 2, constantValue := 0 }, { name := "REPL", type := .char, accessFlags := 26, slot := 3, constantValue := 0 }, { name := "CASE_INSENSITIVE_ORDER", type := (.object "java/util/Comparator"), accessFlags := 25, slot := 4, constantValue := 0 }, { name := "LATIN1", type := .byte, accessFlags := 24, slot := 5, constantValue := 0 }, { name := "UTF16", type := .byte, accessFlags := 24, slot := 6, constantValue := 0 }]
  methods := #[k8m0, k8m1, k8m2, k8m3, k8m4, k8m5, k8m6, k8m7, k8m8, k8m9, k8m10]
  instanceTypes := #[(.array .byte), .byte, .int, .boolean]
  staticTypes := #[.long, .boolean, (.array (.object "java/io/ObjectStreamField")), .char, (.object "java/util/Comparator"), .byte, .byte]
  resolved := Array.replicate 1451 none
  statics := some 0 }

def pool9 : Array CpInfo := pool [(2, .class_ 4), (1, u "java/lang/Object"), (0, u "<init>"), (0, u "()V"), (14, .class_ 23), (1, u "java/nio/charset/StandardCharsets"), (0, u "US_ASCII"), (0, u "Ljava/nio/charset/Charset;"), (7, u "ISO_8859_1"), (7, u "UTF_8"), (5, u "UTF_16BE"), (5, u "UTF_16LE"), (5, u "UTF_16")] 8

def k9m0 : Method := { name := "<init>", desc := "()V", sig := { parameters := [], returnType := none }, accessFlags := 2, code := none }
/-- java/nio/charset/StandardCharsets -/
def k9 : Class := { plain "java/nio/charset/StandardCharsets" (some 0) with
  accessFlags := 49
  interfaces := #[]
  cf := some (fileOf pool9 21 #[] #[{ accessFlags := 2, nameIndex := 5, descriptorIndex := 6, attributes := #[] }] 49 2 #[] #[{ accessFlags := 25, nameIndex := 24, descriptorIndex := 25, attributes := #[] }, { accessFlags := 25, nameIndex := 33, descriptorIndex := 25, attributes := #[] }, { accessFlags := 25, nameIndex := 41, descriptorIndex := 25, attributes := #[] }, { accessFlags := 25, nameIndex := 47, descriptorIndex := 25, attributes := #[] }, { accessFlags := 25, nameIndex := 53, descriptorIndex := 25, attributes := #[] }, { accessFlags := 25, nameIndex := 59, descriptorIndex := 25, attributes := #[] }])
  fields := #[{ name := "US_ASCII", type := (.object "java/nio/charset/Charset"), accessFlags := 25, slot := 0, constantValue := 0 }, { name := "ISO_8859_1", type := (.object "java/nio/charset/Charset"), accessFlags := 25, slot := 1, constantValue := 0 }, { name := "UTF_8", type := (.object "java/nio/charset/Charset"), accessFlags := 25, slot := 2, constantValue := 0 }, { name := "UTF_16BE", type := (.object "java/nio/charset/Charset"), accessFlags := 25, slot := 3, constantValue := 0 }, { name := "UTF_16LE", type := (.object "java/nio/charset/Charset"), accessFlags := 25, slot := 4, constantValue := 0 }, { name := "UTF_16", type := (.object "java/nio/charset/Charset"), accessFlags := 25, slot := 5, constantValue := 0 }]
  methods := #[k9m0]
  instanceTypes := #[]
  staticTypes := #[(.object "java/nio/charset/Charset"), (.object "java/nio/charset/Charset"), (.object "java/nio/charset/Charset"), (.object "java/nio/charset/Charset"), (.object "java/nio/charset/Charset"), (.object "java/nio/charset/Charset")]
  resolved := Array.replicate 68 none
  statics := some 1 }

def pool10 : Array CpInfo := pool [(2, .class_ 4), (1, u "java/lang/Object"), (0, u "<init>"), (0, u "()V"), (35, .class_ 44), (1, u "java/util/Objects"), (0, u "requireNonNull"), (0, u "(Ljava/lang/Object;)Ljava/lang/Object;")] 137

def k10m0 : Method := { name := "<init>", desc := "()V", sig := { parameters := [], returnType := none }, accessFlags := 2, code := none }
def k10c1 : Code := { maxStack := 2, maxLocals := 1, code := jdk_31_method_10_code, exceptionTable := #[], attributes := #[] }
def k10m1 : Method := { name := "requireNonNull", desc := "(Ljava/lang/Object;)Ljava/lang/Object;", sig := { parameters := [(.object "java/lang/Object")], returnType := some (.object "java/lang/Object") }, accessFlags := 9, code := some k10c1 }
/-- java/util/Objects -/
def k10 : Class := { plain "java/util/Objects" (some 0) with
  accessFlags := 49
  interfaces := #[]
  cf := some (fileOf pool10 42 #[] #[{ accessFlags := 2, nameIndex := 5, descriptorIndex := 6, attributes := #[] }, { accessFlags := 9, nameIndex := 45, descriptorIndex := 46, attributes := #[] }] 49 2 #[] #[])
  fields := #[]
  methods := #[k10m0, k10m1]
  instanceTypes := #[]
  staticTypes := #[]
  resolved := Array.replicate 184 none
  statics := none }

def pool11 : Array CpInfo := pool [(18, .class_ 20), (1, u "java/nio/charset/Charset"), (0, u "cache1"), (0, u "[Ljava/lang/Object;"), (2, u "cache2"), (0, .class_ 27), (0, u "java/lang/Object"), (0, .class_ 29), (0, u "java/nio/charset/Charset$1"), (4, .class_ 36), (1, u "java/nio/charset/Charset$ThreadTrackHolder"), (21, .class_ 59), (0, u "java/nio/charset/Charset$2"), (11, .class_ 73), (1, u "java/nio/charset/Charset$ExtendedProviderHolder"), (22, u "standardProvider"), (0, u "Ljava/nio/charset/spi/CharsetProvider;"), (29, u "name"), (7, .class_ 136), (0, u "java/nio/charset/Charset$3"), (5, u "defaultCharset"), (0, u "Ljava/nio/charset/Charset;"), (14, u "zeroAliases"), (0, u "[Ljava/lang/String;"), (29, u "Ljava/lang/String;"), (2, u "aliases"), (2, u "aliasSet"), (0, u "Ljava/util/Set;"), (82, .class_ 280), (0, u "java/lang/Comparable"), (84, .class_ 366), (0, u "java/nio/charset/Charset$ExtendedProviderHolder$1")] 3

/-- java/nio/charset/Charset -/
def k11 : Class := { plain "java/nio/charset/Charset" (some 0) with
  accessFlags := 1057
  interfaces := #[4]
  cf := some (fileOf pool11 18 #[.nestMembers #[71, 365, 34, 135, 58, 28]] #[] 1057 26 #[279] #[{ accessFlags := 26, nameIndex := 96, descriptorIndex := 97, attributes := #[] }, { accessFlags := 26, nameIndex := 158, descriptorIndex := 159, attributes := #[] }, { accessFlags := 74, nameIndex := 21, descriptorIndex := 22, attributes := #[] }, { accessFlags := 74, nameIndex := 25, descriptorIndex := 22, attributes := #[] }, { accessFlags := 10, nameIndex := 142, descriptorIndex := 143, attributes := #[] }, { accessFlags := 18, nameIndex := 127, descriptorIndex := 189, attributes := #[] }, { accessFlags := 18, nameIndex := 192, descriptorIndex := 159, attributes := #[] }, { accessFlags := 2, nameIndex := 195, descriptorIndex := 196, attributes := #[] }])
  fields := #[{ name := "standardProvider", type := (.object "java/nio/charset/spi/CharsetProvider"), accessFlags := 26, slot := 0, constantValue := 0 }, { name := "zeroAliases", type := (.array (.object "java/lang/String")), accessFlags := 26, slot := 1, constantValue := 0 }, { name := "cache1", type := (.array (.object "java/lang/Object")), accessFlags := 74, slot := 2, constantValue := 0 }, { name := "cache2", type := (.array (.object "java/lang/Object")), accessFlags := 74, slot := 3, constantValue := 0 }, { name := "defaultCharset", type := (.object "java/nio/charset/Charset"), accessFlags := 10, slot := 4, constantValue := 0 }, { name := "name", type := (.object "java/lang/String"), accessFlags := 18, slot := 0, constantValue := 0 }, { name := "aliases", type := (.array (.object "java/lang/String")), accessFlags := 18, slot := 1, constantValue := 0 }, { name := "aliasSet", type := (.object "java/util/Set"), accessFlags := 2, slot := 2, constantValue := 0 }]
  methods := #[]
  instanceTypes := #[(.object "java/lang/String"), (.array (.object "java/lang/String")), (.object "java/util/Set")]
  staticTypes := #[(.object "java/nio/charset/spi/CharsetProvider"), (.array (.object "java/lang/String")), (.array (.object "java/lang/Object")), (.array (.object "java/lang/Object")), (.object "java/nio/charset/Charset")]
  resolved := Array.replicate 370 none
  statics := none }

def pool12 : Array CpInfo := pool [(1, .class_ 2), (0, u "sun/nio/cs/HistoricallyNamedCharset"), (0, .class_ 4), (0, u "java/lang/Object")] 4

/-- sun/nio/cs/HistoricallyNamedCharset -/
def k12 : Class := { plain "sun/nio/cs/HistoricallyNamedCharset" (some 0) with
  accessFlags := 1537
  interfaces := #[]
  cf := some (fileOf pool12 1 #[] #[] 1537 3 #[] #[])
  fields := #[]
  methods := #[]
  instanceTypes := #[]
  staticTypes := #[]
  resolved := Array.replicate 9 none
  statics := none }

def pool13 : Array CpInfo := pool [(2, .class_ 4), (1, u "java/nio/charset/Charset"), (130, .class_ 136), (0, u "sun/nio/cs/Unicode"), (0, .class_ 138), (0, u "sun/nio/cs/HistoricallyNamedCharset")] 15

/-- sun/nio/cs/Unicode -/
def k13 : Class := { plain "sun/nio/cs/Unicode" (some 11) with
  accessFlags := 1056
  interfaces := #[12]
  cf := some (fileOf pool13 135 #[] #[] 1056 2 #[137] #[])
  fields := #[]
  methods := #[]
  instanceTypes := #[(.object "java/lang/String"), (.array (.object "java/lang/String")), (.object "java/util/Set")]
  staticTypes := #[]
  resolved := Array.replicate 154 none
  statics := none }

def pool14 : Array CpInfo := pool [(10, .class_ 12), (1, u "sun/nio/cs/Unicode"), (0, u "<init>"), (3, .class_ 18), (0, u "sun/nio/cs/UTF_8$Decoder"), (3, .class_ 23), (0, u "sun/nio/cs/UTF_8$Encoder"), (15, .class_ 40), (0, u "sun/nio/cs/UTF_8"), (2, u "()V"), (2, u "INSTANCE"), (0, u "Lsun/nio/cs/UTF_8;"), (8, u "JLA"), (0, u "Ljdk/internal/access/JavaLangAccess;")] 26

def k14m0 : Method := { name := "<init>", desc := "()V", sig := { parameters := [], returnType := none }, accessFlags := 1, code := none }
/-- sun/nio/cs/UTF_8 -/
def k14 : Class := { plain "sun/nio/cs/UTF_8" (some 13) with
  accessFlags := 49
  interfaces := #[]
  cf := some (fileOf pool14 39 #[.nestMembers #[22, 17]] #[{ accessFlags := 1, nameIndex := 13, descriptorIndex := 43, attributes := #[] }] 49 10 #[] #[{ accessFlags := 25, nameIndex := 46, descriptorIndex := 47, attributes := #[] }, { accessFlags := 26, nameIndex := 56, descriptorIndex := 57, attributes := #[] }])
  fields := #[{ name := "INSTANCE", type := (.object "sun/nio/cs/UTF_8"), accessFlags := 25, slot := 0, constantValue := 0 }, { name := "JLA", type := (.object "jdk/internal/access/JavaLangAccess"), accessFlags := 26, slot := 1, constantValue := 0 }]
  methods := #[k14m0]
  instanceTypes := #[(.object "java/lang/String"), (.array (.object "java/lang/String")), (.object "java/util/Set")]
  staticTypes := #[(.object "sun/nio/cs/UTF_8"), (.object "jdk/internal/access/JavaLangAccess")]
  resolved := Array.replicate 84 none
  statics := some 2 }

def pool15 : Array CpInfo := pool [(2, .class_ 4), (1, u "java/lang/Object"), (0, u "<init>"), (0, u "()V"), (17, .class_ 26), (1, u "jdk/internal/util/Preconditions"), (6, u "checkIndex"), (15, u "checkFromIndexSize"), (5, .class_ 56), (0, u "jdk/internal/util/Preconditions$4"), (57, .class_ 115), (0, u "jdk/internal/util/Preconditions$1"), (7, u "SIOOBE_FORMATTER"), (0, u "Ljava/util/function/BiFunction;"), (0, .class_ 126), (0, u "jdk/internal/util/Preconditions$2"), (3, u "AIOOBE_FORMATTER"), (0, .class_ 132), (0, u "jdk/internal/util/Preconditions$3"), (3, u "IOOBE_FORMATTER"), (41, u "(IILjava/util/function/BiFunction;)I"), (4, u "(IIILjava/util/function/BiFunction;)I")] 10

def k15m0 : Method := { name := "<init>", desc := "()V", sig := { parameters := [], returnType := none }, accessFlags := 1, code := none }
def k15c1 : Code := { maxStack := 3, maxLocals := 3, code := jdk_41_method_11_code, exceptionTable := #[], attributes := #[] }
def k15m1 : Method := { name := "checkIndex", desc := "(IILjava/util/function/BiFunction;)I", sig := { parameters := [.int, .int, (.object "java/util/function/BiFunction")], returnType := some .int }, accessFlags := 9, code := some k15c1 }
def k15c2 : Code := { maxStack := 4, maxLocals := 4, code := jdk_41_method_13_code, exceptionTable := #[], attributes := #[] }
def k15m2 : Method := { name := "checkFromIndexSize", desc := "(IIILjava/util/function/BiFunction;)I", sig := { parameters := [.int, .int, .int, (.object "java/util/function/BiFunction")], returnType := some .int }, accessFlags := 9, code := some k15c2 }
/-- jdk/internal/util/Preconditions -/
def k15 : Class := { plain "jdk/internal/util/Preconditions" (some 0) with
  accessFlags := 33
  interfaces := #[]
  cf := some (fileOf pool15 24 #[.nestMembers #[55, 131, 125, 114]] #[{ accessFlags := 1, nameIndex := 5, descriptorIndex := 6, attributes := #[] }, { accessFlags := 9, nameIndex := 33, descriptorIndex := 178, attributes := #[] }, { accessFlags := 9, nameIndex := 49, descriptorIndex := 183, attributes := #[] }] 33 2 #[] #[{ accessFlags := 25, nameIndex := 123, descriptorIndex := 124, attributes := #[] }, { accessFlags := 25, nameIndex := 130, descriptorIndex := 124, attributes := #[] }, { accessFlags := 25, nameIndex := 136, descriptorIndex := 124, attributes := #[] }])
  fields := #[{ name := "SIOOBE_FORMATTER", type := (.object "java/util/function/BiFunction"), accessFlags := 25, slot := 0, constantValue := 0 }, { name := "AIOOBE_FORMATTER", type := (.object "java/util/function/BiFunction"), accessFlags := 25, slot := 1, constantValue := 0 }, { name := "IOOBE_FORMATTER", type := (.object "java/util/function/BiFunction"), accessFlags := 25, slot := 2, constantValue := 0 }]
  methods := #[k15m0, k15m1, k15m2]
  instanceTypes := #[]
  staticTypes := #[(.object "java/util/function/BiFunction"), (.object "java/util/function/BiFunction"), (.object "java/util/function/BiFunction")]
  resolved := Array.replicate 194 none
  statics := some 3 }

def pool16 : Array CpInfo := pool [(2, .class_ 4), (1, u "java/lang/Object"), (0, u "<init>"), (0, u "()V"), (1, .class_ 10), (1, u "java/lang/StringCoding"), (0, u "countPositives"), (0, u "([BII)I")] 36

def k16m0 : Method := { name := "<init>", desc := "()V", sig := { parameters := [], returnType := none }, accessFlags := 2, code := none }
def k16c1 : Code := { maxStack := 2, maxLocals := 5, code := jdk_123_method_3_code, exceptionTable := #[], attributes := #[] }
def k16m1 : Method := { name := "countPositives", desc := "([BII)I", sig := { parameters := [(.array .byte), .int, .int], returnType := some .int }, accessFlags := 9, code := some k16c1 }
/-- java/lang/StringCoding -/
def k16 : Class := { plain "java/lang/StringCoding" (some 0) with
  accessFlags := 32
  interfaces := #[]
  cf := some (fileOf pool16 8 #[] #[{ accessFlags := 2, nameIndex := 5, descriptorIndex := 6, attributes := #[] }, { accessFlags := 9, nameIndex := 11, descriptorIndex := 12, attributes := #[] }] 32 2 #[] #[])
  fields := #[]
  methods := #[k16m0, k16m1]
  instanceTypes := #[]
  staticTypes := #[]
  resolved := Array.replicate 49 none
  statics := none }

def pool17 : Array CpInfo := pool [(2, .class_ 4), (1, u "java/lang/Object"), (0, u "<init>"), (0, u "()V"), (7, .class_ 16), (1, u "java/util/Arrays"), (57, .class_ 76), (1, u "java/util/Arrays$NaturalOrder"), (32, u "()Ljava/lang/Object;"), (3, .class_ 115), (1, u "java/util/Arrays$LegacyMergeSort"), (1, u "Z"), (10, .nameAndType 129 109), (0, u "clone"), (9, u "copyOfRange"), (10, .methodref 151 152), (0, .class_ 153), (0, .nameAndType 154 155), (0, u "java/lang/System"), (0, u "arraycopy"), (0, u "(Ljava/lang/Object;ILjava/lang/Object;II)V"), (148, .methodref 305 306), (0, .class_ 307), (0, .nameAndType 308 309), (0, u "java/lang/Math"), (0, u "min"), (0, u "(II)I"), (0, .methodref 311 128), (0, .class_ 312), (0, u "[B"), (26, .methodref 14 340), (0, .nameAndType 341 342), (0, u "copyOfRangeByte"), (0, u "([BII)[B"), (0, .methodref 14 344), (0, .nameAndType 345 346), (0, u "checkLength"), (0, u "(II)V"), (28, .class_ 376), (0, u "java/util/Arrays$ArrayList"), (68, u "$assertionsDisabled"), (269, u "MIN_ARRAY_SORT_GRAN"), (0, u "I"), (2, u "INSERTIONSORT_THRESHOLD"), (255, .class_ 976), (0, u "java/util/Arrays$ArrayItr")] 52

def k17m0 : Method := { name := "<init>", desc := "()V", sig := { parameters := [], returnType := none }, accessFlags := 2, code := none }
def k17c1 : Code := { maxStack := 4, maxLocals := 2, code := jdk_65_method_131_code, exceptionTable := #[], attributes := #[] }
def k17m1 : Method := { name := "checkLength", desc := "(II)V", sig := { parameters := [.int, .int], returnType := none }, accessFlags := 10, code := some k17c1 }
def k17c2 : Code := { maxStack := 3, maxLocals := 3, code := jdk_65_method_132_code, exceptionTable := #[], attributes := #[] }
def k17m2 : Method := { name := "copyOfRange", desc := "([BII)[B", sig := { parameters := [(.array .byte), .int, .int], returnType := some (.array .byte) }, accessFlags := 9, code := some k17c2 }
def k17c3 : Code := { maxStack := 6, maxLocals := 5, code := jdk_65_method_133_code, exceptionTable := #[], attributes := #[] }
def k17m3 : Method := { name := "copyOfRangeByte", desc := "([BII)[B", sig := { parameters := [(.array .byte), .int, .int], returnType := some (.array .byte) }, accessFlags := 10, code := some k17c3 }
/-- java/util/Arrays -/
def k17 : Class := { plain "java/util/Arrays" (some 0) with
  accessFlags := 49
  interfaces := #[]
  cf := some (fileOf pool17 14 #[.nestMembers #[975, 375, 113, 74]] #[{ accessFlags := 2, nameIndex := 5, descriptorIndex := 6, attributes := #[] }, { accessFlags := 10, nameIndex := 345, descriptorIndex := 346, attributes := #[] }, { accessFlags := 9, nameIndex := 139, descriptorIndex := 342, attributes := #[] }, { accessFlags := 10, nameIndex := 341, descriptorIndex := 342, attributes := #[] }] 49 2 #[] #[{ accessFlags := 26, nameIndex := 715, descriptorIndex := 716, attributes := #[] }, { accessFlags := 26, nameIndex := 719, descriptorIndex := 716, attributes := #[] }, { accessFlags := 4120, nameIndex := 445, descriptorIndex := 117, attributes := #[] }])
  fields := #[{ name := "MIN_ARRAY_SORT_GRAN", type := .int, accessFlags := 26, slot := 0, constantValue := 0 }, { name := "INSERTIONSORT_THRESHOLD", type := .int, accessFlags := 26, slot := 1, constantValue := 0 }, { name := "$assertionsDisabled", type := .boolean, accessFlags := 4120, slot := 2, constantValue := 0 }]
  methods := #[k17m0, k17m1, k17m2, k17m3]
  instanceTypes := #[]
  staticTypes := #[.int, .int, .boolean]
  resolved := Array.replicate 1029 none
  statics := none }

def pool18 : Array CpInfo := pool [(1, .class_ 2), (0, u "java/lang/Math"), (1, .class_ 6), (1, u "java/lang/Object"), (0, u "<init>"), (0, u "()V"), (89, .class_ 100), (1, u "java/lang/Math$RandomNumberGeneratorHolder"), (71, u "negativeZeroFloatBits"), (0, u "J"), (2, u "negativeZeroDoubleBits"), (24, u "min"), (43, u "$assertionsDisabled"), (0, u "Z"), (88, u "(II)I"), (2, u "twoToTheDoubleScaleDown"), (0, u "D"), (4, u "twoToTheDoubleScaleUp"), (9, u "E"), (3, u "PI"), (2, u "TAU"), (2, u "DEGREES_TO_RADIANS"), (0, u "RADIANS_TO_DEGREES")] 94

def k18m0 : Method := { name := "<init>", desc := "()V", sig := { parameters := [], returnType := none }, accessFlags := 2, code := none }
def k18c1 : Code := { maxStack := 2, maxLocals := 2, code := jdk_29_method_69_code, exceptionTable := #[], attributes := #[] }
def k18m1 : Method := { name := "min", desc := "(II)I", sig := { parameters := [.int, .int], returnType := some .int }, accessFlags := 9, code := some k18c1 }
/-- java/lang/Math -/
def k18 : Class := { plain "java/lang/Math" (some 0) with
  accessFlags := 49
  interfaces := #[]
  cf := some (fileOf pool18 1 #[.nestMembers #[98]] #[{ accessFlags := 2, nameIndex := 7, descriptorIndex := 8, attributes := #[] }, { accessFlags := 9, nameIndex := 201, descriptorIndex := 335, attributes := #[] }] 49 4 #[] #[{ accessFlags := 25, nameIndex := 354, descriptorIndex := 339, attributes := #[] }, { accessFlags := 25, nameIndex := 358, descriptorIndex := 339, attributes := #[] }, { accessFlags := 25, nameIndex := 361, descriptorIndex := 339, attributes := #[] }, { accessFlags := 26, nameIndex := 364, descriptorIndex := 339, attributes := #[] }, { accessFlags := 26, nameIndex := 365, descriptorIndex := 339, attributes := #[] }, { accessFlags := 26, nameIndex := 172, descriptorIndex := 173, attributes := #[] }, { accessFlags := 26, nameIndex := 176, descriptorIndex := 173, attributes := #[] }, { accessFlags := 8, nameIndex := 344, descriptorIndex := 339, attributes := #[] }, { accessFlags := 8, nameIndex := 338, descriptorIndex := 339, attributes := #[] }, { accessFlags := 4120, nameIndex := 245, descriptorIndex := 246, attributes := #[] }])
  fields := #[{ name := "E", type := .double, accessFlags := 25, slot := 0, constantValue := 0 }, { name := "PI", type := .double, accessFlags := 25, slot := 1, constantValue := 0 }, { name := "TAU", type := .double, accessFlags := 25, slot := 2, constantValue := 0 }, { name := "DEGREES_TO_RADIANS", type := .double, accessFlags := 26, slot := 3, constantValue := 0 }, { name := "RADIANS_TO_DEGREES", type := .double, accessFlags := 26, slot := 4, constantValue := 0 }, { name := "negativeZeroFloatBits", type := .long, accessFlags := 26, slot := 5, constantValue := 0 }, { name := "negativeZeroDoubleBits", type := .long, accessFlags := 26, slot := 6, constantValue := 0 }, { name := "twoToTheDoubleScaleUp", type := .double, accessFlags := 8, slot := 7, constantValue := 0 }, { name := "twoToTheDoubleScaleDown", type := .double, accessFlags := 8, slot := 8, constantValue := 0 }, { name := "$assertionsDisabled", type := .boolean, accessFlags := 4120, slot := 9, constantValue := 0 }]
  methods := #[k18m0, k18m1]
  instanceTypes := #[]
  staticTypes := #[.double, .double, .double, .double, .double, .long, .long, .double, .double, .boolean]
  resolved := Array.replicate 460 none
  statics := none }

def pool19 : Array CpInfo := pool [(2, .class_ 4), (1, u "java/lang/Object"), (0, u "<init>"), (0, u "()V"), (1, .class_ 10), (1, u "java/lang/System"), (0, u "allowSecurityManager"), (0, u "I"), (16, u "cons"), (0, u "Ljava/io/Console;"), (77, .class_ 110), (1, u "java/lang/System$CallersHolder"), (43, u "initialErrStream"), (0, u "Ljava/io/PrintStream;"), (19, u "security"), (0, u "Ljava/lang/SecurityManager;"), (31, .class_ 209), (0, u "java/lang/System$1"), (7, u "props"), (0, u "Ljava/util/Properties;"), (2, u "lineSeparator"), (0, u "Ljava/lang/String;"), (96, .class_ 321), (1, u "java/lang/System$LoggerFinder"), (5, .class_ 328), (0, u "java/lang/System$Logger"), (67, u "err"), (2, u "out"), (91, u "notSupportedJnuEncoding"), (15, u "in"), (17, u "initialIn"), (0, u "Ljava/io/InputStream;"), (35, u "bootLayer"), (0, u "Ljava/lang/ModuleLayer;"), (99, .class_ 664), (0, u "java/lang/System$2"), (9, u "NEVER"), (2, u "MAYBE"), (49, u "arraycopy"), (0, u "(Ljava/lang/Object;ILjava/lang/Object;II)V"), (72, .class_ 802), (0, u "java/lang/System$Logger$Level")] 31

def k19m0 : Method := { name := "<init>", desc := "()V", sig := { parameters := [], returnType := none }, accessFlags := 2, code := none }
def k19m1 : Method := { name := "arraycopy", desc := "(Ljava/lang/Object;ILjava/lang/Object;II)V", sig := { parameters := [(.object "java/lang/Object"), .int, (.object "java/lang/Object"), .int, .int], returnType := none }, accessFlags := 265, code := none }
/-- java/lang/System -/
def k19 : Class := { plain "java/lang/System" (some 0) with
  accessFlags := 49
  interfaces := #[]
  cf := some (fileOf pool19 8 #[.nestMembers #[319, 327, 801, 108, 663, 208]] #[{ accessFlags := 2, nameIndex := 5, descriptorIndex := 6, attributes := #[] }, { accessFlags := 265, nameIndex := 727, descriptorIndex := 728, attributes := #[] }] 49 2 #[] #[{ accessFlags := 25, nameIndex := 507, descriptorIndex := 526, attributes := #[] }, { accessFlags := 25, nameIndex := 399, descriptorIndex := 155, attributes := #[] }, { accessFlags := 25, nameIndex := 396, descriptorIndex := 155, attributes := #[] }, { accessFlags := 10, nameIndex := 525, descriptorIndex := 526, attributes := #[] }, { accessFlags := 26, nameIndex := 674, descriptorIndex := 12, attributes := #[] }, { accessFlags := 26, nameIndex := 677, descriptorIndex := 12, attributes := #[] }, { accessFlags := 10, nameIndex := 11, descriptorIndex := 12, attributes := #[] }, { accessFlags := 74, nameIndex := 175, descriptorIndex := 176, attributes := #[] }, { accessFlags := 10, nameIndex := 491, descriptorIndex := 222, attributes := #[] }, { accessFlags := 74, nameIndex := 29, descriptorIndex := 30, attributes := #[] }, { accessFlags := 74, nameIndex := 154, descriptorIndex := 155, attributes := #[] }, { accessFlags := 10, nameIndex := 217, descriptorIndex := 218, attributes := #[] }, { accessFlags := 10, nameIndex := 221, descriptorIndex := 222, attributes := #[] }, { accessFlags := 8, nameIndex := 562, descriptorIndex := 563, attributes := #[] }])
  fields := #[{ name := "in", type := (.object "java/io/InputStream"), accessFlags := 25, slot := 0, constantValue := 0 }, { name := "out", type := (.object "java/io/PrintStream"), accessFlags := 25, slot := 1, constantValue := 0 }, { name := "err", type := (.object "java/io/PrintStream"), accessFlags := 25, slot := 2, constantValue := 0 }, { name := "initialIn", type := (.object "java/io/InputStream"), accessFlags := 10, slot := 3, constantValue := 0 }, { name := "NEVER", type := .int, accessFlags := 26, slot := 4, constantValue := 0 }, { name := "MAYBE", type := .int, accessFlags := 26, slot := 5, constantValue := 0 }, { name := "allowSecurityManager", type := .int, accessFlags := 10, slot := 6, constantValue := 0 }, { name := "security", type := (.object "java/lang/SecurityManager"), accessFlags := 74, slot := 7, constantValue := 0 }, { name := "notSupportedJnuEncoding", type := (.object "java/lang/String"), accessFlags := 10, slot := 8, constantValue := 0 }, { name := "cons", type := (.object "java/io/Console"), accessFlags := 74, slot := 9, constantValue := 0 }, { name := "initialErrStream", type := (.object "java/io/PrintStream"), accessFlags := 74, slot := 10, constantValue := 0 }, { name := "props", type := (.object "java/util/Properties"), accessFlags := 10, slot := 11, constantValue := 0 }, { name := "lineSeparator", type := (.object "java/lang/String"), accessFlags := 10, slot := 12, constantValue := 0 }, { name := "bootLayer", type := (.object "java/lang/ModuleLayer"), accessFlags := 8, slot := 13, constantValue := 0 }]
  methods := #[k19m0, k19m1]
  instanceTypes := #[]
  staticTypes := #[(.object "java/io/InputStream"), (.object "java/io/PrintStream"), (.object "java/io/PrintStream"), (.object "java/io/InputStream"), .int, .int, .int, (.object "java/lang/SecurityManager"), (.object "java/lang/String"), (.object "java/io/Console"), (.object "java/io/PrintStream"), (.object "java/util/Properties"), (.object "java/lang/String"), (.object "java/lang/ModuleLayer")]
  resolved := Array.replicate 834 none
  statics := none }

def pool20 : Array CpInfo := pool [(1, .class_ 2), (0, u "java/lang/String"), (1, .class_ 6), (1, u "java/lang/Object"), (0, u "<init>"), (0, u "()V"), (0, .methodref 1 10), (0, .nameAndType 11 12), (0, u "checkIndex"), (0, u "(II)V"), (1, .class_ 16), (1, u "java/lang/StringLatin1"), (36, u "([BI)C"), (36, u "canEncode"), (14, u "(C)Z"), (15, u "$assertionsDisabled"), (0, u "Z"), (98, .class_ 223), (1, u "java/lang/StringLatin1$LinesSpliterator"), (28, u "charAt"), (127, u "toBytes"), (1, u "(C)[B"), (7, .class_ 391), (0, u "java/lang/StringLatin1$CharsSpliterator")] 3

def k20m0 : Method := { name := "<init>", desc := "()V", sig := { parameters := [], returnType := none }, accessFlags := 0, code := none }
def k20c1 : Code := { maxStack := 2, maxLocals := 2, code := jdk_43_method_2_code, exceptionTable := #[], attributes := #[] }
def k20m1 : Method := { name := "charAt", desc := "([BI)C", sig := { parameters := [(.array .byte), .int], returnType := some .char }, accessFlags := 9, code := some k20c1 }
def k20c2 : Code := { maxStack := 2, maxLocals := 1, code := jdk_43_method_3_code, exceptionTable := #[], attributes := #[] }
def k20m2 : Method := { name := "canEncode", desc := "(C)Z", sig := { parameters := [.char], returnType := some .boolean }, accessFlags := 9, code := some k20c2 }
def k20c3 : Code := { maxStack := 4, maxLocals := 1, code := jdk_43_method_46_code, exceptionTable := #[], attributes := #[] }
def k20m3 : Method := { name := "toBytes", desc := "(C)[B", sig := { parameters := [.char], returnType := some (.array .byte) }, accessFlags := 9, code := some k20c3 }
/-- java/lang/StringLatin1 -/
def k20 : Class := { plain "java/lang/StringLatin1" (some 0) with
  accessFlags := 48
  interfaces := #[]
  cf := some (fileOf pool20 14 #[.nestMembers #[390, 221]] #[{ accessFlags := 0, nameIndex := 7, descriptorIndex := 8, attributes := #[] }, { accessFlags := 9, nameIndex := 252, descriptorIndex := 53, attributes := #[] }, { accessFlags := 9, nameIndex := 90, descriptorIndex := 105, attributes := #[] }, { accessFlags := 9, nameIndex := 380, descriptorIndex := 382, attributes := #[] }] 48 4 #[] #[{ accessFlags := 4120, nameIndex := 121, descriptorIndex := 122, attributes := #[] }])
  fields := #[{ name := "$assertionsDisabled", type := .boolean, accessFlags := 4120, slot := 0, constantValue := 0 }]
  methods := #[k20m0, k20m1, k20m2, k20m3]
  instanceTypes := #[]
  staticTypes := #[.boolean]
  resolved := Array.replicate 395 none
  statics := none }

def pool21 : Array CpInfo := pool [(1, .class_ 2), (0, u "java/lang/Cloneable"), (0, .class_ 4), (0, u "java/lang/Object")] 2

/-- java/lang/Cloneable -/
def k21 : Class := { plain "java/lang/Cloneable" (some 0) with
  accessFlags := 1537
  interfaces := #[]
  cf := some (fileOf pool21 1 #[] #[] 1537 3 #[] #[])
  fields := #[]
  methods := #[]
  instanceTypes := #[]
  staticTypes := #[]
  resolved := Array.replicate 7 none
  statics := none }

def pool22 : Array CpInfo := pool [(9, u "<init>"), (6, .class_ 18), (1, u "java/lang/Object"), (0, u "()V"), (1, .class_ 23), (1, u "jdk/internal/util/ArraysSupport"), (0, u "LOG2_ARRAY_LONG_INDEX_SCALE"), (0, u "I"), (2, u "U"), (0, u "Ljdk/internal/misc/Unsafe;"), (8, u "BIG_ENDIAN"), (0, u "Z"), (8, u "LOG2_BYTE_BIT_SIZE"), (4, u "LOG2_ARRAY_INT_INDEX_SCALE"), (54, u "JLA"), (0, u "Ljdk/internal/access/JavaLangAccess;"), (11, u "LOG2_ARRAY_BOOLEAN_INDEX_SCALE"), (9, u "LOG2_ARRAY_BYTE_INDEX_SCALE"), (5, u "LOG2_ARRAY_CHAR_INDEX_SCALE"), (5, u "LOG2_ARRAY_SHORT_INDEX_SCALE"), (18, u "LOG2_ARRAY_FLOAT_INDEX_SCALE"), (24, u "LOG2_ARRAY_DOUBLE_INDEX_SCALE"), (89, u "T_BOOLEAN"), (2, u "T_CHAR"), (1, u "T_FLOAT"), (1, u "T_DOUBLE"), (1, u "T_BYTE"), (1, u "T_SHORT"), (1, u "T_INT"), (1, u "T_LONG"), (1, u "SOFT_MAX_ARRAY_LENGTH")] 83

def k22m0 : Method := { name := "<init>", desc := "()V", sig := { parameters := [], returnType := none }, accessFlags := 2, code := none }
/-- jdk/internal/util/ArraysSupport -/
def k22 : Class := { plain "jdk/internal/util/ArraysSupport" (some 0) with
  accessFlags := 33
  interfaces := #[]
  cf := some (fileOf pool22 21 #[] #[{ accessFlags := 2, nameIndex := 9, descriptorIndex := 19, attributes := #[] }] 33 16 #[] #[{ accessFlags := 24, nameIndex := 28, descriptorIndex := 29, attributes := #[] }, { accessFlags := 26, nameIndex := 38, descriptorIndex := 39, attributes := #[] }, { accessFlags := 25, nameIndex := 121, descriptorIndex := 25, attributes := #[] }, { accessFlags := 25, nameIndex := 131, descriptorIndex := 25, attributes := #[] }, { accessFlags := 25, nameIndex := 137, descriptorIndex := 25, attributes := #[] }, { accessFlags := 25, nameIndex := 143, descriptorIndex := 25, attributes := #[] }, { accessFlags := 25, nameIndex := 53, descriptorIndex := 25, attributes := #[] }, { accessFlags := 25, nameIndex := 24, descriptorIndex := 25, attributes := #[] }, { accessFlags := 25, nameIndex := 162, descriptorIndex := 25, attributes := #[] }, { accessFlags := 25, nameIndex := 187, descriptorIndex := 25, attributes := #[] }, { accessFlags := 26, nameIndex := 48, descriptorIndex := 25, attributes := #[] }, { accessFlags := 25, nameIndex := 277, descriptorIndex := 25, attributes := #[] }, { accessFlags := 25, nameIndex := 280, descriptorIndex := 25, attributes := #[] }, { accessFlags := 25, nameIndex := 282, descriptorIndex := 25, attributes := #[] }, { accessFlags := 25, nameIndex := 284, descriptorIndex := 25, attributes := #[] }, { accessFlags := 25, nameIndex := 286, descriptorIndex := 25, attributes := #[] }, { accessFlags := 25, nameIndex := 288, descriptorIndex := 25, attributes := #[] }, { accessFlags := 25, nameIndex := 290, descriptorIndex := 25, attributes := #[] }, { accessFlags := 25, nameIndex := 292, descriptorIndex := 25, attributes := #[] }, { accessFlags := 26, nameIndex := 108, descriptorIndex := 109, attributes := #[] }, { accessFlags := 25, nameIndex := 294, descriptorIndex := 25, attributes := #[] }])
  fields := #[{ name := "U", type := (.object "jdk/internal/misc/Unsafe"), accessFlags := 24, slot := 0, constantValue := 0 }, { name := "BIG_ENDIAN", type := .boolean, accessFlags := 26, slot := 1, constantValue := 0 }, { name := "LOG2_ARRAY_BOOLEAN_INDEX_SCALE", type := .int, accessFlags := 25, slot := 2, constantValue := 0 }, { name := "LOG2_ARRAY_BYTE_INDEX_SCALE", type := .int, accessFlags := 25, slot := 3, constantValue := 0 }, { name := "LOG2_ARRAY_CHAR_INDEX_SCALE", type := .int, accessFlags := 25, slot := 4, constantValue := 0 }, { name := "LOG2_ARRAY_SHORT_INDEX_SCALE", type := .int, accessFlags := 25, slot := 5, constantValue := 0 }, { name := "LOG2_ARRAY_INT_INDEX_SCALE", type := .int, accessFlags := 25, slot := 6, constantValue := 0 }, { name := "LOG2_ARRAY_LONG_INDEX_SCALE", type := .int, accessFlags := 25, slot := 7, constantValue := 0 }, { name := "LOG2_ARRAY_FLOAT_INDEX_SCALE", type := .int, accessFlags := 25, slot := 8, constantValue := 0 }, { name := "LOG2_ARRAY_DOUBLE_INDEX_SCALE", type := .int, accessFlags := 25, slot := 9, constantValue := 0 }, { name := "LOG2_BYTE_BIT_SIZE", type := .int, accessFlags := 26, slot := 10, constantValue := 0 }, { name := "T_BOOLEAN", type := .int, accessFlags := 25, slot := 11, constantValue := 0 }, { name := "T_CHAR", type := .int, accessFlags := 25, slot := 12, constantValue := 0 }, { name := "T_FLOAT", type := .int, accessFlags := 25, slot := 13, constantValue := 0 }, { name := "T_DOUBLE", type := .int, accessFlags := 25, slot := 14, constantValue := 0 }, { name := "T_BYTE", type := .int, accessFlags := 25, slot := 15, constantValue := 0 }, { name := "T_SHORT", type := .int, accessFlags := 25, slot := 16, constantValue := 0 }, { name := "T_INT", type := .int, accessFlags := 25, slot := 17, constantValue := 0 }, { name := "T_LONG", type := .int, accessFlags := 25, slot := 18, constantValue := 0 }, { name := "JLA", type := (.object "jdk/internal/access/JavaLangAccess"), accessFlags := 26, slot := 19, constantValue := 0 }, { name := "SOFT_MAX_ARRAY_LENGTH", type := .int, accessFlags := 25, slot := 20, constantValue := 0 }]
  methods := #[k22m0]
  instanceTypes := #[]
  staticTypes := #[(.object "jdk/internal/misc/Unsafe"), .boolean, .int, .int, .int, .int, .int, .int, .int, .int, .int, .int, .int, .int, .int, .int, .int, .int, .int, (.object "jdk/internal/access/JavaLangAccess"), .int]
  resolved := Array.replicate 378 none
  statics := none }

/-- the primitive boolean -/
def k23 : Class := { plain "boolean" none with kind := .primitive 'Z', accessFlags := 0x411 }
/-- [Z -/
def k24 : Class := { plain "[Z" (some 0) with kind := .array 23 .boolean, interfaces := #[21, 3], accessFlags := 1041 }

/-- the primitive byte -/
def k25 : Class := { plain "byte" none with kind := .primitive 'B', accessFlags := 0x411 }
/-- [B -/
def k26 : Class := { plain "[B" (some 0) with kind := .array 25 .byte, interfaces := #[21, 3], accessFlags := 1041 }

/-- the primitive int -/
def k27 : Class := { plain "int" none with kind := .primitive 'I', accessFlags := 0x411 }
/-- [I -/
def k28 : Class := { plain "[I" (some 0) with kind := .array 27 .int, interfaces := #[21, 3], accessFlags := 1041 }

/-- [Ljava/lang/String; -/
def k29 : Class := { plain "[Ljava/lang/String;" (some 0) with kind := .array 8 (.object "java/lang/String"), interfaces := #[21, 3], accessFlags := 1041 }

def k30 : Class := { plain "[[B" (some 0) with kind := .array 26 (.array .byte), interfaces := #[21, 3], accessFlags := 1041 }
def heap : Heap := #[{ cls := 8, slots := #[.long 0, .int 1, .null, .int 0, .null, .int 0, .int 0], vm := .statics 8 },
  { cls := 9, slots := #[.null, .null, .ref 4, .null, .null, .null], vm := .statics 9 },
  { cls := 14, slots := #[.ref 4, .null], vm := .statics 14 },
  { cls := 15, slots := #[.null, .null, .null], vm := .statics 15 },
  { cls := 14, slots := #[.null, .null, .null], vm := .none }]
def classes : Array Class := #[k0, k1, k2, k3, k4, k5, k6, k7, k8, k9, k10, k11, k12, k13, k14, k15, k16, k17, k18, k19, k20, k21, k22, k23, k24, k25, k26, k27, k28, k29, k30]
def interned : List (Array UInt16 × Addr) := []
def slotsUsed : Nat := 21
def theMethod : MethodId := ⟨1, 2⟩
def args0 : Array Value := #[.int 5, .long 5, .int 5, .int 5]
def aboutOver (below : List Frame) : State where
  vm := { classes := classes, interned := interned.toArray }
  heap := heap
  slotsUsed := slotsUsed
  threads := #[{ frames := .invoking theMethod args0 :: below }]
def below0 : List Frame := [.native { method := ⟨0, 0⟩, args := #[] }]
def about1 : State := aboutOver below0
def p0 : Program := .bare "" "" ""
def e0 : Env := launch0.env 0 0 0
theorem w_frames : about1.frames = Frame.invoking theMethod args0 :: below0 := rfl
set_option maxRecDepth 65536 in
theorem w_args : argsFit about1.vm theMethod args0 = true := by decide +kernel
set_option maxRecDepth 65536 in
theorem w_heap : heapFits about1 = true := by decide +kernel
set_option maxRecDepth 65536 in
theorem w_runnable : about1.curStatus? = some .runnable := by decide +kernel
set_option maxRecDepth 65536 in
theorem w_alone : about1.alone = true := by decide +kernel
set_option maxRecDepth 65536 in
theorem w_named : about1.methodNamed? x = some theMethod := by decide +kernel
set_option maxRecDepth 65536 in
theorem w_hears : about1.hears theMethod below0 = true := by decide +kernel
set_option maxRecDepth 65536 in
theorem w_ripe : about1.ripe theMethod args0 below0 = true := by decide +kernel
theorem w_running : about1.status = .running := rfl
set_option maxRecDepth 65536 in
theorem w_room : about1.hasRoom e0.platform room_1 = true :=
  launch0.hasRoom_least _ room_1 (by decide +kernel) (by decide +kernel) (by decide +kernel) (by decide +kernel) (by decide +kernel) (by decide +kernel)
theorem allAtoms_all (ts : List Jvm.Cond) (a : Array Jvm.Value) (st : Jvm.State) : (allAtoms ts).before a st = ts.all (fun c => c.before a st) := by
  induction ts with
  | nil => rfl
  | cons c t ih =>
    show (Jvm.Cond.and c (allAtoms t)).before a st = _
    rw [Jvm.Cond.before_and, ih, List.all_cons]
def words1 : List Jvm.Cond := Jvm.Cond.code x code maxLocals ret :: tables_1
/-- a 'code' word, met by the world's own term for the bytes: nothing is compared byte by byte -/
theorem code_word {y : MethodName} {bytes : ByteArray} {mx : Nat} {rt : Option FieldType} {a : Array Value} {s : State} {m : MethodId} {meth : Method} {c : Code} (h1 : s.methodNamed? y = some m) (h2 : s.vm.method? m = some meth) (h3 : meth.code = some c) (h4 : c.code = bytes)
    (h5 : (c.maxLocals == mx && c.exceptionTable.isEmpty && decide (c.maxStack ≤ mostOperands) && decide (meth.sig.returnType = rt) && !meth.locks && decide (parseMethodDescriptor y.desc = some meth.sig)) = true) : (Jvm.Cond.code y bytes mx rt).before a s = true := by
  simp only [Bool.and_eq_true, beq_iff_eq, Bool.not_eq_true', decide_eq_true_eq] at h5
  obtain ⟨⟨⟨⟨⟨g1, g2⟩, g3⟩, g4⟩, g5⟩, g6⟩ := h5
  simp [Cond.before, Cond.holds, Cond.value, h1, h2, h3, h4, g1, g2, g3, g4, g5, g6]
theorem codeWith_word {y : MethodName} {bytes : ByteArray} {mx : Nat} {rt : Option FieldType} {hs : List (Nat × Nat × Nat × Nat)} {a : Array Value} {s : State} {m : MethodId} {meth : Method} {c : Code} (h1 : s.methodNamed? y = some m) (h2 : s.vm.method? m = some meth) (h3 : meth.code = some c) (h4 : c.code = bytes)
    (h5 : (c.maxLocals == mx && decide (c.exceptionTable.toList.map (fun h => (h.startPc, h.endPc, h.handlerPc, h.catchType)) = hs) && decide (c.maxStack ≤ mostOperands) && decide (meth.sig.returnType = rt) && !meth.locks && decide (parseMethodDescriptor y.desc = some meth.sig)) = true) : (Jvm.Cond.codeWith y bytes mx rt hs).before a s = true := by
  simp only [Bool.and_eq_true, beq_iff_eq, Bool.not_eq_true', decide_eq_true_eq] at h5
  obtain ⟨⟨⟨⟨⟨g1, g2⟩, g3⟩, g4⟩, g5⟩, g6⟩ := h5
  simp [Cond.before, Cond.holds, Cond.value, h1, h2, h3, h4, g1, g2, g3, g4, g5, g6]
def isCode : Jvm.Cond → Bool
  | .code _ _ _ _ => true
  | .codeWith _ _ _ _ _ => true
  | _ => false
theorem all_split {L : List Jvm.Cond} {P : Jvm.Cond → Bool} (h1 : L.all (fun c => isCode c || P c) = true) (h2 : ∀ c ∈ L.filter isCode, P c = true) : L.all P = true := by
  refine List.all_eq_true.mpr fun c hc => ?_
  have h := List.all_eq_true.mp h1 c hc
  rcases Bool.eq_false_or_eq_true (isCode c) with hi | hi
  · exact h2 c (List.mem_filter.mpr ⟨hc, hi⟩)
  · simpa [hi] using h
set_option maxRecDepth 65536 in
theorem w_c0 : (Jvm.Cond.code x code maxLocals ret).before args0 about1 = true := code_word (m := ⟨1, 2⟩) (meth := k1m2) (c := k1c2) (by decide +kernel) rfl rfl rfl (by decide +kernel)
set_option maxRecDepth 65536 in
theorem w_c1 : (Jvm.Cond.code ({ cls := "com/example/rowtide/rowtide/event/Row", name := "<init>", desc := "(I)V" } : Jvm.MethodName) prog_10_method_1_code (2 : Nat) (Option.none : Option Jvm.ClassFile.FieldType)).before args0 about1 = true := code_word (m := ⟨2, 0⟩) (meth := k2m0) (c := k2c0) (by decide +kernel) rfl rfl rfl (by decide +kernel)
set_option maxRecDepth 65536 in
theorem w_c2 : (Jvm.Cond.code ({ cls := "java/lang/Object", name := "<init>", desc := "()V" } : Jvm.MethodName) object_method_1_code (1 : Nat) (Option.none : Option Jvm.ClassFile.FieldType)).before args0 about1 = true := code_word (m := ⟨0, 0⟩) (meth := k0m0) (c := k0c0) (by decide +kernel) rfl rfl rfl (by decide +kernel)
set_option maxRecDepth 65536 in
theorem w_c3 : (Jvm.Cond.code ({ cls := "com/example/rowtide/rowtide/event/Row", name := "setUtf8", desc := "(I[BII)V" } : Jvm.MethodName) prog_10_method_7_code (5 : Nat) (Option.none : Option Jvm.ClassFile.FieldType)).before args0 about1 = true := code_word (m := ⟨2, 5⟩) (meth := k2m5) (c := k2c5) (by decide +kernel) rfl rfl rfl (by decide +kernel)
set_option maxRecDepth 65536 in
theorem w_c4 : (Jvm.Cond.code ({ cls := "com/example/rowtide/rowtide/event/Row", name := "isNull", desc := "(I)Z" } : Jvm.MethodName) prog_10_method_4_code (2 : Nat) (Option.some Jvm.ClassFile.FieldType.boolean)).before args0 about1 = true := code_word (m := ⟨2, 2⟩) (meth := k2m2) (c := k2c2) (by decide +kernel) rfl rfl rfl (by decide +kernel)
set_option maxRecDepth 65536 in
theorem w_c5 : (Jvm.Cond.code ({ cls := "com/example/rowtide/rowtide/event/Row", name := "isUnavailable", desc := "(I)Z" } : Jvm.MethodName) prog_10_method_5_code (2 : Nat) (Option.some Jvm.ClassFile.FieldType.boolean)).before args0 about1 = true := code_word (m := ⟨2, 3⟩) (meth := k2m3) (c := k2c3) (by decide +kernel) rfl rfl rfl (by decide +kernel)
set_option maxRecDepth 65536 in
theorem w_c6 : (Jvm.Cond.code ({ cls := "com/example/rowtide/rowtide/event/Row", name := "utf8", desc := "(I)[B" } : Jvm.MethodName) prog_10_method_9_code (2 : Nat) (Option.some (Jvm.ClassFile.FieldType.array Jvm.ClassFile.FieldType.byte))).before args0 about1 = true := code_word (m := ⟨2, 7⟩) (meth := k2m7) (c := k2c7) (by decide +kernel) rfl rfl rfl (by decide +kernel)
set_option maxRecDepth 65536 in
theorem w_c7 : (Jvm.Cond.code ({ cls := "com/example/rowtide/rowtide/event/Row", name := "utf8Offset", desc := "(I)I" } : Jvm.MethodName) prog_10_method_10_code (2 : Nat) (Option.some Jvm.ClassFile.FieldType.int)).before args0 about1 = true := code_word (m := ⟨2, 8⟩) (meth := k2m8) (c := k2c8) (by decide +kernel) rfl rfl rfl (by decide +kernel)
set_option maxRecDepth 65536 in
theorem w_c8 : (Jvm.Cond.code ({ cls := "com/example/rowtide/rowtide/event/Row", name := "utf8Length", desc := "(I)I" } : Jvm.MethodName) prog_10_method_11_code (2 : Nat) (Option.some Jvm.ClassFile.FieldType.int)).before args0 about1 = true := code_word (m := ⟨2, 9⟩) (meth := k2m9) (c := k2c9) (by decide +kernel) rfl rfl rfl (by decide +kernel)
set_option maxRecDepth 65536 in
theorem w_c9 : (Jvm.Cond.code ({ cls := "com/example/rowtide/rowtide/event/Row", name := "text", desc := "(I)Ljava/lang/String;" } : Jvm.MethodName) prog_10_method_3_code (2 : Nat) (Option.some (Jvm.ClassFile.FieldType.object "java/lang/String"))).before args0 about1 = true := code_word (m := ⟨2, 1⟩) (meth := k2m1) (c := k2c1) (by decide +kernel) rfl rfl rfl (by decide +kernel)
set_option maxRecDepth 65536 in
theorem w_c10 : (Jvm.Cond.code ({ cls := "java/lang/String", name := "<init>", desc := "([BIILjava/nio/charset/Charset;)V" } : Jvm.MethodName) jdk_42_method_10_code (5 : Nat) (Option.none : Option Jvm.ClassFile.FieldType)).before args0 about1 = true := code_word (m := ⟨8, 1⟩) (meth := k8m1) (c := k8c1) (by decide +kernel) rfl rfl rfl (by decide +kernel)
set_option maxRecDepth 65536 in
theorem w_c11 : (Jvm.Cond.code ({ cls := "java/util/Objects", name := "requireNonNull", desc := "(Ljava/lang/Object;)Ljava/lang/Object;" } : Jvm.MethodName) jdk_31_method_10_code (1 : Nat) (Option.some (Jvm.ClassFile.FieldType.object "java/lang/Object"))).before args0 about1 = true := code_word (m := ⟨10, 1⟩) (meth := k10m1) (c := k10c1) (by decide +kernel) rfl rfl rfl (by decide +kernel)
set_option maxRecDepth 65536 in
theorem w_c12 : (Jvm.Cond.code ({ cls := "java/lang/String", name := "checkBoundsOffCount", desc := "(III)I" } : Jvm.MethodName) jdk_42_method_157_code (3 : Nat) (Option.some Jvm.ClassFile.FieldType.int)).before args0 about1 = true := code_word (m := ⟨8, 10⟩) (meth := k8m10) (c := k8c10) (by decide +kernel) rfl rfl rfl (by decide +kernel)
set_option maxRecDepth 65536 in
theorem w_c13 : (Jvm.Cond.code ({ cls := "jdk/internal/util/Preconditions", name := "checkFromIndexSize", desc := "(IIILjava/util/function/BiFunction;)I" } : Jvm.MethodName) jdk_41_method_13_code (4 : Nat) (Option.some Jvm.ClassFile.FieldType.int)).before args0 about1 = true := code_word (m := ⟨15, 2⟩) (meth := k15m2) (c := k15c2) (by decide +kernel) rfl rfl rfl (by decide +kernel)
set_option maxRecDepth 65536 in
theorem w_c14 : (Jvm.Cond.code ({ cls := "java/lang/String", name := "length", desc := "()I" } : Jvm.MethodName) jdk_42_method_54_code (1 : Nat) (Option.some Jvm.ClassFile.FieldType.int)).before args0 about1 = true := code_word (m := ⟨8, 3⟩) (meth := k8m3) (c := k8c3) (by decide +kernel) rfl rfl rfl (by decide +kernel)
set_option maxRecDepth 65536 in
theorem w_c15 : (Jvm.Cond.code ({ cls := "java/lang/String", name := "coder", desc := "()B" } : Jvm.MethodName) jdk_42_method_152_code (1 : Nat) (Option.some Jvm.ClassFile.FieldType.byte)).before args0 about1 = true := code_word (m := ⟨8, 7⟩) (meth := k8m7) (c := k8c7) (by decide +kernel) rfl rfl rfl (by decide +kernel)
set_option maxRecDepth 65536 in
theorem w_c16 : (Jvm.Cond.code ({ cls := "com/example/rowtide/rowtide/event/RowSetUtf8PinLaw", name := "charOk", desc := "(Ljava/lang/String;II[BI)Z" } : Jvm.MethodName) method_2_code (5 : Nat) (Option.some Jvm.ClassFile.FieldType.boolean)).before args0 about1 = true := code_word (m := ⟨1, 1⟩) (meth := k1m1) (c := k1c1) (by decide +kernel) rfl rfl rfl (by decide +kernel)
set_option maxRecDepth 65536 in
theorem w_c17 : (Jvm.Cond.code ({ cls := "java/lang/StringCoding", name := "countPositives", desc := "([BII)I" } : Jvm.MethodName) jdk_123_method_3_code (5 : Nat) (Option.some Jvm.ClassFile.FieldType.int)).before args0 about1 = true := code_word (m := ⟨16, 1⟩) (meth := k16m1) (c := k16c1) (by decide +kernel) rfl rfl rfl (by decide +kernel)
set_option maxRecDepth 65536 in
theorem w_c18 : (Jvm.Cond.code ({ cls := "java/util/Arrays", name := "copyOfRange", desc := "([BII)[B" } : Jvm.MethodName) jdk_65_method_132_code (3 : Nat) (Option.some (Jvm.ClassFile.FieldType.array Jvm.ClassFile.FieldType.byte))).before args0 about1 = true := code_word (m := ⟨17, 2⟩) (meth := k17m2) (c := k17c2) (by decide +kernel) rfl rfl rfl (by decide +kernel)
set_option maxRecDepth 65536 in
theorem w_c19 : (Jvm.Cond.code ({ cls := "java/util/Arrays", name := "copyOfRangeByte", desc := "([BII)[B" } : Jvm.MethodName) jdk_65_method_133_code (5 : Nat) (Option.some (Jvm.ClassFile.FieldType.array Jvm.ClassFile.FieldType.byte))).before args0 about1 = true := code_word (m := ⟨17, 3⟩) (meth := k17m3) (c := k17c3) (by decide +kernel) rfl rfl rfl (by decide +kernel)
set_option maxRecDepth 65536 in
theorem w_c20 : (Jvm.Cond.code ({ cls := "java/util/Arrays", name := "checkLength", desc := "(II)V" } : Jvm.MethodName) jdk_65_method_131_code (2 : Nat) (Option.none : Option Jvm.ClassFile.FieldType)).before args0 about1 = true := code_word (m := ⟨17, 1⟩) (meth := k17m1) (c := k17c1) (by decide +kernel) rfl rfl rfl (by decide +kernel)
set_option maxRecDepth 65536 in
theorem w_c21 : (Jvm.Cond.code ({ cls := "java/lang/Math", name := "min", desc := "(II)I" } : Jvm.MethodName) jdk_29_method_69_code (2 : Nat) (Option.some Jvm.ClassFile.FieldType.int)).before args0 about1 = true := code_word (m := ⟨18, 1⟩) (meth := k18m1) (c := k18c1) (by decide +kernel) rfl rfl rfl (by decide +kernel)
set_option maxRecDepth 65536 in
theorem w_c22 : (Jvm.Cond.code ({ cls := "java/lang/String", name := "charAt", desc := "(I)C" } : Jvm.MethodName) jdk_42_method_56_code (2 : Nat) (Option.some Jvm.ClassFile.FieldType.char)).before args0 about1 = true := code_word (m := ⟨8, 4⟩) (meth := k8m4) (c := k8c4) (by decide +kernel) rfl rfl rfl (by decide +kernel)
set_option maxRecDepth 65536 in
theorem w_c23 : (Jvm.Cond.code ({ cls := "java/lang/String", name := "isLatin1", desc := "()Z" } : Jvm.MethodName) jdk_42_method_154_code (1 : Nat) (Option.some Jvm.ClassFile.FieldType.boolean)).before args0 about1 = true := code_word (m := ⟨8, 8⟩) (meth := k8m8) (c := k8c8) (by decide +kernel) rfl rfl rfl (by decide +kernel)
set_option maxRecDepth 65536 in
theorem w_c24 : (Jvm.Cond.code ({ cls := "java/lang/StringLatin1", name := "charAt", desc := "([BI)C" } : Jvm.MethodName) jdk_43_method_2_code (2 : Nat) (Option.some Jvm.ClassFile.FieldType.char)).before args0 about1 = true := code_word (m := ⟨20, 1⟩) (meth := k20m1) (c := k20c1) (by decide +kernel) rfl rfl rfl (by decide +kernel)
set_option maxRecDepth 65536 in
theorem w_c25 : (Jvm.Cond.code ({ cls := "java/lang/String", name := "checkIndex", desc := "(II)V" } : Jvm.MethodName) jdk_42_method_155_code (2 : Nat) (Option.none : Option Jvm.ClassFile.FieldType)).before args0 about1 = true := code_word (m := ⟨8, 9⟩) (meth := k8m9) (c := k8c9) (by decide +kernel) rfl rfl rfl (by decide +kernel)
set_option maxRecDepth 65536 in
theorem w_c26 : (Jvm.Cond.code ({ cls := "jdk/internal/util/Preconditions", name := "checkIndex", desc := "(IILjava/util/function/BiFunction;)I" } : Jvm.MethodName) jdk_41_method_11_code (3 : Nat) (Option.some Jvm.ClassFile.FieldType.int)).before args0 about1 = true := code_word (m := ⟨15, 1⟩) (meth := k15m1) (c := k15c1) (by decide +kernel) rfl rfl rfl (by decide +kernel)
set_option maxRecDepth 65536 in
theorem w_c27 : (Jvm.Cond.code ({ cls := "com/example/rowtide/rowtide/event/Row", name := "setUnavailable", desc := "(I)V" } : Jvm.MethodName) prog_10_method_8_code (2 : Nat) (Option.none : Option Jvm.ClassFile.FieldType)).before args0 about1 = true := code_word (m := ⟨2, 6⟩) (meth := k2m6) (c := k2c6) (by decide +kernel) rfl rfl rfl (by decide +kernel)
set_option maxRecDepth 65536 in
theorem w_c28 : (Jvm.Cond.code ({ cls := "java/lang/String", name := "valueOf", desc := "(C)Ljava/lang/String;" } : Jvm.MethodName) jdk_42_method_139_code (1 : Nat) (Option.some (Jvm.ClassFile.FieldType.object "java/lang/String"))).before args0 about1 = true := code_word (m := ⟨8, 5⟩) (meth := k8m5) (c := k8c5) (by decide +kernel) rfl rfl rfl (by decide +kernel)
set_option maxRecDepth 65536 in
theorem w_c29 : (Jvm.Cond.code ({ cls := "java/lang/StringLatin1", name := "canEncode", desc := "(C)Z" } : Jvm.MethodName) jdk_43_method_3_code (1 : Nat) (Option.some Jvm.ClassFile.FieldType.boolean)).before args0 about1 = true := code_word (m := ⟨20, 2⟩) (meth := k20m2) (c := k20c2) (by decide +kernel) rfl rfl rfl (by decide +kernel)
set_option maxRecDepth 65536 in
theorem w_c30 : (Jvm.Cond.code ({ cls := "java/lang/StringLatin1", name := "toBytes", desc := "(C)[B" } : Jvm.MethodName) jdk_43_method_46_code (1 : Nat) (Option.some (Jvm.ClassFile.FieldType.array Jvm.ClassFile.FieldType.byte))).before args0 about1 = true := code_word (m := ⟨20, 3⟩) (meth := k20m3) (c := k20c3) (by decide +kernel) rfl rfl rfl (by decide +kernel)
set_option maxRecDepth 65536 in
theorem w_c31 : (Jvm.Cond.code ({ cls := "java/lang/String", name := "<init>", desc := "([BB)V" } : Jvm.MethodName) jdk_42_method_151_code (3 : Nat) (Option.none : Option Jvm.ClassFile.FieldType)).before args0 about1 = true := code_word (m := ⟨8, 6⟩) (meth := k8m6) (c := k8c6) (by decide +kernel) rfl rfl rfl (by decide +kernel)
set_option maxRecDepth 65536 in
theorem w_c32 : (Jvm.Cond.code ({ cls := "com/example/rowtide/rowtide/event/Row", name := "setText", desc := "(ILjava/lang/String;)V" } : Jvm.MethodName) prog_10_method_6_code (3 : Nat) (Option.none : Option Jvm.ClassFile.FieldType)).before args0 about1 = true := code_word (m := ⟨2, 4⟩) (meth := k2m4) (c := k2c4) (by decide +kernel) rfl rfl rfl (by decide +kernel)
set_option maxRecDepth 65536 in
theorem w_cw89 : (Jvm.Cond.codeWith ({ cls := "java/lang/String", name := "<init>", desc := "(Ljava/nio/charset/Charset;[BII)V" } : Jvm.MethodName) jdk_42_method_11_code (11 : Nat) (Option.none : Option Jvm.ClassFile.FieldType) [((800 : Nat), (813 : Nat), (816 : Nat), (202 : Nat))]).before args0 about1 = true := codeWith_word (m := ⟨8, 2⟩) (meth := k8m2) (c := k8c2) (by decide +kernel) rfl rfl rfl (by decide +kernel)
def codes1 : List Jvm.Cond := [Jvm.Cond.code x code maxLocals ret, Jvm.Cond.code ({ cls := "com/example/rowtide/rowtide/event/Row", name := "<init>", desc := "(I)V" } : Jvm.MethodName) prog_10_method_1_code (2 : Nat) (Option.none : Option Jvm.ClassFile.FieldType), Jvm.Cond.code ({ cls := "java/lang/Object", name := "<init>", desc := "()V" } : Jvm.MethodName) object_method_1_code (1 : Nat) (Option.none : Option Jvm.ClassFile.FieldType), Jvm.Cond.code ({ cls := "com/example/rowtide/rowtide/event/Row", name := "setUtf8", desc := "(I[BII)V" } : Jvm.MethodName) prog_10_method_7_code (5 : Nat) (Option.none : Option Jvm.ClassFile.FieldType), Jvm.Cond.code ({ cls := "com/example/rowtide/rowtide/event/Row", name := "isNull", desc := "(I)Z" } : Jvm.MethodName) prog_10_method_4_code (2 : Nat) (Option.some Jvm.ClassFile.FieldType.boolean), Jvm.Cond.code ({ cls := "com/example/rowtide/rowtide/event/Row", name := "isUnavailable", desc := "(I)Z" } : Jvm.MethodName) prog_10_method_5_code (2 : Nat) (Option.some Jvm.ClassFile.FieldType.boolean), Jvm.Cond.code ({ cls := "com/example/rowtide/rowtide/event/Row", name := "utf8", desc := "(I)[B" } : Jvm.MethodName) prog_10_method_9_code (2 : Nat) (Option.some (Jvm.ClassFile.FieldType.array Jvm.ClassFile.FieldType.byte)), Jvm.Cond.code ({ cls := "com/example/rowtide/rowtide/event/Row", name := "utf8Offset", desc := "(I)I" } : Jvm.MethodName) prog_10_method_10_code (2 : Nat) (Option.some Jvm.ClassFile.FieldType.int), Jvm.Cond.code ({ cls := "com/example/rowtide/rowtide/event/Row", name := "utf8Length", desc := "(I)I" } : Jvm.MethodName) prog_10_method_11_code (2 : Nat) (Option.some Jvm.ClassFile.FieldType.int), Jvm.Cond.code ({ cls := "com/example/rowtide/rowtide/event/Row", name := "text", desc := "(I)Ljava/lang/String;" } : Jvm.MethodName) prog_10_method_3_code (2 : Nat) (Option.some (Jvm.ClassFile.FieldType.object "java/lang/String")), Jvm.Cond.code ({ cls := "java/lang/String", name := "<init>", desc := "([BIILjava/nio/charset/Charset;)V" } : Jvm.MethodName) jdk_42_method_10_code (5 : Nat) (Option.none : Option Jvm.ClassFile.FieldType), Jvm.Cond.code ({ cls := "java/util/Objects", name := "requireNonNull", desc := "(Ljava/lang/Object;)Ljava/lang/Object;" } : Jvm.MethodName) jdk_31_method_10_code (1 : Nat) (Option.some (Jvm.ClassFile.FieldType.object "java/lang/Object")), Jvm.Cond.code ({ cls := "java/lang/String", name := "checkBoundsOffCount", desc := "(III)I" } : Jvm.MethodName) jdk_42_method_157_code (3 : Nat) (Option.some Jvm.ClassFile.FieldType.int), Jvm.Cond.code ({ cls := "jdk/internal/util/Preconditions", name := "checkFromIndexSize", desc := "(IIILjava/util/function/BiFunction;)I" } : Jvm.MethodName) jdk_41_method_13_code (4 : Nat) (Option.some Jvm.ClassFile.FieldType.int), Jvm.Cond.codeWith ({ cls := "java/lang/String", name := "<init>", desc := "(Ljava/nio/charset/Charset;[BII)V" } : Jvm.MethodName) jdk_42_method_11_code (11 : Nat) (Option.none : Option Jvm.ClassFile.FieldType) [((800 : Nat), (813 : Nat), (816 : Nat), (202 : Nat))], Jvm.Cond.code ({ cls := "java/lang/String", name := "length", desc := "()I" } : Jvm.MethodName) jdk_42_method_54_code (1 : Nat) (Option.some Jvm.ClassFile.FieldType.int), Jvm.Cond.code ({ cls := "java/lang/String", name := "coder", desc := "()B" } : Jvm.MethodName) jdk_42_method_152_code (1 : Nat) (Option.some Jvm.ClassFile.FieldType.byte), Jvm.Cond.code ({ cls := "com/example/rowtide/rowtide/event/RowSetUtf8PinLaw", name := "charOk", desc := "(Ljava/lang/String;II[BI)Z" } : Jvm.MethodName) method_2_code (5 : Nat) (Option.some Jvm.ClassFile.FieldType.boolean), Jvm.Cond.code ({ cls := "java/lang/StringCoding", name := "countPositives", desc := "([BII)I" } : Jvm.MethodName) jdk_123_method_3_code (5 : Nat) (Option.some Jvm.ClassFile.FieldType.int), Jvm.Cond.code ({ cls := "java/util/Arrays", name := "copyOfRange", desc := "([BII)[B" } : Jvm.MethodName) jdk_65_method_132_code (3 : Nat) (Option.some (Jvm.ClassFile.FieldType.array Jvm.ClassFile.FieldType.byte)), Jvm.Cond.code ({ cls := "java/util/Arrays", name := "copyOfRangeByte", desc := "([BII)[B" } : Jvm.MethodName) jdk_65_method_133_code (5 : Nat) (Option.some (Jvm.ClassFile.FieldType.array Jvm.ClassFile.FieldType.byte)), Jvm.Cond.code ({ cls := "java/util/Arrays", name := "checkLength", desc := "(II)V" } : Jvm.MethodName) jdk_65_method_131_code (2 : Nat) (Option.none : Option Jvm.ClassFile.FieldType), Jvm.Cond.code ({ cls := "java/lang/Math", name := "min", desc := "(II)I" } : Jvm.MethodName) jdk_29_method_69_code (2 : Nat) (Option.some Jvm.ClassFile.FieldType.int), Jvm.Cond.code ({ cls := "java/lang/String", name := "charAt", desc := "(I)C" } : Jvm.MethodName) jdk_42_method_56_code (2 : Nat) (Option.some Jvm.ClassFile.FieldType.char), Jvm.Cond.code ({ cls := "java/lang/String", name := "isLatin1", desc := "()Z" } : Jvm.MethodName) jdk_42_method_154_code (1 : Nat) (Option.some Jvm.ClassFile.FieldType.boolean), Jvm.Cond.code ({ cls := "java/lang/StringLatin1", name := "charAt", desc := "([BI)C" } : Jvm.MethodName) jdk_43_method_2_code (2 : Nat) (Option.some Jvm.ClassFile.FieldType.char), Jvm.Cond.code ({ cls := "java/lang/String", name := "checkIndex", desc := "(II)V" } : Jvm.MethodName) jdk_42_method_155_code (2 : Nat) (Option.none : Option Jvm.ClassFile.FieldType), Jvm.Cond.code ({ cls := "jdk/internal/util/Preconditions", name := "checkIndex", desc := "(IILjava/util/function/BiFunction;)I" } : Jvm.MethodName) jdk_41_method_11_code (3 : Nat) (Option.some Jvm.ClassFile.FieldType.int), Jvm.Cond.code ({ cls := "com/example/rowtide/rowtide/event/Row", name := "setUnavailable", desc := "(I)V" } : Jvm.MethodName) prog_10_method_8_code (2 : Nat) (Option.none : Option Jvm.ClassFile.FieldType), Jvm.Cond.code ({ cls := "java/lang/String", name := "valueOf", desc := "(C)Ljava/lang/String;" } : Jvm.MethodName) jdk_42_method_139_code (1 : Nat) (Option.some (Jvm.ClassFile.FieldType.object "java/lang/String")), Jvm.Cond.code ({ cls := "java/lang/StringLatin1", name := "canEncode", desc := "(C)Z" } : Jvm.MethodName) jdk_43_method_3_code (1 : Nat) (Option.some Jvm.ClassFile.FieldType.boolean), Jvm.Cond.code ({ cls := "java/lang/StringLatin1", name := "toBytes", desc := "(C)[B" } : Jvm.MethodName) jdk_43_method_46_code (1 : Nat) (Option.some (Jvm.ClassFile.FieldType.array Jvm.ClassFile.FieldType.byte)), Jvm.Cond.code ({ cls := "java/lang/String", name := "<init>", desc := "([BB)V" } : Jvm.MethodName) jdk_42_method_151_code (3 : Nat) (Option.none : Option Jvm.ClassFile.FieldType), Jvm.Cond.code ({ cls := "com/example/rowtide/rowtide/event/Row", name := "setText", desc := "(ILjava/lang/String;)V" } : Jvm.MethodName) prog_10_method_6_code (3 : Nat) (Option.none : Option Jvm.ClassFile.FieldType)]
set_option maxRecDepth 65536 in
theorem codes_eq : words1.filter isCode = codes1 := rfl
theorem w_codes : ∀ c ∈ words1.filter isCode, c.before args0 about1 = true := by
  rw [codes_eq]
  intro c hc
  simp only [codes1, List.mem_cons, List.not_mem_nil, or_false] at hc
  rcases hc with rfl | rfl | rfl | rfl | rfl | rfl | rfl | rfl | rfl | rfl | rfl | rfl | rfl | rfl | rfl | rfl | rfl | rfl | rfl | rfl | rfl | rfl | rfl | rfl | rfl | rfl | rfl | rfl | rfl | rfl | rfl | rfl | rfl | rfl
  · exact w_c0
  · exact w_c1
  · exact w_c2
  · exact w_c3
  · exact w_c4
  · exact w_c5
  · exact w_c6
  · exact w_c7
  · exact w_c8
  · exact w_c9
  · exact w_c10
  · exact w_c11
  · exact w_c12
  · exact w_c13
  · exact w_cw89
  · exact w_c14
  · exact w_c15
  · exact w_c16
  · exact w_c17
  · exact w_c18
  · exact w_c19
  · exact w_c20
  · exact w_c21
  · exact w_c22
  · exact w_c23
  · exact w_c24
  · exact w_c25
  · exact w_c26
  · exact w_c27
  · exact w_c28
  · exact w_c29
  · exact w_c30
  · exact w_c31
  · exact w_c32
set_option maxRecDepth 65536 in
theorem w_t1 : (words1.take 24).all (fun c => isCode c || c.before args0 about1) = true := by decide +kernel
set_option maxRecDepth 65536 in
theorem w_t2 : ((words1.drop 24).take 24).all (fun c => isCode c || c.before args0 about1) = true := by decide +kernel
set_option maxRecDepth 65536 in
theorem w_t3 : (((words1.drop 24).drop 24).take 24).all (fun c => isCode c || c.before args0 about1) = true := by decide +kernel
set_option maxRecDepth 65536 in
theorem w_t4 : ((((words1.drop 24).drop 24).drop 24).take 24).all (fun c => isCode c || c.before args0 about1) = true := by decide +kernel
set_option maxRecDepth 65536 in
theorem w_t5 : (((((words1.drop 24).drop 24).drop 24).drop 24).take 24).all (fun c => isCode c || c.before args0 about1) = true := by decide +kernel
set_option maxRecDepth 65536 in
theorem w_t6 : ((((((words1.drop 24).drop 24).drop 24).drop 24).drop 24).take 24).all (fun c => isCode c || c.before args0 about1) = true := by decide +kernel
set_option maxRecDepth 65536 in
theorem w_t7 : (((((((words1.drop 24).drop 24).drop 24).drop 24).drop 24).drop 24).take 24).all (fun c => isCode c || c.before args0 about1) = true := by decide +kernel
set_option maxRecDepth 65536 in
theorem w_t8 : (((((((words1.drop 24).drop 24).drop 24).drop 24).drop 24).drop 24).drop 24).all (fun c => isCode c || c.before args0 about1) = true := by decide +kernel
theorem w_tables : (allAtoms (Jvm.Cond.code x code maxLocals ret :: tables_1)).before args0 about1 = true := by
  rw [allAtoms_all]
  show words1.all (fun c => c.before args0 about1) = true
  refine all_split ?_ w_codes
  rw [← List.take_append_drop 24 words1, List.all_append, w_t1, ← List.take_append_drop 24 (words1.drop 24), List.all_append, w_t2, ← List.take_append_drop 24 ((words1.drop 24).drop 24), List.all_append, w_t3, ← List.take_append_drop 24 (((words1.drop 24).drop 24).drop 24), List.all_append, w_t4, ← List.take_append_drop 24 ((((words1.drop 24).drop 24).drop 24).drop 24), List.all_append, w_t5, ← List.take_append_drop 24 (((((words1.drop 24).drop 24).drop 24).drop 24).drop 24), List.all_append, w_t6, ← List.take_append_drop 24 ((((((words1.drop 24).drop 24).drop 24).drop 24).drop 24).drop 24), List.all_append, w_t7, w_t8]
  rfl
set_option maxRecDepth 65536 in
theorem w_rest : rest_1_c.before args0 about1 = true := by decide +kernel
set_option maxRecDepth 65536 in
theorem w_case : (Jvm.Cond.and given_1 narrow_1).before args0 about1 = true := by decide +kernel
set_option maxRecDepth 65536 in
theorem w_consts : constsHeld consts_1 about1 := Jvm.Lit.constsHeldB_iff.mp (by decide +kernel)
theorem w_applies : (headSpec (Jvm.Cond.code x code maxLocals ret :: tables_1) room_1).applies x e0.platform about1 = true :=
  (Spec.applies_iff w_frames).mpr ⟨w_running, w_runnable, w_alone, w_named, w_hears, w_ripe, w_room, w_tables⟩
theorem atStart : AtStart classFile x code maxLocals ret World_1 tables_1 room_1 Calls_1 rest_1 Pre_1 launch0 p0 e0 about1 theMethod args0 below0 :=
  ⟨lists_1, trivial, launch0.admits_env _ _ _, launch0.least_env, fairChoices_fair.cas, fairChoices_fair.clock, w_frames, w_args, w_heap, w_applies, ⟨w_consts, trivial⟩, w_rest, w_case⟩
end start1
theorem witness_1 : WitnessClaimed_1 := ⟨start1.p0, start1.e0, start1.about1, start1.theMethod, start1.args0, start1.below0, start1.atStart⟩
end Jvm.Pilot.@@N@@
