import JvmDerived
import JvmDerived.Pilot.@@N@@Statement
import JvmDerived.Pilot.@@N@@Code
set_option linter.unusedVariables false
set_option linter.unusedSimpArgs false
/- laws to paste: StrChars.pair_says, StrChars.chr8_lo8, StrChars.shr0 (cut by pick.py; bodies as the Statement names them) -/
namespace Jvm.Pilot.@@N@@
namespace StrChars
open Jvm Sem ClassFile Op Lib Jvm.Stand Jvm.Free.XT Jvm.Free.ALB Jvm.Free.JM Jvm.Free
open Jvm.Lib.Cold (StaticIs)
/-- the byte that i2b leaves of a char -/
def lo8 (x : Int32) : Int32 := x.toInt8.toInt32
/-- the byte, read back as charAt reads it, is the char -/
theorem lo8_mask {x : Int32} (h0 : ¬ x < 0) (h1 : ¬ 255 < x) : lo8 x &&& 255 = x := by
  have t : ∀ k : Fin 256, lo8 (Int32.ofNat k.val) &&& 255 = Int32.ofNat k.val := by decide +kernel
  rw [Int32.lt_iff_toInt_lt] at h0 h1
  have e0 : (0 : Int32).toInt = 0 := rfl
  have e1 : (255 : Int32).toInt = 255 := rfl
  obtain ⟨k, hk⟩ : ∃ k : Nat, x.toInt = k := ⟨x.toInt.toNat, by omega⟩
  have hx : x = Int32.ofNat k := Int32.toInt_inj.mp (by rw [hk, Int32.toInt_ofNat_small (by omega)])
  rw [hx]
  exact t ⟨k, by omega⟩
end StrChars
namespace StrChars
open Jvm Sem ClassFile Op Lib Jvm.Stand Jvm.Free.XT Jvm.Free.ALB Jvm.Free.JM Jvm.Free
open Jvm.Lib.Cold (StaticIs)
def hi8 (x : Int32) : Int32 := lo8 (x >>> ((8 : Int32) &&& 31))
/-- what StringUTF16.getChar makes of two bytes -/
def pairCh (u v : Int32) : Int32 := (((u &&& 255) <<< ((0 : Int32) &&& 31)) ||| ((v &&& 255) <<< ((8 : Int32) &&& 31))).toUInt32.toUInt16.toUInt32.toInt32
theorem shr0 (c : Int32) : c >>> ((0 : Int32) &&& 31) = c := by
  have e : ((0 : Int32) &&& 31) = 0 := by decide
  rw [e]
  apply Int32.toBitVec_inj.mp
  rw [Int32.toBitVec_shiftRight]
  have e1 : ((0 : Int32).toBitVec.smod 32) = 0#32 := by decide
  rw [e1, BitVec.sshiftRight_eq']
  exact BitVec.sshiftRight_zero
theorem lo8_and (x : Int32) : (lo8 x &&& 255).toBitVec.toNat = x.toBitVec.toNat % 256 := by
  have h : (lo8 x).toBitVec = (x.toBitVec.signExtend 8).signExtend 32 := by rw [lo8, Int8.toBitVec_toInt32, Int32.toBitVec_toInt8]
  rw [Int32.toBitVec_and, BitVec.toNat_and, h]
  have e : ((x.toBitVec.signExtend 8).signExtend 32).toNat % 256 = x.toBitVec.toNat % 256 := by
    rw [BitVec.toNat_signExtend]
    have hlt := x.toBitVec.isLt
    simp only [BitVec.toNat_setWidth, BitVec.toNat_signExtend]
    split <;> split <;> omega
  rw [← e]
  exact Nat.and_two_pow_sub_one_eq_mod _ 8
theorem pair_says {c : Int32} (h0 : ¬ c < 0) (h1 : ¬ 65535 < c) : pairCh (lo8 c) (hi8 c) = c := by
  rw [Int32.lt_iff_toInt_lt] at h0 h1
  have e0 : (0 : Int32).toInt = 0 := rfl
  have e1 : (65535 : Int32).toInt = 65535 := rfl
  have hc : c.toInt = c.toBitVec.toNat := by
    have := c.toBitVec.isLt
    have e : c.toInt = c.toBitVec.toInt := rfl
    rw [e] at h0 h1
    rw [e]
    rw [BitVec.toInt_eq_toNat_cond] at h0 h1 ⊢
    split at h0 <;> split <;> omega
  have hn : c.toBitVec.toNat < 65536 := by omega
  have a1 := lo8_and c
  have a2 : (hi8 c &&& 255).toBitVec.toNat = c.toBitVec.toNat / 256 := by
    rw [hi8, lo8_and]
    have e : ((8 : Int32) &&& 31) = 8 := by decide
    rw [e, Int32.toBitVec_shiftRight]
    have e2 : ((8 : Int32).toBitVec.smod 32) = 8#32 := by decide
    rw [e2, BitVec.sshiftRight_eq', BitVec.toNat_sshiftRight_of_msb_false (by rw [BitVec.msb_eq_false_iff_two_mul_lt]; omega)]
    show c.toBitVec.toNat >>> 8 % 256 = _
    rw [Nat.shiftRight_eq_div_pow]
    omega
  unfold pairCh
  apply Int32.toBitVec_inj.mp
  apply BitVec.eq_of_toNat_eq
  have f0 : ((0 : Int32) &&& 31) = 0 := by decide
  have f8 : ((8 : Int32) &&& 31) = 8 := by decide
  rw [f0, f8]
  have g : (((lo8 c &&& 255) <<< (0 : Int32)) ||| ((hi8 c &&& 255) <<< (8 : Int32))).toBitVec.toNat = c.toBitVec.toNat := by
    rw [Int32.toBitVec_or, Int32.toBitVec_shiftLeft, Int32.toBitVec_shiftLeft]
    have s0 : ((0 : Int32).toBitVec.smod 32) = 0#32 := by decide
    have s8 : ((8 : Int32).toBitVec.smod 32) = 8#32 := by decide
    rw [s0, s8, BitVec.toNat_or]
    simp only [BitVec.shiftLeft_eq', BitVec.toNat_shiftLeft, a1, a2]
    show (c.toBitVec.toNat % 256) <<< 0 % 2 ^ 32 ||| (c.toBitVec.toNat / 256) <<< 8 % 2 ^ 32 = _
    rw [Nat.shiftLeft_zero, Nat.mod_eq_of_lt (show c.toBitVec.toNat % 256 < 2 ^ 32 by omega), Nat.mod_eq_of_lt (show (c.toBitVec.toNat / 256) <<< 8 < 2 ^ 32 by rw [Nat.shiftLeft_eq]; omega), Nat.or_comm, ← Nat.shiftLeft_add_eq_or_of_lt (by omega), Nat.shiftLeft_eq]
    omega
  show BitVec.toNat (((((lo8 c &&& 255) <<< (0 : Int32)) ||| ((hi8 c &&& 255) <<< (8 : Int32))).toBitVec.setWidth 16).setWidth 32) = _
  rw [BitVec.toNat_setWidth, BitVec.toNat_setWidth, g]
  omega
end StrChars
namespace StrChars
open Jvm Sem ClassFile Op Lib Jvm.Stand Jvm.Free.XT Jvm.Free.ALB Jvm.Free.JM Jvm.Free
open Jvm.Lib.Cold (StaticIs)
/-- charAt's cast of a byte read back -/
def chr8 (u : Int32) : Int32 := (u &&& 255).toUInt32.toUInt16.toUInt32.toInt32
theorem chr8_lo8 {c : Int32} (h0 : ¬ c < 0) (h1 : ¬ 255 < c) : chr8 (lo8 c) = c := by
  have t : ∀ k : Fin 256, (Int32.ofNat k.val).toUInt32.toUInt16.toUInt32.toInt32 = Int32.ofNat k.val := by decide +kernel
  unfold chr8
  rw [lo8_mask h0 h1]
  rw [Int32.lt_iff_toInt_lt] at h0 h1
  have e0 : (0 : Int32).toInt = 0 := rfl
  have e1 : (255 : Int32).toInt = 255 := rfl
  obtain ⟨k, hk⟩ : ∃ k : Nat, c.toInt = k := ⟨c.toInt.toNat, by omega⟩
  have hx : c = Int32.ofNat k := Int32.toInt_inj.mp (by rw [hk, Int32.toInt_ofNat_small (by omega)])
  rw [hx]
  exact t ⟨k, by omega⟩
end StrChars
end Jvm.Pilot.@@N@@
namespace Jvm.Pilot.@@N@@
open Jvm Jvm.ClassFile Sem Op Lib Jvm.Free Jvm.Stand Jvm.LawKit Jvm.RoadKit Bundle Jvm.Pilot.@@N@@.Jvm.D
section OwnKit
variable {p : Program} {l : Launch} {e : Env} {R : Room} {s : State} {m : MethodId} {args : Array Value} {below : List Frame} {meth : Method} {c : Code} {T T' : State} {locs : List Loc} {cells slots : Nat} {Z : State} {a0 : Array Value} {h : Heap}
def own_Fin (p : Program) (e : Env) (below : List Frame) (P : Outcome → State → Prop) (T : State) (g : JFrame) : Prop :=
  ∃ s₂ o, Steps p.tables e below (T.setTop g) s₂ ∧ s₂.status = .running ∧ Ended s₂ below o ∧ P o s₂
def own_P (s : State) (Q : Option Value → Heap → List Loc → Prop) (k n : Nat) (o : Outcome) (t : State) : Prop := ∃ v L, o = .returned v ∧ Q v t.heap L ∧ FrameEnd s o t L k n
theorem own_by {P : Outcome → State → Prop} {g g' : JFrame} (st : ∀ t, Steps p.tables e below (T'.setTop g') t → Steps p.tables e below (T.setTop g) t) (k : own_Fin p e below P T' g') : own_Fin p e below P T g := by
  obtain ⟨s₂, o, h1, h2⟩ := k
  exact ⟨s₂, o, st _ h1, h2⟩
theorem own_start {s₁ : State} {Q : Option Value → Heap → List Loc → Prop} {k n : Nat} {ml : Nat} {g : JFrame} (hef : entryFrame m args ml = g) (hk : own_Fin p e below (own_P s Q k n) s₁ g) :
    ∃ s₂ o, Steps p.tables e below (s₁.setTop (entryFrame m args ml)) s₂ ∧ s₂.status = .running ∧ Ended s₂ below o ∧ ∃ v L, o = .returned v ∧ Q v s₂.heap L ∧ FrameEnd s o s₂ L k n := by
  rw [hef]; exact hk
theorem own_end (X : Stand p l e R s m args below meth c T locs cells slots) {v : Option Value} (hv : meth.sig.returnType = none → v = none) (hlocks : meth.locks = false) {g : JFrame}
    (hret : ∀ {fs : List Frame}, (∀ (f : JFrame) (acts : List Action), f.method = m → f.locked = none → f.entered = [] → (doReturn e (T.setTop f) acts v).1 = T.setFrames fs) → Steps p.tables e below (T.setTop g) (T.setFrames fs))
    {Q : Option Value → Heap → List Loc → Prop} {k n : Nat} (hQ : Q v T.heap locs) (hk : cells ≤ k) (hn : slots ≤ n) : own_Fin p e below (own_P s Q k n) T g := by
  obtain ⟨fs, hr, hrun, hended, hW, hsame⟩ := X.leave hv hlocks
  exact ⟨_, _, hret hr, hrun, hended, _, _, rfl, hQ, ⟨_, rfl⟩, hW, hsame.mono hk hn⟩
theorem own_nf {C : String} {y : MethodName} (w : (Jvm.Cond.selects C y y).before a0 Z = true) : ∀ {s : State}, Z.Warmed39 s.vm → NotFace s y := fun hZ => notFace_of_selects (args := #[]) (mvT hZ w)
theorem own_callSB (X : Stand p l e R s m args below meth c T locs cells slots) (hx : p.tables.exec = Jvm.exec) (hZ : Z.Warmed39 s.vm) {own : String} {index : Nat} {y : MethodName} {bytes : ByteArray} {maxL W : Nat} {ret : Option FieldType} {kc ks : Nat} {as' : Array Value} {Q : Option Value → Heap → List Loc → Prop}
    (hown : s.vm.findClass own = some m.cls) (w1 : (Jvm.Cond.methodLink own index y).before a0 Z = true) (w2 : (Jvm.Cond.static y).before a0 Z = true) (w3 : (Jvm.Cond.initialized y.cls).before a0 Z = true) (w4 : (Jvm.Cond.code y bytes maxL ret).before a0 Z = true) (hy : y.cls ≠ "java/lang/invoke/MethodHandle" ∧ y.cls ≠ "java/lang/invoke/VarHandle")
    (hK : Back l R p e below s args y 3 W (fun A a => a = as' ∧ A.U.heap = h ∧ A.cells + kc ≤ R.cells ∧ A.slots + ks ≤ R.slots) (fun A _ v B => ∃ L, Q v B.U.heap L ∧ B.locs = A.locs ++ L ∧ B.cells = A.cells + kc ∧ B.slots = A.slots + ks))
    (eT : T.heap = h) {g : JFrame} (hg : g.method = m) (hsize : g.locals.size = c.maxLocals) {argsL rest : List Value} (hlen : ∀ sig, parseMethodDescriptor y.desc = some sig → argsL.length = sig.parameters.length)
    (hstack : g.stack = argsL.reverse ++ rest) (hW : 2 * g.monitorRoom + (rest.map fun v => v.category).sum ≤ W) (hdg : decode c.code g.pc = .ok (.invokestatic index, 3)) (has : argsL.toArray = as') (hc : cells + kc ≤ R.cells) (hs : slots + ks ≤ R.slots) {P : Outcome → State → Prop}
    (k : ∀ (v : Option Value) (T' : State) (L : List Loc), Stand p l e R s m args below meth c T' (locs ++ L) (cells + kc) (slots + ks) → Q v T'.heap L → own_Fin p e below P T' { g with pc := g.pc + 3, stack := v.toList ++ rest }) : own_Fin p e below P T g := by
  obtain ⟨v, _, ⟨U', L', k', n'⟩, -, X', ⟨Lc, hQ, l1, l2, l3⟩, st⟩ := Jvm.LawKit.callS X hx (y := y) hown (mvT hZ w1) (mvT hZ w2) (mvT hZ w3) (mvT hZ w4) hy hK hg hsize hlen hstack hW hdg (fun _ _ => ⟨has, eT, hc, hs⟩)
  dsimp only [Pt.U, Pt.locs, Pt.cells, Pt.slots] at X' l1 l2 l3 st hQ
  subst l1 l2 l3
  exact own_by st (k v U' Lc X' hQ)
theorem own_callS (X : Stand p l e R s m args below meth c T locs cells slots) (hx : p.tables.exec = Jvm.exec) (hZ : Z.Warmed39 s.vm) {own : String} {index : Nat} {y : MethodName} {bytes : ByteArray} {maxL W : Nat} {ret : Option FieldType} {rm : Room} {as' : Array Value} {Q : Option Value → Heap → List Loc → Prop}
    (hown : s.vm.findClass own = some m.cls) (w1 : (Jvm.Cond.methodLink own index y).before a0 Z = true) (w2 : (Jvm.Cond.static y).before a0 Z = true) (w3 : (Jvm.Cond.initialized y.cls).before a0 Z = true) (w4 : (Jvm.Cond.code y bytes maxL ret).before a0 Z = true) (hy : y.cls ≠ "java/lang/invoke/MethodHandle" ∧ y.cls ≠ "java/lang/invoke/VarHandle")
    (hM : MetFree l y (head1 [Jvm.Cond.code y bytes maxL ret] rm) (fun a U => a = as' ∧ Z.Warmed39 U.vm ∧ U.heap = h) (fun _ _ _ _ _ => True) (fun _ U o U' => ∃ v L, o = .returned v ∧ Q v U'.heap L ∧ FrameEnd U o U' L rm.cells rm.slots))
    (hf : rm.frames + 1 ≤ R.frames) (hl : W + (maxL + 11) + rm.locals ≤ R.locals) (eT : T.heap = h) {g : JFrame} (hg : g.method = m) (hsize : g.locals.size = c.maxLocals) {argsL rest : List Value} (hlen : ∀ sig, parseMethodDescriptor y.desc = some sig → argsL.length = sig.parameters.length)
    (hstack : g.stack = argsL.reverse ++ rest) (hW : 2 * g.monitorRoom + (rest.map fun v => v.category).sum ≤ W) (hdg : decode c.code g.pc = .ok (.invokestatic index, 3)) (has : argsL.toArray = as') (hc : cells + rm.cells ≤ R.cells) (hs : slots + rm.slots ≤ R.slots) {P : Outcome → State → Prop}
    (k : ∀ (v : Option Value) (T' : State) (L : List Loc), Stand p l e R s m args below meth c T' (locs ++ L) (cells + rm.cells) (slots + rm.slots) → Q v T'.heap L → own_Fin p e below P T' { g with pc := g.pc + 3, stack := v.toList ++ rest }) : own_Fin p e below P T g :=
  own_callSB X hx hZ hown w1 w2 w3 w4 hy (backOf (W := W) hM hZ w4 w3 hf hl) eT hg hsize hlen hstack hW hdg has hc hs k
theorem own_callIB (X : Stand p l e R s m args below meth c T locs cells slots) (hx : p.tables.exec = Jvm.exec) (hZ : Z.Warmed39 s.vm) {own : String} {index : Nat} {y : MethodName} {bytes : ByteArray} {maxL W : Nat} {kc ks : Nat} {as' : Array Value} {Q : Option Value → Heap → List Loc → Prop} (hin : y.name = "<init>")
    (hown : s.vm.findClass own = some m.cls) (w1 : (Jvm.Cond.methodLink own index y).before a0 Z = true) (w2 : (Jvm.Cond.instanceMethod y).before a0 Z = true) (w4 : (Jvm.Cond.code y bytes maxL none).before a0 Z = true) (hy : y.cls ≠ "java/lang/invoke/MethodHandle" ∧ y.cls ≠ "java/lang/invoke/VarHandle")
    (hK : Back l R p e below s args y 3 W (fun A a => a = as' ∧ A.U.heap = h ∧ A.cells + kc ≤ R.cells ∧ A.slots + ks ≤ R.slots) (fun A _ v B => ∃ L, Q v B.U.heap L ∧ B.locs = A.locs ++ L ∧ B.cells = A.cells + kc ∧ B.slots = A.slots + ks))
    (eT : T.heap = h) {g : JFrame} (hg : g.method = m) (hsize : g.locals.size = c.maxLocals) {a : Addr} {argsL rest : List Value} (hlen : ∀ sig, parseMethodDescriptor y.desc = some sig → argsL.length = sig.parameters.length)
    (hstack : g.stack = argsL.reverse ++ .ref a :: rest) (hW : 2 * g.monitorRoom + (rest.map fun v => v.category).sum ≤ W) (hdg : decode c.code g.pc = .ok (.invokespecial index, 3)) (has : (.ref a :: argsL).toArray = as') (hc : cells + kc ≤ R.cells) (hs : slots + ks ≤ R.slots) {P : Outcome → State → Prop}
    (k : ∀ (v : Option Value) (T' : State) (L : List Loc), Stand p l e R s m args below meth c T' (locs ++ L) (cells + kc) (slots + ks) → Q v T'.heap L → own_Fin p e below P T' { g with pc := g.pc + 3, stack := v.toList ++ rest }) : own_Fin p e below P T g := by
  obtain ⟨v, _, ⟨U', L', k', n'⟩, -, X', ⟨Lc, hQ, l1, l2, l3⟩, st⟩ := X.specialBack hx (y := y) hin hown (mvT hZ w1) (mvT hZ w2) (mvT hZ w4) hy hK hg hsize (Steps.refl _) (a := a) hlen hstack hW hdg (fun _ _ => ⟨has, eT, hc, hs⟩)
  dsimp only [Pt.U, Pt.locs, Pt.cells, Pt.slots] at X' l1 l2 l3 st hQ
  subst l1 l2 l3
  exact own_by (fun _ q => st.trans q) (k v U' Lc X' hQ)
theorem own_callI (X : Stand p l e R s m args below meth c T locs cells slots) (hx : p.tables.exec = Jvm.exec) (hZ : Z.Warmed39 s.vm) {own : String} {index : Nat} {y : MethodName} {bytes : ByteArray} {maxL W : Nat} {rm : Room} {as' : Array Value} {Q : Option Value → Heap → List Loc → Prop} (hin : y.name = "<init>")
    (hown : s.vm.findClass own = some m.cls) (w1 : (Jvm.Cond.methodLink own index y).before a0 Z = true) (w2 : (Jvm.Cond.instanceMethod y).before a0 Z = true) (w4 : (Jvm.Cond.code y bytes maxL none).before a0 Z = true) (w3 : (Jvm.Cond.initialized y.cls).before a0 Z = true) (hy : y.cls ≠ "java/lang/invoke/MethodHandle" ∧ y.cls ≠ "java/lang/invoke/VarHandle")
    (hM : MetFree l y (head1 [Jvm.Cond.code y bytes maxL none] rm) (fun a U => a = as' ∧ Z.Warmed39 U.vm ∧ U.heap = h) (fun _ _ _ _ _ => True) (fun _ U o U' => ∃ v L, o = .returned v ∧ Q v U'.heap L ∧ FrameEnd U o U' L rm.cells rm.slots))
    (hf : rm.frames + 1 ≤ R.frames) (hl : W + (maxL + 11) + rm.locals ≤ R.locals) (eT : T.heap = h) {g : JFrame} (hg : g.method = m) (hsize : g.locals.size = c.maxLocals) {a : Addr} {argsL rest : List Value} (hlen : ∀ sig, parseMethodDescriptor y.desc = some sig → argsL.length = sig.parameters.length)
    (hstack : g.stack = argsL.reverse ++ .ref a :: rest) (hW : 2 * g.monitorRoom + (rest.map fun v => v.category).sum ≤ W) (hdg : decode c.code g.pc = .ok (.invokespecial index, 3)) (has : (.ref a :: argsL).toArray = as') (hc : cells + rm.cells ≤ R.cells) (hs : slots + rm.slots ≤ R.slots) {P : Outcome → State → Prop}
    (k : ∀ (v : Option Value) (T' : State) (L : List Loc), Stand p l e R s m args below meth c T' (locs ++ L) (cells + rm.cells) (slots + rm.slots) → Q v T'.heap L → own_Fin p e below P T' { g with pc := g.pc + 3, stack := v.toList ++ rest }) : own_Fin p e below P T g :=
  own_callIB X hx hZ hin hown w1 w2 w4 hy (backOf (W := W) hM hZ w4 w3 hf hl) eT hg hsize hlen hstack hW hdg has hc hs k
theorem own_callVB (X : Stand p l e R s m args below meth c T locs cells slots) (hx : p.tables.exec = Jvm.exec) (hZ : Z.Warmed39 s.vm) {own C : String} {index : Nat} {y z : MethodName} {W : Nat} {kc ks : Nat} {as' : Array Value} {Q : Option Value → Heap → List Loc → Prop}
    (hown : s.vm.findClass own = some m.cls) (w1 : (Jvm.Cond.methodLink own index y).before a0 Z = true) (w2 : (Jvm.Cond.declares y).before a0 Z = true) (nf : ∀ {s : State}, Z.Warmed39 s.vm → NotFace s y) (w5 : (Jvm.Cond.selects C y z).before a0 Z = true) (w6 : (Jvm.Cond.instanceMethod z).before a0 Z = true) (hy : y.cls ≠ "java/lang/invoke/MethodHandle" ∧ y.cls ≠ "java/lang/invoke/VarHandle")
    {b : Addr} (E : Exa Z h b C)
    (hK : Back l R p e below s args z 3 W (fun A a => a = as' ∧ A.U.heap = h ∧ A.cells + kc ≤ R.cells ∧ A.slots + ks ≤ R.slots) (fun A _ v B => ∃ L, Q v B.U.heap L ∧ B.locs = A.locs ++ L ∧ B.cells = A.cells + kc ∧ B.slots = A.slots + ks))
    (eT : T.heap = h) {g : JFrame} (hg : g.method = m) (hsize : g.locals.size = c.maxLocals) {argsL rest : List Value} (hlen : ∀ sig, parseMethodDescriptor y.desc = some sig → argsL.length = sig.parameters.length)
    (hstack : g.stack = argsL.reverse ++ .ref b :: rest) (hW : 2 * g.monitorRoom + (rest.map fun v => v.category).sum ≤ W) (hdg : decode c.code g.pc = .ok (.invokevirtual index, 3)) (has : (.ref b :: argsL).toArray = as') (hc : cells + kc ≤ R.cells) (hs : slots + ks ≤ R.slots) {P : Outcome → State → Prop}
    (k : ∀ (v : Option Value) (T' : State) (L : List Loc), Stand p l e R s m args below meth c T' (locs ++ L) (cells + kc) (slots + ks) → Q v T'.heap L → own_Fin p e below P T' { g with pc := g.pc + 3, stack := v.toList ++ rest }) : own_Fin p e below P T g := by
  obtain ⟨cq, kq, qa, qb, qc⟩ := isOf hZ eT E
  obtain ⟨v, _, ⟨U', L', k', n'⟩, -, X', ⟨Lc, hQ, l1, l2, l3⟩, st⟩ := X.virtualBack hx (y := y) (z := z) hown (mvT hZ w1) (mvT hZ w2) (nf hZ) (mvT hZ w5) (mvT hZ w6) hy hK qa qc hg hsize (Steps.refl _) hlen hstack hW hdg (fun _ _ => ⟨has, eT, hc, hs⟩)
  dsimp only [Pt.U, Pt.locs, Pt.cells, Pt.slots] at X' l1 l2 l3 st hQ
  subst l1 l2 l3
  exact own_by (fun _ q => st.trans q) (k v U' Lc X' hQ)
theorem own_callV (X : Stand p l e R s m args below meth c T locs cells slots) (hx : p.tables.exec = Jvm.exec) (hZ : Z.Warmed39 s.vm) {own C : String} {index : Nat} {y z : MethodName} {bytes : ByteArray} {maxL W : Nat} {ret : Option FieldType} {rm : Room} {as' : Array Value} {Q : Option Value → Heap → List Loc → Prop}
    (hown : s.vm.findClass own = some m.cls) (w1 : (Jvm.Cond.methodLink own index y).before a0 Z = true) (w2 : (Jvm.Cond.declares y).before a0 Z = true) (nf : ∀ {s : State}, Z.Warmed39 s.vm → NotFace s y) (w5 : (Jvm.Cond.selects C y z).before a0 Z = true) (w6 : (Jvm.Cond.instanceMethod z).before a0 Z = true) (w4 : (Jvm.Cond.code z bytes maxL ret).before a0 Z = true) (w3 : (Jvm.Cond.initialized z.cls).before a0 Z = true) (hy : y.cls ≠ "java/lang/invoke/MethodHandle" ∧ y.cls ≠ "java/lang/invoke/VarHandle")
    {b : Addr} (E : Exa Z h b C)
    (hM : MetFree l z (head1 [Jvm.Cond.code z bytes maxL ret] rm) (fun a U => a = as' ∧ Z.Warmed39 U.vm ∧ U.heap = h) (fun _ _ _ _ _ => True) (fun _ U o U' => ∃ v L, o = .returned v ∧ Q v U'.heap L ∧ FrameEnd U o U' L rm.cells rm.slots))
    (hf : rm.frames + 1 ≤ R.frames) (hl : W + (maxL + 11) + rm.locals ≤ R.locals) (eT : T.heap = h) {g : JFrame} (hg : g.method = m) (hsize : g.locals.size = c.maxLocals) {argsL rest : List Value} (hlen : ∀ sig, parseMethodDescriptor y.desc = some sig → argsL.length = sig.parameters.length)
    (hstack : g.stack = argsL.reverse ++ .ref b :: rest) (hW : 2 * g.monitorRoom + (rest.map fun v => v.category).sum ≤ W) (hdg : decode c.code g.pc = .ok (.invokevirtual index, 3)) (has : (.ref b :: argsL).toArray = as') (hc : cells + rm.cells ≤ R.cells) (hs : slots + rm.slots ≤ R.slots) {P : Outcome → State → Prop}
    (k : ∀ (v : Option Value) (T' : State) (L : List Loc), Stand p l e R s m args below meth c T' (locs ++ L) (cells + rm.cells) (slots + rm.slots) → Q v T'.heap L → own_Fin p e below P T' { g with pc := g.pc + 3, stack := v.toList ++ rest }) : own_Fin p e below P T g :=
  own_callVB X hx hZ hown w1 w2 nf w5 w6 hy E (backOf (W := W) hM hZ w4 w3 hf hl) eT hg hsize hlen hstack hW hdg has hc hs k
theorem own_narR {t : FieldType} {w : Value} (ht : t.isReference = true) : narrow t w = w := by cases t <;> first | rfl | (cases ht)
theorem own_fldI {t : Term} {C n d : String} {k : Int32} {a : Addr} (hv : (Jvm.Cond.eq (.field t C n d) (.int k)).value args s none s [] = some true) (ht : t.eval args s none [] s = some (.ref a)) : Fld s s.heap a C n d (.int k) := by
  obtain ⟨x, y, e1, e2, k1, k2⟩ := cmp_v (Or.inl hv)
  rw [Term.int_eval] at e2
  cases e2
  obtain ⟨z, rfl⟩ := k2
  have q : z = k := by simpa [Jvm.Cond.value, e1, Term.int_eval] using hv
  rw [fld_at ht] at e1
  exact Fld.start (q ▸ e1)
theorem own_clash {x y z : Int32} (h : x = y) (n : ¬ y = z) : ¬ x = z := fun q => n (h.symm.trans q)
theorem own_rem (x y : Int32) (n : Int) (hy : y.toInt = n) (hn : 0 < n) : 0 ≤ ((x &&& (2147483647 : Int32)) % y).toInt ∧ ((x &&& (2147483647 : Int32)) % y).toInt < n := by
  have h0 := c_and x 2147483647 (by decide)
  have h1 := (c_irem (x &&& 2147483647) y n hy).1 h0.1
  rw [h1]
  exact ⟨Int.emod_nonneg _ (by omega), Int.emod_lt_of_pos _ hn⟩
theorem own_eqI {x y : Int32} (h : x.toInt = y.toInt) : x = y := Int32.toInt_inj.mp h
theorem own_neI {x y : Int32} (h : ¬ x = y) : x.toInt ≠ y.toInt := fun q => h (Int32.toInt_inj.mp q)
theorem own_fitsR {t : FieldType} {v : Value} (ht : t.isReference = true) (hv : v.isRef = true) : fits t v = true := by
  rcases ref_cases hv with rfl | ⟨a, rfl⟩ <;> cases t <;> first | rfl | (cases ht)
theorem own_cat {v : Value} (hv : v.isRef = true) : v.category = 1 := by
  rcases ref_cases hv with rfl | ⟨a, rfl⟩ <;> rfl
theorem own_store1 {L : Array Slot} {i : Nat} {v : Value} {o : Slot} {L' : Array Slot} (hold : L[i]? = some o) (ho : One o) (hv : v.category = 1) (e : L.setIfInBounds i (.val v) = L') : storeLocals L i v = some L' := by
  rw [← e]; exact XS.store1 hold ho hv
theorem own_h {Z : State} {a0 : Array Value} (hw : ∀ d ∈ tables_1, d.before a0 Z = true) (i : Nat) {d : Jvm.Cond} (h : tables_1[i]? = some d) : d.before a0 Z = true := hw d (List.mem_of_getElem? h)
end OwnKit
abbrev own_y0 : MethodName := ⟨"com/example/stepgate/stepgate/http/Http1Fields", "isFieldValue", "(Ljava/lang/String;)Z"⟩
abbrev own_y1 : MethodName := ⟨"com/example/stepgate/stepgate/http/Http1FieldsIsFieldValuePinLaw", "allowed", "(C)Z"⟩
abbrev own_y2 : MethodName := ⟨"com/example/stepgate/stepgate/http/Http1FieldsIsFieldValuePinLaw", "pick", "(I)C"⟩
abbrev own_y3 : MethodName := ⟨"java/lang/String", "<init>", "([C)V"⟩
abbrev own_y4 : MethodName := ⟨"java/lang/String", "<init>", "([CIILjava/lang/Void;)V"⟩
abbrev own_y5 : MethodName := ⟨"java/lang/String", "charAt", "(I)C"⟩
abbrev own_y6 : MethodName := ⟨"java/lang/String", "checkIndex", "(II)V"⟩
abbrev own_y7 : MethodName := ⟨"java/lang/String", "coder", "()B"⟩
abbrev own_y8 : MethodName := ⟨"java/lang/String", "isLatin1", "()Z"⟩
abbrev own_y9 : MethodName := ⟨"java/lang/String", "length", "()I"⟩
abbrev own_y10 : MethodName := ⟨"java/lang/StringLatin1", "charAt", "([BI)C"⟩
abbrev own_y11 : MethodName := ⟨"java/lang/StringUTF16", "charAt", "([BI)C"⟩
abbrev own_y12 : MethodName := ⟨"java/lang/StringUTF16", "checkIndex", "(I[B)V"⟩
abbrev own_y13 : MethodName := ⟨"java/lang/StringUTF16", "coderFromArrayLen", "([BI)B"⟩
abbrev own_y14 : MethodName := ⟨"java/lang/StringUTF16", "compress", "([CII)[B"⟩
abbrev own_y15 : MethodName := ⟨"java/lang/StringUTF16", "compress", "([CI[BII)I"⟩
abbrev own_y16 : MethodName := ⟨"java/lang/StringUTF16", "getChar", "([BI)C"⟩
abbrev own_y17 : MethodName := ⟨"java/lang/StringUTF16", "length", "([B)I"⟩
abbrev own_y18 : MethodName := ⟨"java/lang/StringUTF16", "newBytesFor", "(I)[B"⟩
abbrev own_y19 : MethodName := ⟨"java/lang/StringUTF16", "newBytesLength", "(I)I"⟩
abbrev own_y20 : MethodName := ⟨"java/lang/StringUTF16", "putChar", "([BII)V"⟩
abbrev own_y21 : MethodName := ⟨"java/lang/StringUTF16", "toBytes", "([CII)[B"⟩
abbrev own_y22 : MethodName := ⟨"jdk/internal/util/Preconditions", "checkIndex", "(IILjava/util/function/BiFunction;)I"⟩
theorem own_g {p : Program} {e : Env} {below : List Frame} {T : State} {P : Outcome → State → Prop} {g : JFrame} (g' : JFrame) (st : ∀ t, Steps p.tables e below (T.setTop g') t → Steps p.tables e below (T.setTop g) t) (k : own_Fin p e below P T g') : own_Fin p e below P T g := own_by st k
abbrev own_A0 (Z : State) (zCS : Int32) : Prop := Sta Z Z.heap "java/lang/String" "COMPACT_STRINGS" "Z" (.int zCS)
abbrev own_A1 (Z : State)  : Prop := Sta Z Z.heap "java/lang/StringUTF16" "$assertionsDisabled" "Z" (.int 1)
abbrev own_A2 (Z : State)  : Prop := Sta Z Z.heap "java/lang/StringUTF16" "HI_BYTE_SHIFT" "I" (.int 0)
abbrev own_A3 (Z : State)  : Prop := Sta Z Z.heap "java/lang/StringUTF16" "LO_BYTE_SHIFT" "I" (.int 8)
abbrev own_A4 (Z : State) (fm : Value) : Prop := Sta Z Z.heap "jdk/internal/util/Preconditions" "SIOOBE_FORMATTER" "Ljava/util/function/BiFunction;" fm
section OwnKitW
variable {p : Program} {l : Launch} {e : Env} {R : Room} {s : State} {m : MethodId} {args : Array Value} {below : List Frame} {meth : Method} {c : Code} {T T' : State} {locs : List Loc} {cells slots : Nat} {Z : State} {a0 : Array Value} {h : Heap} {vm0 : Vm} {EL : List (String × Nat)}
def own_PW (Z : State) (EL : List (String × Nat)) (s : State) (Q : Option Value → Heap → List Loc → Prop) (k n : Nat) (o : Outcome) (t : State) : Prop := ∃ v L, o = .returned v ∧ Q v t.heap L ∧ CHr Z EL s.vm s.heap t.vm t.heap ∧ ReturnedEndW s o t L k n
theorem own_startW {s₁ : State} {Q : Option Value → Heap → List Loc → Prop} {k n : Nat} {ml : Nat} {g : JFrame} (hef : entryFrame m args ml = g) (hk : own_Fin p e below (own_PW Z EL s Q k n) s₁ g) :
    ∃ s₂ o, Steps p.tables e below (s₁.setTop (entryFrame m args ml)) s₂ ∧ s₂.status = .running ∧ Ended s₂ below o ∧ ∃ v L, o = .returned v ∧ Q v s₂.heap L ∧ CHr Z EL s.vm s.heap s₂.vm s₂.heap ∧ ReturnedEndW s o s₂ L k n := by
  rw [hef]; exact hk
theorem own_endW (X : Stand p l e R (s.setVm vm0) m args below meth c T locs cells slots) {k0 : Nat} (hS : s.Since vm0 k0) (hk0 : k0 ≤ T.heap.size) (hZ : Z.Warmed39 vm0) (hEL : EW Z a0 EL) (C : CHr Z EL s.vm s.heap vm0 T.heap) {v : Option Value} (hv : meth.sig.returnType = none → v = none) (hlocks : meth.locks = false) {g : JFrame}
    (hret : ∀ {fs : List Frame}, (∀ (f : JFrame) (acts : List Action), f.method = m → f.locked = none → f.entered = [] → (doReturn e (T.setTop f) acts v).1 = T.setFrames fs) → Steps p.tables e below (T.setTop g) (T.setFrames fs))
    {Q : Option Value → Heap → List Loc → Prop} {k n : Nat} (hQ : Q v T.heap locs) (hk : cells ≤ k) (hn : slots ≤ n) : own_Fin p e below (own_PW Z EL s Q k n) T g := by
  obtain ⟨fs, hr, hrun, hended, hW⟩ := X.leaveW hS hk0 hv hlocks
  have C2 : CHr Z EL s.vm s.heap T.vm T.heap := C.trans (CHv.at X hZ hEL C.1)
  exact ⟨_, _, hret hr, hrun, hended, _, _, rfl, hQ, C2, hW.1, hW.2.1, hW.2.2.1, hW.2.2.2.mono hk hn⟩
theorem own_callSW (X : Stand p l e R (s.setVm vm0) m args below meth c T locs cells slots) (hx : p.tables.exec = Jvm.exec) (hZ : Z.Warmed39 vm0) {own : String} {index : Nat} {y : MethodName} {bytes : ByteArray} {maxL W : Nat} {ret : Option FieldType} {rm : Room} {as' : Array Value} {Q : Option Value → Heap → List Loc → Prop}
    (hown : vm0.findClass own = some m.cls) (w1 : (Jvm.Cond.methodLink own index y).before a0 Z = true) (w2 : (Jvm.Cond.static y).before a0 Z = true) (w3 : (Jvm.Cond.initialized y.cls).before a0 Z = true) (w4 : (Jvm.Cond.code y bytes maxL ret).before a0 Z = true) (hy : y.cls ≠ "java/lang/invoke/MethodHandle" ∧ y.cls ≠ "java/lang/invoke/VarHandle")
    {k0 : Nat} (hS : s.Since vm0 k0) (hk0 : k0 ≤ h.size) (hEL : EW Z a0 EL) (H : CHv Z EL vm0 h)
    (hM : MetFree l y (head1 [Jvm.Cond.code y bytes maxL ret] rm) (fun a U => a = as' ∧ Z.Warmed39 U.vm ∧ U.heap = h ∧ CHv Z EL U.vm h) (fun _ _ _ _ _ => True) (fun _ U o U' => ∃ v L, o = .returned v ∧ Q v U'.heap L ∧ CHr Z EL U.vm U.heap U'.vm U'.heap ∧ ReturnedEndW U o U' L rm.cells rm.slots))
    (hf : rm.frames + 1 ≤ R.frames) (hl : W + (maxL + 11) + rm.locals ≤ R.locals) (eT : T.heap = h) {g : JFrame} (hg : g.method = m) (hsize : g.locals.size = c.maxLocals) {argsL rest : List Value} (hlen : ∀ sig, parseMethodDescriptor y.desc = some sig → argsL.length = sig.parameters.length)
    (hstack : g.stack = argsL.reverse ++ rest) (hW : 2 * g.monitorRoom + (rest.map fun v => v.category).sum ≤ W) (hdg : decode c.code g.pc = .ok (.invokestatic index, 3)) (has : argsL.toArray = as') (hc : cells + rm.cells ≤ R.cells) (hs : slots + rm.slots ≤ R.slots) {P : Outcome → State → Prop}
    (k : ∀ (v : Option Value) (T' : State) (L : List Loc), Stand p l e R (s.setVm T'.vm) m args below meth c T' (locs ++ L) (cells + rm.cells) (slots + rm.slots) → s.Since T'.vm T'.heap.size → Z.Warmed39 T'.vm → T'.vm.findClass own = some m.cls → CHr Z EL vm0 h T'.vm T'.heap → Q v T'.heap L → own_Fin p e below P T' { g with pc := g.pc + 3, stack := v.toList ++ rest }) : own_Fin p e below P T g := by
  obtain ⟨v, _, ⟨U', L', k', n'⟩, -, X', hS2, hgr, ⟨Lc, hQ, l1, l2, l3, hC⟩, st⟩ := callSS X hx (y := y) hown (mvT (s := s.setVm vm0) hZ w1) (mvT (s := s.setVm vm0) hZ w2) (mvT (s := s.setVm vm0) hZ w3) (mvT (s := s.setVm vm0) hZ w4) hy (backOfSH (W := W) hM hZ w4 w3 hf hl hEL H) hg hsize hlen hstack hW hdg (fun _ _ => ⟨has, eT, hc, hs⟩)
  dsimp only [Pt.U, Pt.locs, Pt.cells, Pt.slots] at X' l1 l2 l3 st hQ hC hS2 hgr
  subst l1 l2 l3
  exact own_by (fun _ q => st.trans q) (k v U' Lc X' (foldS hS (by rw [eT]; exact hk0) hS2 hgr) (State.Warmed39.trans (t := s.setVm vm0) hZ hS2.1) (by rw [hS2.1.alike.findClass]; exact hown) hC hQ)
theorem own_callIW (X : Stand p l e R (s.setVm vm0) m args below meth c T locs cells slots) (hx : p.tables.exec = Jvm.exec) (hZ : Z.Warmed39 vm0) {own : String} {index : Nat} {y : MethodName} {bytes : ByteArray} {maxL W : Nat} {rm : Room} {as' : Array Value} {Q : Option Value → Heap → List Loc → Prop} (hin : y.name = "<init>")
    (hown : vm0.findClass own = some m.cls) (w1 : (Jvm.Cond.methodLink own index y).before a0 Z = true) (w2 : (Jvm.Cond.instanceMethod y).before a0 Z = true) (w4 : (Jvm.Cond.code y bytes maxL none).before a0 Z = true) (w3 : (Jvm.Cond.initialized y.cls).before a0 Z = true) (hy : y.cls ≠ "java/lang/invoke/MethodHandle" ∧ y.cls ≠ "java/lang/invoke/VarHandle")
    {k0 : Nat} (hS : s.Since vm0 k0) (hk0 : k0 ≤ h.size) (hEL : EW Z a0 EL) (H : CHv Z EL vm0 h)
    (hM : MetFree l y (head1 [Jvm.Cond.code y bytes maxL none] rm) (fun a U => a = as' ∧ Z.Warmed39 U.vm ∧ U.heap = h ∧ CHv Z EL U.vm h) (fun _ _ _ _ _ => True) (fun _ U o U' => ∃ v L, o = .returned v ∧ Q v U'.heap L ∧ CHr Z EL U.vm U.heap U'.vm U'.heap ∧ ReturnedEndW U o U' L rm.cells rm.slots))
    (hf : rm.frames + 1 ≤ R.frames) (hl : W + (maxL + 11) + rm.locals ≤ R.locals) (eT : T.heap = h) {g : JFrame} (hg : g.method = m) (hsize : g.locals.size = c.maxLocals) {a : Addr} {argsL rest : List Value} (hlen : ∀ sig, parseMethodDescriptor y.desc = some sig → argsL.length = sig.parameters.length)
    (hstack : g.stack = argsL.reverse ++ .ref a :: rest) (hW : 2 * g.monitorRoom + (rest.map fun v => v.category).sum ≤ W) (hdg : decode c.code g.pc = .ok (.invokespecial index, 3)) (has : (.ref a :: argsL).toArray = as') (hc : cells + rm.cells ≤ R.cells) (hs : slots + rm.slots ≤ R.slots) {P : Outcome → State → Prop}
    (k : ∀ (v : Option Value) (T' : State) (L : List Loc), Stand p l e R (s.setVm T'.vm) m args below meth c T' (locs ++ L) (cells + rm.cells) (slots + rm.slots) → s.Since T'.vm T'.heap.size → Z.Warmed39 T'.vm → T'.vm.findClass own = some m.cls → CHr Z EL vm0 h T'.vm T'.heap → Q v T'.heap L → own_Fin p e below P T' { g with pc := g.pc + 3, stack := v.toList ++ rest }) : own_Fin p e below P T g := by
  obtain ⟨v, _, ⟨U', L', k', n'⟩, -, X', hS2, hgr, ⟨Lc, hQ, l1, l2, l3, hC⟩, st⟩ := X.specialBackS hx (y := y) hin hown (mvT (s := s.setVm vm0) hZ w1) (mvT (s := s.setVm vm0) hZ w2) (mvT (s := s.setVm vm0) hZ w4) hy (backOfSH (W := W) hM hZ w4 w3 hf hl hEL H) hg hsize (Steps.refl _) (a := a) hlen hstack hW hdg (fun _ _ => ⟨has, eT, hc, hs⟩)
  dsimp only [Pt.U, Pt.locs, Pt.cells, Pt.slots] at X' l1 l2 l3 st hQ hC hS2 hgr
  subst l1 l2 l3
  exact own_by (fun _ q => st.trans q) (k v U' Lc X' (foldS hS (by rw [eT]; exact hk0) hS2 hgr) (State.Warmed39.trans (t := s.setVm vm0) hZ hS2.1) (by rw [hS2.1.alike.findClass]; exact hown) hC hQ)
theorem own_callVW (X : Stand p l e R (s.setVm vm0) m args below meth c T locs cells slots) (hx : p.tables.exec = Jvm.exec) (hZ : Z.Warmed39 vm0) {own C : String} {index : Nat} {y z : MethodName} {bytes : ByteArray} {maxL W : Nat} {ret : Option FieldType} {rm : Room} {as' : Array Value} {Q : Option Value → Heap → List Loc → Prop}
    (hown : vm0.findClass own = some m.cls) (w1 : (Jvm.Cond.methodLink own index y).before a0 Z = true) (w2 : (Jvm.Cond.declares y).before a0 Z = true) (nf : ∀ {s : State}, Z.Warmed39 s.vm → NotFace s y) (w5 : (Jvm.Cond.selects C y z).before a0 Z = true) (w6 : (Jvm.Cond.instanceMethod z).before a0 Z = true) (w4 : (Jvm.Cond.code z bytes maxL ret).before a0 Z = true) (w3 : (Jvm.Cond.initialized z.cls).before a0 Z = true) (hy : y.cls ≠ "java/lang/invoke/MethodHandle" ∧ y.cls ≠ "java/lang/invoke/VarHandle")
    {b : Addr} (E : Exa Z h b C) {k0 : Nat} (hS : s.Since vm0 k0) (hk0 : k0 ≤ h.size) (hEL : EW Z a0 EL) (H : CHv Z EL vm0 h)
    (hM : MetFree l z (head1 [Jvm.Cond.code z bytes maxL ret] rm) (fun a U => a = as' ∧ Z.Warmed39 U.vm ∧ U.heap = h ∧ CHv Z EL U.vm h) (fun _ _ _ _ _ => True) (fun _ U o U' => ∃ v L, o = .returned v ∧ Q v U'.heap L ∧ CHr Z EL U.vm U.heap U'.vm U'.heap ∧ ReturnedEndW U o U' L rm.cells rm.slots))
    (hf : rm.frames + 1 ≤ R.frames) (hl : W + (maxL + 11) + rm.locals ≤ R.locals) (eT : T.heap = h) {g : JFrame} (hg : g.method = m) (hsize : g.locals.size = c.maxLocals) {argsL rest : List Value} (hlen : ∀ sig, parseMethodDescriptor y.desc = some sig → argsL.length = sig.parameters.length)
    (hstack : g.stack = argsL.reverse ++ .ref b :: rest) (hW : 2 * g.monitorRoom + (rest.map fun v => v.category).sum ≤ W) (hdg : decode c.code g.pc = .ok (.invokevirtual index, 3)) (has : (.ref b :: argsL).toArray = as') (hc : cells + rm.cells ≤ R.cells) (hs : slots + rm.slots ≤ R.slots) {P : Outcome → State → Prop}
    (k : ∀ (v : Option Value) (T' : State) (L : List Loc), Stand p l e R (s.setVm T'.vm) m args below meth c T' (locs ++ L) (cells + rm.cells) (slots + rm.slots) → s.Since T'.vm T'.heap.size → Z.Warmed39 T'.vm → T'.vm.findClass own = some m.cls → CHr Z EL vm0 h T'.vm T'.heap → Q v T'.heap L → own_Fin p e below P T' { g with pc := g.pc + 3, stack := v.toList ++ rest }) : own_Fin p e below P T g := by
  obtain ⟨cq, kq, qa, qb, qc⟩ := isOf (s := s.setVm vm0) hZ eT E
  obtain ⟨v, _, ⟨U', L', k', n'⟩, -, X', hS2, hgr, ⟨Lc, hQ, l1, l2, l3, hC⟩, st⟩ := X.virtualBackS hx (y := y) (z := z) hown (mvT (s := s.setVm vm0) hZ w1) (mvT (s := s.setVm vm0) hZ w2) (nf (s := s.setVm vm0) hZ) (mvT (s := s.setVm vm0) hZ w5) (mvT (s := s.setVm vm0) hZ w6) hy (backOfSH (W := W) hM hZ w4 w3 hf hl hEL H) qa qc hg hsize (Steps.refl _) hlen hstack hW hdg (fun _ _ => ⟨has, eT, hc, hs⟩)
  dsimp only [Pt.U, Pt.locs, Pt.cells, Pt.slots] at X' l1 l2 l3 st hQ hC hS2 hgr
  subst l1 l2 l3
  exact own_by (fun _ q => st.trans q) (k v U' Lc X' (foldS hS (by rw [eT]; exact hk0) hS2 hgr) (State.Warmed39.trans (t := s.setVm vm0) hZ hS2.1) (by rw [hS2.1.alike.findClass]; exact hown) hC hQ)
theorem own_safeNull {vm : Vm} {x : Addr} (hal : Z.vm.Alike vm) (E : Exa Z h x "java/lang/String") (F : Fld Z h x "java/lang/String" "value" "[B" .null) : Safe Z EL vm h x := fun B => by
  obtain ⟨p, -, u, a, -, q, -, G, rfl | rfl⟩ := B
  · obtain ⟨cell, cf, k, i, f, h1, h2, -, -, -, -, h7⟩ := F
    cases (show h[q.sa]? = some q.sC from G.ha).symm.trans h1
    obtain ⟨cS, ⟨⟨-, -, -, ⟨cv, kv, iv, s4, -⟩, -, -, -, s8, -⟩, -, -⟩, -⟩ := G
    obtain ⟨k', z4⟩ := ff_back (U := Wst Z vm h) hal s4
    cases h2.symm.trans z4
    rw [s8] at h7
    cases h7
  · obtain ⟨cell, k, e1, e2, e3, -, -⟩ := E
    cases (show h[q.sd]? = some q.SA from G.hd).symm.trans e1
    obtain ⟨cS, -, -, f, -⟩ := G
    have f' : vm.findClass "[B" = some q.SA.cls := f
    rw [hal.findClass] at f'
    obtain ⟨k1, q1, q2⟩ := Vm.findClass_spec f'
    obtain ⟨k2, q3, q4⟩ := Vm.findClass_spec e2
    cases q1.symm.trans q3
    exact absurd (q2.symm.trans q4) (by decide)
end OwnKitW

theorem own_hEL {Z : State} {a0 : Array Value} (hw : ∀ d ∈ tables_1, d.before a0 Z = true) : EW Z a0 consts_1 := (EW.cons (own_h hw 19 rfl) (by decide) EW.nil)
theorem own_wSin : ∀ d ∈ Bundle.stringAtoms, d ∈ tables_1 := by decide +kernel
theorem own_wS {Z : State} {a0 : Array Value} (hw : ∀ d ∈ tables_1, d.before a0 Z = true) : ∀ d ∈ Bundle.stringAtoms, d.before a0 Z = true := fun d hd => hw d (own_wSin d hd)
def own_b (f : Bool) : Int32 := if f then 1 else 0
def own_ok (c : Int32) : Bool := decide (c = (9 : Int32)) || (!decide (c < (32 : Int32)) && !decide (c = (127 : Int32)))
theorem own_bb (x : Int32) : x.toInt8.toInt32.toInt8.toInt32 = x.toInt8.toInt32 := by simp
theorem own_narnar (z : Int32) : nar .char (nar .char z) = nar .char z := by
  apply own_eqI
  have a := c_i2c z
  have b := c_i2c (z.toUInt32.toUInt16.toUInt32.toInt32)
  show (z.toUInt32.toUInt16.toUInt32.toInt32).toUInt32.toUInt16.toUInt32.toInt32.toInt = z.toUInt32.toUInt16.toUInt32.toInt32.toInt
  omega
theorem own_ch16 (z : Int32) : ¬ nar .char z < 0 ∧ ¬ (65535 : Int32) < nar .char z := by
  have h := c_i2c z
  have e : nar .char z = z.toUInt32.toUInt16.toUInt32.toInt32 := rfl
  rw [e]
  have e0 : (0 : Int32).toInt = 0 := by decide
  have e1 : (65535 : Int32).toInt = 65535 := by decide
  constructor
  · intro q; have := Int32.lt_iff_toInt_lt.mp q; omega
  · intro q; have := Int32.lt_iff_toInt_lt.mp q; omega
theorem own_d3_0 : decode jdk_42_method_149_code 0 = .ok (.aload_n 0, 1) := by decide +kernel
theorem own_d3_1 : decode jdk_42_method_149_code 1 = .ok (.invokespecial 1, 3) := by decide +kernel
theorem own_d3_4 : decode jdk_42_method_149_code 4 = .ok (.iload_n 3, 1) := by decide +kernel
theorem own_d3_5 : decode jdk_42_method_149_code 5 = .ok (.ifCond .ne 22, 3) := by decide +kernel
theorem own_d3_8 : decode jdk_42_method_149_code 8 = .ok (.aload_n 0, 1) := by decide +kernel
theorem own_d3_9 : decode jdk_42_method_149_code 9 = .ok (.ldc 7, 2) := by decide +kernel
theorem own_d3_11 : decode jdk_42_method_149_code 11 = .ok (.getfield 9, 3) := by decide +kernel
theorem own_d3_14 : decode jdk_42_method_149_code 14 = .ok (.putfield 9, 3) := by decide +kernel
theorem own_d3_17 : decode jdk_42_method_149_code 17 = .ok (.aload_n 0, 1) := by decide +kernel
theorem own_d3_18 : decode jdk_42_method_149_code 18 = .ok (.ldc 7, 2) := by decide +kernel
theorem own_d3_20 : decode jdk_42_method_149_code 20 = .ok (.getfield 15, 3) := by decide +kernel
theorem own_d3_23 : decode jdk_42_method_149_code 23 = .ok (.putfield 15, 3) := by decide +kernel
theorem own_d3_26 : decode jdk_42_method_149_code 26 = .ok (.return_, 1) := by decide +kernel
theorem own_rmE8_ef (m : MethodId) (x0 : Addr) (b : Addr) : entryFrame m #[(.ref x0), (.ref b), (.int 0), (.int 0), .null] 6 = mkF m 0 #[.val (.ref x0), .val (.ref b), .val (.int 0), .val (.int 0), .val .null, .unset] [] := by  first | (simp [entryFrame, mkF, argsToLocals, Value.category]; done) | rfl
def own_rmE8_Q (Z : State) (x0 : Addr) (b : Addr) (h0 : Heap) (n0 : Nat) (v : Option Value) (h : Heap) (L : List Loc) : Prop := v = none ∧ Fr n0 L ∧ Keep h0 h [x0] ∧ Exa Z h x0 "java/lang/String" ∧ Fld Z h x0 "java/lang/String" "coder" "B" (.int 0) ∧ ∃ (t : Addr) (kb : ClassId), x0 ≠ t ∧ Fld Z h x0 "java/lang/String" "value" "[B" (.ref t) ∧ Arv Z h t kb .byte (0 : Int32) [] (.int 0)
theorem own_pn_java_lang_String : plainName "java/lang/String" = true := by first | (simp [plainName, overriddenIn]; done) | decide +kernel
set_option maxRecDepth 65536 in
set_option maxHeartbeats 40000000 in
theorem own_rmE8 (l : Launch) (Z : State) (a0 : Array Value) (hw : ∀ d ∈ tables_1, d.before a0 Z = true) (ws : List Jvm.Cond) (x0 : Addr) (b : Addr) (h0 : Heap) (n0 : Nat) (Z0 : n0 ≤ h0.size) (E_x : Exa Z h0 x0 "java/lang/String") (V_x : Fld Z h0 x0 "java/lang/String" "value" "[B" .null) (C_x : Fld Z h0 x0 "java/lang/String" "coder" "B" (.int 0)) (g_x : n0 ≤ x0) :
    MetFree l own_y4 (head1 (Jvm.Cond.code own_y4 jdk_42_method_149_code 6 none :: ws) (⟨1, 4, 8, 12⟩ : Room)) (fun aa U => aa = #[(.ref x0), (.ref b), (.int 0), (.int 0), .null] ∧ Z.Warmed39 U.vm ∧ U.heap = h0 ∧ CHv Z consts_1 U.vm h0) (fun _ _ _ _ _ => True) (fun _ U o U' => ∃ v L, o = .returned v ∧ own_rmE8_Q Z x0 b h0 n0 v U'.heap L ∧ CHr Z consts_1 U.vm U.heap U'.vm U'.heap ∧ ReturnedEndW U o U' L (⟨1, 4, 8, 12⟩ : Room).cells (⟨1, 4, 8, 12⟩ : Room).slots) := by
  refine MetFree.of_bodySF (plainFor_of_name own_pn_java_lang_String) hisR ?_
  intro p e s m args below meth c s₁ Bd hml0 hP hK
  obtain ⟨rfl, hZ, hh, CH0⟩ := hP
  have hx := Bd.exec
  have hby := Bd.bytes
  have hml : c.maxLocals = 6 := hml0
  have hown : s.vm.findClass "java/lang/String" = some m.cls := findClass_of_methodNamed Bd.named
  have hnm := (name_of_methodNamed Bd.named Bd.method).1
  have hlk := Bd.notSynchronized
  have X0 : Stand p l e (⟨1, 4, 8, 12⟩ : Room) (s.setVm s.vm) m #[(.ref x0), (.ref b), (.int 0), (.int 0), .null] below meth c s₁ [] 0 0 := Stand.of_body Bd
  have e0 : s₁.heap = h0 := by rw [← hh, Bd.state]; rfl
  have N0 := Fr.nil n0
  have hS : s.Since s.vm 0 := (State.WarmedH.refl s).since 0
  have hk0 : 0 ≤ h0.size := Nat.zero_le _
  have C0 : CHr Z consts_1 s.vm h0 s.vm h0 := CHr.refl CH0
  have hEL := own_hEL hw
  have wS := own_wS hw
  refine own_startW (EL := consts_1) (Q := own_rmE8_Q Z x0 b h0 n0) (own_rmE8_ef m x0 b) ?_
  have sf_x0 : Safe Z consts_1 s.vm h0 x0 := own_safeNull hZ.alike E_x V_x
  refine own_g (mkF m 1 #[.val (.ref x0), .val (.ref b), .val (.int 0), .val (.int 0), .val .null, .unset] [(.ref x0)]) (fun _ q => XS.aloadN X0.here hx rfl (hb hby own_d3_0) rfl rfl q) ?_
  obtain ⟨T1, X1, e1, st1⟩ := initO X0 hx hZ hown (own_h hw 16 rfl) (own_h hw 17 rfl) (own_h hw 18 rfl) e0 (g := (mkF m 1 #[.val (.ref x0), .val (.ref b), .val (.int 0), .val (.int 0), .val .null, .unset] [(.ref x0)])) rfl (by rw [hml]; rfl) rfl (hb hby own_d3_1) (by decide) (W := 0) (by show 2 * 0 + _ ≤ _; exact Nat.le_of_eq rfl) (by decide)
  refine own_by (g' := (mkF m 4 #[.val (.ref x0), .val (.ref b), .val (.int 0), .val (.int 0), .val .null, .unset] [])) st1 ?_
  refine own_g (mkF m 9 #[.val (.ref x0), .val (.ref b), .val (.int 0), .val (.int 0), .val .null, .unset] [(.ref x0)]) (fun _ q => XS.iloadN X1.here hx rfl (hb hby own_d3_4) rfl (XS.ifNo X1.here hx rfl (hb hby own_d3_5) rfl ((if0 _ _).trans (teq (by decide : (0 : Int32) = (0 : Int32))).2) (XS.aloadN X1.here hx rfl (hb hby own_d3_8) rfl rfl q))) ?_
  obtain ⟨a2, T2, h2, j2, b2, k2, X2, e2, E2, hS, hk2, hZ, hown, Ea2, Fc2, Fv2, Av2, -, -, CH2, -, Sf2, st2⟩ := ldcCH X1 hx hZ hown (own_h hw 19 rfl) wS e1 hS hk0 hEL (by decide) C0.1 (vs := []) (z := (0 : Int32)) ⟨by decide, by first | rfl | decide⟩ (by decide) (by decide) (g := (mkF m 9 #[.val (.ref x0), .val (.ref b), .val (.int 0), .val (.int 0), .val .null, .unset] [(.ref x0)])) rfl (hb hby own_d3_9) (n := 0) (by decide) (by decide) (by decide) (by decide)
  have sf4 := CH2.safe E_x.lt sf_x0
  have C3 := C0.trans CH2
  have nl2_x0 := Sf2 x0 sf4
  refine own_by (g' := (mkF m 11 #[.val (.ref x0), .val (.ref b), .val (.int 0), .val (.int 0), .val .null, .unset] [(.ref a2), (.ref x0)])) st2 ?_
  obtain ⟨T5, X5, e5, st5⟩ := getF X2 hx hZ hown (host := "") (Or.inl (own_h hw 25 rfl)) Via.refl e2 Fv2 (g := (mkF m 11 #[.val (.ref x0), .val (.ref b), .val (.int 0), .val (.int 0), .val .null, .unset] [(.ref a2), (.ref x0)])) rfl rfl (hb hby own_d3_11)
  refine own_by (g' := (mkF m 14 #[.val (.ref x0), .val (.ref b), .val (.int 0), .val (.int 0), .val .null, .unset] [(.ref b2), (.ref x0)])) st5 ?_
  have e6_x0 := (E_x.ext E2)
  have f7_x0 := (V_x.ext E2)
  obtain ⟨T8, h8, X8, e8, W8, st8⟩ := putF X5 hx hZ hown (host := "") (Or.inl (own_h hw 25 rfl)) Via.refl e5 f7_x0 e6_x0 (Or.inr ⟨(own_h hw 21 rfl), rfl, hnm⟩) (own_h hw 7 rfl) (ty := (.array .byte)) (by decide) (rfl) (rfl) (g := (mkF m 14 #[.val (.ref x0), .val (.ref b), .val (.int 0), .val (.int 0), .val .null, .unset] [(.ref b2), (.ref x0)])) rfl rfl (hb hby own_d3_14)
  have Fw8 := f7_x0.same W8
  have C9 := C3.trans (CHr.wr W8 sf4 C3.1)
  have N8 := Fr.snoc X8 N0 g_x
  refine own_by (g' := (mkF m 17 #[.val (.ref x0), .val (.ref b), .val (.int 0), .val (.int 0), .val .null, .unset] [])) st8 ?_
  refine own_g (mkF m 18 #[.val (.ref x0), .val (.ref b), .val (.int 0), .val (.int 0), .val .null, .unset] [(.ref x0)]) (fun _ q => XS.aloadN X8.here hx rfl (hb hby own_d3_17) rfl rfl q) ?_
  have hk10_ := (Nat.le_trans hk2 (Keep.of_wr W8).1)
  obtain ⟨a11, T11, h11, j11, b11, k11, X11, e11, E11, hS, hk11, hZ, hown, Ea11, Fc11, Fv11, Av11, -, -, CH11, -, Sf11, st11⟩ := ldcCH X8 hx hZ hown (own_h hw 19 rfl) wS e8 hS hk10_ hEL (by decide) C9.1 (vs := []) (z := (0 : Int32)) ⟨by decide, by first | rfl | decide⟩ (by decide) (by decide) (g := (mkF m 18 #[.val (.ref x0), .val (.ref b), .val (.int 0), .val (.int 0), .val .null, .unset] [(.ref x0)])) rfl (hb hby own_d3_18) (n := 0) (by decide) (by decide) (by decide) (by decide)
  have sf13_x0 := (Safe.wr W8 sf4 C3.1 sf4)
  have e15_x0 := (e6_x0.wr W8)
  have sf14 := CH11.safe e15_x0.lt sf13_x0
  have C12 := C9.trans CH11
  have nl11_x0 := Sf11 x0 sf14
  refine own_by (g' := (mkF m 20 #[.val (.ref x0), .val (.ref b), .val (.int 0), .val (.int 0), .val .null, .unset] [(.ref a11), (.ref x0)])) st11 ?_
  obtain ⟨T16, X16, e16, st16⟩ := getF X11 hx hZ hown (host := "") (Or.inl (own_h hw 26 rfl)) Via.refl e11 Fc11 (g := (mkF m 20 #[.val (.ref x0), .val (.ref b), .val (.int 0), .val (.int 0), .val .null, .unset] [(.ref a11), (.ref x0)])) rfl rfl (hb hby own_d3_20)
  refine own_by (g' := (mkF m 23 #[.val (.ref x0), .val (.ref b), .val (.int 0), .val (.int 0), .val .null, .unset] [(.int 0), (.ref x0)])) st16 ?_
  have e17_x0 := (e15_x0.ext E11)
  have f18_x0 := (((C_x.ext E2).other W8 (Or.inr (slot_ne (Or.inr (own_h hw 22 rfl)) (Or.inr (own_h hw 21 rfl)) (by decide) (t := .byte) (t' := (.array .byte)) (by decide) (by decide)))).ext E11)
  obtain ⟨T19, h19, X19, e19, W19, st19⟩ := putFN X16 hx hZ hown (own_h hw 26 rfl) Via.refl e16 f18_x0 e17_x0 (Or.inr ⟨(own_h hw 22 rfl), rfl, hnm⟩) (own_h hw 7 rfl) (ty := .byte) (v' := (.int 0)) (by decide) rfl (by decide) (g := (mkF m 23 #[.val (.ref x0), .val (.ref b), .val (.int 0), .val (.int 0), .val .null, .unset] [(.int 0), (.ref x0)])) rfl rfl (hb hby own_d3_23)
  have Fw19 := f18_x0.same W19
  have C20 := C12.trans (CHr.wr W19 sf14 C12.1)
  have N19 := Fr.snoc X19 N8 g_x
  refine own_by (g' := (mkF m 26 #[.val (.ref x0), .val (.ref b), .val (.int 0), .val (.int 0), .val .null, .unset] [])) st19 ?_
  have e21_x0 := (e17_x0.wr W19)
  have f22_x0 := ((Fw8.ext E11).other W19 (Or.inr (slot_ne (Or.inr (own_h hw 21 rfl)) (Or.inr (own_h hw 22 rfl)) (by decide) (t := (.array .byte)) (t' := .byte) (by decide) (by decide))))
  have a23_b2 := (((Av2.other W8 (Ne.symm nl2_x0.2)).ext E11).other W19 (Ne.symm nl2_x0.2))
  have k24_ := (((((Keep.refl h0 [x0]).ext E2).wr W8 (Or.inl (List.mem_of_getElem? (i := 0) rfl))).ext E11).wr W19 (Or.inl (List.mem_of_getElem? (i := 0) rfl)))
  have hk25_ := (Nat.le_trans hk11 (Keep.of_wr W19).1)
  exact own_endW X19 hS (by rw [e19]; exact hk25_) hZ hEL (by rw [hh]; rw [e19]; exact C20) (v := none) (fun _ => rfl) hlk (fun hr => X19.returnOut hx Bd.returns (hb hby own_d3_26) hr) (by rw [e19]; exact ⟨rfl, N19, k24_, e21_x0, Fw19, b2, k2, nl2_x0.2, f22_x0, a23_b2⟩) (by decide) (by decide)
theorem own_d2_0 : decode jdk_42_method_3_code 0 = .ok (.aload_n 0, 1) := by decide +kernel
theorem own_d2_1 : decode jdk_42_method_3_code 1 = .ok (.aload_n 1, 1) := by decide +kernel
theorem own_d2_2 : decode jdk_42_method_3_code 2 = .ok (.iconst 0, 1) := by decide +kernel
theorem own_d2_3 : decode jdk_42_method_3_code 3 = .ok (.aload_n 1, 1) := by decide +kernel
theorem own_d2_4 : decode jdk_42_method_3_code 4 = .ok (.arraylength, 1) := by decide +kernel
theorem own_d2_5 : decode jdk_42_method_3_code 5 = .ok (.aconst_null, 1) := by decide +kernel
theorem own_d2_6 : decode jdk_42_method_3_code 6 = .ok (.invokespecial 27, 3) := by decide +kernel
theorem own_pd__28_5bCIILjava_2flang_2fVoid_3b_29V : parseMethodDescriptor "([CIILjava/lang/Void;)V" = some ⟨[(.array .char), .int, .int, (.object "java/lang/Void")], none⟩ := by decide +kernel
theorem own_d2_9 : decode jdk_42_method_3_code 9 = .ok (.return_, 1) := by decide +kernel
theorem own_rmE7_ef (m : MethodId) (x0 : Addr) (b : Addr) : entryFrame m #[(.ref x0), (.ref b)] 2 = mkF m 0 #[.val (.ref x0), .val (.ref b)] [] := by  first | (simp [entryFrame, mkF, argsToLocals, Value.category]; done) | rfl
def own_rmE7_Q (Z : State) (x0 : Addr) (b : Addr) (kC : ClassId) (dC : Value) (h0 : Heap) (n0 : Nat) (v : Option Value) (h : Heap) (L : List Loc) : Prop := v = none ∧ Fr n0 L ∧ Keep h0 h [x0] ∧ Exa Z h x0 "java/lang/String" ∧ Fld Z h x0 "java/lang/String" "coder" "B" (.int 0) ∧ ∃ (t : Addr) (kb : ClassId), x0 ≠ t ∧ Fld Z h x0 "java/lang/String" "value" "[B" (.ref t) ∧ Arv Z h t kb .byte (0 : Int32) [] (.int 0)
set_option maxRecDepth 65536 in
set_option maxHeartbeats 40000000 in
theorem own_rmE7 (l : Launch) (Z : State) (a0 : Array Value) (hw : ∀ d ∈ tables_1, d.before a0 Z = true) (ws : List Jvm.Cond) (x0 : Addr) (b : Addr) (kC : ClassId) (dC : Value) (h0 : Heap) (n0 : Nat) (Z0 : n0 ≤ h0.size) (E_x : Exa Z h0 x0 "java/lang/String") (V_x : Fld Z h0 x0 "java/lang/String" "value" "[B" .null) (C_x : Fld Z h0 x0 "java/lang/String" "coder" "B" (.int 0)) (g_x : n0 ≤ x0) (K_b : Arv Z h0 b kC .char (0 : Int32) [] dC) :
    MetFree l own_y3 (head1 (Jvm.Cond.code own_y3 jdk_42_method_3_code 2 none :: ws) (⟨2, 4, 8, 29⟩ : Room)) (fun aa U => aa = #[(.ref x0), (.ref b)] ∧ Z.Warmed39 U.vm ∧ U.heap = h0 ∧ CHv Z consts_1 U.vm h0) (fun _ _ _ _ _ => True) (fun _ U o U' => ∃ v L, o = .returned v ∧ own_rmE7_Q Z x0 b kC dC h0 n0 v U'.heap L ∧ CHr Z consts_1 U.vm U.heap U'.vm U'.heap ∧ ReturnedEndW U o U' L (⟨2, 4, 8, 29⟩ : Room).cells (⟨2, 4, 8, 29⟩ : Room).slots) := by
  refine MetFree.of_bodySF (plainFor_of_name own_pn_java_lang_String) hisR ?_
  intro p e s m args below meth c s₁ Bd hml0 hP hK
  obtain ⟨rfl, hZ, hh, CH0⟩ := hP
  have hx := Bd.exec
  have hby := Bd.bytes
  have hml : c.maxLocals = 2 := hml0
  have hown : s.vm.findClass "java/lang/String" = some m.cls := findClass_of_methodNamed Bd.named
  have hnm := (name_of_methodNamed Bd.named Bd.method).1
  have hlk := Bd.notSynchronized
  have X0 : Stand p l e (⟨2, 4, 8, 29⟩ : Room) (s.setVm s.vm) m #[(.ref x0), (.ref b)] below meth c s₁ [] 0 0 := Stand.of_body Bd
  have e0 : s₁.heap = h0 := by rw [← hh, Bd.state]; rfl
  have N0 := Fr.nil n0
  have hS : s.Since s.vm 0 := (State.WarmedH.refl s).since 0
  have hk0 : 0 ≤ h0.size := Nat.zero_le _
  have C0 : CHr Z consts_1 s.vm h0 s.vm h0 := CHr.refl CH0
  have hEL := own_hEL hw
  have wS := own_wS hw
  refine own_startW (EL := consts_1) (Q := own_rmE7_Q Z x0 b kC dC h0 n0) (own_rmE7_ef m x0 b) ?_
  have sf_x0 : Safe Z consts_1 s.vm h0 x0 := own_safeNull hZ.alike E_x V_x
  refine own_g (mkF m 4 #[.val (.ref x0), .val (.ref b)] [(.ref b), (.int 0), (.ref b), (.ref x0)]) (fun _ q => XS.aloadN X0.here hx rfl (hb hby own_d2_0) rfl rfl (XS.aloadN X0.here hx rfl (hb hby own_d2_1) rfl rfl (XS.iconst X0.here hx rfl (hb hby own_d2_2) (XS.aloadN X0.here hx rfl (hb hby own_d2_3) rfl rfl q)))) ?_
  obtain ⟨cl1, Ar1, q1, S1, P1, H1, G1⟩ := id K_b
  refine own_by (g' := (mkF m 5 #[.val (.ref x0), .val (.ref b)] [(.int 0), (.int 0), (.ref b), (.ref x0)])) (fun _ kq => X0.arraylength hx (by rw [e0]; exact Ar1.1) (State.isArrayOf_alike hZ.alike Ar1.2.1) (g := (mkF m 4 #[.val (.ref x0), .val (.ref b)] [(.ref b), (.int 0), (.ref b), (.ref x0)])) rfl rfl (hb hby own_d2_4) _ (by rw [len_of S1 P1]; exact kq)) ?_
  refine own_g (mkF m 6 #[.val (.ref x0), .val (.ref b)] [.null, (.int 0), (.int 0), (.ref b), (.ref x0)]) (fun _ q => XS.aconstNull X0.here hx rfl (hb hby own_d2_5) q) ?_
  refine own_callIW X0 hx hZ (y := own_y4) rfl hown (own_h hw 12 rfl) (own_h hw 13 rfl) (own_h hw 15 rfl) (own_h hw 8 rfl) (by decide) hS hk0 hEL C0.1 (own_rmE8 l Z a0 hw [] x0 b h0 n0 Z0 E_x V_x C_x g_x) (by decide) (by decide) e0 (g := (mkF m 6 #[.val (.ref x0), .val (.ref b)] [.null, (.int 0), (.int 0), (.ref b), (.ref x0)])) rfl (by rw [hml]; rfl) (argsL := [(.ref b), (.int 0), (.int 0), .null]) (rest := []) (lenOf own_pd__28_5bCIILjava_2flang_2fVoid_3b_29V rfl) rfl (W := 0) (by show 2 * 0 + _ ≤ _; exact Nat.le_of_eq rfl) (hb hby own_d2_6) rfl (by decide) (by decide) ?_
  rintro rv2 T2 L2 X2 hS hZ hown CH2 ⟨rfl, Nq2, Kq2, Eq2, Cq2, tq2, kq2, nq2, Vq2, Aq2⟩
  have N2 := Fr.app N0 Nq2
  show own_Fin p e below _ T2 (mkF m 9 #[.val (.ref x0), .val (.ref b)] [])
  have sf4 := CH2.safe E_x.lt sf_x0
  have C3 := C0.trans CH2
  have k5_ := ((Keep.refl h0 [x0]).trans Kq2 (allS (Or.inl (List.mem_of_getElem? (i := 0) rfl)) all0))
  exact own_endW X2 hS (by exact (Nat.le_refl _)) hZ hEL (by rw [hh]; exact C3) (v := none) (fun _ => rfl) hlk (fun hr => X2.returnOut hx Bd.returns (hb hby own_d2_9) hr) (by exact ⟨rfl, N2, k5_, Eq2, Cq2, tq2, kq2, nq2, Vq2, Aq2⟩) (by decide) (by decide)
theorem own_d16_0 : decode jdk_41_method_11_code 0 = .ok (.iload_n 0, 1) := by decide +kernel
theorem own_d16_1 : decode jdk_41_method_11_code 1 = .ok (.ifCond .lt 8, 3) := by decide +kernel
theorem own_d16_4 : decode jdk_41_method_11_code 4 = .ok (.iload_n 0, 1) := by decide +kernel
theorem own_d16_5 : decode jdk_41_method_11_code 5 = .ok (.iload_n 1, 1) := by decide +kernel
theorem own_d16_6 : decode jdk_41_method_11_code 6 = .ok (.if_icmp .lt 10, 3) := by decide +kernel
theorem own_d16_16 : decode jdk_41_method_11_code 16 = .ok (.iload_n 0, 1) := by decide +kernel
theorem own_d16_17 : decode jdk_41_method_11_code 17 = .ok (.ireturn, 1) := by decide +kernel
theorem own_pci_1_0_ef (m : MethodId) (vf : Value) (hvf : vf.isRef = true) : entryFrame m #[(.int 0), (.int 1), vf] 3 = mkF m 0 #[.val (.int 0), .val (.int 1), .val vf] [] := by rcases ref_cases hvf with rfl | ⟨_, rfl⟩ <;>  first | (simp [entryFrame, mkF, argsToLocals, Value.category]; done) | rfl
def own_pci_1_0_Q (Z : State) (vf : Value) (zCS : Int32) (fm : Value) (h0 : Heap) (n0 : Nat) (v : Option Value) (h : Heap) (L : List Loc) : Prop := v = some (.int 0) ∧ Fr n0 L ∧ h = h0
theorem own_pn_jdk_internal_util_Preconditions : plainName "jdk/internal/util/Preconditions" = true := by first | (simp [plainName, overriddenIn]; done) | decide +kernel
set_option maxRecDepth 65536 in
set_option maxHeartbeats 40000000 in
theorem own_pci_1_0 (l : Launch) (Z : State) (a0 : Array Value) (hw : ∀ d ∈ tables_1, d.before a0 Z = true) (ws : List Jvm.Cond) (vf : Value) (zCS : Int32) (fm : Value) (h0 : Heap) (n0 : Nat) (Z0 : n0 ≤ h0.size) (hvf : vf.isRef = true) (S_CS : own_A0 Z zCS) (nCS : ¬ zCS = 0) (S_AD : own_A1 Z) (S_HI : own_A2 Z) (S_LO : own_A3 Z) (S_SF : own_A4 Z fm) (hfm : fm.isRef = true) (O0 : Old Z n0 h0) :
    MetFree l own_y22 (head1 (Jvm.Cond.code own_y22 jdk_41_method_11_code 3 (some .int) :: ws) (⟨0, 0, 0, 0⟩ : Room)) (fun aa U => aa = #[(.int 0), (.int 1), vf] ∧ Z.Warmed39 U.vm ∧ U.heap = h0) (fun _ _ _ _ _ => True) (fun _ U o U' => ∃ v L, o = .returned v ∧ own_pci_1_0_Q Z vf zCS fm h0 n0 v U'.heap L ∧ FrameEnd U o U' L (⟨0, 0, 0, 0⟩ : Room).cells (⟨0, 0, 0, 0⟩ : Room).slots) := by
  refine MetFree.of_bodySF (plainFor_of_name own_pn_jdk_internal_util_Preconditions) hisR ?_
  intro p e s m args below meth c s₁ Bd hml0 hP hK
  obtain ⟨rfl, hZ, hh⟩ := hP
  have hx := Bd.exec
  have hby := Bd.bytes
  have hml : c.maxLocals = 3 := hml0
  have hown : s.vm.findClass "jdk/internal/util/Preconditions" = some m.cls := findClass_of_methodNamed Bd.named
  have hnm := (name_of_methodNamed Bd.named Bd.method).1
  have hlk := Bd.notSynchronized
  have X0 : Stand p l e (⟨0, 0, 0, 0⟩ : Room) s m #[(.int 0), (.int 1), vf] below meth c s₁ [] 0 0 := Stand.of_body Bd
  have e0 : s₁.heap = h0 := by rw [← hh, Bd.state]; rfl
  have N0 := Fr.nil n0
  refine own_start (Q := own_pci_1_0_Q Z vf zCS fm h0 n0) (own_pci_1_0_ef m vf hvf) ?_
  refine own_g (mkF m 17 #[.val (.int 0), .val (.int 1), .val vf] [(.int 0)]) (fun _ q => XS.iloadN X0.here hx rfl (hb hby own_d16_0) rfl (XS.ifNo X0.here hx rfl (hb hby own_d16_1) rfl ((if0 _ _).trans (flt (by decide : ¬ ((0 : Int32) < (0 : Int32)))).1) (XS.iloadN X0.here hx rfl (hb hby own_d16_4) rfl (XS.iloadN X0.here hx rfl (hb hby own_d16_5) rfl (XS.icmpYes X0.here hx rfl (pc0 := 6) (pc' := 16) rfl (hb hby own_d16_6) rfl (tlt (by decide : (0 : Int32) < (1 : Int32))).1 (by decide) (by decide) (XS.iloadN X0.here hx rfl (hb hby own_d16_16) rfl q)))))) ?_
  exact own_end X0 (v := some (.int 0)) (fun h => by rw [Bd.returns] at h; cases h) hlk (fun hr => retOut X0 hx Bd.returns rfl (Or.inl ⟨rfl, Or.inl rfl, _, rfl⟩) (hb hby own_d16_17) hr) (by rw [e0]; exact ⟨rfl, N0, rfl⟩) (by decide) (by decide)
theorem own_d15_0 : decode jdk_42_method_155_code 0 = .ok (.iload_n 0, 1) := by decide +kernel
theorem own_d15_1 : decode jdk_42_method_155_code 1 = .ok (.iload_n 1, 1) := by decide +kernel
theorem own_d15_2 : decode jdk_42_method_155_code 2 = .ok (.getstatic 1053, 3) := by decide +kernel
theorem own_d15_5 : decode jdk_42_method_155_code 5 = .ok (.invokestatic 1059, 3) := by decide +kernel
theorem own_pd__28IILjava_2futil_2ffunction_2fBiFunction_3b_29I : parseMethodDescriptor "(IILjava/util/function/BiFunction;)I" = some ⟨[.int, .int, (.object "java/util/function/BiFunction")], some .int⟩ := by decide +kernel
theorem own_d15_8 : decode jdk_42_method_155_code 8 = .ok (.pop, 1) := by decide +kernel
theorem own_d15_9 : decode jdk_42_method_155_code 9 = .ok (.return_, 1) := by decide +kernel
theorem own_sci_1_0_ef (m : MethodId)  : entryFrame m #[(.int 0), (.int 1)] 2 = mkF m 0 #[.val (.int 0), .val (.int 1)] [] := by  first | (simp [entryFrame, mkF, argsToLocals, Value.category]; done) | rfl
def own_sci_1_0_Q (Z : State) (zCS : Int32) (fm : Value) (h0 : Heap) (n0 : Nat) (v : Option Value) (h : Heap) (L : List Loc) : Prop := v = none ∧ Fr n0 L ∧ h = h0
set_option maxRecDepth 65536 in
set_option maxHeartbeats 40000000 in
theorem own_sci_1_0 (l : Launch) (Z : State) (a0 : Array Value) (hw : ∀ d ∈ tables_1, d.before a0 Z = true) (ws : List Jvm.Cond) (zCS : Int32) (fm : Value) (h0 : Heap) (n0 : Nat) (Z0 : n0 ≤ h0.size) (S_CS : own_A0 Z zCS) (nCS : ¬ zCS = 0) (S_AD : own_A1 Z) (S_HI : own_A2 Z) (S_LO : own_A3 Z) (S_SF : own_A4 Z fm) (hfm : fm.isRef = true) (O0 : Old Z n0 h0) :
    MetFree l own_y6 (head1 (Jvm.Cond.code own_y6 jdk_42_method_155_code 2 none :: ws) (⟨1, 0, 0, 14⟩ : Room)) (fun aa U => aa = #[(.int 0), (.int 1)] ∧ Z.Warmed39 U.vm ∧ U.heap = h0) (fun _ _ _ _ _ => True) (fun _ U o U' => ∃ v L, o = .returned v ∧ own_sci_1_0_Q Z zCS fm h0 n0 v U'.heap L ∧ FrameEnd U o U' L (⟨1, 0, 0, 14⟩ : Room).cells (⟨1, 0, 0, 14⟩ : Room).slots) := by
  refine MetFree.of_bodySF (plainFor_of_name own_pn_java_lang_String) hisR ?_
  intro p e s m args below meth c s₁ Bd hml0 hP hK
  obtain ⟨rfl, hZ, hh⟩ := hP
  have hx := Bd.exec
  have hby := Bd.bytes
  have hml : c.maxLocals = 2 := hml0
  have hown : s.vm.findClass "java/lang/String" = some m.cls := findClass_of_methodNamed Bd.named
  have hnm := (name_of_methodNamed Bd.named Bd.method).1
  have hlk := Bd.notSynchronized
  have X0 : Stand p l e (⟨1, 0, 0, 14⟩ : Room) s m #[(.int 0), (.int 1)] below meth c s₁ [] 0 0 := Stand.of_body Bd
  have e0 : s₁.heap = h0 := by rw [← hh, Bd.state]; rfl
  have N0 := Fr.nil n0
  refine own_start (Q := own_sci_1_0_Q Z zCS fm h0 n0) (own_sci_1_0_ef m ) ?_
  refine own_g (mkF m 2 #[.val (.int 0), .val (.int 1)] [(.int 1), (.int 0)]) (fun _ q => XS.iloadN X0.here hx rfl (hb hby own_d15_0) rfl (XS.iloadN X0.here hx rfl (hb hby own_d15_1) rfl q)) ?_
  obtain ⟨T1, X1, e1, st1⟩ := getS2 X0 hx hZ hown (host := "") (Or.inl (own_h hw 72 rfl)) Via.refl e0 (S_SF.ext O0.2) (g := (mkF m 2 #[.val (.int 0), .val (.int 1)] [(.int 1), (.int 0)])) rfl (hb hby own_d15_2)
  refine own_by (g' := (mkF m 5 #[.val (.int 0), .val (.int 1)] [fm, (.int 1), (.int 0)])) st1 ?_
  refine own_callS X1 hx hZ (y := own_y22) hown (own_h hw 74 rfl) (own_h hw 75 rfl) (own_h hw 73 rfl) (own_h hw 76 rfl) (by decide) (own_pci_1_0 l Z a0 hw [] fm zCS fm h0 n0 Z0 hfm S_CS nCS S_AD S_HI S_LO S_SF hfm O0) (by decide) (by decide) e1 (g := (mkF m 5 #[.val (.int 0), .val (.int 1)] [fm, (.int 1), (.int 0)])) rfl (by rw [hml]; rfl) (argsL := [(.int 0), (.int 1), fm]) (rest := []) (lenOf own_pd__28IILjava_2futil_2ffunction_2fBiFunction_3b_29I rfl) rfl (W := 0) (by show 2 * 0 + _ ≤ _; exact Nat.le_of_eq rfl) (hb hby own_d15_5) rfl (by decide) (by decide) ?_
  rintro rv2 T2 L2 X2 ⟨rfl, Nq2, eh2⟩
  have N2 := Fr.app N0 Nq2
  refine own_g (mkF m 9 #[.val (.int 0), .val (.int 1)] []) (fun _ q => XS.pop X2.here hx rfl (hb hby own_d15_8) rfl rfl q) ?_
  exact own_end X2 (v := none) (fun _ => rfl) hlk (fun hr => X2.returnOut hx Bd.returns (hb hby own_d15_9) hr) (by rw [eh2]; exact ⟨rfl, N2, rfl⟩) (by decide) (by decide)
theorem own_pci_2_0_ef (m : MethodId) (vf : Value) (hvf : vf.isRef = true) : entryFrame m #[(.int 0), (.int 2), vf] 3 = mkF m 0 #[.val (.int 0), .val (.int 2), .val vf] [] := by rcases ref_cases hvf with rfl | ⟨_, rfl⟩ <;>  first | (simp [entryFrame, mkF, argsToLocals, Value.category]; done) | rfl
def own_pci_2_0_Q (Z : State) (vf : Value) (zCS : Int32) (fm : Value) (h0 : Heap) (n0 : Nat) (v : Option Value) (h : Heap) (L : List Loc) : Prop := v = some (.int 0) ∧ Fr n0 L ∧ h = h0
set_option maxRecDepth 65536 in
set_option maxHeartbeats 40000000 in
theorem own_pci_2_0 (l : Launch) (Z : State) (a0 : Array Value) (hw : ∀ d ∈ tables_1, d.before a0 Z = true) (ws : List Jvm.Cond) (vf : Value) (zCS : Int32) (fm : Value) (h0 : Heap) (n0 : Nat) (Z0 : n0 ≤ h0.size) (hvf : vf.isRef = true) (S_CS : own_A0 Z zCS) (nCS : ¬ zCS = 0) (S_AD : own_A1 Z) (S_HI : own_A2 Z) (S_LO : own_A3 Z) (S_SF : own_A4 Z fm) (hfm : fm.isRef = true) (O0 : Old Z n0 h0) :
    MetFree l own_y22 (head1 (Jvm.Cond.code own_y22 jdk_41_method_11_code 3 (some .int) :: ws) (⟨0, 0, 0, 0⟩ : Room)) (fun aa U => aa = #[(.int 0), (.int 2), vf] ∧ Z.Warmed39 U.vm ∧ U.heap = h0) (fun _ _ _ _ _ => True) (fun _ U o U' => ∃ v L, o = .returned v ∧ own_pci_2_0_Q Z vf zCS fm h0 n0 v U'.heap L ∧ FrameEnd U o U' L (⟨0, 0, 0, 0⟩ : Room).cells (⟨0, 0, 0, 0⟩ : Room).slots) := by
  refine MetFree.of_bodySF (plainFor_of_name own_pn_jdk_internal_util_Preconditions) hisR ?_
  intro p e s m args below meth c s₁ Bd hml0 hP hK
  obtain ⟨rfl, hZ, hh⟩ := hP
  have hx := Bd.exec
  have hby := Bd.bytes
  have hml : c.maxLocals = 3 := hml0
  have hown : s.vm.findClass "jdk/internal/util/Preconditions" = some m.cls := findClass_of_methodNamed Bd.named
  have hnm := (name_of_methodNamed Bd.named Bd.method).1
  have hlk := Bd.notSynchronized
  have X0 : Stand p l e (⟨0, 0, 0, 0⟩ : Room) s m #[(.int 0), (.int 2), vf] below meth c s₁ [] 0 0 := Stand.of_body Bd
  have e0 : s₁.heap = h0 := by rw [← hh, Bd.state]; rfl
  have N0 := Fr.nil n0
  refine own_start (Q := own_pci_2_0_Q Z vf zCS fm h0 n0) (own_pci_2_0_ef m vf hvf) ?_
  refine own_g (mkF m 17 #[.val (.int 0), .val (.int 2), .val vf] [(.int 0)]) (fun _ q => XS.iloadN X0.here hx rfl (hb hby own_d16_0) rfl (XS.ifNo X0.here hx rfl (hb hby own_d16_1) rfl ((if0 _ _).trans (flt (by decide : ¬ ((0 : Int32) < (0 : Int32)))).1) (XS.iloadN X0.here hx rfl (hb hby own_d16_4) rfl (XS.iloadN X0.here hx rfl (hb hby own_d16_5) rfl (XS.icmpYes X0.here hx rfl (pc0 := 6) (pc' := 16) rfl (hb hby own_d16_6) rfl (tlt (by decide : (0 : Int32) < (2 : Int32))).1 (by decide) (by decide) (XS.iloadN X0.here hx rfl (hb hby own_d16_16) rfl q)))))) ?_
  exact own_end X0 (v := some (.int 0)) (fun h => by rw [Bd.returns] at h; cases h) hlk (fun hr => retOut X0 hx Bd.returns rfl (Or.inl ⟨rfl, Or.inl rfl, _, rfl⟩) (hb hby own_d16_17) hr) (by rw [e0]; exact ⟨rfl, N0, rfl⟩) (by decide) (by decide)
theorem own_sci_2_0_ef (m : MethodId)  : entryFrame m #[(.int 0), (.int 2)] 2 = mkF m 0 #[.val (.int 0), .val (.int 2)] [] := by  first | (simp [entryFrame, mkF, argsToLocals, Value.category]; done) | rfl
def own_sci_2_0_Q (Z : State) (zCS : Int32) (fm : Value) (h0 : Heap) (n0 : Nat) (v : Option Value) (h : Heap) (L : List Loc) : Prop := v = none ∧ Fr n0 L ∧ h = h0
set_option maxRecDepth 65536 in
set_option maxHeartbeats 40000000 in
theorem own_sci_2_0 (l : Launch) (Z : State) (a0 : Array Value) (hw : ∀ d ∈ tables_1, d.before a0 Z = true) (ws : List Jvm.Cond) (zCS : Int32) (fm : Value) (h0 : Heap) (n0 : Nat) (Z0 : n0 ≤ h0.size) (S_CS : own_A0 Z zCS) (nCS : ¬ zCS = 0) (S_AD : own_A1 Z) (S_HI : own_A2 Z) (S_LO : own_A3 Z) (S_SF : own_A4 Z fm) (hfm : fm.isRef = true) (O0 : Old Z n0 h0) :
    MetFree l own_y6 (head1 (Jvm.Cond.code own_y6 jdk_42_method_155_code 2 none :: ws) (⟨1, 0, 0, 14⟩ : Room)) (fun aa U => aa = #[(.int 0), (.int 2)] ∧ Z.Warmed39 U.vm ∧ U.heap = h0) (fun _ _ _ _ _ => True) (fun _ U o U' => ∃ v L, o = .returned v ∧ own_sci_2_0_Q Z zCS fm h0 n0 v U'.heap L ∧ FrameEnd U o U' L (⟨1, 0, 0, 14⟩ : Room).cells (⟨1, 0, 0, 14⟩ : Room).slots) := by
  refine MetFree.of_bodySF (plainFor_of_name own_pn_java_lang_String) hisR ?_
  intro p e s m args below meth c s₁ Bd hml0 hP hK
  obtain ⟨rfl, hZ, hh⟩ := hP
  have hx := Bd.exec
  have hby := Bd.bytes
  have hml : c.maxLocals = 2 := hml0
  have hown : s.vm.findClass "java/lang/String" = some m.cls := findClass_of_methodNamed Bd.named
  have hnm := (name_of_methodNamed Bd.named Bd.method).1
  have hlk := Bd.notSynchronized
  have X0 : Stand p l e (⟨1, 0, 0, 14⟩ : Room) s m #[(.int 0), (.int 2)] below meth c s₁ [] 0 0 := Stand.of_body Bd
  have e0 : s₁.heap = h0 := by rw [← hh, Bd.state]; rfl
  have N0 := Fr.nil n0
  refine own_start (Q := own_sci_2_0_Q Z zCS fm h0 n0) (own_sci_2_0_ef m ) ?_
  refine own_g (mkF m 2 #[.val (.int 0), .val (.int 2)] [(.int 2), (.int 0)]) (fun _ q => XS.iloadN X0.here hx rfl (hb hby own_d15_0) rfl (XS.iloadN X0.here hx rfl (hb hby own_d15_1) rfl q)) ?_
  obtain ⟨T1, X1, e1, st1⟩ := getS2 X0 hx hZ hown (host := "") (Or.inl (own_h hw 72 rfl)) Via.refl e0 (S_SF.ext O0.2) (g := (mkF m 2 #[.val (.int 0), .val (.int 2)] [(.int 2), (.int 0)])) rfl (hb hby own_d15_2)
  refine own_by (g' := (mkF m 5 #[.val (.int 0), .val (.int 2)] [fm, (.int 2), (.int 0)])) st1 ?_
  refine own_callS X1 hx hZ (y := own_y22) hown (own_h hw 74 rfl) (own_h hw 75 rfl) (own_h hw 73 rfl) (own_h hw 76 rfl) (by decide) (own_pci_2_0 l Z a0 hw [] fm zCS fm h0 n0 Z0 hfm S_CS nCS S_AD S_HI S_LO S_SF hfm O0) (by decide) (by decide) e1 (g := (mkF m 5 #[.val (.int 0), .val (.int 2)] [fm, (.int 2), (.int 0)])) rfl (by rw [hml]; rfl) (argsL := [(.int 0), (.int 2), fm]) (rest := []) (lenOf own_pd__28IILjava_2futil_2ffunction_2fBiFunction_3b_29I rfl) rfl (W := 0) (by show 2 * 0 + _ ≤ _; exact Nat.le_of_eq rfl) (hb hby own_d15_5) rfl (by decide) (by decide) ?_
  rintro rv2 T2 L2 X2 ⟨rfl, Nq2, eh2⟩
  have N2 := Fr.app N0 Nq2
  refine own_g (mkF m 9 #[.val (.int 0), .val (.int 2)] []) (fun _ q => XS.pop X2.here hx rfl (hb hby own_d15_8) rfl rfl q) ?_
  exact own_end X2 (v := none) (fun _ => rfl) hlk (fun hr => X2.returnOut hx Bd.returns (hb hby own_d15_9) hr) (by rw [eh2]; exact ⟨rfl, N2, rfl⟩) (by decide) (by decide)
theorem own_pci_2_1_ef (m : MethodId) (vf : Value) (hvf : vf.isRef = true) : entryFrame m #[(.int 1), (.int 2), vf] 3 = mkF m 0 #[.val (.int 1), .val (.int 2), .val vf] [] := by rcases ref_cases hvf with rfl | ⟨_, rfl⟩ <;>  first | (simp [entryFrame, mkF, argsToLocals, Value.category]; done) | rfl
def own_pci_2_1_Q (Z : State) (vf : Value) (zCS : Int32) (fm : Value) (h0 : Heap) (n0 : Nat) (v : Option Value) (h : Heap) (L : List Loc) : Prop := v = some (.int 1) ∧ Fr n0 L ∧ h = h0
set_option maxRecDepth 65536 in
set_option maxHeartbeats 40000000 in
theorem own_pci_2_1 (l : Launch) (Z : State) (a0 : Array Value) (hw : ∀ d ∈ tables_1, d.before a0 Z = true) (ws : List Jvm.Cond) (vf : Value) (zCS : Int32) (fm : Value) (h0 : Heap) (n0 : Nat) (Z0 : n0 ≤ h0.size) (hvf : vf.isRef = true) (S_CS : own_A0 Z zCS) (nCS : ¬ zCS = 0) (S_AD : own_A1 Z) (S_HI : own_A2 Z) (S_LO : own_A3 Z) (S_SF : own_A4 Z fm) (hfm : fm.isRef = true) (O0 : Old Z n0 h0) :
    MetFree l own_y22 (head1 (Jvm.Cond.code own_y22 jdk_41_method_11_code 3 (some .int) :: ws) (⟨0, 0, 0, 0⟩ : Room)) (fun aa U => aa = #[(.int 1), (.int 2), vf] ∧ Z.Warmed39 U.vm ∧ U.heap = h0) (fun _ _ _ _ _ => True) (fun _ U o U' => ∃ v L, o = .returned v ∧ own_pci_2_1_Q Z vf zCS fm h0 n0 v U'.heap L ∧ FrameEnd U o U' L (⟨0, 0, 0, 0⟩ : Room).cells (⟨0, 0, 0, 0⟩ : Room).slots) := by
  refine MetFree.of_bodySF (plainFor_of_name own_pn_jdk_internal_util_Preconditions) hisR ?_
  intro p e s m args below meth c s₁ Bd hml0 hP hK
  obtain ⟨rfl, hZ, hh⟩ := hP
  have hx := Bd.exec
  have hby := Bd.bytes
  have hml : c.maxLocals = 3 := hml0
  have hown : s.vm.findClass "jdk/internal/util/Preconditions" = some m.cls := findClass_of_methodNamed Bd.named
  have hnm := (name_of_methodNamed Bd.named Bd.method).1
  have hlk := Bd.notSynchronized
  have X0 : Stand p l e (⟨0, 0, 0, 0⟩ : Room) s m #[(.int 1), (.int 2), vf] below meth c s₁ [] 0 0 := Stand.of_body Bd
  have e0 : s₁.heap = h0 := by rw [← hh, Bd.state]; rfl
  have N0 := Fr.nil n0
  refine own_start (Q := own_pci_2_1_Q Z vf zCS fm h0 n0) (own_pci_2_1_ef m vf hvf) ?_
  refine own_g (mkF m 17 #[.val (.int 1), .val (.int 2), .val vf] [(.int 1)]) (fun _ q => XS.iloadN X0.here hx rfl (hb hby own_d16_0) rfl (XS.ifNo X0.here hx rfl (hb hby own_d16_1) rfl ((if0 _ _).trans (flt (by decide : ¬ ((1 : Int32) < (0 : Int32)))).1) (XS.iloadN X0.here hx rfl (hb hby own_d16_4) rfl (XS.iloadN X0.here hx rfl (hb hby own_d16_5) rfl (XS.icmpYes X0.here hx rfl (pc0 := 6) (pc' := 16) rfl (hb hby own_d16_6) rfl (tlt (by decide : (1 : Int32) < (2 : Int32))).1 (by decide) (by decide) (XS.iloadN X0.here hx rfl (hb hby own_d16_16) rfl q)))))) ?_
  exact own_end X0 (v := some (.int 1)) (fun h => by rw [Bd.returns] at h; cases h) hlk (fun hr => retOut X0 hx Bd.returns rfl (Or.inl ⟨rfl, Or.inl rfl, _, rfl⟩) (hb hby own_d16_17) hr) (by rw [e0]; exact ⟨rfl, N0, rfl⟩) (by decide) (by decide)
theorem own_sci_2_1_ef (m : MethodId)  : entryFrame m #[(.int 1), (.int 2)] 2 = mkF m 0 #[.val (.int 1), .val (.int 2)] [] := by  first | (simp [entryFrame, mkF, argsToLocals, Value.category]; done) | rfl
def own_sci_2_1_Q (Z : State) (zCS : Int32) (fm : Value) (h0 : Heap) (n0 : Nat) (v : Option Value) (h : Heap) (L : List Loc) : Prop := v = none ∧ Fr n0 L ∧ h = h0
set_option maxRecDepth 65536 in
set_option maxHeartbeats 40000000 in
theorem own_sci_2_1 (l : Launch) (Z : State) (a0 : Array Value) (hw : ∀ d ∈ tables_1, d.before a0 Z = true) (ws : List Jvm.Cond) (zCS : Int32) (fm : Value) (h0 : Heap) (n0 : Nat) (Z0 : n0 ≤ h0.size) (S_CS : own_A0 Z zCS) (nCS : ¬ zCS = 0) (S_AD : own_A1 Z) (S_HI : own_A2 Z) (S_LO : own_A3 Z) (S_SF : own_A4 Z fm) (hfm : fm.isRef = true) (O0 : Old Z n0 h0) :
    MetFree l own_y6 (head1 (Jvm.Cond.code own_y6 jdk_42_method_155_code 2 none :: ws) (⟨1, 0, 0, 14⟩ : Room)) (fun aa U => aa = #[(.int 1), (.int 2)] ∧ Z.Warmed39 U.vm ∧ U.heap = h0) (fun _ _ _ _ _ => True) (fun _ U o U' => ∃ v L, o = .returned v ∧ own_sci_2_1_Q Z zCS fm h0 n0 v U'.heap L ∧ FrameEnd U o U' L (⟨1, 0, 0, 14⟩ : Room).cells (⟨1, 0, 0, 14⟩ : Room).slots) := by
  refine MetFree.of_bodySF (plainFor_of_name own_pn_java_lang_String) hisR ?_
  intro p e s m args below meth c s₁ Bd hml0 hP hK
  obtain ⟨rfl, hZ, hh⟩ := hP
  have hx := Bd.exec
  have hby := Bd.bytes
  have hml : c.maxLocals = 2 := hml0
  have hown : s.vm.findClass "java/lang/String" = some m.cls := findClass_of_methodNamed Bd.named
  have hnm := (name_of_methodNamed Bd.named Bd.method).1
  have hlk := Bd.notSynchronized
  have X0 : Stand p l e (⟨1, 0, 0, 14⟩ : Room) s m #[(.int 1), (.int 2)] below meth c s₁ [] 0 0 := Stand.of_body Bd
  have e0 : s₁.heap = h0 := by rw [← hh, Bd.state]; rfl
  have N0 := Fr.nil n0
  refine own_start (Q := own_sci_2_1_Q Z zCS fm h0 n0) (own_sci_2_1_ef m ) ?_
  refine own_g (mkF m 2 #[.val (.int 1), .val (.int 2)] [(.int 2), (.int 1)]) (fun _ q => XS.iloadN X0.here hx rfl (hb hby own_d15_0) rfl (XS.iloadN X0.here hx rfl (hb hby own_d15_1) rfl q)) ?_
  obtain ⟨T1, X1, e1, st1⟩ := getS2 X0 hx hZ hown (host := "") (Or.inl (own_h hw 72 rfl)) Via.refl e0 (S_SF.ext O0.2) (g := (mkF m 2 #[.val (.int 1), .val (.int 2)] [(.int 2), (.int 1)])) rfl (hb hby own_d15_2)
  refine own_by (g' := (mkF m 5 #[.val (.int 1), .val (.int 2)] [fm, (.int 2), (.int 1)])) st1 ?_
  refine own_callS X1 hx hZ (y := own_y22) hown (own_h hw 74 rfl) (own_h hw 75 rfl) (own_h hw 73 rfl) (own_h hw 76 rfl) (by decide) (own_pci_2_1 l Z a0 hw [] fm zCS fm h0 n0 Z0 hfm S_CS nCS S_AD S_HI S_LO S_SF hfm O0) (by decide) (by decide) e1 (g := (mkF m 5 #[.val (.int 1), .val (.int 2)] [fm, (.int 2), (.int 1)])) rfl (by rw [hml]; rfl) (argsL := [(.int 1), (.int 2), fm]) (rest := []) (lenOf own_pd__28IILjava_2futil_2ffunction_2fBiFunction_3b_29I rfl) rfl (W := 0) (by show 2 * 0 + _ ≤ _; exact Nat.le_of_eq rfl) (hb hby own_d15_5) rfl (by decide) (by decide) ?_
  rintro rv2 T2 L2 X2 ⟨rfl, Nq2, eh2⟩
  have N2 := Fr.app N0 Nq2
  refine own_g (mkF m 9 #[.val (.int 1), .val (.int 2)] []) (fun _ q => XS.pop X2.here hx rfl (hb hby own_d15_8) rfl rfl q) ?_
  exact own_end X2 (v := none) (fun _ => rfl) hlk (fun hr => X2.returnOut hx Bd.returns (hb hby own_d15_9) hr) (by rw [eh2]; exact ⟨rfl, N2, rfl⟩) (by decide) (by decide)
theorem own_pci_3_0_ef (m : MethodId) (vf : Value) (hvf : vf.isRef = true) : entryFrame m #[(.int 0), (.int 3), vf] 3 = mkF m 0 #[.val (.int 0), .val (.int 3), .val vf] [] := by rcases ref_cases hvf with rfl | ⟨_, rfl⟩ <;>  first | (simp [entryFrame, mkF, argsToLocals, Value.category]; done) | rfl
def own_pci_3_0_Q (Z : State) (vf : Value) (zCS : Int32) (fm : Value) (h0 : Heap) (n0 : Nat) (v : Option Value) (h : Heap) (L : List Loc) : Prop := v = some (.int 0) ∧ Fr n0 L ∧ h = h0
set_option maxRecDepth 65536 in
set_option maxHeartbeats 40000000 in
theorem own_pci_3_0 (l : Launch) (Z : State) (a0 : Array Value) (hw : ∀ d ∈ tables_1, d.before a0 Z = true) (ws : List Jvm.Cond) (vf : Value) (zCS : Int32) (fm : Value) (h0 : Heap) (n0 : Nat) (Z0 : n0 ≤ h0.size) (hvf : vf.isRef = true) (S_CS : own_A0 Z zCS) (nCS : ¬ zCS = 0) (S_AD : own_A1 Z) (S_HI : own_A2 Z) (S_LO : own_A3 Z) (S_SF : own_A4 Z fm) (hfm : fm.isRef = true) (O0 : Old Z n0 h0) :
    MetFree l own_y22 (head1 (Jvm.Cond.code own_y22 jdk_41_method_11_code 3 (some .int) :: ws) (⟨0, 0, 0, 0⟩ : Room)) (fun aa U => aa = #[(.int 0), (.int 3), vf] ∧ Z.Warmed39 U.vm ∧ U.heap = h0) (fun _ _ _ _ _ => True) (fun _ U o U' => ∃ v L, o = .returned v ∧ own_pci_3_0_Q Z vf zCS fm h0 n0 v U'.heap L ∧ FrameEnd U o U' L (⟨0, 0, 0, 0⟩ : Room).cells (⟨0, 0, 0, 0⟩ : Room).slots) := by
  refine MetFree.of_bodySF (plainFor_of_name own_pn_jdk_internal_util_Preconditions) hisR ?_
  intro p e s m args below meth c s₁ Bd hml0 hP hK
  obtain ⟨rfl, hZ, hh⟩ := hP
  have hx := Bd.exec
  have hby := Bd.bytes
  have hml : c.maxLocals = 3 := hml0
  have hown : s.vm.findClass "jdk/internal/util/Preconditions" = some m.cls := findClass_of_methodNamed Bd.named
  have hnm := (name_of_methodNamed Bd.named Bd.method).1
  have hlk := Bd.notSynchronized
  have X0 : Stand p l e (⟨0, 0, 0, 0⟩ : Room) s m #[(.int 0), (.int 3), vf] below meth c s₁ [] 0 0 := Stand.of_body Bd
  have e0 : s₁.heap = h0 := by rw [← hh, Bd.state]; rfl
  have N0 := Fr.nil n0
  refine own_start (Q := own_pci_3_0_Q Z vf zCS fm h0 n0) (own_pci_3_0_ef m vf hvf) ?_
  refine own_g (mkF m 17 #[.val (.int 0), .val (.int 3), .val vf] [(.int 0)]) (fun _ q => XS.iloadN X0.here hx rfl (hb hby own_d16_0) rfl (XS.ifNo X0.here hx rfl (hb hby own_d16_1) rfl ((if0 _ _).trans (flt (by decide : ¬ ((0 : Int32) < (0 : Int32)))).1) (XS.iloadN X0.here hx rfl (hb hby own_d16_4) rfl (XS.iloadN X0.here hx rfl (hb hby own_d16_5) rfl (XS.icmpYes X0.here hx rfl (pc0 := 6) (pc' := 16) rfl (hb hby own_d16_6) rfl (tlt (by decide : (0 : Int32) < (3 : Int32))).1 (by decide) (by decide) (XS.iloadN X0.here hx rfl (hb hby own_d16_16) rfl q)))))) ?_
  exact own_end X0 (v := some (.int 0)) (fun h => by rw [Bd.returns] at h; cases h) hlk (fun hr => retOut X0 hx Bd.returns rfl (Or.inl ⟨rfl, Or.inl rfl, _, rfl⟩) (hb hby own_d16_17) hr) (by rw [e0]; exact ⟨rfl, N0, rfl⟩) (by decide) (by decide)
theorem own_sci_3_0_ef (m : MethodId)  : entryFrame m #[(.int 0), (.int 3)] 2 = mkF m 0 #[.val (.int 0), .val (.int 3)] [] := by  first | (simp [entryFrame, mkF, argsToLocals, Value.category]; done) | rfl
def own_sci_3_0_Q (Z : State) (zCS : Int32) (fm : Value) (h0 : Heap) (n0 : Nat) (v : Option Value) (h : Heap) (L : List Loc) : Prop := v = none ∧ Fr n0 L ∧ h = h0
set_option maxRecDepth 65536 in
set_option maxHeartbeats 40000000 in
theorem own_sci_3_0 (l : Launch) (Z : State) (a0 : Array Value) (hw : ∀ d ∈ tables_1, d.before a0 Z = true) (ws : List Jvm.Cond) (zCS : Int32) (fm : Value) (h0 : Heap) (n0 : Nat) (Z0 : n0 ≤ h0.size) (S_CS : own_A0 Z zCS) (nCS : ¬ zCS = 0) (S_AD : own_A1 Z) (S_HI : own_A2 Z) (S_LO : own_A3 Z) (S_SF : own_A4 Z fm) (hfm : fm.isRef = true) (O0 : Old Z n0 h0) :
    MetFree l own_y6 (head1 (Jvm.Cond.code own_y6 jdk_42_method_155_code 2 none :: ws) (⟨1, 0, 0, 14⟩ : Room)) (fun aa U => aa = #[(.int 0), (.int 3)] ∧ Z.Warmed39 U.vm ∧ U.heap = h0) (fun _ _ _ _ _ => True) (fun _ U o U' => ∃ v L, o = .returned v ∧ own_sci_3_0_Q Z zCS fm h0 n0 v U'.heap L ∧ FrameEnd U o U' L (⟨1, 0, 0, 14⟩ : Room).cells (⟨1, 0, 0, 14⟩ : Room).slots) := by
  refine MetFree.of_bodySF (plainFor_of_name own_pn_java_lang_String) hisR ?_
  intro p e s m args below meth c s₁ Bd hml0 hP hK
  obtain ⟨rfl, hZ, hh⟩ := hP
  have hx := Bd.exec
  have hby := Bd.bytes
  have hml : c.maxLocals = 2 := hml0
  have hown : s.vm.findClass "java/lang/String" = some m.cls := findClass_of_methodNamed Bd.named
  have hnm := (name_of_methodNamed Bd.named Bd.method).1
  have hlk := Bd.notSynchronized
  have X0 : Stand p l e (⟨1, 0, 0, 14⟩ : Room) s m #[(.int 0), (.int 3)] below meth c s₁ [] 0 0 := Stand.of_body Bd
  have e0 : s₁.heap = h0 := by rw [← hh, Bd.state]; rfl
  have N0 := Fr.nil n0
  refine own_start (Q := own_sci_3_0_Q Z zCS fm h0 n0) (own_sci_3_0_ef m ) ?_
  refine own_g (mkF m 2 #[.val (.int 0), .val (.int 3)] [(.int 3), (.int 0)]) (fun _ q => XS.iloadN X0.here hx rfl (hb hby own_d15_0) rfl (XS.iloadN X0.here hx rfl (hb hby own_d15_1) rfl q)) ?_
  obtain ⟨T1, X1, e1, st1⟩ := getS2 X0 hx hZ hown (host := "") (Or.inl (own_h hw 72 rfl)) Via.refl e0 (S_SF.ext O0.2) (g := (mkF m 2 #[.val (.int 0), .val (.int 3)] [(.int 3), (.int 0)])) rfl (hb hby own_d15_2)
  refine own_by (g' := (mkF m 5 #[.val (.int 0), .val (.int 3)] [fm, (.int 3), (.int 0)])) st1 ?_
  refine own_callS X1 hx hZ (y := own_y22) hown (own_h hw 74 rfl) (own_h hw 75 rfl) (own_h hw 73 rfl) (own_h hw 76 rfl) (by decide) (own_pci_3_0 l Z a0 hw [] fm zCS fm h0 n0 Z0 hfm S_CS nCS S_AD S_HI S_LO S_SF hfm O0) (by decide) (by decide) e1 (g := (mkF m 5 #[.val (.int 0), .val (.int 3)] [fm, (.int 3), (.int 0)])) rfl (by rw [hml]; rfl) (argsL := [(.int 0), (.int 3), fm]) (rest := []) (lenOf own_pd__28IILjava_2futil_2ffunction_2fBiFunction_3b_29I rfl) rfl (W := 0) (by show 2 * 0 + _ ≤ _; exact Nat.le_of_eq rfl) (hb hby own_d15_5) rfl (by decide) (by decide) ?_
  rintro rv2 T2 L2 X2 ⟨rfl, Nq2, eh2⟩
  have N2 := Fr.app N0 Nq2
  refine own_g (mkF m 9 #[.val (.int 0), .val (.int 3)] []) (fun _ q => XS.pop X2.here hx rfl (hb hby own_d15_8) rfl rfl q) ?_
  exact own_end X2 (v := none) (fun _ => rfl) hlk (fun hr => X2.returnOut hx Bd.returns (hb hby own_d15_9) hr) (by rw [eh2]; exact ⟨rfl, N2, rfl⟩) (by decide) (by decide)
theorem own_pci_3_1_ef (m : MethodId) (vf : Value) (hvf : vf.isRef = true) : entryFrame m #[(.int 1), (.int 3), vf] 3 = mkF m 0 #[.val (.int 1), .val (.int 3), .val vf] [] := by rcases ref_cases hvf with rfl | ⟨_, rfl⟩ <;>  first | (simp [entryFrame, mkF, argsToLocals, Value.category]; done) | rfl
def own_pci_3_1_Q (Z : State) (vf : Value) (zCS : Int32) (fm : Value) (h0 : Heap) (n0 : Nat) (v : Option Value) (h : Heap) (L : List Loc) : Prop := v = some (.int 1) ∧ Fr n0 L ∧ h = h0
set_option maxRecDepth 65536 in
set_option maxHeartbeats 40000000 in
theorem own_pci_3_1 (l : Launch) (Z : State) (a0 : Array Value) (hw : ∀ d ∈ tables_1, d.before a0 Z = true) (ws : List Jvm.Cond) (vf : Value) (zCS : Int32) (fm : Value) (h0 : Heap) (n0 : Nat) (Z0 : n0 ≤ h0.size) (hvf : vf.isRef = true) (S_CS : own_A0 Z zCS) (nCS : ¬ zCS = 0) (S_AD : own_A1 Z) (S_HI : own_A2 Z) (S_LO : own_A3 Z) (S_SF : own_A4 Z fm) (hfm : fm.isRef = true) (O0 : Old Z n0 h0) :
    MetFree l own_y22 (head1 (Jvm.Cond.code own_y22 jdk_41_method_11_code 3 (some .int) :: ws) (⟨0, 0, 0, 0⟩ : Room)) (fun aa U => aa = #[(.int 1), (.int 3), vf] ∧ Z.Warmed39 U.vm ∧ U.heap = h0) (fun _ _ _ _ _ => True) (fun _ U o U' => ∃ v L, o = .returned v ∧ own_pci_3_1_Q Z vf zCS fm h0 n0 v U'.heap L ∧ FrameEnd U o U' L (⟨0, 0, 0, 0⟩ : Room).cells (⟨0, 0, 0, 0⟩ : Room).slots) := by
  refine MetFree.of_bodySF (plainFor_of_name own_pn_jdk_internal_util_Preconditions) hisR ?_
  intro p e s m args below meth c s₁ Bd hml0 hP hK
  obtain ⟨rfl, hZ, hh⟩ := hP
  have hx := Bd.exec
  have hby := Bd.bytes
  have hml : c.maxLocals = 3 := hml0
  have hown : s.vm.findClass "jdk/internal/util/Preconditions" = some m.cls := findClass_of_methodNamed Bd.named
  have hnm := (name_of_methodNamed Bd.named Bd.method).1
  have hlk := Bd.notSynchronized
  have X0 : Stand p l e (⟨0, 0, 0, 0⟩ : Room) s m #[(.int 1), (.int 3), vf] below meth c s₁ [] 0 0 := Stand.of_body Bd
  have e0 : s₁.heap = h0 := by rw [← hh, Bd.state]; rfl
  have N0 := Fr.nil n0
  refine own_start (Q := own_pci_3_1_Q Z vf zCS fm h0 n0) (own_pci_3_1_ef m vf hvf) ?_
  refine own_g (mkF m 17 #[.val (.int 1), .val (.int 3), .val vf] [(.int 1)]) (fun _ q => XS.iloadN X0.here hx rfl (hb hby own_d16_0) rfl (XS.ifNo X0.here hx rfl (hb hby own_d16_1) rfl ((if0 _ _).trans (flt (by decide : ¬ ((1 : Int32) < (0 : Int32)))).1) (XS.iloadN X0.here hx rfl (hb hby own_d16_4) rfl (XS.iloadN X0.here hx rfl (hb hby own_d16_5) rfl (XS.icmpYes X0.here hx rfl (pc0 := 6) (pc' := 16) rfl (hb hby own_d16_6) rfl (tlt (by decide : (1 : Int32) < (3 : Int32))).1 (by decide) (by decide) (XS.iloadN X0.here hx rfl (hb hby own_d16_16) rfl q)))))) ?_
  exact own_end X0 (v := some (.int 1)) (fun h => by rw [Bd.returns] at h; cases h) hlk (fun hr => retOut X0 hx Bd.returns rfl (Or.inl ⟨rfl, Or.inl rfl, _, rfl⟩) (hb hby own_d16_17) hr) (by rw [e0]; exact ⟨rfl, N0, rfl⟩) (by decide) (by decide)
theorem own_sci_3_1_ef (m : MethodId)  : entryFrame m #[(.int 1), (.int 3)] 2 = mkF m 0 #[.val (.int 1), .val (.int 3)] [] := by  first | (simp [entryFrame, mkF, argsToLocals, Value.category]; done) | rfl
def own_sci_3_1_Q (Z : State) (zCS : Int32) (fm : Value) (h0 : Heap) (n0 : Nat) (v : Option Value) (h : Heap) (L : List Loc) : Prop := v = none ∧ Fr n0 L ∧ h = h0
set_option maxRecDepth 65536 in
set_option maxHeartbeats 40000000 in
theorem own_sci_3_1 (l : Launch) (Z : State) (a0 : Array Value) (hw : ∀ d ∈ tables_1, d.before a0 Z = true) (ws : List Jvm.Cond) (zCS : Int32) (fm : Value) (h0 : Heap) (n0 : Nat) (Z0 : n0 ≤ h0.size) (S_CS : own_A0 Z zCS) (nCS : ¬ zCS = 0) (S_AD : own_A1 Z) (S_HI : own_A2 Z) (S_LO : own_A3 Z) (S_SF : own_A4 Z fm) (hfm : fm.isRef = true) (O0 : Old Z n0 h0) :
    MetFree l own_y6 (head1 (Jvm.Cond.code own_y6 jdk_42_method_155_code 2 none :: ws) (⟨1, 0, 0, 14⟩ : Room)) (fun aa U => aa = #[(.int 1), (.int 3)] ∧ Z.Warmed39 U.vm ∧ U.heap = h0) (fun _ _ _ _ _ => True) (fun _ U o U' => ∃ v L, o = .returned v ∧ own_sci_3_1_Q Z zCS fm h0 n0 v U'.heap L ∧ FrameEnd U o U' L (⟨1, 0, 0, 14⟩ : Room).cells (⟨1, 0, 0, 14⟩ : Room).slots) := by
  refine MetFree.of_bodySF (plainFor_of_name own_pn_java_lang_String) hisR ?_
  intro p e s m args below meth c s₁ Bd hml0 hP hK
  obtain ⟨rfl, hZ, hh⟩ := hP
  have hx := Bd.exec
  have hby := Bd.bytes
  have hml : c.maxLocals = 2 := hml0
  have hown : s.vm.findClass "java/lang/String" = some m.cls := findClass_of_methodNamed Bd.named
  have hnm := (name_of_methodNamed Bd.named Bd.method).1
  have hlk := Bd.notSynchronized
  have X0 : Stand p l e (⟨1, 0, 0, 14⟩ : Room) s m #[(.int 1), (.int 3)] below meth c s₁ [] 0 0 := Stand.of_body Bd
  have e0 : s₁.heap = h0 := by rw [← hh, Bd.state]; rfl
  have N0 := Fr.nil n0
  refine own_start (Q := own_sci_3_1_Q Z zCS fm h0 n0) (own_sci_3_1_ef m ) ?_
  refine own_g (mkF m 2 #[.val (.int 1), .val (.int 3)] [(.int 3), (.int 1)]) (fun _ q => XS.iloadN X0.here hx rfl (hb hby own_d15_0) rfl (XS.iloadN X0.here hx rfl (hb hby own_d15_1) rfl q)) ?_
  obtain ⟨T1, X1, e1, st1⟩ := getS2 X0 hx hZ hown (host := "") (Or.inl (own_h hw 72 rfl)) Via.refl e0 (S_SF.ext O0.2) (g := (mkF m 2 #[.val (.int 1), .val (.int 3)] [(.int 3), (.int 1)])) rfl (hb hby own_d15_2)
  refine own_by (g' := (mkF m 5 #[.val (.int 1), .val (.int 3)] [fm, (.int 3), (.int 1)])) st1 ?_
  refine own_callS X1 hx hZ (y := own_y22) hown (own_h hw 74 rfl) (own_h hw 75 rfl) (own_h hw 73 rfl) (own_h hw 76 rfl) (by decide) (own_pci_3_1 l Z a0 hw [] fm zCS fm h0 n0 Z0 hfm S_CS nCS S_AD S_HI S_LO S_SF hfm O0) (by decide) (by decide) e1 (g := (mkF m 5 #[.val (.int 1), .val (.int 3)] [fm, (.int 3), (.int 1)])) rfl (by rw [hml]; rfl) (argsL := [(.int 1), (.int 3), fm]) (rest := []) (lenOf own_pd__28IILjava_2futil_2ffunction_2fBiFunction_3b_29I rfl) rfl (W := 0) (by show 2 * 0 + _ ≤ _; exact Nat.le_of_eq rfl) (hb hby own_d15_5) rfl (by decide) (by decide) ?_
  rintro rv2 T2 L2 X2 ⟨rfl, Nq2, eh2⟩
  have N2 := Fr.app N0 Nq2
  refine own_g (mkF m 9 #[.val (.int 1), .val (.int 3)] []) (fun _ q => XS.pop X2.here hx rfl (hb hby own_d15_8) rfl rfl q) ?_
  exact own_end X2 (v := none) (fun _ => rfl) hlk (fun hr => X2.returnOut hx Bd.returns (hb hby own_d15_9) hr) (by rw [eh2]; exact ⟨rfl, N2, rfl⟩) (by decide) (by decide)
theorem own_pci_3_2_ef (m : MethodId) (vf : Value) (hvf : vf.isRef = true) : entryFrame m #[(.int 2), (.int 3), vf] 3 = mkF m 0 #[.val (.int 2), .val (.int 3), .val vf] [] := by rcases ref_cases hvf with rfl | ⟨_, rfl⟩ <;>  first | (simp [entryFrame, mkF, argsToLocals, Value.category]; done) | rfl
def own_pci_3_2_Q (Z : State) (vf : Value) (zCS : Int32) (fm : Value) (h0 : Heap) (n0 : Nat) (v : Option Value) (h : Heap) (L : List Loc) : Prop := v = some (.int 2) ∧ Fr n0 L ∧ h = h0
set_option maxRecDepth 65536 in
set_option maxHeartbeats 40000000 in
theorem own_pci_3_2 (l : Launch) (Z : State) (a0 : Array Value) (hw : ∀ d ∈ tables_1, d.before a0 Z = true) (ws : List Jvm.Cond) (vf : Value) (zCS : Int32) (fm : Value) (h0 : Heap) (n0 : Nat) (Z0 : n0 ≤ h0.size) (hvf : vf.isRef = true) (S_CS : own_A0 Z zCS) (nCS : ¬ zCS = 0) (S_AD : own_A1 Z) (S_HI : own_A2 Z) (S_LO : own_A3 Z) (S_SF : own_A4 Z fm) (hfm : fm.isRef = true) (O0 : Old Z n0 h0) :
    MetFree l own_y22 (head1 (Jvm.Cond.code own_y22 jdk_41_method_11_code 3 (some .int) :: ws) (⟨0, 0, 0, 0⟩ : Room)) (fun aa U => aa = #[(.int 2), (.int 3), vf] ∧ Z.Warmed39 U.vm ∧ U.heap = h0) (fun _ _ _ _ _ => True) (fun _ U o U' => ∃ v L, o = .returned v ∧ own_pci_3_2_Q Z vf zCS fm h0 n0 v U'.heap L ∧ FrameEnd U o U' L (⟨0, 0, 0, 0⟩ : Room).cells (⟨0, 0, 0, 0⟩ : Room).slots) := by
  refine MetFree.of_bodySF (plainFor_of_name own_pn_jdk_internal_util_Preconditions) hisR ?_
  intro p e s m args below meth c s₁ Bd hml0 hP hK
  obtain ⟨rfl, hZ, hh⟩ := hP
  have hx := Bd.exec
  have hby := Bd.bytes
  have hml : c.maxLocals = 3 := hml0
  have hown : s.vm.findClass "jdk/internal/util/Preconditions" = some m.cls := findClass_of_methodNamed Bd.named
  have hnm := (name_of_methodNamed Bd.named Bd.method).1
  have hlk := Bd.notSynchronized
  have X0 : Stand p l e (⟨0, 0, 0, 0⟩ : Room) s m #[(.int 2), (.int 3), vf] below meth c s₁ [] 0 0 := Stand.of_body Bd
  have e0 : s₁.heap = h0 := by rw [← hh, Bd.state]; rfl
  have N0 := Fr.nil n0
  refine own_start (Q := own_pci_3_2_Q Z vf zCS fm h0 n0) (own_pci_3_2_ef m vf hvf) ?_
  refine own_g (mkF m 17 #[.val (.int 2), .val (.int 3), .val vf] [(.int 2)]) (fun _ q => XS.iloadN X0.here hx rfl (hb hby own_d16_0) rfl (XS.ifNo X0.here hx rfl (hb hby own_d16_1) rfl ((if0 _ _).trans (flt (by decide : ¬ ((2 : Int32) < (0 : Int32)))).1) (XS.iloadN X0.here hx rfl (hb hby own_d16_4) rfl (XS.iloadN X0.here hx rfl (hb hby own_d16_5) rfl (XS.icmpYes X0.here hx rfl (pc0 := 6) (pc' := 16) rfl (hb hby own_d16_6) rfl (tlt (by decide : (2 : Int32) < (3 : Int32))).1 (by decide) (by decide) (XS.iloadN X0.here hx rfl (hb hby own_d16_16) rfl q)))))) ?_
  exact own_end X0 (v := some (.int 2)) (fun h => by rw [Bd.returns] at h; cases h) hlk (fun hr => retOut X0 hx Bd.returns rfl (Or.inl ⟨rfl, Or.inl rfl, _, rfl⟩) (hb hby own_d16_17) hr) (by rw [e0]; exact ⟨rfl, N0, rfl⟩) (by decide) (by decide)
theorem own_sci_3_2_ef (m : MethodId)  : entryFrame m #[(.int 2), (.int 3)] 2 = mkF m 0 #[.val (.int 2), .val (.int 3)] [] := by  first | (simp [entryFrame, mkF, argsToLocals, Value.category]; done) | rfl
def own_sci_3_2_Q (Z : State) (zCS : Int32) (fm : Value) (h0 : Heap) (n0 : Nat) (v : Option Value) (h : Heap) (L : List Loc) : Prop := v = none ∧ Fr n0 L ∧ h = h0
set_option maxRecDepth 65536 in
set_option maxHeartbeats 40000000 in
theorem own_sci_3_2 (l : Launch) (Z : State) (a0 : Array Value) (hw : ∀ d ∈ tables_1, d.before a0 Z = true) (ws : List Jvm.Cond) (zCS : Int32) (fm : Value) (h0 : Heap) (n0 : Nat) (Z0 : n0 ≤ h0.size) (S_CS : own_A0 Z zCS) (nCS : ¬ zCS = 0) (S_AD : own_A1 Z) (S_HI : own_A2 Z) (S_LO : own_A3 Z) (S_SF : own_A4 Z fm) (hfm : fm.isRef = true) (O0 : Old Z n0 h0) :
    MetFree l own_y6 (head1 (Jvm.Cond.code own_y6 jdk_42_method_155_code 2 none :: ws) (⟨1, 0, 0, 14⟩ : Room)) (fun aa U => aa = #[(.int 2), (.int 3)] ∧ Z.Warmed39 U.vm ∧ U.heap = h0) (fun _ _ _ _ _ => True) (fun _ U o U' => ∃ v L, o = .returned v ∧ own_sci_3_2_Q Z zCS fm h0 n0 v U'.heap L ∧ FrameEnd U o U' L (⟨1, 0, 0, 14⟩ : Room).cells (⟨1, 0, 0, 14⟩ : Room).slots) := by
  refine MetFree.of_bodySF (plainFor_of_name own_pn_java_lang_String) hisR ?_
  intro p e s m args below meth c s₁ Bd hml0 hP hK
  obtain ⟨rfl, hZ, hh⟩ := hP
  have hx := Bd.exec
  have hby := Bd.bytes
  have hml : c.maxLocals = 2 := hml0
  have hown : s.vm.findClass "java/lang/String" = some m.cls := findClass_of_methodNamed Bd.named
  have hnm := (name_of_methodNamed Bd.named Bd.method).1
  have hlk := Bd.notSynchronized
  have X0 : Stand p l e (⟨1, 0, 0, 14⟩ : Room) s m #[(.int 2), (.int 3)] below meth c s₁ [] 0 0 := Stand.of_body Bd
  have e0 : s₁.heap = h0 := by rw [← hh, Bd.state]; rfl
  have N0 := Fr.nil n0
  refine own_start (Q := own_sci_3_2_Q Z zCS fm h0 n0) (own_sci_3_2_ef m ) ?_
  refine own_g (mkF m 2 #[.val (.int 2), .val (.int 3)] [(.int 3), (.int 2)]) (fun _ q => XS.iloadN X0.here hx rfl (hb hby own_d15_0) rfl (XS.iloadN X0.here hx rfl (hb hby own_d15_1) rfl q)) ?_
  obtain ⟨T1, X1, e1, st1⟩ := getS2 X0 hx hZ hown (host := "") (Or.inl (own_h hw 72 rfl)) Via.refl e0 (S_SF.ext O0.2) (g := (mkF m 2 #[.val (.int 2), .val (.int 3)] [(.int 3), (.int 2)])) rfl (hb hby own_d15_2)
  refine own_by (g' := (mkF m 5 #[.val (.int 2), .val (.int 3)] [fm, (.int 3), (.int 2)])) st1 ?_
  refine own_callS X1 hx hZ (y := own_y22) hown (own_h hw 74 rfl) (own_h hw 75 rfl) (own_h hw 73 rfl) (own_h hw 76 rfl) (by decide) (own_pci_3_2 l Z a0 hw [] fm zCS fm h0 n0 Z0 hfm S_CS nCS S_AD S_HI S_LO S_SF hfm O0) (by decide) (by decide) e1 (g := (mkF m 5 #[.val (.int 2), .val (.int 3)] [fm, (.int 3), (.int 2)])) rfl (by rw [hml]; rfl) (argsL := [(.int 2), (.int 3), fm]) (rest := []) (lenOf own_pd__28IILjava_2futil_2ffunction_2fBiFunction_3b_29I rfl) rfl (W := 0) (by show 2 * 0 + _ ≤ _; exact Nat.le_of_eq rfl) (hb hby own_d15_5) rfl (by decide) (by decide) ?_
  rintro rv2 T2 L2 X2 ⟨rfl, Nq2, eh2⟩
  have N2 := Fr.app N0 Nq2
  refine own_g (mkF m 9 #[.val (.int 2), .val (.int 3)] []) (fun _ q => XS.pop X2.here hx rfl (hb hby own_d15_8) rfl rfl q) ?_
  exact own_end X2 (v := none) (fun _ => rfl) hlk (fun hr => X2.returnOut hx Bd.returns (hb hby own_d15_9) hr) (by rw [eh2]; exact ⟨rfl, N2, rfl⟩) (by decide) (by decide)
theorem own_d24_0 : decode jdk_52_method_6_code 0 = .ok (.aload_n 0, 1) := by decide +kernel
theorem own_d24_1 : decode jdk_52_method_6_code 1 = .ok (.arraylength, 1) := by decide +kernel
theorem own_d24_2 : decode jdk_52_method_6_code 2 = .ok (.iconst 1, 1) := by decide +kernel
theorem own_d24_3 : decode jdk_52_method_6_code 3 = .ok (.ishr, 1) := by decide +kernel
theorem own_d24_4 : decode jdk_52_method_6_code 4 = .ok (.ireturn, 1) := by decide +kernel
theorem own_ul_1_ef (m : MethodId) (b : Addr) : entryFrame m #[(.ref b)] 1 = mkF m 0 #[.val (.ref b)] [] := by  first | (simp [entryFrame, mkF, argsToLocals, Value.category]; done) | rfl
def own_ul_1_Q (Z : State) (b : Addr) (kb : ClassId) (vs : List Value) (dv : Value) (zCS : Int32) (fm : Value) (h0 : Heap) (n0 : Nat) (v : Option Value) (h : Heap) (L : List Loc) : Prop := v = some (.int 1) ∧ Fr n0 L ∧ h = h0
theorem own_pn_java_lang_StringUTF16 : plainName "java/lang/StringUTF16" = true := by first | (simp [plainName, overriddenIn]; done) | decide +kernel
set_option maxRecDepth 65536 in
set_option maxHeartbeats 40000000 in
theorem own_ul_1 (l : Launch) (Z : State) (a0 : Array Value) (hw : ∀ d ∈ tables_1, d.before a0 Z = true) (ws : List Jvm.Cond) (b : Addr) (kb : ClassId) (vs : List Value) (dv : Value) (zCS : Int32) (fm : Value) (h0 : Heap) (n0 : Nat) (Z0 : n0 ≤ h0.size) (S_CS : own_A0 Z zCS) (nCS : ¬ zCS = 0) (S_AD : own_A1 Z) (S_HI : own_A2 Z) (S_LO : own_A3 Z) (S_SF : own_A4 Z fm) (hfm : fm.isRef = true) (O0 : Old Z n0 h0) (K_b : Arv Z h0 b kb .byte (2 : Int32) vs dv) :
    MetFree l own_y17 (head1 (Jvm.Cond.code own_y17 jdk_52_method_6_code 1 (some .int) :: ws) (⟨0, 0, 0, 0⟩ : Room)) (fun aa U => aa = #[(.ref b)] ∧ Z.Warmed39 U.vm ∧ U.heap = h0) (fun _ _ _ _ _ => True) (fun _ U o U' => ∃ v L, o = .returned v ∧ own_ul_1_Q Z b kb vs dv zCS fm h0 n0 v U'.heap L ∧ FrameEnd U o U' L (⟨0, 0, 0, 0⟩ : Room).cells (⟨0, 0, 0, 0⟩ : Room).slots) := by
  refine MetFree.of_bodySF (plainFor_of_name own_pn_java_lang_StringUTF16) hisR ?_
  intro p e s m args below meth c s₁ Bd hml0 hP hK
  obtain ⟨rfl, hZ, hh⟩ := hP
  have hx := Bd.exec
  have hby := Bd.bytes
  have hml : c.maxLocals = 1 := hml0
  have hown : s.vm.findClass "java/lang/StringUTF16" = some m.cls := findClass_of_methodNamed Bd.named
  have hnm := (name_of_methodNamed Bd.named Bd.method).1
  have hlk := Bd.notSynchronized
  have X0 : Stand p l e (⟨0, 0, 0, 0⟩ : Room) s m #[(.ref b)] below meth c s₁ [] 0 0 := Stand.of_body Bd
  have e0 : s₁.heap = h0 := by rw [← hh, Bd.state]; rfl
  have N0 := Fr.nil n0
  refine own_start (Q := own_ul_1_Q Z b kb vs dv zCS fm h0 n0) (own_ul_1_ef m b) ?_
  refine own_g (mkF m 1 #[.val (.ref b)] [(.ref b)]) (fun _ q => XS.aloadN X0.here hx rfl (hb hby own_d24_0) rfl rfl q) ?_
  obtain ⟨cl1, Ar1, q1, S1, P1, H1, G1⟩ := id K_b
  refine own_by (g' := (mkF m 2 #[.val (.ref b)] [(.int 2)])) (fun _ kq => X0.arraylength hx (by rw [e0]; exact Ar1.1) (State.isArrayOf_alike hZ.alike Ar1.2.1) (g := (mkF m 1 #[.val (.ref b)] [(.ref b)])) rfl rfl (hb hby own_d24_1) _ (by rw [len_of S1 P1]; exact kq)) ?_
  refine own_g (mkF m 4 #[.val (.ref b)] [(.int 1)]) (fun _ q => XS.iconst X0.here hx rfl (hb hby own_d24_2) (XS.ishr X0.here hx rfl (hb hby own_d24_3) rfl q)) ?_
  exact own_end X0 (v := some (.int 1)) (fun h => by rw [Bd.returns] at h; cases h) hlk (fun hr => retOut X0 hx Bd.returns rfl (Or.inl ⟨rfl, Or.inl rfl, _, rfl⟩) (hb hby own_d24_4) hr) (by rw [e0]; exact ⟨rfl, N0, rfl⟩) (by decide) (by decide)
theorem own_ul_2_ef (m : MethodId) (b : Addr) : entryFrame m #[(.ref b)] 1 = mkF m 0 #[.val (.ref b)] [] := by  first | (simp [entryFrame, mkF, argsToLocals, Value.category]; done) | rfl
def own_ul_2_Q (Z : State) (b : Addr) (kb : ClassId) (vs : List Value) (dv : Value) (zCS : Int32) (fm : Value) (h0 : Heap) (n0 : Nat) (v : Option Value) (h : Heap) (L : List Loc) : Prop := v = some (.int 2) ∧ Fr n0 L ∧ h = h0
set_option maxRecDepth 65536 in
set_option maxHeartbeats 40000000 in
theorem own_ul_2 (l : Launch) (Z : State) (a0 : Array Value) (hw : ∀ d ∈ tables_1, d.before a0 Z = true) (ws : List Jvm.Cond) (b : Addr) (kb : ClassId) (vs : List Value) (dv : Value) (zCS : Int32) (fm : Value) (h0 : Heap) (n0 : Nat) (Z0 : n0 ≤ h0.size) (S_CS : own_A0 Z zCS) (nCS : ¬ zCS = 0) (S_AD : own_A1 Z) (S_HI : own_A2 Z) (S_LO : own_A3 Z) (S_SF : own_A4 Z fm) (hfm : fm.isRef = true) (O0 : Old Z n0 h0) (K_b : Arv Z h0 b kb .byte (4 : Int32) vs dv) :
    MetFree l own_y17 (head1 (Jvm.Cond.code own_y17 jdk_52_method_6_code 1 (some .int) :: ws) (⟨0, 0, 0, 0⟩ : Room)) (fun aa U => aa = #[(.ref b)] ∧ Z.Warmed39 U.vm ∧ U.heap = h0) (fun _ _ _ _ _ => True) (fun _ U o U' => ∃ v L, o = .returned v ∧ own_ul_2_Q Z b kb vs dv zCS fm h0 n0 v U'.heap L ∧ FrameEnd U o U' L (⟨0, 0, 0, 0⟩ : Room).cells (⟨0, 0, 0, 0⟩ : Room).slots) := by
  refine MetFree.of_bodySF (plainFor_of_name own_pn_java_lang_StringUTF16) hisR ?_
  intro p e s m args below meth c s₁ Bd hml0 hP hK
  obtain ⟨rfl, hZ, hh⟩ := hP
  have hx := Bd.exec
  have hby := Bd.bytes
  have hml : c.maxLocals = 1 := hml0
  have hown : s.vm.findClass "java/lang/StringUTF16" = some m.cls := findClass_of_methodNamed Bd.named
  have hnm := (name_of_methodNamed Bd.named Bd.method).1
  have hlk := Bd.notSynchronized
  have X0 : Stand p l e (⟨0, 0, 0, 0⟩ : Room) s m #[(.ref b)] below meth c s₁ [] 0 0 := Stand.of_body Bd
  have e0 : s₁.heap = h0 := by rw [← hh, Bd.state]; rfl
  have N0 := Fr.nil n0
  refine own_start (Q := own_ul_2_Q Z b kb vs dv zCS fm h0 n0) (own_ul_2_ef m b) ?_
  refine own_g (mkF m 1 #[.val (.ref b)] [(.ref b)]) (fun _ q => XS.aloadN X0.here hx rfl (hb hby own_d24_0) rfl rfl q) ?_
  obtain ⟨cl1, Ar1, q1, S1, P1, H1, G1⟩ := id K_b
  refine own_by (g' := (mkF m 2 #[.val (.ref b)] [(.int 4)])) (fun _ kq => X0.arraylength hx (by rw [e0]; exact Ar1.1) (State.isArrayOf_alike hZ.alike Ar1.2.1) (g := (mkF m 1 #[.val (.ref b)] [(.ref b)])) rfl rfl (hb hby own_d24_1) _ (by rw [len_of S1 P1]; exact kq)) ?_
  refine own_g (mkF m 4 #[.val (.ref b)] [(.int 2)]) (fun _ q => XS.iconst X0.here hx rfl (hb hby own_d24_2) (XS.ishr X0.here hx rfl (hb hby own_d24_3) rfl q)) ?_
  exact own_end X0 (v := some (.int 2)) (fun h => by rw [Bd.returns] at h; cases h) hlk (fun hr => retOut X0 hx Bd.returns rfl (Or.inl ⟨rfl, Or.inl rfl, _, rfl⟩) (hb hby own_d24_4) hr) (by rw [e0]; exact ⟨rfl, N0, rfl⟩) (by decide) (by decide)
theorem own_ul_3_ef (m : MethodId) (b : Addr) : entryFrame m #[(.ref b)] 1 = mkF m 0 #[.val (.ref b)] [] := by  first | (simp [entryFrame, mkF, argsToLocals, Value.category]; done) | rfl
def own_ul_3_Q (Z : State) (b : Addr) (kb : ClassId) (vs : List Value) (dv : Value) (zCS : Int32) (fm : Value) (h0 : Heap) (n0 : Nat) (v : Option Value) (h : Heap) (L : List Loc) : Prop := v = some (.int 3) ∧ Fr n0 L ∧ h = h0
set_option maxRecDepth 65536 in
set_option maxHeartbeats 40000000 in
theorem own_ul_3 (l : Launch) (Z : State) (a0 : Array Value) (hw : ∀ d ∈ tables_1, d.before a0 Z = true) (ws : List Jvm.Cond) (b : Addr) (kb : ClassId) (vs : List Value) (dv : Value) (zCS : Int32) (fm : Value) (h0 : Heap) (n0 : Nat) (Z0 : n0 ≤ h0.size) (S_CS : own_A0 Z zCS) (nCS : ¬ zCS = 0) (S_AD : own_A1 Z) (S_HI : own_A2 Z) (S_LO : own_A3 Z) (S_SF : own_A4 Z fm) (hfm : fm.isRef = true) (O0 : Old Z n0 h0) (K_b : Arv Z h0 b kb .byte (6 : Int32) vs dv) :
    MetFree l own_y17 (head1 (Jvm.Cond.code own_y17 jdk_52_method_6_code 1 (some .int) :: ws) (⟨0, 0, 0, 0⟩ : Room)) (fun aa U => aa = #[(.ref b)] ∧ Z.Warmed39 U.vm ∧ U.heap = h0) (fun _ _ _ _ _ => True) (fun _ U o U' => ∃ v L, o = .returned v ∧ own_ul_3_Q Z b kb vs dv zCS fm h0 n0 v U'.heap L ∧ FrameEnd U o U' L (⟨0, 0, 0, 0⟩ : Room).cells (⟨0, 0, 0, 0⟩ : Room).slots) := by
  refine MetFree.of_bodySF (plainFor_of_name own_pn_java_lang_StringUTF16) hisR ?_
  intro p e s m args below meth c s₁ Bd hml0 hP hK
  obtain ⟨rfl, hZ, hh⟩ := hP
  have hx := Bd.exec
  have hby := Bd.bytes
  have hml : c.maxLocals = 1 := hml0
  have hown : s.vm.findClass "java/lang/StringUTF16" = some m.cls := findClass_of_methodNamed Bd.named
  have hnm := (name_of_methodNamed Bd.named Bd.method).1
  have hlk := Bd.notSynchronized
  have X0 : Stand p l e (⟨0, 0, 0, 0⟩ : Room) s m #[(.ref b)] below meth c s₁ [] 0 0 := Stand.of_body Bd
  have e0 : s₁.heap = h0 := by rw [← hh, Bd.state]; rfl
  have N0 := Fr.nil n0
  refine own_start (Q := own_ul_3_Q Z b kb vs dv zCS fm h0 n0) (own_ul_3_ef m b) ?_
  refine own_g (mkF m 1 #[.val (.ref b)] [(.ref b)]) (fun _ q => XS.aloadN X0.here hx rfl (hb hby own_d24_0) rfl rfl q) ?_
  obtain ⟨cl1, Ar1, q1, S1, P1, H1, G1⟩ := id K_b
  refine own_by (g' := (mkF m 2 #[.val (.ref b)] [(.int 6)])) (fun _ kq => X0.arraylength hx (by rw [e0]; exact Ar1.1) (State.isArrayOf_alike hZ.alike Ar1.2.1) (g := (mkF m 1 #[.val (.ref b)] [(.ref b)])) rfl rfl (hb hby own_d24_1) _ (by rw [len_of S1 P1]; exact kq)) ?_
  refine own_g (mkF m 4 #[.val (.ref b)] [(.int 3)]) (fun _ q => XS.iconst X0.here hx rfl (hb hby own_d24_2) (XS.ishr X0.here hx rfl (hb hby own_d24_3) rfl q)) ?_
  exact own_end X0 (v := some (.int 3)) (fun h => by rw [Bd.returns] at h; cases h) hlk (fun hr => retOut X0 hx Bd.returns rfl (Or.inl ⟨rfl, Or.inl rfl, _, rfl⟩) (hb hby own_d24_4) hr) (by rw [e0]; exact ⟨rfl, N0, rfl⟩) (by decide) (by decide)
theorem own_d23_0 : decode jdk_52_method_91_code 0 = .ok (.iload_n 0, 1) := by decide +kernel
theorem own_d23_1 : decode jdk_52_method_91_code 1 = .ok (.aload_n 1, 1) := by decide +kernel
theorem own_d23_2 : decode jdk_52_method_91_code 2 = .ok (.invokestatic 48, 3) := by decide +kernel
theorem own_pd__28_5bB_29I : parseMethodDescriptor "([B)I" = some ⟨[(.array .byte)], some .int⟩ := by decide +kernel
theorem own_d23_5 : decode jdk_52_method_91_code 5 = .ok (.invokestatic 414, 3) := by decide +kernel
theorem own_pd__28II_29V : parseMethodDescriptor "(II)V" = some ⟨[.int, .int], none⟩ := by decide +kernel
theorem own_d23_8 : decode jdk_52_method_91_code 8 = .ok (.return_, 1) := by decide +kernel
theorem own_uci_1_0_ef (m : MethodId) (b : Addr) : entryFrame m #[(.int 0), (.ref b)] 2 = mkF m 0 #[.val (.int 0), .val (.ref b)] [] := by  first | (simp [entryFrame, mkF, argsToLocals, Value.category]; done) | rfl
def own_uci_1_0_Q (Z : State) (b : Addr) (kb : ClassId) (vs : List Value) (dv : Value) (zCS : Int32) (fm : Value) (h0 : Heap) (n0 : Nat) (v : Option Value) (h : Heap) (L : List Loc) : Prop := v = none ∧ Fr n0 L ∧ h = h0
set_option maxRecDepth 65536 in
set_option maxHeartbeats 40000000 in
theorem own_uci_1_0 (l : Launch) (Z : State) (a0 : Array Value) (hw : ∀ d ∈ tables_1, d.before a0 Z = true) (ws : List Jvm.Cond) (b : Addr) (kb : ClassId) (vs : List Value) (dv : Value) (zCS : Int32) (fm : Value) (h0 : Heap) (n0 : Nat) (Z0 : n0 ≤ h0.size) (S_CS : own_A0 Z zCS) (nCS : ¬ zCS = 0) (S_AD : own_A1 Z) (S_HI : own_A2 Z) (S_LO : own_A3 Z) (S_SF : own_A4 Z fm) (hfm : fm.isRef = true) (O0 : Old Z n0 h0) (K_b : Arv Z h0 b kb .byte (2 : Int32) vs dv) :
    MetFree l own_y12 (head1 (Jvm.Cond.code own_y12 jdk_52_method_91_code 2 none :: ws) (⟨2, 0, 0, 27⟩ : Room)) (fun aa U => aa = #[(.int 0), (.ref b)] ∧ Z.Warmed39 U.vm ∧ U.heap = h0) (fun _ _ _ _ _ => True) (fun _ U o U' => ∃ v L, o = .returned v ∧ own_uci_1_0_Q Z b kb vs dv zCS fm h0 n0 v U'.heap L ∧ FrameEnd U o U' L (⟨2, 0, 0, 27⟩ : Room).cells (⟨2, 0, 0, 27⟩ : Room).slots) := by
  refine MetFree.of_bodySF (plainFor_of_name own_pn_java_lang_StringUTF16) hisR ?_
  intro p e s m args below meth c s₁ Bd hml0 hP hK
  obtain ⟨rfl, hZ, hh⟩ := hP
  have hx := Bd.exec
  have hby := Bd.bytes
  have hml : c.maxLocals = 2 := hml0
  have hown : s.vm.findClass "java/lang/StringUTF16" = some m.cls := findClass_of_methodNamed Bd.named
  have hnm := (name_of_methodNamed Bd.named Bd.method).1
  have hlk := Bd.notSynchronized
  have X0 : Stand p l e (⟨2, 0, 0, 27⟩ : Room) s m #[(.int 0), (.ref b)] below meth c s₁ [] 0 0 := Stand.of_body Bd
  have e0 : s₁.heap = h0 := by rw [← hh, Bd.state]; rfl
  have N0 := Fr.nil n0
  refine own_start (Q := own_uci_1_0_Q Z b kb vs dv zCS fm h0 n0) (own_uci_1_0_ef m b) ?_
  refine own_g (mkF m 2 #[.val (.int 0), .val (.ref b)] [(.ref b), (.int 0)]) (fun _ q => XS.iloadN X0.here hx rfl (hb hby own_d23_0) rfl (XS.aloadN X0.here hx rfl (hb hby own_d23_1) rfl rfl q)) ?_
  refine own_callS X0 hx hZ (y := own_y17) hown (own_h hw 103 rfl) (own_h hw 104 rfl) (own_h hw 44 rfl) (own_h hw 105 rfl) (by decide) (own_ul_1 l Z a0 hw [] b kb vs dv zCS fm h0 n0 Z0 S_CS nCS S_AD S_HI S_LO S_SF hfm O0 K_b) (by decide) (by decide) e0 (g := (mkF m 2 #[.val (.int 0), .val (.ref b)] [(.ref b), (.int 0)])) rfl (by rw [hml]; rfl) (argsL := [(.ref b)]) (rest := [(.int 0)]) (lenOf own_pd__28_5bB_29I rfl) rfl (W := 1) (by show 2 * 0 + _ ≤ _; exact Nat.le_of_eq rfl) (hb hby own_d23_2) rfl (by decide) (by decide) ?_
  rintro rv1 T1 L1 X1 ⟨rfl, Nq1, eh1⟩
  have N1 := Fr.app N0 Nq1
  show own_Fin p e below _ T1 (mkF m 5 #[.val (.int 0), .val (.ref b)] [(.int 1), (.int 0)])
  refine own_callS X1 hx hZ (y := own_y6) hown (own_h hw 106 rfl) (own_h hw 70 rfl) (own_h hw 8 rfl) (own_h hw 71 rfl) (by decide) (own_sci_1_0 l Z a0 hw [] zCS fm h0 n0 Z0 S_CS nCS S_AD S_HI S_LO S_SF hfm O0) (by decide) (by decide) eh1 (g := (mkF m 5 #[.val (.int 0), .val (.ref b)] [(.int 1), (.int 0)])) rfl (by rw [hml]; rfl) (argsL := [(.int 0), (.int 1)]) (rest := []) (lenOf own_pd__28II_29V rfl) rfl (W := 0) (by show 2 * 0 + _ ≤ _; exact Nat.le_of_eq rfl) (hb hby own_d23_5) rfl (by decide) (by decide) ?_
  rintro rv2 T2 L2 X2 ⟨rfl, Nq2, eh2⟩
  have N2 := Fr.app N1 Nq2
  show own_Fin p e below _ T2 (mkF m 8 #[.val (.int 0), .val (.ref b)] [])
  exact own_end X2 (v := none) (fun _ => rfl) hlk (fun hr => X2.returnOut hx Bd.returns (hb hby own_d23_8) hr) (by rw [eh2]; exact ⟨rfl, N2, rfl⟩) (by decide) (by decide)
theorem own_d21_0 : decode jdk_52_method_5_code 0 = .ok (.getstatic 44, 3) := by decide +kernel
theorem own_d21_3 : decode jdk_52_method_5_code 3 = .ok (.ifCond .ne 25, 3) := by decide +kernel
theorem own_d21_28 : decode jdk_52_method_5_code 28 = .ok (.iload_n 1, 1) := by decide +kernel
theorem own_d21_29 : decode jdk_52_method_5_code 29 = .ok (.iconst 1, 1) := by decide +kernel
theorem own_d21_30 : decode jdk_52_method_5_code 30 = .ok (.ishl, 1) := by decide +kernel
theorem own_d21_31 : decode jdk_52_method_5_code 31 = .ok (.istore_n 1, 1) := by decide +kernel
theorem own_d21_32 : decode jdk_52_method_5_code 32 = .ok (.aload_n 0, 1) := by decide +kernel
theorem own_d21_33 : decode jdk_52_method_5_code 33 = .ok (.iload_n 1, 1) := by decide +kernel
theorem own_d21_34 : decode jdk_52_method_5_code 34 = .ok (.iinc 1 1, 3) := by decide +kernel
theorem own_d21_37 : decode jdk_52_method_5_code 37 = .ok (.baload, 1) := by decide +kernel
theorem own_d21_38 : decode jdk_52_method_5_code 38 = .ok (.sipush 255, 3) := by decide +kernel
theorem own_d21_41 : decode jdk_52_method_5_code 41 = .ok (.iand, 1) := by decide +kernel
theorem own_d21_42 : decode jdk_52_method_5_code 42 = .ok (.getstatic 59, 3) := by decide +kernel
theorem own_d21_45 : decode jdk_52_method_5_code 45 = .ok (.ishl, 1) := by decide +kernel
theorem own_d21_46 : decode jdk_52_method_5_code 46 = .ok (.aload_n 0, 1) := by decide +kernel
theorem own_d21_47 : decode jdk_52_method_5_code 47 = .ok (.iload_n 1, 1) := by decide +kernel
theorem own_d21_48 : decode jdk_52_method_5_code 48 = .ok (.baload, 1) := by decide +kernel
theorem own_d21_49 : decode jdk_52_method_5_code 49 = .ok (.sipush 255, 3) := by decide +kernel
theorem own_d21_52 : decode jdk_52_method_5_code 52 = .ok (.iand, 1) := by decide +kernel
theorem own_d21_53 : decode jdk_52_method_5_code 53 = .ok (.getstatic 63, 3) := by decide +kernel
theorem own_d21_56 : decode jdk_52_method_5_code 56 = .ok (.ishl, 1) := by decide +kernel
theorem own_d21_57 : decode jdk_52_method_5_code 57 = .ok (.ior, 1) := by decide +kernel
theorem own_d21_58 : decode jdk_52_method_5_code 58 = .ok (.i2c, 1) := by decide +kernel
theorem own_d21_59 : decode jdk_52_method_5_code 59 = .ok (.ireturn, 1) := by decide +kernel
theorem own_get_1_0_ef (m : MethodId) (b : Addr) : entryFrame m #[(.ref b), (.int 0)] 2 = mkF m 0 #[.val (.ref b), .val (.int 0)] [] := by  first | (simp [entryFrame, mkF, argsToLocals, Value.category]; done) | rfl
def own_get_1_0_Q (Z : State) (b : Addr) (kb : ClassId) (u0 : Int32) (u1 : Int32) (zCS : Int32) (fm : Value) (h0 : Heap) (n0 : Nat) (v : Option Value) (h : Heap) (L : List Loc) : Prop := v = some (.int (nar .char (StrChars.pairCh u0 u1))) ∧ Fr n0 L ∧ h = h0
set_option maxRecDepth 65536 in
set_option maxHeartbeats 40000000 in
theorem own_get_1_0 (l : Launch) (Z : State) (a0 : Array Value) (hw : ∀ d ∈ tables_1, d.before a0 Z = true) (ws : List Jvm.Cond) (b : Addr) (kb : ClassId) (u0 : Int32) (u1 : Int32) (zCS : Int32) (fm : Value) (h0 : Heap) (n0 : Nat) (Z0 : n0 ≤ h0.size) (S_CS : own_A0 Z zCS) (nCS : ¬ zCS = 0) (S_AD : own_A1 Z) (S_HI : own_A2 Z) (S_LO : own_A3 Z) (S_SF : own_A4 Z fm) (hfm : fm.isRef = true) (O0 : Old Z n0 h0) (K_b : Arv Z h0 b kb .byte (2 : Int32) [(.int u0), (.int u1)] (.int 0)) :
    MetFree l own_y16 (head1 (Jvm.Cond.code own_y16 jdk_52_method_5_code 2 (some .char) :: ws) (⟨0, 0, 0, 0⟩ : Room)) (fun aa U => aa = #[(.ref b), (.int 0)] ∧ Z.Warmed39 U.vm ∧ U.heap = h0) (fun _ _ _ _ _ => True) (fun _ U o U' => ∃ v L, o = .returned v ∧ own_get_1_0_Q Z b kb u0 u1 zCS fm h0 n0 v U'.heap L ∧ FrameEnd U o U' L (⟨0, 0, 0, 0⟩ : Room).cells (⟨0, 0, 0, 0⟩ : Room).slots) := by
  refine MetFree.of_bodySF (plainFor_of_name own_pn_java_lang_StringUTF16) hisR ?_
  intro p e s m args below meth c s₁ Bd hml0 hP hK
  obtain ⟨rfl, hZ, hh⟩ := hP
  have hx := Bd.exec
  have hby := Bd.bytes
  have hml : c.maxLocals = 2 := hml0
  have hown : s.vm.findClass "java/lang/StringUTF16" = some m.cls := findClass_of_methodNamed Bd.named
  have hnm := (name_of_methodNamed Bd.named Bd.method).1
  have hlk := Bd.notSynchronized
  have X0 : Stand p l e (⟨0, 0, 0, 0⟩ : Room) s m #[(.ref b), (.int 0)] below meth c s₁ [] 0 0 := Stand.of_body Bd
  have e0 : s₁.heap = h0 := by rw [← hh, Bd.state]; rfl
  have N0 := Fr.nil n0
  refine own_start (Q := own_get_1_0_Q Z b kb u0 u1 zCS fm h0 n0) (own_get_1_0_ef m b) ?_
  obtain ⟨T1, X1, e1, st1⟩ := getS2 X0 hx hZ hown (host := "") (Or.inl (own_h hw 91 rfl)) Via.refl e0 (S_AD.ext O0.2) (g := (mkF m 0 #[.val (.ref b), .val (.int 0)] [])) rfl (hb hby own_d21_0)
  refine own_by (g' := (mkF m 3 #[.val (.ref b), .val (.int 0)] [(.int 1)])) st1 ?_
  refine own_g (mkF m 37 #[.val (.ref b), .val (.int 1)] [(.int 0), (.ref b)]) (fun _ q => XS.ifYes X1.here hx rfl (pc0 := 3) (pc' := 28) rfl (hb hby own_d21_3) rfl ((if0 _ _).trans (feq (by decide : ¬ ((1 : Int32) = (0 : Int32)))).2) (by decide) (by decide) (XS.iloadN X1.here hx rfl (hb hby own_d21_28) rfl (XS.iconst X1.here hx rfl (hb hby own_d21_29) (XS.ishl X1.here hx rfl (hb hby own_d21_30) rfl (XS.istoreN X1.here hx rfl (hb hby own_d21_31) rfl (l' := #[.val (.ref b), .val (.int 0)]) rfl (XS.aloadN X1.here hx rfl (hb hby own_d21_32) rfl rfl (XS.iloadN X1.here hx rfl (hb hby own_d21_33) rfl (XS.iinc X1.here hx rfl (hb hby own_d21_34) rfl (l' := #[.val (.ref b), .val (.int 1)]) rfl q)))))))) ?_
  obtain ⟨cl2, Ar2, q2, S2, P2, H2, G2⟩ := id K_b
  have hin2 : ¬ ((0 : Int32) < 0 ∨ cl2.slots.size ≤ ((0 : Int32)).toNatClampNeg) := inb_of S2 ⟨by decide, by decide⟩
  refine own_by (g' := (mkF m 38 #[.val (.ref b), .val (.int 1)] [(.int u0)])) (fun _ kq => X1.baloadBytes hx (j := (0 : Int32)) (v := (.int u0)) (by rw [e1]; exact Ar2.1) (State.isArrayOf_alike hZ.alike Ar2.2.1) Ar2.2.2 hin2 (H2.at hin2 rfl) (g := (mkF m 37 #[.val (.ref b), .val (.int 1)] [(.int 0), (.ref b)])) rfl rfl (hb hby own_d21_37) _ kq) ?_
  refine own_g (mkF m 42 #[.val (.ref b), .val (.int 1)] [(.int (u0 &&& (255 : Int32)))]) (fun _ q => XS.sipush X1.here hx rfl (hb hby own_d21_38) (XS.iand X1.here hx rfl (hb hby own_d21_41) rfl q)) ?_
  obtain ⟨T3, X3, e3, st3⟩ := getS2 X1 hx hZ hown (host := "") (Or.inl (own_h hw 92 rfl)) Via.refl e1 (S_HI.ext O0.2) (g := (mkF m 42 #[.val (.ref b), .val (.int 1)] [(.int (u0 &&& (255 : Int32)))])) rfl (hb hby own_d21_42)
  refine own_by (g' := (mkF m 45 #[.val (.ref b), .val (.int 1)] [(.int 0), (.int (u0 &&& (255 : Int32)))])) st3 ?_
  refine own_g (mkF m 48 #[.val (.ref b), .val (.int 1)] [(.int 1), (.ref b), (.int ((u0 &&& (255 : Int32)) <<< ((0 : Int32) &&& 31)))]) (fun _ q => XS.ishl X3.here hx rfl (hb hby own_d21_45) rfl (XS.aloadN X3.here hx rfl (hb hby own_d21_46) rfl rfl (XS.iloadN X3.here hx rfl (hb hby own_d21_47) rfl q))) ?_
  obtain ⟨cl4, Ar4, q4, S4, P4, H4, G4⟩ := id K_b
  have hin4 : ¬ ((1 : Int32) < 0 ∨ cl4.slots.size ≤ ((1 : Int32)).toNatClampNeg) := inb_of S4 ⟨by decide, by decide⟩
  refine own_by (g' := (mkF m 49 #[.val (.ref b), .val (.int 1)] [(.int u1), (.int ((u0 &&& (255 : Int32)) <<< ((0 : Int32) &&& 31)))])) (fun _ kq => X3.baloadBytes hx (j := (1 : Int32)) (v := (.int u1)) (by rw [e3]; exact Ar4.1) (State.isArrayOf_alike hZ.alike Ar4.2.1) Ar4.2.2 hin4 (H4.at hin4 rfl) (g := (mkF m 48 #[.val (.ref b), .val (.int 1)] [(.int 1), (.ref b), (.int ((u0 &&& (255 : Int32)) <<< ((0 : Int32) &&& 31)))])) rfl rfl (hb hby own_d21_48) _ kq) ?_
  refine own_g (mkF m 53 #[.val (.ref b), .val (.int 1)] [(.int (u1 &&& (255 : Int32))), (.int ((u0 &&& (255 : Int32)) <<< ((0 : Int32) &&& 31)))]) (fun _ q => XS.sipush X3.here hx rfl (hb hby own_d21_49) (XS.iand X3.here hx rfl (hb hby own_d21_52) rfl q)) ?_
  obtain ⟨T5, X5, e5, st5⟩ := getS2 X3 hx hZ hown (host := "") (Or.inl (own_h hw 93 rfl)) Via.refl e3 (S_LO.ext O0.2) (g := (mkF m 53 #[.val (.ref b), .val (.int 1)] [(.int (u1 &&& (255 : Int32))), (.int ((u0 &&& (255 : Int32)) <<< ((0 : Int32) &&& 31)))])) rfl (hb hby own_d21_53)
  refine own_by (g' := (mkF m 56 #[.val (.ref b), .val (.int 1)] [(.int 8), (.int (u1 &&& (255 : Int32))), (.int ((u0 &&& (255 : Int32)) <<< ((0 : Int32) &&& 31)))])) st5 ?_
  refine own_g (mkF m 59 #[.val (.ref b), .val (.int 1)] [(.int ((((u0 &&& (255 : Int32)) <<< ((0 : Int32) &&& 31)) ||| ((u1 &&& (255 : Int32)) <<< ((8 : Int32) &&& 31))).toUInt32.toUInt16.toUInt32.toInt32))]) (fun _ q => XS.ishl X5.here hx rfl (hb hby own_d21_56) rfl (XS.ior X5.here hx rfl (hb hby own_d21_57) rfl (XS.i2c X5.here hx rfl (hb hby own_d21_58) rfl q))) ?_
  exact own_end X5 (v := some (.int (nar .char ((((u0 &&& (255 : Int32)) <<< ((0 : Int32) &&& 31)) ||| ((u1 &&& (255 : Int32)) <<< ((8 : Int32) &&& 31))).toUInt32.toUInt16.toUInt32.toInt32)))) (fun h => by rw [Bd.returns] at h; cases h) hlk (fun hr => retN X5 hx (t := .char) Bd.returns (by simp) (hb hby own_d21_59) hr) (by rw [e5]; exact ⟨rfl, N0, rfl⟩) (by decide) (by decide)
theorem own_d20_0 : decode jdk_52_method_4_code 0 = .ok (.getstatic 44, 3) := by decide +kernel
theorem own_d20_3 : decode jdk_52_method_4_code 3 = .ok (.ifCond .ne 25, 3) := by decide +kernel
theorem own_d20_28 : decode jdk_52_method_4_code 28 = .ok (.iload_n 1, 1) := by decide +kernel
theorem own_d20_29 : decode jdk_52_method_4_code 29 = .ok (.iconst 1, 1) := by decide +kernel
theorem own_d20_30 : decode jdk_52_method_4_code 30 = .ok (.ishl, 1) := by decide +kernel
theorem own_d20_31 : decode jdk_52_method_4_code 31 = .ok (.istore_n 1, 1) := by decide +kernel
theorem own_d20_32 : decode jdk_52_method_4_code 32 = .ok (.aload_n 0, 1) := by decide +kernel
theorem own_d20_33 : decode jdk_52_method_4_code 33 = .ok (.iload_n 1, 1) := by decide +kernel
theorem own_d20_34 : decode jdk_52_method_4_code 34 = .ok (.iinc 1 1, 3) := by decide +kernel
theorem own_d20_37 : decode jdk_52_method_4_code 37 = .ok (.iload_n 2, 1) := by decide +kernel
theorem own_d20_38 : decode jdk_52_method_4_code 38 = .ok (.getstatic 59, 3) := by decide +kernel
theorem own_d20_41 : decode jdk_52_method_4_code 41 = .ok (.ishr, 1) := by decide +kernel
theorem own_d20_42 : decode jdk_52_method_4_code 42 = .ok (.i2b, 1) := by decide +kernel
theorem own_d20_43 : decode jdk_52_method_4_code 43 = .ok (.bastore, 1) := by decide +kernel
theorem own_d20_44 : decode jdk_52_method_4_code 44 = .ok (.aload_n 0, 1) := by decide +kernel
theorem own_d20_45 : decode jdk_52_method_4_code 45 = .ok (.iload_n 1, 1) := by decide +kernel
theorem own_d20_46 : decode jdk_52_method_4_code 46 = .ok (.iload_n 2, 1) := by decide +kernel
theorem own_d20_47 : decode jdk_52_method_4_code 47 = .ok (.getstatic 63, 3) := by decide +kernel
theorem own_d20_50 : decode jdk_52_method_4_code 50 = .ok (.ishr, 1) := by decide +kernel
theorem own_d20_51 : decode jdk_52_method_4_code 51 = .ok (.i2b, 1) := by decide +kernel
theorem own_d20_52 : decode jdk_52_method_4_code 52 = .ok (.bastore, 1) := by decide +kernel
theorem own_d20_53 : decode jdk_52_method_4_code 53 = .ok (.return_, 1) := by decide +kernel
theorem own_put_1_0_ef (m : MethodId) (b : Addr) (c0 : Int32) : entryFrame m #[(.ref b), (.int 0), (.int c0)] 3 = mkF m 0 #[.val (.ref b), .val (.int 0), .val (.int c0)] [] := by  first | (simp [entryFrame, mkF, argsToLocals, Value.category]; done) | rfl
def own_put_1_0_Q (Z : State) (b : Addr) (c0 : Int32) (kb : ClassId) (u0 : Int32) (u1 : Int32) (zCS : Int32) (fm : Value) (h0 : Heap) (n0 : Nat) (v : Option Value) (h : Heap) (L : List Loc) : Prop := v = none ∧ Fr n0 L ∧ Keep h0 h [b] ∧ Arv Z h b kb .byte (2 : Int32) [(.int (StrChars.lo8 c0)), (.int (StrChars.hi8 c0))] (.int 0)
set_option maxRecDepth 65536 in
set_option maxHeartbeats 40000000 in
theorem own_put_1_0 (l : Launch) (Z : State) (a0 : Array Value) (hw : ∀ d ∈ tables_1, d.before a0 Z = true) (ws : List Jvm.Cond) (b : Addr) (c0 : Int32) (kb : ClassId) (u0 : Int32) (u1 : Int32) (zCS : Int32) (fm : Value) (h0 : Heap) (n0 : Nat) (Z0 : n0 ≤ h0.size) (S_CS : own_A0 Z zCS) (nCS : ¬ zCS = 0) (S_AD : own_A1 Z) (S_HI : own_A2 Z) (S_LO : own_A3 Z) (S_SF : own_A4 Z fm) (hfm : fm.isRef = true) (O0 : Old Z n0 h0) (K_b : Arv Z h0 b kb .byte (2 : Int32) [(.int u0), (.int u1)] (.int 0)) (g_b : n0 ≤ b) :
    MetFree l own_y20 (head1 (Jvm.Cond.code own_y20 jdk_52_method_4_code 3 none :: ws) (⟨0, 0, 0, 0⟩ : Room)) (fun aa U => aa = #[(.ref b), (.int 0), (.int c0)] ∧ Z.Warmed39 U.vm ∧ U.heap = h0) (fun _ _ _ _ _ => True) (fun _ U o U' => ∃ v L, o = .returned v ∧ own_put_1_0_Q Z b c0 kb u0 u1 zCS fm h0 n0 v U'.heap L ∧ FrameEnd U o U' L (⟨0, 0, 0, 0⟩ : Room).cells (⟨0, 0, 0, 0⟩ : Room).slots) := by
  refine MetFree.of_bodySF (plainFor_of_name own_pn_java_lang_StringUTF16) hisR ?_
  intro p e s m args below meth c s₁ Bd hml0 hP hK
  obtain ⟨rfl, hZ, hh⟩ := hP
  have hx := Bd.exec
  have hby := Bd.bytes
  have hml : c.maxLocals = 3 := hml0
  have hown : s.vm.findClass "java/lang/StringUTF16" = some m.cls := findClass_of_methodNamed Bd.named
  have hnm := (name_of_methodNamed Bd.named Bd.method).1
  have hlk := Bd.notSynchronized
  have X0 : Stand p l e (⟨0, 0, 0, 0⟩ : Room) s m #[(.ref b), (.int 0), (.int c0)] below meth c s₁ [] 0 0 := Stand.of_body Bd
  have e0 : s₁.heap = h0 := by rw [← hh, Bd.state]; rfl
  have N0 := Fr.nil n0
  refine own_start (Q := own_put_1_0_Q Z b c0 kb u0 u1 zCS fm h0 n0) (own_put_1_0_ef m b c0) ?_
  obtain ⟨T1, X1, e1, st1⟩ := getS2 X0 hx hZ hown (host := "") (Or.inl (own_h hw 91 rfl)) Via.refl e0 (S_AD.ext O0.2) (g := (mkF m 0 #[.val (.ref b), .val (.int 0), .val (.int c0)] [])) rfl (hb hby own_d20_0)
  refine own_by (g' := (mkF m 3 #[.val (.ref b), .val (.int 0), .val (.int c0)] [(.int 1)])) st1 ?_
  refine own_g (mkF m 37 #[.val (.ref b), .val (.int 1), .val (.int c0)] [(.int 0), (.ref b)]) (fun _ q => XS.ifYes X1.here hx rfl (pc0 := 3) (pc' := 28) rfl (hb hby own_d20_3) rfl ((if0 _ _).trans (feq (by decide : ¬ ((1 : Int32) = (0 : Int32)))).2) (by decide) (by decide) (XS.iloadN X1.here hx rfl (hb hby own_d20_28) rfl (XS.iconst X1.here hx rfl (hb hby own_d20_29) (XS.ishl X1.here hx rfl (hb hby own_d20_30) rfl (XS.istoreN X1.here hx rfl (hb hby own_d20_31) rfl (l' := #[.val (.ref b), .val (.int 0), .val (.int c0)]) rfl (XS.aloadN X1.here hx rfl (hb hby own_d20_32) rfl rfl (XS.iloadN X1.here hx rfl (hb hby own_d20_33) rfl (XS.iinc X1.here hx rfl (hb hby own_d20_34) rfl (l' := #[.val (.ref b), .val (.int 1), .val (.int c0)]) rfl q)))))))) ?_
  refine own_g (mkF m 38 #[.val (.ref b), .val (.int 1), .val (.int c0)] [(.int c0), (.int 0), (.ref b)]) (fun _ q => XS.iloadN X1.here hx rfl (hb hby own_d20_37) rfl q) ?_
  obtain ⟨T2, X2, e2, st2⟩ := getS2 X1 hx hZ hown (host := "") (Or.inl (own_h hw 92 rfl)) Via.refl e1 (S_HI.ext O0.2) (g := (mkF m 38 #[.val (.ref b), .val (.int 1), .val (.int c0)] [(.int c0), (.int 0), (.ref b)])) rfl (hb hby own_d20_38)
  refine own_by (g' := (mkF m 41 #[.val (.ref b), .val (.int 1), .val (.int c0)] [(.int 0), (.int c0), (.int 0), (.ref b)])) st2 ?_
  refine own_g (mkF m 43 #[.val (.ref b), .val (.int 1), .val (.int c0)] [(.int ((c0 >>> ((0 : Int32) &&& 31)).toInt8.toInt32)), (.int 0), (.ref b)]) (fun _ q => XS.ishr X2.here hx rfl (hb hby own_d20_41) rfl (XS.i2b X2.here hx rfl (hb hby own_d20_42) rfl q)) ?_
  obtain ⟨cl3, Ar3, q3, S3, P3, H3, G3⟩ := id K_b
  have hin3 : ¬ ((0 : Int32) < 0 ∨ cl3.slots.size ≤ ((0 : Int32)).toNatClampNeg) := inb_of S3 ⟨by decide, by decide⟩
  obtain ⟨T4, h4, X4, e4, W4, st4⟩ := stB X2 hx hZ e2 Ar3 (j := (0 : Int32)) hin3 (g := (mkF m 43 #[.val (.ref b), .val (.int 1), .val (.int c0)] [(.int ((c0 >>> ((0 : Int32) &&& 31)).toInt8.toInt32)), (.int 0), (.ref b)])) rfl rfl (hb hby own_d20_43)
  have V4 : Arv Z h4 b kb .byte (2 : Int32) [(.int (((c0 >>> ((0 : Int32) &&& 31)).toInt8.toInt32).toInt8.toInt32)), (.int u1)] (.int 0) := Arv.set Ar3 q3 S3 P3 H3 G3 (fits_nar_byte _) W4 0 rfl (Nat.le_of_ble_eq_true rfl)
  have N4 := Fr.snoc X4 N0 g_b
  refine own_by (g' := (mkF m 44 #[.val (.ref b), .val (.int 1), .val (.int c0)] [])) st4 ?_
  refine own_g (mkF m 47 #[.val (.ref b), .val (.int 1), .val (.int c0)] [(.int c0), (.int 1), (.ref b)]) (fun _ q => XS.aloadN X4.here hx rfl (hb hby own_d20_44) rfl rfl (XS.iloadN X4.here hx rfl (hb hby own_d20_45) rfl (XS.iloadN X4.here hx rfl (hb hby own_d20_46) rfl q))) ?_
  have o5_ := (O0.wr W4 g_b)
  obtain ⟨T6, X6, e6, st6⟩ := getS2 X4 hx hZ hown (host := "") (Or.inl (own_h hw 93 rfl)) Via.refl e4 (S_LO.ext o5_.2) (g := (mkF m 47 #[.val (.ref b), .val (.int 1), .val (.int c0)] [(.int c0), (.int 1), (.ref b)])) rfl (hb hby own_d20_47)
  refine own_by (g' := (mkF m 50 #[.val (.ref b), .val (.int 1), .val (.int c0)] [(.int 8), (.int c0), (.int 1), (.ref b)])) st6 ?_
  refine own_g (mkF m 52 #[.val (.ref b), .val (.int 1), .val (.int c0)] [(.int ((c0 >>> ((8 : Int32) &&& 31)).toInt8.toInt32)), (.int 1), (.ref b)]) (fun _ q => XS.ishr X6.here hx rfl (hb hby own_d20_50) rfl (XS.i2b X6.here hx rfl (hb hby own_d20_51) rfl q)) ?_
  obtain ⟨cl7, Ar7, q7, S7, P7, H7, G7⟩ := id V4
  have hin7 : ¬ ((1 : Int32) < 0 ∨ cl7.slots.size ≤ ((1 : Int32)).toNatClampNeg) := inb_of S7 ⟨by decide, by decide⟩
  obtain ⟨T8, h8, X8, e8, W8, st8⟩ := stB X6 hx hZ e6 Ar7 (j := (1 : Int32)) hin7 (g := (mkF m 52 #[.val (.ref b), .val (.int 1), .val (.int c0)] [(.int ((c0 >>> ((8 : Int32) &&& 31)).toInt8.toInt32)), (.int 1), (.ref b)])) rfl rfl (hb hby own_d20_52)
  have V8 : Arv Z h8 b kb .byte (2 : Int32) [(.int (((c0 >>> ((0 : Int32) &&& 31)).toInt8.toInt32).toInt8.toInt32)), (.int (((c0 >>> ((8 : Int32) &&& 31)).toInt8.toInt32).toInt8.toInt32))] (.int 0) := Arv.set Ar7 q7 S7 P7 H7 G7 (fits_nar_byte _) W8 1 rfl (Nat.le_of_ble_eq_true rfl)
  have N8 := Fr.snoc X8 N4 g_b
  refine own_by (g' := (mkF m 53 #[.val (.ref b), .val (.int 1), .val (.int c0)] [])) st8 ?_
  have k9_ := (((Keep.refl h0 [b]).wr W4 (Or.inl (List.mem_of_getElem? (i := 0) rfl))).wr W8 (Or.inl (List.mem_of_getElem? (i := 0) rfl)))
  exact own_end X8 (v := none) (fun _ => rfl) hlk (fun hr => X8.returnOut hx Bd.returns (hb hby own_d20_53) hr) (by rw [e8]; exact ⟨rfl, N8, k9_, by have q := V8; simp only [own_bb, StrChars.shr0] at q; exact q⟩) (by decide) (by decide)
theorem own_uci_2_0_ef (m : MethodId) (b : Addr) : entryFrame m #[(.int 0), (.ref b)] 2 = mkF m 0 #[.val (.int 0), .val (.ref b)] [] := by  first | (simp [entryFrame, mkF, argsToLocals, Value.category]; done) | rfl
def own_uci_2_0_Q (Z : State) (b : Addr) (kb : ClassId) (vs : List Value) (dv : Value) (zCS : Int32) (fm : Value) (h0 : Heap) (n0 : Nat) (v : Option Value) (h : Heap) (L : List Loc) : Prop := v = none ∧ Fr n0 L ∧ h = h0
set_option maxRecDepth 65536 in
set_option maxHeartbeats 40000000 in
theorem own_uci_2_0 (l : Launch) (Z : State) (a0 : Array Value) (hw : ∀ d ∈ tables_1, d.before a0 Z = true) (ws : List Jvm.Cond) (b : Addr) (kb : ClassId) (vs : List Value) (dv : Value) (zCS : Int32) (fm : Value) (h0 : Heap) (n0 : Nat) (Z0 : n0 ≤ h0.size) (S_CS : own_A0 Z zCS) (nCS : ¬ zCS = 0) (S_AD : own_A1 Z) (S_HI : own_A2 Z) (S_LO : own_A3 Z) (S_SF : own_A4 Z fm) (hfm : fm.isRef = true) (O0 : Old Z n0 h0) (K_b : Arv Z h0 b kb .byte (4 : Int32) vs dv) :
    MetFree l own_y12 (head1 (Jvm.Cond.code own_y12 jdk_52_method_91_code 2 none :: ws) (⟨2, 0, 0, 27⟩ : Room)) (fun aa U => aa = #[(.int 0), (.ref b)] ∧ Z.Warmed39 U.vm ∧ U.heap = h0) (fun _ _ _ _ _ => True) (fun _ U o U' => ∃ v L, o = .returned v ∧ own_uci_2_0_Q Z b kb vs dv zCS fm h0 n0 v U'.heap L ∧ FrameEnd U o U' L (⟨2, 0, 0, 27⟩ : Room).cells (⟨2, 0, 0, 27⟩ : Room).slots) := by
  refine MetFree.of_bodySF (plainFor_of_name own_pn_java_lang_StringUTF16) hisR ?_
  intro p e s m args below meth c s₁ Bd hml0 hP hK
  obtain ⟨rfl, hZ, hh⟩ := hP
  have hx := Bd.exec
  have hby := Bd.bytes
  have hml : c.maxLocals = 2 := hml0
  have hown : s.vm.findClass "java/lang/StringUTF16" = some m.cls := findClass_of_methodNamed Bd.named
  have hnm := (name_of_methodNamed Bd.named Bd.method).1
  have hlk := Bd.notSynchronized
  have X0 : Stand p l e (⟨2, 0, 0, 27⟩ : Room) s m #[(.int 0), (.ref b)] below meth c s₁ [] 0 0 := Stand.of_body Bd
  have e0 : s₁.heap = h0 := by rw [← hh, Bd.state]; rfl
  have N0 := Fr.nil n0
  refine own_start (Q := own_uci_2_0_Q Z b kb vs dv zCS fm h0 n0) (own_uci_2_0_ef m b) ?_
  refine own_g (mkF m 2 #[.val (.int 0), .val (.ref b)] [(.ref b), (.int 0)]) (fun _ q => XS.iloadN X0.here hx rfl (hb hby own_d23_0) rfl (XS.aloadN X0.here hx rfl (hb hby own_d23_1) rfl rfl q)) ?_
  refine own_callS X0 hx hZ (y := own_y17) hown (own_h hw 103 rfl) (own_h hw 104 rfl) (own_h hw 44 rfl) (own_h hw 105 rfl) (by decide) (own_ul_2 l Z a0 hw [] b kb vs dv zCS fm h0 n0 Z0 S_CS nCS S_AD S_HI S_LO S_SF hfm O0 K_b) (by decide) (by decide) e0 (g := (mkF m 2 #[.val (.int 0), .val (.ref b)] [(.ref b), (.int 0)])) rfl (by rw [hml]; rfl) (argsL := [(.ref b)]) (rest := [(.int 0)]) (lenOf own_pd__28_5bB_29I rfl) rfl (W := 1) (by show 2 * 0 + _ ≤ _; exact Nat.le_of_eq rfl) (hb hby own_d23_2) rfl (by decide) (by decide) ?_
  rintro rv1 T1 L1 X1 ⟨rfl, Nq1, eh1⟩
  have N1 := Fr.app N0 Nq1
  show own_Fin p e below _ T1 (mkF m 5 #[.val (.int 0), .val (.ref b)] [(.int 2), (.int 0)])
  refine own_callS X1 hx hZ (y := own_y6) hown (own_h hw 106 rfl) (own_h hw 70 rfl) (own_h hw 8 rfl) (own_h hw 71 rfl) (by decide) (own_sci_2_0 l Z a0 hw [] zCS fm h0 n0 Z0 S_CS nCS S_AD S_HI S_LO S_SF hfm O0) (by decide) (by decide) eh1 (g := (mkF m 5 #[.val (.int 0), .val (.ref b)] [(.int 2), (.int 0)])) rfl (by rw [hml]; rfl) (argsL := [(.int 0), (.int 2)]) (rest := []) (lenOf own_pd__28II_29V rfl) rfl (W := 0) (by show 2 * 0 + _ ≤ _; exact Nat.le_of_eq rfl) (hb hby own_d23_5) rfl (by decide) (by decide) ?_
  rintro rv2 T2 L2 X2 ⟨rfl, Nq2, eh2⟩
  have N2 := Fr.app N1 Nq2
  show own_Fin p e below _ T2 (mkF m 8 #[.val (.int 0), .val (.ref b)] [])
  exact own_end X2 (v := none) (fun _ => rfl) hlk (fun hr => X2.returnOut hx Bd.returns (hb hby own_d23_8) hr) (by rw [eh2]; exact ⟨rfl, N2, rfl⟩) (by decide) (by decide)
theorem own_get_2_0_ef (m : MethodId) (b : Addr) : entryFrame m #[(.ref b), (.int 0)] 2 = mkF m 0 #[.val (.ref b), .val (.int 0)] [] := by  first | (simp [entryFrame, mkF, argsToLocals, Value.category]; done) | rfl
def own_get_2_0_Q (Z : State) (b : Addr) (kb : ClassId) (u0 : Int32) (u1 : Int32) (u2 : Int32) (u3 : Int32) (zCS : Int32) (fm : Value) (h0 : Heap) (n0 : Nat) (v : Option Value) (h : Heap) (L : List Loc) : Prop := v = some (.int (nar .char (StrChars.pairCh u0 u1))) ∧ Fr n0 L ∧ h = h0
set_option maxRecDepth 65536 in
set_option maxHeartbeats 40000000 in
theorem own_get_2_0 (l : Launch) (Z : State) (a0 : Array Value) (hw : ∀ d ∈ tables_1, d.before a0 Z = true) (ws : List Jvm.Cond) (b : Addr) (kb : ClassId) (u0 : Int32) (u1 : Int32) (u2 : Int32) (u3 : Int32) (zCS : Int32) (fm : Value) (h0 : Heap) (n0 : Nat) (Z0 : n0 ≤ h0.size) (S_CS : own_A0 Z zCS) (nCS : ¬ zCS = 0) (S_AD : own_A1 Z) (S_HI : own_A2 Z) (S_LO : own_A3 Z) (S_SF : own_A4 Z fm) (hfm : fm.isRef = true) (O0 : Old Z n0 h0) (K_b : Arv Z h0 b kb .byte (4 : Int32) [(.int u0), (.int u1), (.int u2), (.int u3)] (.int 0)) :
    MetFree l own_y16 (head1 (Jvm.Cond.code own_y16 jdk_52_method_5_code 2 (some .char) :: ws) (⟨0, 0, 0, 0⟩ : Room)) (fun aa U => aa = #[(.ref b), (.int 0)] ∧ Z.Warmed39 U.vm ∧ U.heap = h0) (fun _ _ _ _ _ => True) (fun _ U o U' => ∃ v L, o = .returned v ∧ own_get_2_0_Q Z b kb u0 u1 u2 u3 zCS fm h0 n0 v U'.heap L ∧ FrameEnd U o U' L (⟨0, 0, 0, 0⟩ : Room).cells (⟨0, 0, 0, 0⟩ : Room).slots) := by
  refine MetFree.of_bodySF (plainFor_of_name own_pn_java_lang_StringUTF16) hisR ?_
  intro p e s m args below meth c s₁ Bd hml0 hP hK
  obtain ⟨rfl, hZ, hh⟩ := hP
  have hx := Bd.exec
  have hby := Bd.bytes
  have hml : c.maxLocals = 2 := hml0
  have hown : s.vm.findClass "java/lang/StringUTF16" = some m.cls := findClass_of_methodNamed Bd.named
  have hnm := (name_of_methodNamed Bd.named Bd.method).1
  have hlk := Bd.notSynchronized
  have X0 : Stand p l e (⟨0, 0, 0, 0⟩ : Room) s m #[(.ref b), (.int 0)] below meth c s₁ [] 0 0 := Stand.of_body Bd
  have e0 : s₁.heap = h0 := by rw [← hh, Bd.state]; rfl
  have N0 := Fr.nil n0
  refine own_start (Q := own_get_2_0_Q Z b kb u0 u1 u2 u3 zCS fm h0 n0) (own_get_2_0_ef m b) ?_
  obtain ⟨T1, X1, e1, st1⟩ := getS2 X0 hx hZ hown (host := "") (Or.inl (own_h hw 91 rfl)) Via.refl e0 (S_AD.ext O0.2) (g := (mkF m 0 #[.val (.ref b), .val (.int 0)] [])) rfl (hb hby own_d21_0)
  refine own_by (g' := (mkF m 3 #[.val (.ref b), .val (.int 0)] [(.int 1)])) st1 ?_
  refine own_g (mkF m 37 #[.val (.ref b), .val (.int 1)] [(.int 0), (.ref b)]) (fun _ q => XS.ifYes X1.here hx rfl (pc0 := 3) (pc' := 28) rfl (hb hby own_d21_3) rfl ((if0 _ _).trans (feq (by decide : ¬ ((1 : Int32) = (0 : Int32)))).2) (by decide) (by decide) (XS.iloadN X1.here hx rfl (hb hby own_d21_28) rfl (XS.iconst X1.here hx rfl (hb hby own_d21_29) (XS.ishl X1.here hx rfl (hb hby own_d21_30) rfl (XS.istoreN X1.here hx rfl (hb hby own_d21_31) rfl (l' := #[.val (.ref b), .val (.int 0)]) rfl (XS.aloadN X1.here hx rfl (hb hby own_d21_32) rfl rfl (XS.iloadN X1.here hx rfl (hb hby own_d21_33) rfl (XS.iinc X1.here hx rfl (hb hby own_d21_34) rfl (l' := #[.val (.ref b), .val (.int 1)]) rfl q)))))))) ?_
  obtain ⟨cl2, Ar2, q2, S2, P2, H2, G2⟩ := id K_b
  have hin2 : ¬ ((0 : Int32) < 0 ∨ cl2.slots.size ≤ ((0 : Int32)).toNatClampNeg) := inb_of S2 ⟨by decide, by decide⟩
  refine own_by (g' := (mkF m 38 #[.val (.ref b), .val (.int 1)] [(.int u0)])) (fun _ kq => X1.baloadBytes hx (j := (0 : Int32)) (v := (.int u0)) (by rw [e1]; exact Ar2.1) (State.isArrayOf_alike hZ.alike Ar2.2.1) Ar2.2.2 hin2 (H2.at hin2 rfl) (g := (mkF m 37 #[.val (.ref b), .val (.int 1)] [(.int 0), (.ref b)])) rfl rfl (hb hby own_d21_37) _ kq) ?_
  refine own_g (mkF m 42 #[.val (.ref b), .val (.int 1)] [(.int (u0 &&& (255 : Int32)))]) (fun _ q => XS.sipush X1.here hx rfl (hb hby own_d21_38) (XS.iand X1.here hx rfl (hb hby own_d21_41) rfl q)) ?_
  obtain ⟨T3, X3, e3, st3⟩ := getS2 X1 hx hZ hown (host := "") (Or.inl (own_h hw 92 rfl)) Via.refl e1 (S_HI.ext O0.2) (g := (mkF m 42 #[.val (.ref b), .val (.int 1)] [(.int (u0 &&& (255 : Int32)))])) rfl (hb hby own_d21_42)
  refine own_by (g' := (mkF m 45 #[.val (.ref b), .val (.int 1)] [(.int 0), (.int (u0 &&& (255 : Int32)))])) st3 ?_
  refine own_g (mkF m 48 #[.val (.ref b), .val (.int 1)] [(.int 1), (.ref b), (.int ((u0 &&& (255 : Int32)) <<< ((0 : Int32) &&& 31)))]) (fun _ q => XS.ishl X3.here hx rfl (hb hby own_d21_45) rfl (XS.aloadN X3.here hx rfl (hb hby own_d21_46) rfl rfl (XS.iloadN X3.here hx rfl (hb hby own_d21_47) rfl q))) ?_
  obtain ⟨cl4, Ar4, q4, S4, P4, H4, G4⟩ := id K_b
  have hin4 : ¬ ((1 : Int32) < 0 ∨ cl4.slots.size ≤ ((1 : Int32)).toNatClampNeg) := inb_of S4 ⟨by decide, by decide⟩
  refine own_by (g' := (mkF m 49 #[.val (.ref b), .val (.int 1)] [(.int u1), (.int ((u0 &&& (255 : Int32)) <<< ((0 : Int32) &&& 31)))])) (fun _ kq => X3.baloadBytes hx (j := (1 : Int32)) (v := (.int u1)) (by rw [e3]; exact Ar4.1) (State.isArrayOf_alike hZ.alike Ar4.2.1) Ar4.2.2 hin4 (H4.at hin4 rfl) (g := (mkF m 48 #[.val (.ref b), .val (.int 1)] [(.int 1), (.ref b), (.int ((u0 &&& (255 : Int32)) <<< ((0 : Int32) &&& 31)))])) rfl rfl (hb hby own_d21_48) _ kq) ?_
  refine own_g (mkF m 53 #[.val (.ref b), .val (.int 1)] [(.int (u1 &&& (255 : Int32))), (.int ((u0 &&& (255 : Int32)) <<< ((0 : Int32) &&& 31)))]) (fun _ q => XS.sipush X3.here hx rfl (hb hby own_d21_49) (XS.iand X3.here hx rfl (hb hby own_d21_52) rfl q)) ?_
  obtain ⟨T5, X5, e5, st5⟩ := getS2 X3 hx hZ hown (host := "") (Or.inl (own_h hw 93 rfl)) Via.refl e3 (S_LO.ext O0.2) (g := (mkF m 53 #[.val (.ref b), .val (.int 1)] [(.int (u1 &&& (255 : Int32))), (.int ((u0 &&& (255 : Int32)) <<< ((0 : Int32) &&& 31)))])) rfl (hb hby own_d21_53)
  refine own_by (g' := (mkF m 56 #[.val (.ref b), .val (.int 1)] [(.int 8), (.int (u1 &&& (255 : Int32))), (.int ((u0 &&& (255 : Int32)) <<< ((0 : Int32) &&& 31)))])) st5 ?_
  refine own_g (mkF m 59 #[.val (.ref b), .val (.int 1)] [(.int ((((u0 &&& (255 : Int32)) <<< ((0 : Int32) &&& 31)) ||| ((u1 &&& (255 : Int32)) <<< ((8 : Int32) &&& 31))).toUInt32.toUInt16.toUInt32.toInt32))]) (fun _ q => XS.ishl X5.here hx rfl (hb hby own_d21_56) rfl (XS.ior X5.here hx rfl (hb hby own_d21_57) rfl (XS.i2c X5.here hx rfl (hb hby own_d21_58) rfl q))) ?_
  exact own_end X5 (v := some (.int (nar .char ((((u0 &&& (255 : Int32)) <<< ((0 : Int32) &&& 31)) ||| ((u1 &&& (255 : Int32)) <<< ((8 : Int32) &&& 31))).toUInt32.toUInt16.toUInt32.toInt32)))) (fun h => by rw [Bd.returns] at h; cases h) hlk (fun hr => retN X5 hx (t := .char) Bd.returns (by simp) (hb hby own_d21_59) hr) (by rw [e5]; exact ⟨rfl, N0, rfl⟩) (by decide) (by decide)
theorem own_put_2_0_ef (m : MethodId) (b : Addr) (c0 : Int32) : entryFrame m #[(.ref b), (.int 0), (.int c0)] 3 = mkF m 0 #[.val (.ref b), .val (.int 0), .val (.int c0)] [] := by  first | (simp [entryFrame, mkF, argsToLocals, Value.category]; done) | rfl
def own_put_2_0_Q (Z : State) (b : Addr) (c0 : Int32) (kb : ClassId) (u0 : Int32) (u1 : Int32) (u2 : Int32) (u3 : Int32) (zCS : Int32) (fm : Value) (h0 : Heap) (n0 : Nat) (v : Option Value) (h : Heap) (L : List Loc) : Prop := v = none ∧ Fr n0 L ∧ Keep h0 h [b] ∧ Arv Z h b kb .byte (4 : Int32) [(.int (StrChars.lo8 c0)), (.int (StrChars.hi8 c0)), (.int u2), (.int u3)] (.int 0)
set_option maxRecDepth 65536 in
set_option maxHeartbeats 40000000 in
theorem own_put_2_0 (l : Launch) (Z : State) (a0 : Array Value) (hw : ∀ d ∈ tables_1, d.before a0 Z = true) (ws : List Jvm.Cond) (b : Addr) (c0 : Int32) (kb : ClassId) (u0 : Int32) (u1 : Int32) (u2 : Int32) (u3 : Int32) (zCS : Int32) (fm : Value) (h0 : Heap) (n0 : Nat) (Z0 : n0 ≤ h0.size) (S_CS : own_A0 Z zCS) (nCS : ¬ zCS = 0) (S_AD : own_A1 Z) (S_HI : own_A2 Z) (S_LO : own_A3 Z) (S_SF : own_A4 Z fm) (hfm : fm.isRef = true) (O0 : Old Z n0 h0) (K_b : Arv Z h0 b kb .byte (4 : Int32) [(.int u0), (.int u1), (.int u2), (.int u3)] (.int 0)) (g_b : n0 ≤ b) :
    MetFree l own_y20 (head1 (Jvm.Cond.code own_y20 jdk_52_method_4_code 3 none :: ws) (⟨0, 0, 0, 0⟩ : Room)) (fun aa U => aa = #[(.ref b), (.int 0), (.int c0)] ∧ Z.Warmed39 U.vm ∧ U.heap = h0) (fun _ _ _ _ _ => True) (fun _ U o U' => ∃ v L, o = .returned v ∧ own_put_2_0_Q Z b c0 kb u0 u1 u2 u3 zCS fm h0 n0 v U'.heap L ∧ FrameEnd U o U' L (⟨0, 0, 0, 0⟩ : Room).cells (⟨0, 0, 0, 0⟩ : Room).slots) := by
  refine MetFree.of_bodySF (plainFor_of_name own_pn_java_lang_StringUTF16) hisR ?_
  intro p e s m args below meth c s₁ Bd hml0 hP hK
  obtain ⟨rfl, hZ, hh⟩ := hP
  have hx := Bd.exec
  have hby := Bd.bytes
  have hml : c.maxLocals = 3 := hml0
  have hown : s.vm.findClass "java/lang/StringUTF16" = some m.cls := findClass_of_methodNamed Bd.named
  have hnm := (name_of_methodNamed Bd.named Bd.method).1
  have hlk := Bd.notSynchronized
  have X0 : Stand p l e (⟨0, 0, 0, 0⟩ : Room) s m #[(.ref b), (.int 0), (.int c0)] below meth c s₁ [] 0 0 := Stand.of_body Bd
  have e0 : s₁.heap = h0 := by rw [← hh, Bd.state]; rfl
  have N0 := Fr.nil n0
  refine own_start (Q := own_put_2_0_Q Z b c0 kb u0 u1 u2 u3 zCS fm h0 n0) (own_put_2_0_ef m b c0) ?_
  obtain ⟨T1, X1, e1, st1⟩ := getS2 X0 hx hZ hown (host := "") (Or.inl (own_h hw 91 rfl)) Via.refl e0 (S_AD.ext O0.2) (g := (mkF m 0 #[.val (.ref b), .val (.int 0), .val (.int c0)] [])) rfl (hb hby own_d20_0)
  refine own_by (g' := (mkF m 3 #[.val (.ref b), .val (.int 0), .val (.int c0)] [(.int 1)])) st1 ?_
  refine own_g (mkF m 37 #[.val (.ref b), .val (.int 1), .val (.int c0)] [(.int 0), (.ref b)]) (fun _ q => XS.ifYes X1.here hx rfl (pc0 := 3) (pc' := 28) rfl (hb hby own_d20_3) rfl ((if0 _ _).trans (feq (by decide : ¬ ((1 : Int32) = (0 : Int32)))).2) (by decide) (by decide) (XS.iloadN X1.here hx rfl (hb hby own_d20_28) rfl (XS.iconst X1.here hx rfl (hb hby own_d20_29) (XS.ishl X1.here hx rfl (hb hby own_d20_30) rfl (XS.istoreN X1.here hx rfl (hb hby own_d20_31) rfl (l' := #[.val (.ref b), .val (.int 0), .val (.int c0)]) rfl (XS.aloadN X1.here hx rfl (hb hby own_d20_32) rfl rfl (XS.iloadN X1.here hx rfl (hb hby own_d20_33) rfl (XS.iinc X1.here hx rfl (hb hby own_d20_34) rfl (l' := #[.val (.ref b), .val (.int 1), .val (.int c0)]) rfl q)))))))) ?_
  refine own_g (mkF m 38 #[.val (.ref b), .val (.int 1), .val (.int c0)] [(.int c0), (.int 0), (.ref b)]) (fun _ q => XS.iloadN X1.here hx rfl (hb hby own_d20_37) rfl q) ?_
  obtain ⟨T2, X2, e2, st2⟩ := getS2 X1 hx hZ hown (host := "") (Or.inl (own_h hw 92 rfl)) Via.refl e1 (S_HI.ext O0.2) (g := (mkF m 38 #[.val (.ref b), .val (.int 1), .val (.int c0)] [(.int c0), (.int 0), (.ref b)])) rfl (hb hby own_d20_38)
  refine own_by (g' := (mkF m 41 #[.val (.ref b), .val (.int 1), .val (.int c0)] [(.int 0), (.int c0), (.int 0), (.ref b)])) st2 ?_
  refine own_g (mkF m 43 #[.val (.ref b), .val (.int 1), .val (.int c0)] [(.int ((c0 >>> ((0 : Int32) &&& 31)).toInt8.toInt32)), (.int 0), (.ref b)]) (fun _ q => XS.ishr X2.here hx rfl (hb hby own_d20_41) rfl (XS.i2b X2.here hx rfl (hb hby own_d20_42) rfl q)) ?_
  obtain ⟨cl3, Ar3, q3, S3, P3, H3, G3⟩ := id K_b
  have hin3 : ¬ ((0 : Int32) < 0 ∨ cl3.slots.size ≤ ((0 : Int32)).toNatClampNeg) := inb_of S3 ⟨by decide, by decide⟩
  obtain ⟨T4, h4, X4, e4, W4, st4⟩ := stB X2 hx hZ e2 Ar3 (j := (0 : Int32)) hin3 (g := (mkF m 43 #[.val (.ref b), .val (.int 1), .val (.int c0)] [(.int ((c0 >>> ((0 : Int32) &&& 31)).toInt8.toInt32)), (.int 0), (.ref b)])) rfl rfl (hb hby own_d20_43)
  have V4 : Arv Z h4 b kb .byte (4 : Int32) [(.int (((c0 >>> ((0 : Int32) &&& 31)).toInt8.toInt32).toInt8.toInt32)), (.int u1), (.int u2), (.int u3)] (.int 0) := Arv.set Ar3 q3 S3 P3 H3 G3 (fits_nar_byte _) W4 0 rfl (Nat.le_of_ble_eq_true rfl)
  have N4 := Fr.snoc X4 N0 g_b
  refine own_by (g' := (mkF m 44 #[.val (.ref b), .val (.int 1), .val (.int c0)] [])) st4 ?_
  refine own_g (mkF m 47 #[.val (.ref b), .val (.int 1), .val (.int c0)] [(.int c0), (.int 1), (.ref b)]) (fun _ q => XS.aloadN X4.here hx rfl (hb hby own_d20_44) rfl rfl (XS.iloadN X4.here hx rfl (hb hby own_d20_45) rfl (XS.iloadN X4.here hx rfl (hb hby own_d20_46) rfl q))) ?_
  have o5_ := (O0.wr W4 g_b)
  obtain ⟨T6, X6, e6, st6⟩ := getS2 X4 hx hZ hown (host := "") (Or.inl (own_h hw 93 rfl)) Via.refl e4 (S_LO.ext o5_.2) (g := (mkF m 47 #[.val (.ref b), .val (.int 1), .val (.int c0)] [(.int c0), (.int 1), (.ref b)])) rfl (hb hby own_d20_47)
  refine own_by (g' := (mkF m 50 #[.val (.ref b), .val (.int 1), .val (.int c0)] [(.int 8), (.int c0), (.int 1), (.ref b)])) st6 ?_
  refine own_g (mkF m 52 #[.val (.ref b), .val (.int 1), .val (.int c0)] [(.int ((c0 >>> ((8 : Int32) &&& 31)).toInt8.toInt32)), (.int 1), (.ref b)]) (fun _ q => XS.ishr X6.here hx rfl (hb hby own_d20_50) rfl (XS.i2b X6.here hx rfl (hb hby own_d20_51) rfl q)) ?_
  obtain ⟨cl7, Ar7, q7, S7, P7, H7, G7⟩ := id V4
  have hin7 : ¬ ((1 : Int32) < 0 ∨ cl7.slots.size ≤ ((1 : Int32)).toNatClampNeg) := inb_of S7 ⟨by decide, by decide⟩
  obtain ⟨T8, h8, X8, e8, W8, st8⟩ := stB X6 hx hZ e6 Ar7 (j := (1 : Int32)) hin7 (g := (mkF m 52 #[.val (.ref b), .val (.int 1), .val (.int c0)] [(.int ((c0 >>> ((8 : Int32) &&& 31)).toInt8.toInt32)), (.int 1), (.ref b)])) rfl rfl (hb hby own_d20_52)
  have V8 : Arv Z h8 b kb .byte (4 : Int32) [(.int (((c0 >>> ((0 : Int32) &&& 31)).toInt8.toInt32).toInt8.toInt32)), (.int (((c0 >>> ((8 : Int32) &&& 31)).toInt8.toInt32).toInt8.toInt32)), (.int u2), (.int u3)] (.int 0) := Arv.set Ar7 q7 S7 P7 H7 G7 (fits_nar_byte _) W8 1 rfl (Nat.le_of_ble_eq_true rfl)
  have N8 := Fr.snoc X8 N4 g_b
  refine own_by (g' := (mkF m 53 #[.val (.ref b), .val (.int 1), .val (.int c0)] [])) st8 ?_
  have k9_ := (((Keep.refl h0 [b]).wr W4 (Or.inl (List.mem_of_getElem? (i := 0) rfl))).wr W8 (Or.inl (List.mem_of_getElem? (i := 0) rfl)))
  exact own_end X8 (v := none) (fun _ => rfl) hlk (fun hr => X8.returnOut hx Bd.returns (hb hby own_d20_53) hr) (by rw [e8]; exact ⟨rfl, N8, k9_, by have q := V8; simp only [own_bb, StrChars.shr0] at q; exact q⟩) (by decide) (by decide)
theorem own_uci_2_1_ef (m : MethodId) (b : Addr) : entryFrame m #[(.int 1), (.ref b)] 2 = mkF m 0 #[.val (.int 1), .val (.ref b)] [] := by  first | (simp [entryFrame, mkF, argsToLocals, Value.category]; done) | rfl
def own_uci_2_1_Q (Z : State) (b : Addr) (kb : ClassId) (vs : List Value) (dv : Value) (zCS : Int32) (fm : Value) (h0 : Heap) (n0 : Nat) (v : Option Value) (h : Heap) (L : List Loc) : Prop := v = none ∧ Fr n0 L ∧ h = h0
set_option maxRecDepth 65536 in
set_option maxHeartbeats 40000000 in
theorem own_uci_2_1 (l : Launch) (Z : State) (a0 : Array Value) (hw : ∀ d ∈ tables_1, d.before a0 Z = true) (ws : List Jvm.Cond) (b : Addr) (kb : ClassId) (vs : List Value) (dv : Value) (zCS : Int32) (fm : Value) (h0 : Heap) (n0 : Nat) (Z0 : n0 ≤ h0.size) (S_CS : own_A0 Z zCS) (nCS : ¬ zCS = 0) (S_AD : own_A1 Z) (S_HI : own_A2 Z) (S_LO : own_A3 Z) (S_SF : own_A4 Z fm) (hfm : fm.isRef = true) (O0 : Old Z n0 h0) (K_b : Arv Z h0 b kb .byte (4 : Int32) vs dv) :
    MetFree l own_y12 (head1 (Jvm.Cond.code own_y12 jdk_52_method_91_code 2 none :: ws) (⟨2, 0, 0, 27⟩ : Room)) (fun aa U => aa = #[(.int 1), (.ref b)] ∧ Z.Warmed39 U.vm ∧ U.heap = h0) (fun _ _ _ _ _ => True) (fun _ U o U' => ∃ v L, o = .returned v ∧ own_uci_2_1_Q Z b kb vs dv zCS fm h0 n0 v U'.heap L ∧ FrameEnd U o U' L (⟨2, 0, 0, 27⟩ : Room).cells (⟨2, 0, 0, 27⟩ : Room).slots) := by
  refine MetFree.of_bodySF (plainFor_of_name own_pn_java_lang_StringUTF16) hisR ?_
  intro p e s m args below meth c s₁ Bd hml0 hP hK
  obtain ⟨rfl, hZ, hh⟩ := hP
  have hx := Bd.exec
  have hby := Bd.bytes
  have hml : c.maxLocals = 2 := hml0
  have hown : s.vm.findClass "java/lang/StringUTF16" = some m.cls := findClass_of_methodNamed Bd.named
  have hnm := (name_of_methodNamed Bd.named Bd.method).1
  have hlk := Bd.notSynchronized
  have X0 : Stand p l e (⟨2, 0, 0, 27⟩ : Room) s m #[(.int 1), (.ref b)] below meth c s₁ [] 0 0 := Stand.of_body Bd
  have e0 : s₁.heap = h0 := by rw [← hh, Bd.state]; rfl
  have N0 := Fr.nil n0
  refine own_start (Q := own_uci_2_1_Q Z b kb vs dv zCS fm h0 n0) (own_uci_2_1_ef m b) ?_
  refine own_g (mkF m 2 #[.val (.int 1), .val (.ref b)] [(.ref b), (.int 1)]) (fun _ q => XS.iloadN X0.here hx rfl (hb hby own_d23_0) rfl (XS.aloadN X0.here hx rfl (hb hby own_d23_1) rfl rfl q)) ?_
  refine own_callS X0 hx hZ (y := own_y17) hown (own_h hw 103 rfl) (own_h hw 104 rfl) (own_h hw 44 rfl) (own_h hw 105 rfl) (by decide) (own_ul_2 l Z a0 hw [] b kb vs dv zCS fm h0 n0 Z0 S_CS nCS S_AD S_HI S_LO S_SF hfm O0 K_b) (by decide) (by decide) e0 (g := (mkF m 2 #[.val (.int 1), .val (.ref b)] [(.ref b), (.int 1)])) rfl (by rw [hml]; rfl) (argsL := [(.ref b)]) (rest := [(.int 1)]) (lenOf own_pd__28_5bB_29I rfl) rfl (W := 1) (by show 2 * 0 + _ ≤ _; exact Nat.le_of_eq rfl) (hb hby own_d23_2) rfl (by decide) (by decide) ?_
  rintro rv1 T1 L1 X1 ⟨rfl, Nq1, eh1⟩
  have N1 := Fr.app N0 Nq1
  show own_Fin p e below _ T1 (mkF m 5 #[.val (.int 1), .val (.ref b)] [(.int 2), (.int 1)])
  refine own_callS X1 hx hZ (y := own_y6) hown (own_h hw 106 rfl) (own_h hw 70 rfl) (own_h hw 8 rfl) (own_h hw 71 rfl) (by decide) (own_sci_2_1 l Z a0 hw [] zCS fm h0 n0 Z0 S_CS nCS S_AD S_HI S_LO S_SF hfm O0) (by decide) (by decide) eh1 (g := (mkF m 5 #[.val (.int 1), .val (.ref b)] [(.int 2), (.int 1)])) rfl (by rw [hml]; rfl) (argsL := [(.int 1), (.int 2)]) (rest := []) (lenOf own_pd__28II_29V rfl) rfl (W := 0) (by show 2 * 0 + _ ≤ _; exact Nat.le_of_eq rfl) (hb hby own_d23_5) rfl (by decide) (by decide) ?_
  rintro rv2 T2 L2 X2 ⟨rfl, Nq2, eh2⟩
  have N2 := Fr.app N1 Nq2
  show own_Fin p e below _ T2 (mkF m 8 #[.val (.int 1), .val (.ref b)] [])
  exact own_end X2 (v := none) (fun _ => rfl) hlk (fun hr => X2.returnOut hx Bd.returns (hb hby own_d23_8) hr) (by rw [eh2]; exact ⟨rfl, N2, rfl⟩) (by decide) (by decide)
theorem own_get_2_1_ef (m : MethodId) (b : Addr) : entryFrame m #[(.ref b), (.int 1)] 2 = mkF m 0 #[.val (.ref b), .val (.int 1)] [] := by  first | (simp [entryFrame, mkF, argsToLocals, Value.category]; done) | rfl
def own_get_2_1_Q (Z : State) (b : Addr) (kb : ClassId) (u0 : Int32) (u1 : Int32) (u2 : Int32) (u3 : Int32) (zCS : Int32) (fm : Value) (h0 : Heap) (n0 : Nat) (v : Option Value) (h : Heap) (L : List Loc) : Prop := v = some (.int (nar .char (StrChars.pairCh u2 u3))) ∧ Fr n0 L ∧ h = h0
set_option maxRecDepth 65536 in
set_option maxHeartbeats 40000000 in
theorem own_get_2_1 (l : Launch) (Z : State) (a0 : Array Value) (hw : ∀ d ∈ tables_1, d.before a0 Z = true) (ws : List Jvm.Cond) (b : Addr) (kb : ClassId) (u0 : Int32) (u1 : Int32) (u2 : Int32) (u3 : Int32) (zCS : Int32) (fm : Value) (h0 : Heap) (n0 : Nat) (Z0 : n0 ≤ h0.size) (S_CS : own_A0 Z zCS) (nCS : ¬ zCS = 0) (S_AD : own_A1 Z) (S_HI : own_A2 Z) (S_LO : own_A3 Z) (S_SF : own_A4 Z fm) (hfm : fm.isRef = true) (O0 : Old Z n0 h0) (K_b : Arv Z h0 b kb .byte (4 : Int32) [(.int u0), (.int u1), (.int u2), (.int u3)] (.int 0)) :
    MetFree l own_y16 (head1 (Jvm.Cond.code own_y16 jdk_52_method_5_code 2 (some .char) :: ws) (⟨0, 0, 0, 0⟩ : Room)) (fun aa U => aa = #[(.ref b), (.int 1)] ∧ Z.Warmed39 U.vm ∧ U.heap = h0) (fun _ _ _ _ _ => True) (fun _ U o U' => ∃ v L, o = .returned v ∧ own_get_2_1_Q Z b kb u0 u1 u2 u3 zCS fm h0 n0 v U'.heap L ∧ FrameEnd U o U' L (⟨0, 0, 0, 0⟩ : Room).cells (⟨0, 0, 0, 0⟩ : Room).slots) := by
  refine MetFree.of_bodySF (plainFor_of_name own_pn_java_lang_StringUTF16) hisR ?_
  intro p e s m args below meth c s₁ Bd hml0 hP hK
  obtain ⟨rfl, hZ, hh⟩ := hP
  have hx := Bd.exec
  have hby := Bd.bytes
  have hml : c.maxLocals = 2 := hml0
  have hown : s.vm.findClass "java/lang/StringUTF16" = some m.cls := findClass_of_methodNamed Bd.named
  have hnm := (name_of_methodNamed Bd.named Bd.method).1
  have hlk := Bd.notSynchronized
  have X0 : Stand p l e (⟨0, 0, 0, 0⟩ : Room) s m #[(.ref b), (.int 1)] below meth c s₁ [] 0 0 := Stand.of_body Bd
  have e0 : s₁.heap = h0 := by rw [← hh, Bd.state]; rfl
  have N0 := Fr.nil n0
  refine own_start (Q := own_get_2_1_Q Z b kb u0 u1 u2 u3 zCS fm h0 n0) (own_get_2_1_ef m b) ?_
  obtain ⟨T1, X1, e1, st1⟩ := getS2 X0 hx hZ hown (host := "") (Or.inl (own_h hw 91 rfl)) Via.refl e0 (S_AD.ext O0.2) (g := (mkF m 0 #[.val (.ref b), .val (.int 1)] [])) rfl (hb hby own_d21_0)
  refine own_by (g' := (mkF m 3 #[.val (.ref b), .val (.int 1)] [(.int 1)])) st1 ?_
  refine own_g (mkF m 37 #[.val (.ref b), .val (.int 3)] [(.int 2), (.ref b)]) (fun _ q => XS.ifYes X1.here hx rfl (pc0 := 3) (pc' := 28) rfl (hb hby own_d21_3) rfl ((if0 _ _).trans (feq (by decide : ¬ ((1 : Int32) = (0 : Int32)))).2) (by decide) (by decide) (XS.iloadN X1.here hx rfl (hb hby own_d21_28) rfl (XS.iconst X1.here hx rfl (hb hby own_d21_29) (XS.ishl X1.here hx rfl (hb hby own_d21_30) rfl (XS.istoreN X1.here hx rfl (hb hby own_d21_31) rfl (l' := #[.val (.ref b), .val (.int 2)]) rfl (XS.aloadN X1.here hx rfl (hb hby own_d21_32) rfl rfl (XS.iloadN X1.here hx rfl (hb hby own_d21_33) rfl (XS.iinc X1.here hx rfl (hb hby own_d21_34) rfl (l' := #[.val (.ref b), .val (.int 3)]) rfl q)))))))) ?_
  obtain ⟨cl2, Ar2, q2, S2, P2, H2, G2⟩ := id K_b
  have hin2 : ¬ ((2 : Int32) < 0 ∨ cl2.slots.size ≤ ((2 : Int32)).toNatClampNeg) := inb_of S2 ⟨by decide, by decide⟩
  refine own_by (g' := (mkF m 38 #[.val (.ref b), .val (.int 3)] [(.int u2)])) (fun _ kq => X1.baloadBytes hx (j := (2 : Int32)) (v := (.int u2)) (by rw [e1]; exact Ar2.1) (State.isArrayOf_alike hZ.alike Ar2.2.1) Ar2.2.2 hin2 (H2.at hin2 rfl) (g := (mkF m 37 #[.val (.ref b), .val (.int 3)] [(.int 2), (.ref b)])) rfl rfl (hb hby own_d21_37) _ kq) ?_
  refine own_g (mkF m 42 #[.val (.ref b), .val (.int 3)] [(.int (u2 &&& (255 : Int32)))]) (fun _ q => XS.sipush X1.here hx rfl (hb hby own_d21_38) (XS.iand X1.here hx rfl (hb hby own_d21_41) rfl q)) ?_
  obtain ⟨T3, X3, e3, st3⟩ := getS2 X1 hx hZ hown (host := "") (Or.inl (own_h hw 92 rfl)) Via.refl e1 (S_HI.ext O0.2) (g := (mkF m 42 #[.val (.ref b), .val (.int 3)] [(.int (u2 &&& (255 : Int32)))])) rfl (hb hby own_d21_42)
  refine own_by (g' := (mkF m 45 #[.val (.ref b), .val (.int 3)] [(.int 0), (.int (u2 &&& (255 : Int32)))])) st3 ?_
  refine own_g (mkF m 48 #[.val (.ref b), .val (.int 3)] [(.int 3), (.ref b), (.int ((u2 &&& (255 : Int32)) <<< ((0 : Int32) &&& 31)))]) (fun _ q => XS.ishl X3.here hx rfl (hb hby own_d21_45) rfl (XS.aloadN X3.here hx rfl (hb hby own_d21_46) rfl rfl (XS.iloadN X3.here hx rfl (hb hby own_d21_47) rfl q))) ?_
  obtain ⟨cl4, Ar4, q4, S4, P4, H4, G4⟩ := id K_b
  have hin4 : ¬ ((3 : Int32) < 0 ∨ cl4.slots.size ≤ ((3 : Int32)).toNatClampNeg) := inb_of S4 ⟨by decide, by decide⟩
  refine own_by (g' := (mkF m 49 #[.val (.ref b), .val (.int 3)] [(.int u3), (.int ((u2 &&& (255 : Int32)) <<< ((0 : Int32) &&& 31)))])) (fun _ kq => X3.baloadBytes hx (j := (3 : Int32)) (v := (.int u3)) (by rw [e3]; exact Ar4.1) (State.isArrayOf_alike hZ.alike Ar4.2.1) Ar4.2.2 hin4 (H4.at hin4 rfl) (g := (mkF m 48 #[.val (.ref b), .val (.int 3)] [(.int 3), (.ref b), (.int ((u2 &&& (255 : Int32)) <<< ((0 : Int32) &&& 31)))])) rfl rfl (hb hby own_d21_48) _ kq) ?_
  refine own_g (mkF m 53 #[.val (.ref b), .val (.int 3)] [(.int (u3 &&& (255 : Int32))), (.int ((u2 &&& (255 : Int32)) <<< ((0 : Int32) &&& 31)))]) (fun _ q => XS.sipush X3.here hx rfl (hb hby own_d21_49) (XS.iand X3.here hx rfl (hb hby own_d21_52) rfl q)) ?_
  obtain ⟨T5, X5, e5, st5⟩ := getS2 X3 hx hZ hown (host := "") (Or.inl (own_h hw 93 rfl)) Via.refl e3 (S_LO.ext O0.2) (g := (mkF m 53 #[.val (.ref b), .val (.int 3)] [(.int (u3 &&& (255 : Int32))), (.int ((u2 &&& (255 : Int32)) <<< ((0 : Int32) &&& 31)))])) rfl (hb hby own_d21_53)
  refine own_by (g' := (mkF m 56 #[.val (.ref b), .val (.int 3)] [(.int 8), (.int (u3 &&& (255 : Int32))), (.int ((u2 &&& (255 : Int32)) <<< ((0 : Int32) &&& 31)))])) st5 ?_
  refine own_g (mkF m 59 #[.val (.ref b), .val (.int 3)] [(.int ((((u2 &&& (255 : Int32)) <<< ((0 : Int32) &&& 31)) ||| ((u3 &&& (255 : Int32)) <<< ((8 : Int32) &&& 31))).toUInt32.toUInt16.toUInt32.toInt32))]) (fun _ q => XS.ishl X5.here hx rfl (hb hby own_d21_56) rfl (XS.ior X5.here hx rfl (hb hby own_d21_57) rfl (XS.i2c X5.here hx rfl (hb hby own_d21_58) rfl q))) ?_
  exact own_end X5 (v := some (.int (nar .char ((((u2 &&& (255 : Int32)) <<< ((0 : Int32) &&& 31)) ||| ((u3 &&& (255 : Int32)) <<< ((8 : Int32) &&& 31))).toUInt32.toUInt16.toUInt32.toInt32)))) (fun h => by rw [Bd.returns] at h; cases h) hlk (fun hr => retN X5 hx (t := .char) Bd.returns (by simp) (hb hby own_d21_59) hr) (by rw [e5]; exact ⟨rfl, N0, rfl⟩) (by decide) (by decide)
theorem own_put_2_1_ef (m : MethodId) (b : Addr) (c0 : Int32) : entryFrame m #[(.ref b), (.int 1), (.int c0)] 3 = mkF m 0 #[.val (.ref b), .val (.int 1), .val (.int c0)] [] := by  first | (simp [entryFrame, mkF, argsToLocals, Value.category]; done) | rfl
def own_put_2_1_Q (Z : State) (b : Addr) (c0 : Int32) (kb : ClassId) (u0 : Int32) (u1 : Int32) (u2 : Int32) (u3 : Int32) (zCS : Int32) (fm : Value) (h0 : Heap) (n0 : Nat) (v : Option Value) (h : Heap) (L : List Loc) : Prop := v = none ∧ Fr n0 L ∧ Keep h0 h [b] ∧ Arv Z h b kb .byte (4 : Int32) [(.int u0), (.int u1), (.int (StrChars.lo8 c0)), (.int (StrChars.hi8 c0))] (.int 0)
set_option maxRecDepth 65536 in
set_option maxHeartbeats 40000000 in
theorem own_put_2_1 (l : Launch) (Z : State) (a0 : Array Value) (hw : ∀ d ∈ tables_1, d.before a0 Z = true) (ws : List Jvm.Cond) (b : Addr) (c0 : Int32) (kb : ClassId) (u0 : Int32) (u1 : Int32) (u2 : Int32) (u3 : Int32) (zCS : Int32) (fm : Value) (h0 : Heap) (n0 : Nat) (Z0 : n0 ≤ h0.size) (S_CS : own_A0 Z zCS) (nCS : ¬ zCS = 0) (S_AD : own_A1 Z) (S_HI : own_A2 Z) (S_LO : own_A3 Z) (S_SF : own_A4 Z fm) (hfm : fm.isRef = true) (O0 : Old Z n0 h0) (K_b : Arv Z h0 b kb .byte (4 : Int32) [(.int u0), (.int u1), (.int u2), (.int u3)] (.int 0)) (g_b : n0 ≤ b) :
    MetFree l own_y20 (head1 (Jvm.Cond.code own_y20 jdk_52_method_4_code 3 none :: ws) (⟨0, 0, 0, 0⟩ : Room)) (fun aa U => aa = #[(.ref b), (.int 1), (.int c0)] ∧ Z.Warmed39 U.vm ∧ U.heap = h0) (fun _ _ _ _ _ => True) (fun _ U o U' => ∃ v L, o = .returned v ∧ own_put_2_1_Q Z b c0 kb u0 u1 u2 u3 zCS fm h0 n0 v U'.heap L ∧ FrameEnd U o U' L (⟨0, 0, 0, 0⟩ : Room).cells (⟨0, 0, 0, 0⟩ : Room).slots) := by
  refine MetFree.of_bodySF (plainFor_of_name own_pn_java_lang_StringUTF16) hisR ?_
  intro p e s m args below meth c s₁ Bd hml0 hP hK
  obtain ⟨rfl, hZ, hh⟩ := hP
  have hx := Bd.exec
  have hby := Bd.bytes
  have hml : c.maxLocals = 3 := hml0
  have hown : s.vm.findClass "java/lang/StringUTF16" = some m.cls := findClass_of_methodNamed Bd.named
  have hnm := (name_of_methodNamed Bd.named Bd.method).1
  have hlk := Bd.notSynchronized
  have X0 : Stand p l e (⟨0, 0, 0, 0⟩ : Room) s m #[(.ref b), (.int 1), (.int c0)] below meth c s₁ [] 0 0 := Stand.of_body Bd
  have e0 : s₁.heap = h0 := by rw [← hh, Bd.state]; rfl
  have N0 := Fr.nil n0
  refine own_start (Q := own_put_2_1_Q Z b c0 kb u0 u1 u2 u3 zCS fm h0 n0) (own_put_2_1_ef m b c0) ?_
  obtain ⟨T1, X1, e1, st1⟩ := getS2 X0 hx hZ hown (host := "") (Or.inl (own_h hw 91 rfl)) Via.refl e0 (S_AD.ext O0.2) (g := (mkF m 0 #[.val (.ref b), .val (.int 1), .val (.int c0)] [])) rfl (hb hby own_d20_0)
  refine own_by (g' := (mkF m 3 #[.val (.ref b), .val (.int 1), .val (.int c0)] [(.int 1)])) st1 ?_
  refine own_g (mkF m 37 #[.val (.ref b), .val (.int 3), .val (.int c0)] [(.int 2), (.ref b)]) (fun _ q => XS.ifYes X1.here hx rfl (pc0 := 3) (pc' := 28) rfl (hb hby own_d20_3) rfl ((if0 _ _).trans (feq (by decide : ¬ ((1 : Int32) = (0 : Int32)))).2) (by decide) (by decide) (XS.iloadN X1.here hx rfl (hb hby own_d20_28) rfl (XS.iconst X1.here hx rfl (hb hby own_d20_29) (XS.ishl X1.here hx rfl (hb hby own_d20_30) rfl (XS.istoreN X1.here hx rfl (hb hby own_d20_31) rfl (l' := #[.val (.ref b), .val (.int 2), .val (.int c0)]) rfl (XS.aloadN X1.here hx rfl (hb hby own_d20_32) rfl rfl (XS.iloadN X1.here hx rfl (hb hby own_d20_33) rfl (XS.iinc X1.here hx rfl (hb hby own_d20_34) rfl (l' := #[.val (.ref b), .val (.int 3), .val (.int c0)]) rfl q)))))))) ?_
  refine own_g (mkF m 38 #[.val (.ref b), .val (.int 3), .val (.int c0)] [(.int c0), (.int 2), (.ref b)]) (fun _ q => XS.iloadN X1.here hx rfl (hb hby own_d20_37) rfl q) ?_
  obtain ⟨T2, X2, e2, st2⟩ := getS2 X1 hx hZ hown (host := "") (Or.inl (own_h hw 92 rfl)) Via.refl e1 (S_HI.ext O0.2) (g := (mkF m 38 #[.val (.ref b), .val (.int 3), .val (.int c0)] [(.int c0), (.int 2), (.ref b)])) rfl (hb hby own_d20_38)
  refine own_by (g' := (mkF m 41 #[.val (.ref b), .val (.int 3), .val (.int c0)] [(.int 0), (.int c0), (.int 2), (.ref b)])) st2 ?_
  refine own_g (mkF m 43 #[.val (.ref b), .val (.int 3), .val (.int c0)] [(.int ((c0 >>> ((0 : Int32) &&& 31)).toInt8.toInt32)), (.int 2), (.ref b)]) (fun _ q => XS.ishr X2.here hx rfl (hb hby own_d20_41) rfl (XS.i2b X2.here hx rfl (hb hby own_d20_42) rfl q)) ?_
  obtain ⟨cl3, Ar3, q3, S3, P3, H3, G3⟩ := id K_b
  have hin3 : ¬ ((2 : Int32) < 0 ∨ cl3.slots.size ≤ ((2 : Int32)).toNatClampNeg) := inb_of S3 ⟨by decide, by decide⟩
  obtain ⟨T4, h4, X4, e4, W4, st4⟩ := stB X2 hx hZ e2 Ar3 (j := (2 : Int32)) hin3 (g := (mkF m 43 #[.val (.ref b), .val (.int 3), .val (.int c0)] [(.int ((c0 >>> ((0 : Int32) &&& 31)).toInt8.toInt32)), (.int 2), (.ref b)])) rfl rfl (hb hby own_d20_43)
  have V4 : Arv Z h4 b kb .byte (4 : Int32) [(.int u0), (.int u1), (.int (((c0 >>> ((0 : Int32) &&& 31)).toInt8.toInt32).toInt8.toInt32)), (.int u3)] (.int 0) := Arv.set Ar3 q3 S3 P3 H3 G3 (fits_nar_byte _) W4 2 rfl (Nat.le_of_ble_eq_true rfl)
  have N4 := Fr.snoc X4 N0 g_b
  refine own_by (g' := (mkF m 44 #[.val (.ref b), .val (.int 3), .val (.int c0)] [])) st4 ?_
  refine own_g (mkF m 47 #[.val (.ref b), .val (.int 3), .val (.int c0)] [(.int c0), (.int 3), (.ref b)]) (fun _ q => XS.aloadN X4.here hx rfl (hb hby own_d20_44) rfl rfl (XS.iloadN X4.here hx rfl (hb hby own_d20_45) rfl (XS.iloadN X4.here hx rfl (hb hby own_d20_46) rfl q))) ?_
  have o5_ := (O0.wr W4 g_b)
  obtain ⟨T6, X6, e6, st6⟩ := getS2 X4 hx hZ hown (host := "") (Or.inl (own_h hw 93 rfl)) Via.refl e4 (S_LO.ext o5_.2) (g := (mkF m 47 #[.val (.ref b), .val (.int 3), .val (.int c0)] [(.int c0), (.int 3), (.ref b)])) rfl (hb hby own_d20_47)
  refine own_by (g' := (mkF m 50 #[.val (.ref b), .val (.int 3), .val (.int c0)] [(.int 8), (.int c0), (.int 3), (.ref b)])) st6 ?_
  refine own_g (mkF m 52 #[.val (.ref b), .val (.int 3), .val (.int c0)] [(.int ((c0 >>> ((8 : Int32) &&& 31)).toInt8.toInt32)), (.int 3), (.ref b)]) (fun _ q => XS.ishr X6.here hx rfl (hb hby own_d20_50) rfl (XS.i2b X6.here hx rfl (hb hby own_d20_51) rfl q)) ?_
  obtain ⟨cl7, Ar7, q7, S7, P7, H7, G7⟩ := id V4
  have hin7 : ¬ ((3 : Int32) < 0 ∨ cl7.slots.size ≤ ((3 : Int32)).toNatClampNeg) := inb_of S7 ⟨by decide, by decide⟩
  obtain ⟨T8, h8, X8, e8, W8, st8⟩ := stB X6 hx hZ e6 Ar7 (j := (3 : Int32)) hin7 (g := (mkF m 52 #[.val (.ref b), .val (.int 3), .val (.int c0)] [(.int ((c0 >>> ((8 : Int32) &&& 31)).toInt8.toInt32)), (.int 3), (.ref b)])) rfl rfl (hb hby own_d20_52)
  have V8 : Arv Z h8 b kb .byte (4 : Int32) [(.int u0), (.int u1), (.int (((c0 >>> ((0 : Int32) &&& 31)).toInt8.toInt32).toInt8.toInt32)), (.int (((c0 >>> ((8 : Int32) &&& 31)).toInt8.toInt32).toInt8.toInt32))] (.int 0) := Arv.set Ar7 q7 S7 P7 H7 G7 (fits_nar_byte _) W8 3 rfl (Nat.le_of_ble_eq_true rfl)
  have N8 := Fr.snoc X8 N4 g_b
  refine own_by (g' := (mkF m 53 #[.val (.ref b), .val (.int 3), .val (.int c0)] [])) st8 ?_
  have k9_ := (((Keep.refl h0 [b]).wr W4 (Or.inl (List.mem_of_getElem? (i := 0) rfl))).wr W8 (Or.inl (List.mem_of_getElem? (i := 0) rfl)))
  exact own_end X8 (v := none) (fun _ => rfl) hlk (fun hr => X8.returnOut hx Bd.returns (hb hby own_d20_53) hr) (by rw [e8]; exact ⟨rfl, N8, k9_, by have q := V8; simp only [own_bb, StrChars.shr0] at q; exact q⟩) (by decide) (by decide)
theorem own_uci_3_0_ef (m : MethodId) (b : Addr) : entryFrame m #[(.int 0), (.ref b)] 2 = mkF m 0 #[.val (.int 0), .val (.ref b)] [] := by  first | (simp [entryFrame, mkF, argsToLocals, Value.category]; done) | rfl
def own_uci_3_0_Q (Z : State) (b : Addr) (kb : ClassId) (vs : List Value) (dv : Value) (zCS : Int32) (fm : Value) (h0 : Heap) (n0 : Nat) (v : Option Value) (h : Heap) (L : List Loc) : Prop := v = none ∧ Fr n0 L ∧ h = h0
set_option maxRecDepth 65536 in
set_option maxHeartbeats 40000000 in
theorem own_uci_3_0 (l : Launch) (Z : State) (a0 : Array Value) (hw : ∀ d ∈ tables_1, d.before a0 Z = true) (ws : List Jvm.Cond) (b : Addr) (kb : ClassId) (vs : List Value) (dv : Value) (zCS : Int32) (fm : Value) (h0 : Heap) (n0 : Nat) (Z0 : n0 ≤ h0.size) (S_CS : own_A0 Z zCS) (nCS : ¬ zCS = 0) (S_AD : own_A1 Z) (S_HI : own_A2 Z) (S_LO : own_A3 Z) (S_SF : own_A4 Z fm) (hfm : fm.isRef = true) (O0 : Old Z n0 h0) (K_b : Arv Z h0 b kb .byte (6 : Int32) vs dv) :
    MetFree l own_y12 (head1 (Jvm.Cond.code own_y12 jdk_52_method_91_code 2 none :: ws) (⟨2, 0, 0, 27⟩ : Room)) (fun aa U => aa = #[(.int 0), (.ref b)] ∧ Z.Warmed39 U.vm ∧ U.heap = h0) (fun _ _ _ _ _ => True) (fun _ U o U' => ∃ v L, o = .returned v ∧ own_uci_3_0_Q Z b kb vs dv zCS fm h0 n0 v U'.heap L ∧ FrameEnd U o U' L (⟨2, 0, 0, 27⟩ : Room).cells (⟨2, 0, 0, 27⟩ : Room).slots) := by
  refine MetFree.of_bodySF (plainFor_of_name own_pn_java_lang_StringUTF16) hisR ?_
  intro p e s m args below meth c s₁ Bd hml0 hP hK
  obtain ⟨rfl, hZ, hh⟩ := hP
  have hx := Bd.exec
  have hby := Bd.bytes
  have hml : c.maxLocals = 2 := hml0
  have hown : s.vm.findClass "java/lang/StringUTF16" = some m.cls := findClass_of_methodNamed Bd.named
  have hnm := (name_of_methodNamed Bd.named Bd.method).1
  have hlk := Bd.notSynchronized
  have X0 : Stand p l e (⟨2, 0, 0, 27⟩ : Room) s m #[(.int 0), (.ref b)] below meth c s₁ [] 0 0 := Stand.of_body Bd
  have e0 : s₁.heap = h0 := by rw [← hh, Bd.state]; rfl
  have N0 := Fr.nil n0
  refine own_start (Q := own_uci_3_0_Q Z b kb vs dv zCS fm h0 n0) (own_uci_3_0_ef m b) ?_
  refine own_g (mkF m 2 #[.val (.int 0), .val (.ref b)] [(.ref b), (.int 0)]) (fun _ q => XS.iloadN X0.here hx rfl (hb hby own_d23_0) rfl (XS.aloadN X0.here hx rfl (hb hby own_d23_1) rfl rfl q)) ?_
  refine own_callS X0 hx hZ (y := own_y17) hown (own_h hw 103 rfl) (own_h hw 104 rfl) (own_h hw 44 rfl) (own_h hw 105 rfl) (by decide) (own_ul_3 l Z a0 hw [] b kb vs dv zCS fm h0 n0 Z0 S_CS nCS S_AD S_HI S_LO S_SF hfm O0 K_b) (by decide) (by decide) e0 (g := (mkF m 2 #[.val (.int 0), .val (.ref b)] [(.ref b), (.int 0)])) rfl (by rw [hml]; rfl) (argsL := [(.ref b)]) (rest := [(.int 0)]) (lenOf own_pd__28_5bB_29I rfl) rfl (W := 1) (by show 2 * 0 + _ ≤ _; exact Nat.le_of_eq rfl) (hb hby own_d23_2) rfl (by decide) (by decide) ?_
  rintro rv1 T1 L1 X1 ⟨rfl, Nq1, eh1⟩
  have N1 := Fr.app N0 Nq1
  show own_Fin p e below _ T1 (mkF m 5 #[.val (.int 0), .val (.ref b)] [(.int 3), (.int 0)])
  refine own_callS X1 hx hZ (y := own_y6) hown (own_h hw 106 rfl) (own_h hw 70 rfl) (own_h hw 8 rfl) (own_h hw 71 rfl) (by decide) (own_sci_3_0 l Z a0 hw [] zCS fm h0 n0 Z0 S_CS nCS S_AD S_HI S_LO S_SF hfm O0) (by decide) (by decide) eh1 (g := (mkF m 5 #[.val (.int 0), .val (.ref b)] [(.int 3), (.int 0)])) rfl (by rw [hml]; rfl) (argsL := [(.int 0), (.int 3)]) (rest := []) (lenOf own_pd__28II_29V rfl) rfl (W := 0) (by show 2 * 0 + _ ≤ _; exact Nat.le_of_eq rfl) (hb hby own_d23_5) rfl (by decide) (by decide) ?_
  rintro rv2 T2 L2 X2 ⟨rfl, Nq2, eh2⟩
  have N2 := Fr.app N1 Nq2
  show own_Fin p e below _ T2 (mkF m 8 #[.val (.int 0), .val (.ref b)] [])
  exact own_end X2 (v := none) (fun _ => rfl) hlk (fun hr => X2.returnOut hx Bd.returns (hb hby own_d23_8) hr) (by rw [eh2]; exact ⟨rfl, N2, rfl⟩) (by decide) (by decide)
theorem own_get_3_0_ef (m : MethodId) (b : Addr) : entryFrame m #[(.ref b), (.int 0)] 2 = mkF m 0 #[.val (.ref b), .val (.int 0)] [] := by  first | (simp [entryFrame, mkF, argsToLocals, Value.category]; done) | rfl
def own_get_3_0_Q (Z : State) (b : Addr) (kb : ClassId) (u0 : Int32) (u1 : Int32) (u2 : Int32) (u3 : Int32) (u4 : Int32) (u5 : Int32) (zCS : Int32) (fm : Value) (h0 : Heap) (n0 : Nat) (v : Option Value) (h : Heap) (L : List Loc) : Prop := v = some (.int (nar .char (StrChars.pairCh u0 u1))) ∧ Fr n0 L ∧ h = h0
set_option maxRecDepth 65536 in
set_option maxHeartbeats 40000000 in
theorem own_get_3_0 (l : Launch) (Z : State) (a0 : Array Value) (hw : ∀ d ∈ tables_1, d.before a0 Z = true) (ws : List Jvm.Cond) (b : Addr) (kb : ClassId) (u0 : Int32) (u1 : Int32) (u2 : Int32) (u3 : Int32) (u4 : Int32) (u5 : Int32) (zCS : Int32) (fm : Value) (h0 : Heap) (n0 : Nat) (Z0 : n0 ≤ h0.size) (S_CS : own_A0 Z zCS) (nCS : ¬ zCS = 0) (S_AD : own_A1 Z) (S_HI : own_A2 Z) (S_LO : own_A3 Z) (S_SF : own_A4 Z fm) (hfm : fm.isRef = true) (O0 : Old Z n0 h0) (K_b : Arv Z h0 b kb .byte (6 : Int32) [(.int u0), (.int u1), (.int u2), (.int u3), (.int u4), (.int u5)] (.int 0)) :
    MetFree l own_y16 (head1 (Jvm.Cond.code own_y16 jdk_52_method_5_code 2 (some .char) :: ws) (⟨0, 0, 0, 0⟩ : Room)) (fun aa U => aa = #[(.ref b), (.int 0)] ∧ Z.Warmed39 U.vm ∧ U.heap = h0) (fun _ _ _ _ _ => True) (fun _ U o U' => ∃ v L, o = .returned v ∧ own_get_3_0_Q Z b kb u0 u1 u2 u3 u4 u5 zCS fm h0 n0 v U'.heap L ∧ FrameEnd U o U' L (⟨0, 0, 0, 0⟩ : Room).cells (⟨0, 0, 0, 0⟩ : Room).slots) := by
  refine MetFree.of_bodySF (plainFor_of_name own_pn_java_lang_StringUTF16) hisR ?_
  intro p e s m args below meth c s₁ Bd hml0 hP hK
  obtain ⟨rfl, hZ, hh⟩ := hP
  have hx := Bd.exec
  have hby := Bd.bytes
  have hml : c.maxLocals = 2 := hml0
  have hown : s.vm.findClass "java/lang/StringUTF16" = some m.cls := findClass_of_methodNamed Bd.named
  have hnm := (name_of_methodNamed Bd.named Bd.method).1
  have hlk := Bd.notSynchronized
  have X0 : Stand p l e (⟨0, 0, 0, 0⟩ : Room) s m #[(.ref b), (.int 0)] below meth c s₁ [] 0 0 := Stand.of_body Bd
  have e0 : s₁.heap = h0 := by rw [← hh, Bd.state]; rfl
  have N0 := Fr.nil n0
  refine own_start (Q := own_get_3_0_Q Z b kb u0 u1 u2 u3 u4 u5 zCS fm h0 n0) (own_get_3_0_ef m b) ?_
  obtain ⟨T1, X1, e1, st1⟩ := getS2 X0 hx hZ hown (host := "") (Or.inl (own_h hw 91 rfl)) Via.refl e0 (S_AD.ext O0.2) (g := (mkF m 0 #[.val (.ref b), .val (.int 0)] [])) rfl (hb hby own_d21_0)
  refine own_by (g' := (mkF m 3 #[.val (.ref b), .val (.int 0)] [(.int 1)])) st1 ?_
  refine own_g (mkF m 37 #[.val (.ref b), .val (.int 1)] [(.int 0), (.ref b)]) (fun _ q => XS.ifYes X1.here hx rfl (pc0 := 3) (pc' := 28) rfl (hb hby own_d21_3) rfl ((if0 _ _).trans (feq (by decide : ¬ ((1 : Int32) = (0 : Int32)))).2) (by decide) (by decide) (XS.iloadN X1.here hx rfl (hb hby own_d21_28) rfl (XS.iconst X1.here hx rfl (hb hby own_d21_29) (XS.ishl X1.here hx rfl (hb hby own_d21_30) rfl (XS.istoreN X1.here hx rfl (hb hby own_d21_31) rfl (l' := #[.val (.ref b), .val (.int 0)]) rfl (XS.aloadN X1.here hx rfl (hb hby own_d21_32) rfl rfl (XS.iloadN X1.here hx rfl (hb hby own_d21_33) rfl (XS.iinc X1.here hx rfl (hb hby own_d21_34) rfl (l' := #[.val (.ref b), .val (.int 1)]) rfl q)))))))) ?_
  obtain ⟨cl2, Ar2, q2, S2, P2, H2, G2⟩ := id K_b
  have hin2 : ¬ ((0 : Int32) < 0 ∨ cl2.slots.size ≤ ((0 : Int32)).toNatClampNeg) := inb_of S2 ⟨by decide, by decide⟩
  refine own_by (g' := (mkF m 38 #[.val (.ref b), .val (.int 1)] [(.int u0)])) (fun _ kq => X1.baloadBytes hx (j := (0 : Int32)) (v := (.int u0)) (by rw [e1]; exact Ar2.1) (State.isArrayOf_alike hZ.alike Ar2.2.1) Ar2.2.2 hin2 (H2.at hin2 rfl) (g := (mkF m 37 #[.val (.ref b), .val (.int 1)] [(.int 0), (.ref b)])) rfl rfl (hb hby own_d21_37) _ kq) ?_
  refine own_g (mkF m 42 #[.val (.ref b), .val (.int 1)] [(.int (u0 &&& (255 : Int32)))]) (fun _ q => XS.sipush X1.here hx rfl (hb hby own_d21_38) (XS.iand X1.here hx rfl (hb hby own_d21_41) rfl q)) ?_
  obtain ⟨T3, X3, e3, st3⟩ := getS2 X1 hx hZ hown (host := "") (Or.inl (own_h hw 92 rfl)) Via.refl e1 (S_HI.ext O0.2) (g := (mkF m 42 #[.val (.ref b), .val (.int 1)] [(.int (u0 &&& (255 : Int32)))])) rfl (hb hby own_d21_42)
  refine own_by (g' := (mkF m 45 #[.val (.ref b), .val (.int 1)] [(.int 0), (.int (u0 &&& (255 : Int32)))])) st3 ?_
  refine own_g (mkF m 48 #[.val (.ref b), .val (.int 1)] [(.int 1), (.ref b), (.int ((u0 &&& (255 : Int32)) <<< ((0 : Int32) &&& 31)))]) (fun _ q => XS.ishl X3.here hx rfl (hb hby own_d21_45) rfl (XS.aloadN X3.here hx rfl (hb hby own_d21_46) rfl rfl (XS.iloadN X3.here hx rfl (hb hby own_d21_47) rfl q))) ?_
  obtain ⟨cl4, Ar4, q4, S4, P4, H4, G4⟩ := id K_b
  have hin4 : ¬ ((1 : Int32) < 0 ∨ cl4.slots.size ≤ ((1 : Int32)).toNatClampNeg) := inb_of S4 ⟨by decide, by decide⟩
  refine own_by (g' := (mkF m 49 #[.val (.ref b), .val (.int 1)] [(.int u1), (.int ((u0 &&& (255 : Int32)) <<< ((0 : Int32) &&& 31)))])) (fun _ kq => X3.baloadBytes hx (j := (1 : Int32)) (v := (.int u1)) (by rw [e3]; exact Ar4.1) (State.isArrayOf_alike hZ.alike Ar4.2.1) Ar4.2.2 hin4 (H4.at hin4 rfl) (g := (mkF m 48 #[.val (.ref b), .val (.int 1)] [(.int 1), (.ref b), (.int ((u0 &&& (255 : Int32)) <<< ((0 : Int32) &&& 31)))])) rfl rfl (hb hby own_d21_48) _ kq) ?_
  refine own_g (mkF m 53 #[.val (.ref b), .val (.int 1)] [(.int (u1 &&& (255 : Int32))), (.int ((u0 &&& (255 : Int32)) <<< ((0 : Int32) &&& 31)))]) (fun _ q => XS.sipush X3.here hx rfl (hb hby own_d21_49) (XS.iand X3.here hx rfl (hb hby own_d21_52) rfl q)) ?_
  obtain ⟨T5, X5, e5, st5⟩ := getS2 X3 hx hZ hown (host := "") (Or.inl (own_h hw 93 rfl)) Via.refl e3 (S_LO.ext O0.2) (g := (mkF m 53 #[.val (.ref b), .val (.int 1)] [(.int (u1 &&& (255 : Int32))), (.int ((u0 &&& (255 : Int32)) <<< ((0 : Int32) &&& 31)))])) rfl (hb hby own_d21_53)
  refine own_by (g' := (mkF m 56 #[.val (.ref b), .val (.int 1)] [(.int 8), (.int (u1 &&& (255 : Int32))), (.int ((u0 &&& (255 : Int32)) <<< ((0 : Int32) &&& 31)))])) st5 ?_
  refine own_g (mkF m 59 #[.val (.ref b), .val (.int 1)] [(.int ((((u0 &&& (255 : Int32)) <<< ((0 : Int32) &&& 31)) ||| ((u1 &&& (255 : Int32)) <<< ((8 : Int32) &&& 31))).toUInt32.toUInt16.toUInt32.toInt32))]) (fun _ q => XS.ishl X5.here hx rfl (hb hby own_d21_56) rfl (XS.ior X5.here hx rfl (hb hby own_d21_57) rfl (XS.i2c X5.here hx rfl (hb hby own_d21_58) rfl q))) ?_
  exact own_end X5 (v := some (.int (nar .char ((((u0 &&& (255 : Int32)) <<< ((0 : Int32) &&& 31)) ||| ((u1 &&& (255 : Int32)) <<< ((8 : Int32) &&& 31))).toUInt32.toUInt16.toUInt32.toInt32)))) (fun h => by rw [Bd.returns] at h; cases h) hlk (fun hr => retN X5 hx (t := .char) Bd.returns (by simp) (hb hby own_d21_59) hr) (by rw [e5]; exact ⟨rfl, N0, rfl⟩) (by decide) (by decide)
theorem own_put_3_0_ef (m : MethodId) (b : Addr) (c0 : Int32) : entryFrame m #[(.ref b), (.int 0), (.int c0)] 3 = mkF m 0 #[.val (.ref b), .val (.int 0), .val (.int c0)] [] := by  first | (simp [entryFrame, mkF, argsToLocals, Value.category]; done) | rfl
def own_put_3_0_Q (Z : State) (b : Addr) (c0 : Int32) (kb : ClassId) (u0 : Int32) (u1 : Int32) (u2 : Int32) (u3 : Int32) (u4 : Int32) (u5 : Int32) (zCS : Int32) (fm : Value) (h0 : Heap) (n0 : Nat) (v : Option Value) (h : Heap) (L : List Loc) : Prop := v = none ∧ Fr n0 L ∧ Keep h0 h [b] ∧ Arv Z h b kb .byte (6 : Int32) [(.int (StrChars.lo8 c0)), (.int (StrChars.hi8 c0)), (.int u2), (.int u3), (.int u4), (.int u5)] (.int 0)
set_option maxRecDepth 65536 in
set_option maxHeartbeats 40000000 in
theorem own_put_3_0 (l : Launch) (Z : State) (a0 : Array Value) (hw : ∀ d ∈ tables_1, d.before a0 Z = true) (ws : List Jvm.Cond) (b : Addr) (c0 : Int32) (kb : ClassId) (u0 : Int32) (u1 : Int32) (u2 : Int32) (u3 : Int32) (u4 : Int32) (u5 : Int32) (zCS : Int32) (fm : Value) (h0 : Heap) (n0 : Nat) (Z0 : n0 ≤ h0.size) (S_CS : own_A0 Z zCS) (nCS : ¬ zCS = 0) (S_AD : own_A1 Z) (S_HI : own_A2 Z) (S_LO : own_A3 Z) (S_SF : own_A4 Z fm) (hfm : fm.isRef = true) (O0 : Old Z n0 h0) (K_b : Arv Z h0 b kb .byte (6 : Int32) [(.int u0), (.int u1), (.int u2), (.int u3), (.int u4), (.int u5)] (.int 0)) (g_b : n0 ≤ b) :
    MetFree l own_y20 (head1 (Jvm.Cond.code own_y20 jdk_52_method_4_code 3 none :: ws) (⟨0, 0, 0, 0⟩ : Room)) (fun aa U => aa = #[(.ref b), (.int 0), (.int c0)] ∧ Z.Warmed39 U.vm ∧ U.heap = h0) (fun _ _ _ _ _ => True) (fun _ U o U' => ∃ v L, o = .returned v ∧ own_put_3_0_Q Z b c0 kb u0 u1 u2 u3 u4 u5 zCS fm h0 n0 v U'.heap L ∧ FrameEnd U o U' L (⟨0, 0, 0, 0⟩ : Room).cells (⟨0, 0, 0, 0⟩ : Room).slots) := by
  refine MetFree.of_bodySF (plainFor_of_name own_pn_java_lang_StringUTF16) hisR ?_
  intro p e s m args below meth c s₁ Bd hml0 hP hK
  obtain ⟨rfl, hZ, hh⟩ := hP
  have hx := Bd.exec
  have hby := Bd.bytes
  have hml : c.maxLocals = 3 := hml0
  have hown : s.vm.findClass "java/lang/StringUTF16" = some m.cls := findClass_of_methodNamed Bd.named
  have hnm := (name_of_methodNamed Bd.named Bd.method).1
  have hlk := Bd.notSynchronized
  have X0 : Stand p l e (⟨0, 0, 0, 0⟩ : Room) s m #[(.ref b), (.int 0), (.int c0)] below meth c s₁ [] 0 0 := Stand.of_body Bd
  have e0 : s₁.heap = h0 := by rw [← hh, Bd.state]; rfl
  have N0 := Fr.nil n0
  refine own_start (Q := own_put_3_0_Q Z b c0 kb u0 u1 u2 u3 u4 u5 zCS fm h0 n0) (own_put_3_0_ef m b c0) ?_
  obtain ⟨T1, X1, e1, st1⟩ := getS2 X0 hx hZ hown (host := "") (Or.inl (own_h hw 91 rfl)) Via.refl e0 (S_AD.ext O0.2) (g := (mkF m 0 #[.val (.ref b), .val (.int 0), .val (.int c0)] [])) rfl (hb hby own_d20_0)
  refine own_by (g' := (mkF m 3 #[.val (.ref b), .val (.int 0), .val (.int c0)] [(.int 1)])) st1 ?_
  refine own_g (mkF m 37 #[.val (.ref b), .val (.int 1), .val (.int c0)] [(.int 0), (.ref b)]) (fun _ q => XS.ifYes X1.here hx rfl (pc0 := 3) (pc' := 28) rfl (hb hby own_d20_3) rfl ((if0 _ _).trans (feq (by decide : ¬ ((1 : Int32) = (0 : Int32)))).2) (by decide) (by decide) (XS.iloadN X1.here hx rfl (hb hby own_d20_28) rfl (XS.iconst X1.here hx rfl (hb hby own_d20_29) (XS.ishl X1.here hx rfl (hb hby own_d20_30) rfl (XS.istoreN X1.here hx rfl (hb hby own_d20_31) rfl (l' := #[.val (.ref b), .val (.int 0), .val (.int c0)]) rfl (XS.aloadN X1.here hx rfl (hb hby own_d20_32) rfl rfl (XS.iloadN X1.here hx rfl (hb hby own_d20_33) rfl (XS.iinc X1.here hx rfl (hb hby own_d20_34) rfl (l' := #[.val (.ref b), .val (.int 1), .val (.int c0)]) rfl q)))))))) ?_
  refine own_g (mkF m 38 #[.val (.ref b), .val (.int 1), .val (.int c0)] [(.int c0), (.int 0), (.ref b)]) (fun _ q => XS.iloadN X1.here hx rfl (hb hby own_d20_37) rfl q) ?_
  obtain ⟨T2, X2, e2, st2⟩ := getS2 X1 hx hZ hown (host := "") (Or.inl (own_h hw 92 rfl)) Via.refl e1 (S_HI.ext O0.2) (g := (mkF m 38 #[.val (.ref b), .val (.int 1), .val (.int c0)] [(.int c0), (.int 0), (.ref b)])) rfl (hb hby own_d20_38)
  refine own_by (g' := (mkF m 41 #[.val (.ref b), .val (.int 1), .val (.int c0)] [(.int 0), (.int c0), (.int 0), (.ref b)])) st2 ?_
  refine own_g (mkF m 43 #[.val (.ref b), .val (.int 1), .val (.int c0)] [(.int ((c0 >>> ((0 : Int32) &&& 31)).toInt8.toInt32)), (.int 0), (.ref b)]) (fun _ q => XS.ishr X2.here hx rfl (hb hby own_d20_41) rfl (XS.i2b X2.here hx rfl (hb hby own_d20_42) rfl q)) ?_
  obtain ⟨cl3, Ar3, q3, S3, P3, H3, G3⟩ := id K_b
  have hin3 : ¬ ((0 : Int32) < 0 ∨ cl3.slots.size ≤ ((0 : Int32)).toNatClampNeg) := inb_of S3 ⟨by decide, by decide⟩
  obtain ⟨T4, h4, X4, e4, W4, st4⟩ := stB X2 hx hZ e2 Ar3 (j := (0 : Int32)) hin3 (g := (mkF m 43 #[.val (.ref b), .val (.int 1), .val (.int c0)] [(.int ((c0 >>> ((0 : Int32) &&& 31)).toInt8.toInt32)), (.int 0), (.ref b)])) rfl rfl (hb hby own_d20_43)
  have V4 : Arv Z h4 b kb .byte (6 : Int32) [(.int (((c0 >>> ((0 : Int32) &&& 31)).toInt8.toInt32).toInt8.toInt32)), (.int u1), (.int u2), (.int u3), (.int u4), (.int u5)] (.int 0) := Arv.set Ar3 q3 S3 P3 H3 G3 (fits_nar_byte _) W4 0 rfl (Nat.le_of_ble_eq_true rfl)
  have N4 := Fr.snoc X4 N0 g_b
  refine own_by (g' := (mkF m 44 #[.val (.ref b), .val (.int 1), .val (.int c0)] [])) st4 ?_
  refine own_g (mkF m 47 #[.val (.ref b), .val (.int 1), .val (.int c0)] [(.int c0), (.int 1), (.ref b)]) (fun _ q => XS.aloadN X4.here hx rfl (hb hby own_d20_44) rfl rfl (XS.iloadN X4.here hx rfl (hb hby own_d20_45) rfl (XS.iloadN X4.here hx rfl (hb hby own_d20_46) rfl q))) ?_
  have o5_ := (O0.wr W4 g_b)
  obtain ⟨T6, X6, e6, st6⟩ := getS2 X4 hx hZ hown (host := "") (Or.inl (own_h hw 93 rfl)) Via.refl e4 (S_LO.ext o5_.2) (g := (mkF m 47 #[.val (.ref b), .val (.int 1), .val (.int c0)] [(.int c0), (.int 1), (.ref b)])) rfl (hb hby own_d20_47)
  refine own_by (g' := (mkF m 50 #[.val (.ref b), .val (.int 1), .val (.int c0)] [(.int 8), (.int c0), (.int 1), (.ref b)])) st6 ?_
  refine own_g (mkF m 52 #[.val (.ref b), .val (.int 1), .val (.int c0)] [(.int ((c0 >>> ((8 : Int32) &&& 31)).toInt8.toInt32)), (.int 1), (.ref b)]) (fun _ q => XS.ishr X6.here hx rfl (hb hby own_d20_50) rfl (XS.i2b X6.here hx rfl (hb hby own_d20_51) rfl q)) ?_
  obtain ⟨cl7, Ar7, q7, S7, P7, H7, G7⟩ := id V4
  have hin7 : ¬ ((1 : Int32) < 0 ∨ cl7.slots.size ≤ ((1 : Int32)).toNatClampNeg) := inb_of S7 ⟨by decide, by decide⟩
  obtain ⟨T8, h8, X8, e8, W8, st8⟩ := stB X6 hx hZ e6 Ar7 (j := (1 : Int32)) hin7 (g := (mkF m 52 #[.val (.ref b), .val (.int 1), .val (.int c0)] [(.int ((c0 >>> ((8 : Int32) &&& 31)).toInt8.toInt32)), (.int 1), (.ref b)])) rfl rfl (hb hby own_d20_52)
  have V8 : Arv Z h8 b kb .byte (6 : Int32) [(.int (((c0 >>> ((0 : Int32) &&& 31)).toInt8.toInt32).toInt8.toInt32)), (.int (((c0 >>> ((8 : Int32) &&& 31)).toInt8.toInt32).toInt8.toInt32)), (.int u2), (.int u3), (.int u4), (.int u5)] (.int 0) := Arv.set Ar7 q7 S7 P7 H7 G7 (fits_nar_byte _) W8 1 rfl (Nat.le_of_ble_eq_true rfl)
  have N8 := Fr.snoc X8 N4 g_b
  refine own_by (g' := (mkF m 53 #[.val (.ref b), .val (.int 1), .val (.int c0)] [])) st8 ?_
  have k9_ := (((Keep.refl h0 [b]).wr W4 (Or.inl (List.mem_of_getElem? (i := 0) rfl))).wr W8 (Or.inl (List.mem_of_getElem? (i := 0) rfl)))
  exact own_end X8 (v := none) (fun _ => rfl) hlk (fun hr => X8.returnOut hx Bd.returns (hb hby own_d20_53) hr) (by rw [e8]; exact ⟨rfl, N8, k9_, by have q := V8; simp only [own_bb, StrChars.shr0] at q; exact q⟩) (by decide) (by decide)
theorem own_uci_3_1_ef (m : MethodId) (b : Addr) : entryFrame m #[(.int 1), (.ref b)] 2 = mkF m 0 #[.val (.int 1), .val (.ref b)] [] := by  first | (simp [entryFrame, mkF, argsToLocals, Value.category]; done) | rfl
def own_uci_3_1_Q (Z : State) (b : Addr) (kb : ClassId) (vs : List Value) (dv : Value) (zCS : Int32) (fm : Value) (h0 : Heap) (n0 : Nat) (v : Option Value) (h : Heap) (L : List Loc) : Prop := v = none ∧ Fr n0 L ∧ h = h0
set_option maxRecDepth 65536 in
set_option maxHeartbeats 40000000 in
theorem own_uci_3_1 (l : Launch) (Z : State) (a0 : Array Value) (hw : ∀ d ∈ tables_1, d.before a0 Z = true) (ws : List Jvm.Cond) (b : Addr) (kb : ClassId) (vs : List Value) (dv : Value) (zCS : Int32) (fm : Value) (h0 : Heap) (n0 : Nat) (Z0 : n0 ≤ h0.size) (S_CS : own_A0 Z zCS) (nCS : ¬ zCS = 0) (S_AD : own_A1 Z) (S_HI : own_A2 Z) (S_LO : own_A3 Z) (S_SF : own_A4 Z fm) (hfm : fm.isRef = true) (O0 : Old Z n0 h0) (K_b : Arv Z h0 b kb .byte (6 : Int32) vs dv) :
    MetFree l own_y12 (head1 (Jvm.Cond.code own_y12 jdk_52_method_91_code 2 none :: ws) (⟨2, 0, 0, 27⟩ : Room)) (fun aa U => aa = #[(.int 1), (.ref b)] ∧ Z.Warmed39 U.vm ∧ U.heap = h0) (fun _ _ _ _ _ => True) (fun _ U o U' => ∃ v L, o = .returned v ∧ own_uci_3_1_Q Z b kb vs dv zCS fm h0 n0 v U'.heap L ∧ FrameEnd U o U' L (⟨2, 0, 0, 27⟩ : Room).cells (⟨2, 0, 0, 27⟩ : Room).slots) := by
  refine MetFree.of_bodySF (plainFor_of_name own_pn_java_lang_StringUTF16) hisR ?_
  intro p e s m args below meth c s₁ Bd hml0 hP hK
  obtain ⟨rfl, hZ, hh⟩ := hP
  have hx := Bd.exec
  have hby := Bd.bytes
  have hml : c.maxLocals = 2 := hml0
  have hown : s.vm.findClass "java/lang/StringUTF16" = some m.cls := findClass_of_methodNamed Bd.named
  have hnm := (name_of_methodNamed Bd.named Bd.method).1
  have hlk := Bd.notSynchronized
  have X0 : Stand p l e (⟨2, 0, 0, 27⟩ : Room) s m #[(.int 1), (.ref b)] below meth c s₁ [] 0 0 := Stand.of_body Bd
  have e0 : s₁.heap = h0 := by rw [← hh, Bd.state]; rfl
  have N0 := Fr.nil n0
  refine own_start (Q := own_uci_3_1_Q Z b kb vs dv zCS fm h0 n0) (own_uci_3_1_ef m b) ?_
  refine own_g (mkF m 2 #[.val (.int 1), .val (.ref b)] [(.ref b), (.int 1)]) (fun _ q => XS.iloadN X0.here hx rfl (hb hby own_d23_0) rfl (XS.aloadN X0.here hx rfl (hb hby own_d23_1) rfl rfl q)) ?_
  refine own_callS X0 hx hZ (y := own_y17) hown (own_h hw 103 rfl) (own_h hw 104 rfl) (own_h hw 44 rfl) (own_h hw 105 rfl) (by decide) (own_ul_3 l Z a0 hw [] b kb vs dv zCS fm h0 n0 Z0 S_CS nCS S_AD S_HI S_LO S_SF hfm O0 K_b) (by decide) (by decide) e0 (g := (mkF m 2 #[.val (.int 1), .val (.ref b)] [(.ref b), (.int 1)])) rfl (by rw [hml]; rfl) (argsL := [(.ref b)]) (rest := [(.int 1)]) (lenOf own_pd__28_5bB_29I rfl) rfl (W := 1) (by show 2 * 0 + _ ≤ _; exact Nat.le_of_eq rfl) (hb hby own_d23_2) rfl (by decide) (by decide) ?_
  rintro rv1 T1 L1 X1 ⟨rfl, Nq1, eh1⟩
  have N1 := Fr.app N0 Nq1
  show own_Fin p e below _ T1 (mkF m 5 #[.val (.int 1), .val (.ref b)] [(.int 3), (.int 1)])
  refine own_callS X1 hx hZ (y := own_y6) hown (own_h hw 106 rfl) (own_h hw 70 rfl) (own_h hw 8 rfl) (own_h hw 71 rfl) (by decide) (own_sci_3_1 l Z a0 hw [] zCS fm h0 n0 Z0 S_CS nCS S_AD S_HI S_LO S_SF hfm O0) (by decide) (by decide) eh1 (g := (mkF m 5 #[.val (.int 1), .val (.ref b)] [(.int 3), (.int 1)])) rfl (by rw [hml]; rfl) (argsL := [(.int 1), (.int 3)]) (rest := []) (lenOf own_pd__28II_29V rfl) rfl (W := 0) (by show 2 * 0 + _ ≤ _; exact Nat.le_of_eq rfl) (hb hby own_d23_5) rfl (by decide) (by decide) ?_
  rintro rv2 T2 L2 X2 ⟨rfl, Nq2, eh2⟩
  have N2 := Fr.app N1 Nq2
  show own_Fin p e below _ T2 (mkF m 8 #[.val (.int 1), .val (.ref b)] [])
  exact own_end X2 (v := none) (fun _ => rfl) hlk (fun hr => X2.returnOut hx Bd.returns (hb hby own_d23_8) hr) (by rw [eh2]; exact ⟨rfl, N2, rfl⟩) (by decide) (by decide)
theorem own_get_3_1_ef (m : MethodId) (b : Addr) : entryFrame m #[(.ref b), (.int 1)] 2 = mkF m 0 #[.val (.ref b), .val (.int 1)] [] := by  first | (simp [entryFrame, mkF, argsToLocals, Value.category]; done) | rfl
def own_get_3_1_Q (Z : State) (b : Addr) (kb : ClassId) (u0 : Int32) (u1 : Int32) (u2 : Int32) (u3 : Int32) (u4 : Int32) (u5 : Int32) (zCS : Int32) (fm : Value) (h0 : Heap) (n0 : Nat) (v : Option Value) (h : Heap) (L : List Loc) : Prop := v = some (.int (nar .char (StrChars.pairCh u2 u3))) ∧ Fr n0 L ∧ h = h0
set_option maxRecDepth 65536 in
set_option maxHeartbeats 40000000 in
theorem own_get_3_1 (l : Launch) (Z : State) (a0 : Array Value) (hw : ∀ d ∈ tables_1, d.before a0 Z = true) (ws : List Jvm.Cond) (b : Addr) (kb : ClassId) (u0 : Int32) (u1 : Int32) (u2 : Int32) (u3 : Int32) (u4 : Int32) (u5 : Int32) (zCS : Int32) (fm : Value) (h0 : Heap) (n0 : Nat) (Z0 : n0 ≤ h0.size) (S_CS : own_A0 Z zCS) (nCS : ¬ zCS = 0) (S_AD : own_A1 Z) (S_HI : own_A2 Z) (S_LO : own_A3 Z) (S_SF : own_A4 Z fm) (hfm : fm.isRef = true) (O0 : Old Z n0 h0) (K_b : Arv Z h0 b kb .byte (6 : Int32) [(.int u0), (.int u1), (.int u2), (.int u3), (.int u4), (.int u5)] (.int 0)) :
    MetFree l own_y16 (head1 (Jvm.Cond.code own_y16 jdk_52_method_5_code 2 (some .char) :: ws) (⟨0, 0, 0, 0⟩ : Room)) (fun aa U => aa = #[(.ref b), (.int 1)] ∧ Z.Warmed39 U.vm ∧ U.heap = h0) (fun _ _ _ _ _ => True) (fun _ U o U' => ∃ v L, o = .returned v ∧ own_get_3_1_Q Z b kb u0 u1 u2 u3 u4 u5 zCS fm h0 n0 v U'.heap L ∧ FrameEnd U o U' L (⟨0, 0, 0, 0⟩ : Room).cells (⟨0, 0, 0, 0⟩ : Room).slots) := by
  refine MetFree.of_bodySF (plainFor_of_name own_pn_java_lang_StringUTF16) hisR ?_
  intro p e s m args below meth c s₁ Bd hml0 hP hK
  obtain ⟨rfl, hZ, hh⟩ := hP
  have hx := Bd.exec
  have hby := Bd.bytes
  have hml : c.maxLocals = 2 := hml0
  have hown : s.vm.findClass "java/lang/StringUTF16" = some m.cls := findClass_of_methodNamed Bd.named
  have hnm := (name_of_methodNamed Bd.named Bd.method).1
  have hlk := Bd.notSynchronized
  have X0 : Stand p l e (⟨0, 0, 0, 0⟩ : Room) s m #[(.ref b), (.int 1)] below meth c s₁ [] 0 0 := Stand.of_body Bd
  have e0 : s₁.heap = h0 := by rw [← hh, Bd.state]; rfl
  have N0 := Fr.nil n0
  refine own_start (Q := own_get_3_1_Q Z b kb u0 u1 u2 u3 u4 u5 zCS fm h0 n0) (own_get_3_1_ef m b) ?_
  obtain ⟨T1, X1, e1, st1⟩ := getS2 X0 hx hZ hown (host := "") (Or.inl (own_h hw 91 rfl)) Via.refl e0 (S_AD.ext O0.2) (g := (mkF m 0 #[.val (.ref b), .val (.int 1)] [])) rfl (hb hby own_d21_0)
  refine own_by (g' := (mkF m 3 #[.val (.ref b), .val (.int 1)] [(.int 1)])) st1 ?_
  refine own_g (mkF m 37 #[.val (.ref b), .val (.int 3)] [(.int 2), (.ref b)]) (fun _ q => XS.ifYes X1.here hx rfl (pc0 := 3) (pc' := 28) rfl (hb hby own_d21_3) rfl ((if0 _ _).trans (feq (by decide : ¬ ((1 : Int32) = (0 : Int32)))).2) (by decide) (by decide) (XS.iloadN X1.here hx rfl (hb hby own_d21_28) rfl (XS.iconst X1.here hx rfl (hb hby own_d21_29) (XS.ishl X1.here hx rfl (hb hby own_d21_30) rfl (XS.istoreN X1.here hx rfl (hb hby own_d21_31) rfl (l' := #[.val (.ref b), .val (.int 2)]) rfl (XS.aloadN X1.here hx rfl (hb hby own_d21_32) rfl rfl (XS.iloadN X1.here hx rfl (hb hby own_d21_33) rfl (XS.iinc X1.here hx rfl (hb hby own_d21_34) rfl (l' := #[.val (.ref b), .val (.int 3)]) rfl q)))))))) ?_
  obtain ⟨cl2, Ar2, q2, S2, P2, H2, G2⟩ := id K_b
  have hin2 : ¬ ((2 : Int32) < 0 ∨ cl2.slots.size ≤ ((2 : Int32)).toNatClampNeg) := inb_of S2 ⟨by decide, by decide⟩
  refine own_by (g' := (mkF m 38 #[.val (.ref b), .val (.int 3)] [(.int u2)])) (fun _ kq => X1.baloadBytes hx (j := (2 : Int32)) (v := (.int u2)) (by rw [e1]; exact Ar2.1) (State.isArrayOf_alike hZ.alike Ar2.2.1) Ar2.2.2 hin2 (H2.at hin2 rfl) (g := (mkF m 37 #[.val (.ref b), .val (.int 3)] [(.int 2), (.ref b)])) rfl rfl (hb hby own_d21_37) _ kq) ?_
  refine own_g (mkF m 42 #[.val (.ref b), .val (.int 3)] [(.int (u2 &&& (255 : Int32)))]) (fun _ q => XS.sipush X1.here hx rfl (hb hby own_d21_38) (XS.iand X1.here hx rfl (hb hby own_d21_41) rfl q)) ?_
  obtain ⟨T3, X3, e3, st3⟩ := getS2 X1 hx hZ hown (host := "") (Or.inl (own_h hw 92 rfl)) Via.refl e1 (S_HI.ext O0.2) (g := (mkF m 42 #[.val (.ref b), .val (.int 3)] [(.int (u2 &&& (255 : Int32)))])) rfl (hb hby own_d21_42)
  refine own_by (g' := (mkF m 45 #[.val (.ref b), .val (.int 3)] [(.int 0), (.int (u2 &&& (255 : Int32)))])) st3 ?_
  refine own_g (mkF m 48 #[.val (.ref b), .val (.int 3)] [(.int 3), (.ref b), (.int ((u2 &&& (255 : Int32)) <<< ((0 : Int32) &&& 31)))]) (fun _ q => XS.ishl X3.here hx rfl (hb hby own_d21_45) rfl (XS.aloadN X3.here hx rfl (hb hby own_d21_46) rfl rfl (XS.iloadN X3.here hx rfl (hb hby own_d21_47) rfl q))) ?_
  obtain ⟨cl4, Ar4, q4, S4, P4, H4, G4⟩ := id K_b
  have hin4 : ¬ ((3 : Int32) < 0 ∨ cl4.slots.size ≤ ((3 : Int32)).toNatClampNeg) := inb_of S4 ⟨by decide, by decide⟩
  refine own_by (g' := (mkF m 49 #[.val (.ref b), .val (.int 3)] [(.int u3), (.int ((u2 &&& (255 : Int32)) <<< ((0 : Int32) &&& 31)))])) (fun _ kq => X3.baloadBytes hx (j := (3 : Int32)) (v := (.int u3)) (by rw [e3]; exact Ar4.1) (State.isArrayOf_alike hZ.alike Ar4.2.1) Ar4.2.2 hin4 (H4.at hin4 rfl) (g := (mkF m 48 #[.val (.ref b), .val (.int 3)] [(.int 3), (.ref b), (.int ((u2 &&& (255 : Int32)) <<< ((0 : Int32) &&& 31)))])) rfl rfl (hb hby own_d21_48) _ kq) ?_
  refine own_g (mkF m 53 #[.val (.ref b), .val (.int 3)] [(.int (u3 &&& (255 : Int32))), (.int ((u2 &&& (255 : Int32)) <<< ((0 : Int32) &&& 31)))]) (fun _ q => XS.sipush X3.here hx rfl (hb hby own_d21_49) (XS.iand X3.here hx rfl (hb hby own_d21_52) rfl q)) ?_
  obtain ⟨T5, X5, e5, st5⟩ := getS2 X3 hx hZ hown (host := "") (Or.inl (own_h hw 93 rfl)) Via.refl e3 (S_LO.ext O0.2) (g := (mkF m 53 #[.val (.ref b), .val (.int 3)] [(.int (u3 &&& (255 : Int32))), (.int ((u2 &&& (255 : Int32)) <<< ((0 : Int32) &&& 31)))])) rfl (hb hby own_d21_53)
  refine own_by (g' := (mkF m 56 #[.val (.ref b), .val (.int 3)] [(.int 8), (.int (u3 &&& (255 : Int32))), (.int ((u2 &&& (255 : Int32)) <<< ((0 : Int32) &&& 31)))])) st5 ?_
  refine own_g (mkF m 59 #[.val (.ref b), .val (.int 3)] [(.int ((((u2 &&& (255 : Int32)) <<< ((0 : Int32) &&& 31)) ||| ((u3 &&& (255 : Int32)) <<< ((8 : Int32) &&& 31))).toUInt32.toUInt16.toUInt32.toInt32))]) (fun _ q => XS.ishl X5.here hx rfl (hb hby own_d21_56) rfl (XS.ior X5.here hx rfl (hb hby own_d21_57) rfl (XS.i2c X5.here hx rfl (hb hby own_d21_58) rfl q))) ?_
  exact own_end X5 (v := some (.int (nar .char ((((u2 &&& (255 : Int32)) <<< ((0 : Int32) &&& 31)) ||| ((u3 &&& (255 : Int32)) <<< ((8 : Int32) &&& 31))).toUInt32.toUInt16.toUInt32.toInt32)))) (fun h => by rw [Bd.returns] at h; cases h) hlk (fun hr => retN X5 hx (t := .char) Bd.returns (by simp) (hb hby own_d21_59) hr) (by rw [e5]; exact ⟨rfl, N0, rfl⟩) (by decide) (by decide)
theorem own_put_3_1_ef (m : MethodId) (b : Addr) (c0 : Int32) : entryFrame m #[(.ref b), (.int 1), (.int c0)] 3 = mkF m 0 #[.val (.ref b), .val (.int 1), .val (.int c0)] [] := by  first | (simp [entryFrame, mkF, argsToLocals, Value.category]; done) | rfl
def own_put_3_1_Q (Z : State) (b : Addr) (c0 : Int32) (kb : ClassId) (u0 : Int32) (u1 : Int32) (u2 : Int32) (u3 : Int32) (u4 : Int32) (u5 : Int32) (zCS : Int32) (fm : Value) (h0 : Heap) (n0 : Nat) (v : Option Value) (h : Heap) (L : List Loc) : Prop := v = none ∧ Fr n0 L ∧ Keep h0 h [b] ∧ Arv Z h b kb .byte (6 : Int32) [(.int u0), (.int u1), (.int (StrChars.lo8 c0)), (.int (StrChars.hi8 c0)), (.int u4), (.int u5)] (.int 0)
set_option maxRecDepth 65536 in
set_option maxHeartbeats 40000000 in
theorem own_put_3_1 (l : Launch) (Z : State) (a0 : Array Value) (hw : ∀ d ∈ tables_1, d.before a0 Z = true) (ws : List Jvm.Cond) (b : Addr) (c0 : Int32) (kb : ClassId) (u0 : Int32) (u1 : Int32) (u2 : Int32) (u3 : Int32) (u4 : Int32) (u5 : Int32) (zCS : Int32) (fm : Value) (h0 : Heap) (n0 : Nat) (Z0 : n0 ≤ h0.size) (S_CS : own_A0 Z zCS) (nCS : ¬ zCS = 0) (S_AD : own_A1 Z) (S_HI : own_A2 Z) (S_LO : own_A3 Z) (S_SF : own_A4 Z fm) (hfm : fm.isRef = true) (O0 : Old Z n0 h0) (K_b : Arv Z h0 b kb .byte (6 : Int32) [(.int u0), (.int u1), (.int u2), (.int u3), (.int u4), (.int u5)] (.int 0)) (g_b : n0 ≤ b) :
    MetFree l own_y20 (head1 (Jvm.Cond.code own_y20 jdk_52_method_4_code 3 none :: ws) (⟨0, 0, 0, 0⟩ : Room)) (fun aa U => aa = #[(.ref b), (.int 1), (.int c0)] ∧ Z.Warmed39 U.vm ∧ U.heap = h0) (fun _ _ _ _ _ => True) (fun _ U o U' => ∃ v L, o = .returned v ∧ own_put_3_1_Q Z b c0 kb u0 u1 u2 u3 u4 u5 zCS fm h0 n0 v U'.heap L ∧ FrameEnd U o U' L (⟨0, 0, 0, 0⟩ : Room).cells (⟨0, 0, 0, 0⟩ : Room).slots) := by
  refine MetFree.of_bodySF (plainFor_of_name own_pn_java_lang_StringUTF16) hisR ?_
  intro p e s m args below meth c s₁ Bd hml0 hP hK
  obtain ⟨rfl, hZ, hh⟩ := hP
  have hx := Bd.exec
  have hby := Bd.bytes
  have hml : c.maxLocals = 3 := hml0
  have hown : s.vm.findClass "java/lang/StringUTF16" = some m.cls := findClass_of_methodNamed Bd.named
  have hnm := (name_of_methodNamed Bd.named Bd.method).1
  have hlk := Bd.notSynchronized
  have X0 : Stand p l e (⟨0, 0, 0, 0⟩ : Room) s m #[(.ref b), (.int 1), (.int c0)] below meth c s₁ [] 0 0 := Stand.of_body Bd
  have e0 : s₁.heap = h0 := by rw [← hh, Bd.state]; rfl
  have N0 := Fr.nil n0
  refine own_start (Q := own_put_3_1_Q Z b c0 kb u0 u1 u2 u3 u4 u5 zCS fm h0 n0) (own_put_3_1_ef m b c0) ?_
  obtain ⟨T1, X1, e1, st1⟩ := getS2 X0 hx hZ hown (host := "") (Or.inl (own_h hw 91 rfl)) Via.refl e0 (S_AD.ext O0.2) (g := (mkF m 0 #[.val (.ref b), .val (.int 1), .val (.int c0)] [])) rfl (hb hby own_d20_0)
  refine own_by (g' := (mkF m 3 #[.val (.ref b), .val (.int 1), .val (.int c0)] [(.int 1)])) st1 ?_
  refine own_g (mkF m 37 #[.val (.ref b), .val (.int 3), .val (.int c0)] [(.int 2), (.ref b)]) (fun _ q => XS.ifYes X1.here hx rfl (pc0 := 3) (pc' := 28) rfl (hb hby own_d20_3) rfl ((if0 _ _).trans (feq (by decide : ¬ ((1 : Int32) = (0 : Int32)))).2) (by decide) (by decide) (XS.iloadN X1.here hx rfl (hb hby own_d20_28) rfl (XS.iconst X1.here hx rfl (hb hby own_d20_29) (XS.ishl X1.here hx rfl (hb hby own_d20_30) rfl (XS.istoreN X1.here hx rfl (hb hby own_d20_31) rfl (l' := #[.val (.ref b), .val (.int 2), .val (.int c0)]) rfl (XS.aloadN X1.here hx rfl (hb hby own_d20_32) rfl rfl (XS.iloadN X1.here hx rfl (hb hby own_d20_33) rfl (XS.iinc X1.here hx rfl (hb hby own_d20_34) rfl (l' := #[.val (.ref b), .val (.int 3), .val (.int c0)]) rfl q)))))))) ?_
  refine own_g (mkF m 38 #[.val (.ref b), .val (.int 3), .val (.int c0)] [(.int c0), (.int 2), (.ref b)]) (fun _ q => XS.iloadN X1.here hx rfl (hb hby own_d20_37) rfl q) ?_
  obtain ⟨T2, X2, e2, st2⟩ := getS2 X1 hx hZ hown (host := "") (Or.inl (own_h hw 92 rfl)) Via.refl e1 (S_HI.ext O0.2) (g := (mkF m 38 #[.val (.ref b), .val (.int 3), .val (.int c0)] [(.int c0), (.int 2), (.ref b)])) rfl (hb hby own_d20_38)
  refine own_by (g' := (mkF m 41 #[.val (.ref b), .val (.int 3), .val (.int c0)] [(.int 0), (.int c0), (.int 2), (.ref b)])) st2 ?_
  refine own_g (mkF m 43 #[.val (.ref b), .val (.int 3), .val (.int c0)] [(.int ((c0 >>> ((0 : Int32) &&& 31)).toInt8.toInt32)), (.int 2), (.ref b)]) (fun _ q => XS.ishr X2.here hx rfl (hb hby own_d20_41) rfl (XS.i2b X2.here hx rfl (hb hby own_d20_42) rfl q)) ?_
  obtain ⟨cl3, Ar3, q3, S3, P3, H3, G3⟩ := id K_b
  have hin3 : ¬ ((2 : Int32) < 0 ∨ cl3.slots.size ≤ ((2 : Int32)).toNatClampNeg) := inb_of S3 ⟨by decide, by decide⟩
  obtain ⟨T4, h4, X4, e4, W4, st4⟩ := stB X2 hx hZ e2 Ar3 (j := (2 : Int32)) hin3 (g := (mkF m 43 #[.val (.ref b), .val (.int 3), .val (.int c0)] [(.int ((c0 >>> ((0 : Int32) &&& 31)).toInt8.toInt32)), (.int 2), (.ref b)])) rfl rfl (hb hby own_d20_43)
  have V4 : Arv Z h4 b kb .byte (6 : Int32) [(.int u0), (.int u1), (.int (((c0 >>> ((0 : Int32) &&& 31)).toInt8.toInt32).toInt8.toInt32)), (.int u3), (.int u4), (.int u5)] (.int 0) := Arv.set Ar3 q3 S3 P3 H3 G3 (fits_nar_byte _) W4 2 rfl (Nat.le_of_ble_eq_true rfl)
  have N4 := Fr.snoc X4 N0 g_b
  refine own_by (g' := (mkF m 44 #[.val (.ref b), .val (.int 3), .val (.int c0)] [])) st4 ?_
  refine own_g (mkF m 47 #[.val (.ref b), .val (.int 3), .val (.int c0)] [(.int c0), (.int 3), (.ref b)]) (fun _ q => XS.aloadN X4.here hx rfl (hb hby own_d20_44) rfl rfl (XS.iloadN X4.here hx rfl (hb hby own_d20_45) rfl (XS.iloadN X4.here hx rfl (hb hby own_d20_46) rfl q))) ?_
  have o5_ := (O0.wr W4 g_b)
  obtain ⟨T6, X6, e6, st6⟩ := getS2 X4 hx hZ hown (host := "") (Or.inl (own_h hw 93 rfl)) Via.refl e4 (S_LO.ext o5_.2) (g := (mkF m 47 #[.val (.ref b), .val (.int 3), .val (.int c0)] [(.int c0), (.int 3), (.ref b)])) rfl (hb hby own_d20_47)
  refine own_by (g' := (mkF m 50 #[.val (.ref b), .val (.int 3), .val (.int c0)] [(.int 8), (.int c0), (.int 3), (.ref b)])) st6 ?_
  refine own_g (mkF m 52 #[.val (.ref b), .val (.int 3), .val (.int c0)] [(.int ((c0 >>> ((8 : Int32) &&& 31)).toInt8.toInt32)), (.int 3), (.ref b)]) (fun _ q => XS.ishr X6.here hx rfl (hb hby own_d20_50) rfl (XS.i2b X6.here hx rfl (hb hby own_d20_51) rfl q)) ?_
  obtain ⟨cl7, Ar7, q7, S7, P7, H7, G7⟩ := id V4
  have hin7 : ¬ ((3 : Int32) < 0 ∨ cl7.slots.size ≤ ((3 : Int32)).toNatClampNeg) := inb_of S7 ⟨by decide, by decide⟩
  obtain ⟨T8, h8, X8, e8, W8, st8⟩ := stB X6 hx hZ e6 Ar7 (j := (3 : Int32)) hin7 (g := (mkF m 52 #[.val (.ref b), .val (.int 3), .val (.int c0)] [(.int ((c0 >>> ((8 : Int32) &&& 31)).toInt8.toInt32)), (.int 3), (.ref b)])) rfl rfl (hb hby own_d20_52)
  have V8 : Arv Z h8 b kb .byte (6 : Int32) [(.int u0), (.int u1), (.int (((c0 >>> ((0 : Int32) &&& 31)).toInt8.toInt32).toInt8.toInt32)), (.int (((c0 >>> ((8 : Int32) &&& 31)).toInt8.toInt32).toInt8.toInt32)), (.int u4), (.int u5)] (.int 0) := Arv.set Ar7 q7 S7 P7 H7 G7 (fits_nar_byte _) W8 3 rfl (Nat.le_of_ble_eq_true rfl)
  have N8 := Fr.snoc X8 N4 g_b
  refine own_by (g' := (mkF m 53 #[.val (.ref b), .val (.int 3), .val (.int c0)] [])) st8 ?_
  have k9_ := (((Keep.refl h0 [b]).wr W4 (Or.inl (List.mem_of_getElem? (i := 0) rfl))).wr W8 (Or.inl (List.mem_of_getElem? (i := 0) rfl)))
  exact own_end X8 (v := none) (fun _ => rfl) hlk (fun hr => X8.returnOut hx Bd.returns (hb hby own_d20_53) hr) (by rw [e8]; exact ⟨rfl, N8, k9_, by have q := V8; simp only [own_bb, StrChars.shr0] at q; exact q⟩) (by decide) (by decide)
theorem own_uci_3_2_ef (m : MethodId) (b : Addr) : entryFrame m #[(.int 2), (.ref b)] 2 = mkF m 0 #[.val (.int 2), .val (.ref b)] [] := by  first | (simp [entryFrame, mkF, argsToLocals, Value.category]; done) | rfl
def own_uci_3_2_Q (Z : State) (b : Addr) (kb : ClassId) (vs : List Value) (dv : Value) (zCS : Int32) (fm : Value) (h0 : Heap) (n0 : Nat) (v : Option Value) (h : Heap) (L : List Loc) : Prop := v = none ∧ Fr n0 L ∧ h = h0
set_option maxRecDepth 65536 in
set_option maxHeartbeats 40000000 in
theorem own_uci_3_2 (l : Launch) (Z : State) (a0 : Array Value) (hw : ∀ d ∈ tables_1, d.before a0 Z = true) (ws : List Jvm.Cond) (b : Addr) (kb : ClassId) (vs : List Value) (dv : Value) (zCS : Int32) (fm : Value) (h0 : Heap) (n0 : Nat) (Z0 : n0 ≤ h0.size) (S_CS : own_A0 Z zCS) (nCS : ¬ zCS = 0) (S_AD : own_A1 Z) (S_HI : own_A2 Z) (S_LO : own_A3 Z) (S_SF : own_A4 Z fm) (hfm : fm.isRef = true) (O0 : Old Z n0 h0) (K_b : Arv Z h0 b kb .byte (6 : Int32) vs dv) :
    MetFree l own_y12 (head1 (Jvm.Cond.code own_y12 jdk_52_method_91_code 2 none :: ws) (⟨2, 0, 0, 27⟩ : Room)) (fun aa U => aa = #[(.int 2), (.ref b)] ∧ Z.Warmed39 U.vm ∧ U.heap = h0) (fun _ _ _ _ _ => True) (fun _ U o U' => ∃ v L, o = .returned v ∧ own_uci_3_2_Q Z b kb vs dv zCS fm h0 n0 v U'.heap L ∧ FrameEnd U o U' L (⟨2, 0, 0, 27⟩ : Room).cells (⟨2, 0, 0, 27⟩ : Room).slots) := by
  refine MetFree.of_bodySF (plainFor_of_name own_pn_java_lang_StringUTF16) hisR ?_
  intro p e s m args below meth c s₁ Bd hml0 hP hK
  obtain ⟨rfl, hZ, hh⟩ := hP
  have hx := Bd.exec
  have hby := Bd.bytes
  have hml : c.maxLocals = 2 := hml0
  have hown : s.vm.findClass "java/lang/StringUTF16" = some m.cls := findClass_of_methodNamed Bd.named
  have hnm := (name_of_methodNamed Bd.named Bd.method).1
  have hlk := Bd.notSynchronized
  have X0 : Stand p l e (⟨2, 0, 0, 27⟩ : Room) s m #[(.int 2), (.ref b)] below meth c s₁ [] 0 0 := Stand.of_body Bd
  have e0 : s₁.heap = h0 := by rw [← hh, Bd.state]; rfl
  have N0 := Fr.nil n0
  refine own_start (Q := own_uci_3_2_Q Z b kb vs dv zCS fm h0 n0) (own_uci_3_2_ef m b) ?_
  refine own_g (mkF m 2 #[.val (.int 2), .val (.ref b)] [(.ref b), (.int 2)]) (fun _ q => XS.iloadN X0.here hx rfl (hb hby own_d23_0) rfl (XS.aloadN X0.here hx rfl (hb hby own_d23_1) rfl rfl q)) ?_
  refine own_callS X0 hx hZ (y := own_y17) hown (own_h hw 103 rfl) (own_h hw 104 rfl) (own_h hw 44 rfl) (own_h hw 105 rfl) (by decide) (own_ul_3 l Z a0 hw [] b kb vs dv zCS fm h0 n0 Z0 S_CS nCS S_AD S_HI S_LO S_SF hfm O0 K_b) (by decide) (by decide) e0 (g := (mkF m 2 #[.val (.int 2), .val (.ref b)] [(.ref b), (.int 2)])) rfl (by rw [hml]; rfl) (argsL := [(.ref b)]) (rest := [(.int 2)]) (lenOf own_pd__28_5bB_29I rfl) rfl (W := 1) (by show 2 * 0 + _ ≤ _; exact Nat.le_of_eq rfl) (hb hby own_d23_2) rfl (by decide) (by decide) ?_
  rintro rv1 T1 L1 X1 ⟨rfl, Nq1, eh1⟩
  have N1 := Fr.app N0 Nq1
  show own_Fin p e below _ T1 (mkF m 5 #[.val (.int 2), .val (.ref b)] [(.int 3), (.int 2)])
  refine own_callS X1 hx hZ (y := own_y6) hown (own_h hw 106 rfl) (own_h hw 70 rfl) (own_h hw 8 rfl) (own_h hw 71 rfl) (by decide) (own_sci_3_2 l Z a0 hw [] zCS fm h0 n0 Z0 S_CS nCS S_AD S_HI S_LO S_SF hfm O0) (by decide) (by decide) eh1 (g := (mkF m 5 #[.val (.int 2), .val (.ref b)] [(.int 3), (.int 2)])) rfl (by rw [hml]; rfl) (argsL := [(.int 2), (.int 3)]) (rest := []) (lenOf own_pd__28II_29V rfl) rfl (W := 0) (by show 2 * 0 + _ ≤ _; exact Nat.le_of_eq rfl) (hb hby own_d23_5) rfl (by decide) (by decide) ?_
  rintro rv2 T2 L2 X2 ⟨rfl, Nq2, eh2⟩
  have N2 := Fr.app N1 Nq2
  show own_Fin p e below _ T2 (mkF m 8 #[.val (.int 2), .val (.ref b)] [])
  exact own_end X2 (v := none) (fun _ => rfl) hlk (fun hr => X2.returnOut hx Bd.returns (hb hby own_d23_8) hr) (by rw [eh2]; exact ⟨rfl, N2, rfl⟩) (by decide) (by decide)
theorem own_get_3_2_ef (m : MethodId) (b : Addr) : entryFrame m #[(.ref b), (.int 2)] 2 = mkF m 0 #[.val (.ref b), .val (.int 2)] [] := by  first | (simp [entryFrame, mkF, argsToLocals, Value.category]; done) | rfl
def own_get_3_2_Q (Z : State) (b : Addr) (kb : ClassId) (u0 : Int32) (u1 : Int32) (u2 : Int32) (u3 : Int32) (u4 : Int32) (u5 : Int32) (zCS : Int32) (fm : Value) (h0 : Heap) (n0 : Nat) (v : Option Value) (h : Heap) (L : List Loc) : Prop := v = some (.int (nar .char (StrChars.pairCh u4 u5))) ∧ Fr n0 L ∧ h = h0
set_option maxRecDepth 65536 in
set_option maxHeartbeats 40000000 in
theorem own_get_3_2 (l : Launch) (Z : State) (a0 : Array Value) (hw : ∀ d ∈ tables_1, d.before a0 Z = true) (ws : List Jvm.Cond) (b : Addr) (kb : ClassId) (u0 : Int32) (u1 : Int32) (u2 : Int32) (u3 : Int32) (u4 : Int32) (u5 : Int32) (zCS : Int32) (fm : Value) (h0 : Heap) (n0 : Nat) (Z0 : n0 ≤ h0.size) (S_CS : own_A0 Z zCS) (nCS : ¬ zCS = 0) (S_AD : own_A1 Z) (S_HI : own_A2 Z) (S_LO : own_A3 Z) (S_SF : own_A4 Z fm) (hfm : fm.isRef = true) (O0 : Old Z n0 h0) (K_b : Arv Z h0 b kb .byte (6 : Int32) [(.int u0), (.int u1), (.int u2), (.int u3), (.int u4), (.int u5)] (.int 0)) :
    MetFree l own_y16 (head1 (Jvm.Cond.code own_y16 jdk_52_method_5_code 2 (some .char) :: ws) (⟨0, 0, 0, 0⟩ : Room)) (fun aa U => aa = #[(.ref b), (.int 2)] ∧ Z.Warmed39 U.vm ∧ U.heap = h0) (fun _ _ _ _ _ => True) (fun _ U o U' => ∃ v L, o = .returned v ∧ own_get_3_2_Q Z b kb u0 u1 u2 u3 u4 u5 zCS fm h0 n0 v U'.heap L ∧ FrameEnd U o U' L (⟨0, 0, 0, 0⟩ : Room).cells (⟨0, 0, 0, 0⟩ : Room).slots) := by
  refine MetFree.of_bodySF (plainFor_of_name own_pn_java_lang_StringUTF16) hisR ?_
  intro p e s m args below meth c s₁ Bd hml0 hP hK
  obtain ⟨rfl, hZ, hh⟩ := hP
  have hx := Bd.exec
  have hby := Bd.bytes
  have hml : c.maxLocals = 2 := hml0
  have hown : s.vm.findClass "java/lang/StringUTF16" = some m.cls := findClass_of_methodNamed Bd.named
  have hnm := (name_of_methodNamed Bd.named Bd.method).1
  have hlk := Bd.notSynchronized
  have X0 : Stand p l e (⟨0, 0, 0, 0⟩ : Room) s m #[(.ref b), (.int 2)] below meth c s₁ [] 0 0 := Stand.of_body Bd
  have e0 : s₁.heap = h0 := by rw [← hh, Bd.state]; rfl
  have N0 := Fr.nil n0
  refine own_start (Q := own_get_3_2_Q Z b kb u0 u1 u2 u3 u4 u5 zCS fm h0 n0) (own_get_3_2_ef m b) ?_
  obtain ⟨T1, X1, e1, st1⟩ := getS2 X0 hx hZ hown (host := "") (Or.inl (own_h hw 91 rfl)) Via.refl e0 (S_AD.ext O0.2) (g := (mkF m 0 #[.val (.ref b), .val (.int 2)] [])) rfl (hb hby own_d21_0)
  refine own_by (g' := (mkF m 3 #[.val (.ref b), .val (.int 2)] [(.int 1)])) st1 ?_
  refine own_g (mkF m 37 #[.val (.ref b), .val (.int 5)] [(.int 4), (.ref b)]) (fun _ q => XS.ifYes X1.here hx rfl (pc0 := 3) (pc' := 28) rfl (hb hby own_d21_3) rfl ((if0 _ _).trans (feq (by decide : ¬ ((1 : Int32) = (0 : Int32)))).2) (by decide) (by decide) (XS.iloadN X1.here hx rfl (hb hby own_d21_28) rfl (XS.iconst X1.here hx rfl (hb hby own_d21_29) (XS.ishl X1.here hx rfl (hb hby own_d21_30) rfl (XS.istoreN X1.here hx rfl (hb hby own_d21_31) rfl (l' := #[.val (.ref b), .val (.int 4)]) rfl (XS.aloadN X1.here hx rfl (hb hby own_d21_32) rfl rfl (XS.iloadN X1.here hx rfl (hb hby own_d21_33) rfl (XS.iinc X1.here hx rfl (hb hby own_d21_34) rfl (l' := #[.val (.ref b), .val (.int 5)]) rfl q)))))))) ?_
  obtain ⟨cl2, Ar2, q2, S2, P2, H2, G2⟩ := id K_b
  have hin2 : ¬ ((4 : Int32) < 0 ∨ cl2.slots.size ≤ ((4 : Int32)).toNatClampNeg) := inb_of S2 ⟨by decide, by decide⟩
  refine own_by (g' := (mkF m 38 #[.val (.ref b), .val (.int 5)] [(.int u4)])) (fun _ kq => X1.baloadBytes hx (j := (4 : Int32)) (v := (.int u4)) (by rw [e1]; exact Ar2.1) (State.isArrayOf_alike hZ.alike Ar2.2.1) Ar2.2.2 hin2 (H2.at hin2 rfl) (g := (mkF m 37 #[.val (.ref b), .val (.int 5)] [(.int 4), (.ref b)])) rfl rfl (hb hby own_d21_37) _ kq) ?_
  refine own_g (mkF m 42 #[.val (.ref b), .val (.int 5)] [(.int (u4 &&& (255 : Int32)))]) (fun _ q => XS.sipush X1.here hx rfl (hb hby own_d21_38) (XS.iand X1.here hx rfl (hb hby own_d21_41) rfl q)) ?_
  obtain ⟨T3, X3, e3, st3⟩ := getS2 X1 hx hZ hown (host := "") (Or.inl (own_h hw 92 rfl)) Via.refl e1 (S_HI.ext O0.2) (g := (mkF m 42 #[.val (.ref b), .val (.int 5)] [(.int (u4 &&& (255 : Int32)))])) rfl (hb hby own_d21_42)
  refine own_by (g' := (mkF m 45 #[.val (.ref b), .val (.int 5)] [(.int 0), (.int (u4 &&& (255 : Int32)))])) st3 ?_
  refine own_g (mkF m 48 #[.val (.ref b), .val (.int 5)] [(.int 5), (.ref b), (.int ((u4 &&& (255 : Int32)) <<< ((0 : Int32) &&& 31)))]) (fun _ q => XS.ishl X3.here hx rfl (hb hby own_d21_45) rfl (XS.aloadN X3.here hx rfl (hb hby own_d21_46) rfl rfl (XS.iloadN X3.here hx rfl (hb hby own_d21_47) rfl q))) ?_
  obtain ⟨cl4, Ar4, q4, S4, P4, H4, G4⟩ := id K_b
  have hin4 : ¬ ((5 : Int32) < 0 ∨ cl4.slots.size ≤ ((5 : Int32)).toNatClampNeg) := inb_of S4 ⟨by decide, by decide⟩
  refine own_by (g' := (mkF m 49 #[.val (.ref b), .val (.int 5)] [(.int u5), (.int ((u4 &&& (255 : Int32)) <<< ((0 : Int32) &&& 31)))])) (fun _ kq => X3.baloadBytes hx (j := (5 : Int32)) (v := (.int u5)) (by rw [e3]; exact Ar4.1) (State.isArrayOf_alike hZ.alike Ar4.2.1) Ar4.2.2 hin4 (H4.at hin4 rfl) (g := (mkF m 48 #[.val (.ref b), .val (.int 5)] [(.int 5), (.ref b), (.int ((u4 &&& (255 : Int32)) <<< ((0 : Int32) &&& 31)))])) rfl rfl (hb hby own_d21_48) _ kq) ?_
  refine own_g (mkF m 53 #[.val (.ref b), .val (.int 5)] [(.int (u5 &&& (255 : Int32))), (.int ((u4 &&& (255 : Int32)) <<< ((0 : Int32) &&& 31)))]) (fun _ q => XS.sipush X3.here hx rfl (hb hby own_d21_49) (XS.iand X3.here hx rfl (hb hby own_d21_52) rfl q)) ?_
  obtain ⟨T5, X5, e5, st5⟩ := getS2 X3 hx hZ hown (host := "") (Or.inl (own_h hw 93 rfl)) Via.refl e3 (S_LO.ext O0.2) (g := (mkF m 53 #[.val (.ref b), .val (.int 5)] [(.int (u5 &&& (255 : Int32))), (.int ((u4 &&& (255 : Int32)) <<< ((0 : Int32) &&& 31)))])) rfl (hb hby own_d21_53)
  refine own_by (g' := (mkF m 56 #[.val (.ref b), .val (.int 5)] [(.int 8), (.int (u5 &&& (255 : Int32))), (.int ((u4 &&& (255 : Int32)) <<< ((0 : Int32) &&& 31)))])) st5 ?_
  refine own_g (mkF m 59 #[.val (.ref b), .val (.int 5)] [(.int ((((u4 &&& (255 : Int32)) <<< ((0 : Int32) &&& 31)) ||| ((u5 &&& (255 : Int32)) <<< ((8 : Int32) &&& 31))).toUInt32.toUInt16.toUInt32.toInt32))]) (fun _ q => XS.ishl X5.here hx rfl (hb hby own_d21_56) rfl (XS.ior X5.here hx rfl (hb hby own_d21_57) rfl (XS.i2c X5.here hx rfl (hb hby own_d21_58) rfl q))) ?_
  exact own_end X5 (v := some (.int (nar .char ((((u4 &&& (255 : Int32)) <<< ((0 : Int32) &&& 31)) ||| ((u5 &&& (255 : Int32)) <<< ((8 : Int32) &&& 31))).toUInt32.toUInt16.toUInt32.toInt32)))) (fun h => by rw [Bd.returns] at h; cases h) hlk (fun hr => retN X5 hx (t := .char) Bd.returns (by simp) (hb hby own_d21_59) hr) (by rw [e5]; exact ⟨rfl, N0, rfl⟩) (by decide) (by decide)
theorem own_put_3_2_ef (m : MethodId) (b : Addr) (c0 : Int32) : entryFrame m #[(.ref b), (.int 2), (.int c0)] 3 = mkF m 0 #[.val (.ref b), .val (.int 2), .val (.int c0)] [] := by  first | (simp [entryFrame, mkF, argsToLocals, Value.category]; done) | rfl
def own_put_3_2_Q (Z : State) (b : Addr) (c0 : Int32) (kb : ClassId) (u0 : Int32) (u1 : Int32) (u2 : Int32) (u3 : Int32) (u4 : Int32) (u5 : Int32) (zCS : Int32) (fm : Value) (h0 : Heap) (n0 : Nat) (v : Option Value) (h : Heap) (L : List Loc) : Prop := v = none ∧ Fr n0 L ∧ Keep h0 h [b] ∧ Arv Z h b kb .byte (6 : Int32) [(.int u0), (.int u1), (.int u2), (.int u3), (.int (StrChars.lo8 c0)), (.int (StrChars.hi8 c0))] (.int 0)
set_option maxRecDepth 65536 in
set_option maxHeartbeats 40000000 in
theorem own_put_3_2 (l : Launch) (Z : State) (a0 : Array Value) (hw : ∀ d ∈ tables_1, d.before a0 Z = true) (ws : List Jvm.Cond) (b : Addr) (c0 : Int32) (kb : ClassId) (u0 : Int32) (u1 : Int32) (u2 : Int32) (u3 : Int32) (u4 : Int32) (u5 : Int32) (zCS : Int32) (fm : Value) (h0 : Heap) (n0 : Nat) (Z0 : n0 ≤ h0.size) (S_CS : own_A0 Z zCS) (nCS : ¬ zCS = 0) (S_AD : own_A1 Z) (S_HI : own_A2 Z) (S_LO : own_A3 Z) (S_SF : own_A4 Z fm) (hfm : fm.isRef = true) (O0 : Old Z n0 h0) (K_b : Arv Z h0 b kb .byte (6 : Int32) [(.int u0), (.int u1), (.int u2), (.int u3), (.int u4), (.int u5)] (.int 0)) (g_b : n0 ≤ b) :
    MetFree l own_y20 (head1 (Jvm.Cond.code own_y20 jdk_52_method_4_code 3 none :: ws) (⟨0, 0, 0, 0⟩ : Room)) (fun aa U => aa = #[(.ref b), (.int 2), (.int c0)] ∧ Z.Warmed39 U.vm ∧ U.heap = h0) (fun _ _ _ _ _ => True) (fun _ U o U' => ∃ v L, o = .returned v ∧ own_put_3_2_Q Z b c0 kb u0 u1 u2 u3 u4 u5 zCS fm h0 n0 v U'.heap L ∧ FrameEnd U o U' L (⟨0, 0, 0, 0⟩ : Room).cells (⟨0, 0, 0, 0⟩ : Room).slots) := by
  refine MetFree.of_bodySF (plainFor_of_name own_pn_java_lang_StringUTF16) hisR ?_
  intro p e s m args below meth c s₁ Bd hml0 hP hK
  obtain ⟨rfl, hZ, hh⟩ := hP
  have hx := Bd.exec
  have hby := Bd.bytes
  have hml : c.maxLocals = 3 := hml0
  have hown : s.vm.findClass "java/lang/StringUTF16" = some m.cls := findClass_of_methodNamed Bd.named
  have hnm := (name_of_methodNamed Bd.named Bd.method).1
  have hlk := Bd.notSynchronized
  have X0 : Stand p l e (⟨0, 0, 0, 0⟩ : Room) s m #[(.ref b), (.int 2), (.int c0)] below meth c s₁ [] 0 0 := Stand.of_body Bd
  have e0 : s₁.heap = h0 := by rw [← hh, Bd.state]; rfl
  have N0 := Fr.nil n0
  refine own_start (Q := own_put_3_2_Q Z b c0 kb u0 u1 u2 u3 u4 u5 zCS fm h0 n0) (own_put_3_2_ef m b c0) ?_
  obtain ⟨T1, X1, e1, st1⟩ := getS2 X0 hx hZ hown (host := "") (Or.inl (own_h hw 91 rfl)) Via.refl e0 (S_AD.ext O0.2) (g := (mkF m 0 #[.val (.ref b), .val (.int 2), .val (.int c0)] [])) rfl (hb hby own_d20_0)
  refine own_by (g' := (mkF m 3 #[.val (.ref b), .val (.int 2), .val (.int c0)] [(.int 1)])) st1 ?_
  refine own_g (mkF m 37 #[.val (.ref b), .val (.int 5), .val (.int c0)] [(.int 4), (.ref b)]) (fun _ q => XS.ifYes X1.here hx rfl (pc0 := 3) (pc' := 28) rfl (hb hby own_d20_3) rfl ((if0 _ _).trans (feq (by decide : ¬ ((1 : Int32) = (0 : Int32)))).2) (by decide) (by decide) (XS.iloadN X1.here hx rfl (hb hby own_d20_28) rfl (XS.iconst X1.here hx rfl (hb hby own_d20_29) (XS.ishl X1.here hx rfl (hb hby own_d20_30) rfl (XS.istoreN X1.here hx rfl (hb hby own_d20_31) rfl (l' := #[.val (.ref b), .val (.int 4), .val (.int c0)]) rfl (XS.aloadN X1.here hx rfl (hb hby own_d20_32) rfl rfl (XS.iloadN X1.here hx rfl (hb hby own_d20_33) rfl (XS.iinc X1.here hx rfl (hb hby own_d20_34) rfl (l' := #[.val (.ref b), .val (.int 5), .val (.int c0)]) rfl q)))))))) ?_
  refine own_g (mkF m 38 #[.val (.ref b), .val (.int 5), .val (.int c0)] [(.int c0), (.int 4), (.ref b)]) (fun _ q => XS.iloadN X1.here hx rfl (hb hby own_d20_37) rfl q) ?_
  obtain ⟨T2, X2, e2, st2⟩ := getS2 X1 hx hZ hown (host := "") (Or.inl (own_h hw 92 rfl)) Via.refl e1 (S_HI.ext O0.2) (g := (mkF m 38 #[.val (.ref b), .val (.int 5), .val (.int c0)] [(.int c0), (.int 4), (.ref b)])) rfl (hb hby own_d20_38)
  refine own_by (g' := (mkF m 41 #[.val (.ref b), .val (.int 5), .val (.int c0)] [(.int 0), (.int c0), (.int 4), (.ref b)])) st2 ?_
  refine own_g (mkF m 43 #[.val (.ref b), .val (.int 5), .val (.int c0)] [(.int ((c0 >>> ((0 : Int32) &&& 31)).toInt8.toInt32)), (.int 4), (.ref b)]) (fun _ q => XS.ishr X2.here hx rfl (hb hby own_d20_41) rfl (XS.i2b X2.here hx rfl (hb hby own_d20_42) rfl q)) ?_
  obtain ⟨cl3, Ar3, q3, S3, P3, H3, G3⟩ := id K_b
  have hin3 : ¬ ((4 : Int32) < 0 ∨ cl3.slots.size ≤ ((4 : Int32)).toNatClampNeg) := inb_of S3 ⟨by decide, by decide⟩
  obtain ⟨T4, h4, X4, e4, W4, st4⟩ := stB X2 hx hZ e2 Ar3 (j := (4 : Int32)) hin3 (g := (mkF m 43 #[.val (.ref b), .val (.int 5), .val (.int c0)] [(.int ((c0 >>> ((0 : Int32) &&& 31)).toInt8.toInt32)), (.int 4), (.ref b)])) rfl rfl (hb hby own_d20_43)
  have V4 : Arv Z h4 b kb .byte (6 : Int32) [(.int u0), (.int u1), (.int u2), (.int u3), (.int (((c0 >>> ((0 : Int32) &&& 31)).toInt8.toInt32).toInt8.toInt32)), (.int u5)] (.int 0) := Arv.set Ar3 q3 S3 P3 H3 G3 (fits_nar_byte _) W4 4 rfl (Nat.le_of_ble_eq_true rfl)
  have N4 := Fr.snoc X4 N0 g_b
  refine own_by (g' := (mkF m 44 #[.val (.ref b), .val (.int 5), .val (.int c0)] [])) st4 ?_
  refine own_g (mkF m 47 #[.val (.ref b), .val (.int 5), .val (.int c0)] [(.int c0), (.int 5), (.ref b)]) (fun _ q => XS.aloadN X4.here hx rfl (hb hby own_d20_44) rfl rfl (XS.iloadN X4.here hx rfl (hb hby own_d20_45) rfl (XS.iloadN X4.here hx rfl (hb hby own_d20_46) rfl q))) ?_
  have o5_ := (O0.wr W4 g_b)
  obtain ⟨T6, X6, e6, st6⟩ := getS2 X4 hx hZ hown (host := "") (Or.inl (own_h hw 93 rfl)) Via.refl e4 (S_LO.ext o5_.2) (g := (mkF m 47 #[.val (.ref b), .val (.int 5), .val (.int c0)] [(.int c0), (.int 5), (.ref b)])) rfl (hb hby own_d20_47)
  refine own_by (g' := (mkF m 50 #[.val (.ref b), .val (.int 5), .val (.int c0)] [(.int 8), (.int c0), (.int 5), (.ref b)])) st6 ?_
  refine own_g (mkF m 52 #[.val (.ref b), .val (.int 5), .val (.int c0)] [(.int ((c0 >>> ((8 : Int32) &&& 31)).toInt8.toInt32)), (.int 5), (.ref b)]) (fun _ q => XS.ishr X6.here hx rfl (hb hby own_d20_50) rfl (XS.i2b X6.here hx rfl (hb hby own_d20_51) rfl q)) ?_
  obtain ⟨cl7, Ar7, q7, S7, P7, H7, G7⟩ := id V4
  have hin7 : ¬ ((5 : Int32) < 0 ∨ cl7.slots.size ≤ ((5 : Int32)).toNatClampNeg) := inb_of S7 ⟨by decide, by decide⟩
  obtain ⟨T8, h8, X8, e8, W8, st8⟩ := stB X6 hx hZ e6 Ar7 (j := (5 : Int32)) hin7 (g := (mkF m 52 #[.val (.ref b), .val (.int 5), .val (.int c0)] [(.int ((c0 >>> ((8 : Int32) &&& 31)).toInt8.toInt32)), (.int 5), (.ref b)])) rfl rfl (hb hby own_d20_52)
  have V8 : Arv Z h8 b kb .byte (6 : Int32) [(.int u0), (.int u1), (.int u2), (.int u3), (.int (((c0 >>> ((0 : Int32) &&& 31)).toInt8.toInt32).toInt8.toInt32)), (.int (((c0 >>> ((8 : Int32) &&& 31)).toInt8.toInt32).toInt8.toInt32))] (.int 0) := Arv.set Ar7 q7 S7 P7 H7 G7 (fits_nar_byte _) W8 5 rfl (Nat.le_of_ble_eq_true rfl)
  have N8 := Fr.snoc X8 N4 g_b
  refine own_by (g' := (mkF m 53 #[.val (.ref b), .val (.int 5), .val (.int c0)] [])) st8 ?_
  have k9_ := (((Keep.refl h0 [b]).wr W4 (Or.inl (List.mem_of_getElem? (i := 0) rfl))).wr W8 (Or.inl (List.mem_of_getElem? (i := 0) rfl)))
  exact own_end X8 (v := none) (fun _ => rfl) hlk (fun hr => X8.returnOut hx Bd.returns (hb hby own_d20_53) hr) (by rw [e8]; exact ⟨rfl, N8, k9_, by have q := V8; simp only [own_bb, StrChars.shr0] at q; exact q⟩) (by decide) (by decide)
theorem own_d19_0 : decode jdk_52_method_3_code 0 = .ok (.iload_n 0, 1) := by decide +kernel
theorem own_d19_1 : decode jdk_52_method_3_code 1 = .ok (.ifCond .ge 11, 3) := by decide +kernel
theorem own_d19_12 : decode jdk_52_method_3_code 12 = .ok (.iload_n 0, 1) := by decide +kernel
theorem own_d19_13 : decode jdk_52_method_3_code 13 = .ok (.ldc 20, 2) := by decide +kernel
theorem own_d19_15 : decode jdk_52_method_3_code 15 = .ok (.if_icmp .lt 40, 3) := by decide +kernel
theorem own_d19_55 : decode jdk_52_method_3_code 55 = .ok (.iload_n 0, 1) := by decide +kernel
theorem own_d19_56 : decode jdk_52_method_3_code 56 = .ok (.iconst 1, 1) := by decide +kernel
theorem own_d19_57 : decode jdk_52_method_3_code 57 = .ok (.ishl, 1) := by decide +kernel
theorem own_d19_58 : decode jdk_52_method_3_code 58 = .ok (.ireturn, 1) := by decide +kernel
theorem own_nbl_1_ef (m : MethodId)  : entryFrame m #[(.int 1)] 1 = mkF m 0 #[.val (.int 1)] [] := by  first | (simp [entryFrame, mkF, argsToLocals, Value.category]; done) | rfl
def own_nbl_1_Q (Z : State) (zCS : Int32) (fm : Value) (h0 : Heap) (n0 : Nat) (v : Option Value) (h : Heap) (L : List Loc) : Prop := v = some (.int 2) ∧ Fr n0 L ∧ h = h0
set_option maxRecDepth 65536 in
set_option maxHeartbeats 40000000 in
theorem own_nbl_1 (l : Launch) (Z : State) (a0 : Array Value) (hw : ∀ d ∈ tables_1, d.before a0 Z = true) (ws : List Jvm.Cond) (zCS : Int32) (fm : Value) (h0 : Heap) (n0 : Nat) (Z0 : n0 ≤ h0.size) (S_CS : own_A0 Z zCS) (nCS : ¬ zCS = 0) (S_AD : own_A1 Z) (S_HI : own_A2 Z) (S_LO : own_A3 Z) (S_SF : own_A4 Z fm) (hfm : fm.isRef = true) (O0 : Old Z n0 h0) :
    MetFree l own_y19 (head1 (Jvm.Cond.code own_y19 jdk_52_method_3_code 1 (some .int) :: ws) (⟨0, 0, 0, 0⟩ : Room)) (fun aa U => aa = #[(.int 1)] ∧ Z.Warmed39 U.vm ∧ U.heap = h0) (fun _ _ _ _ _ => True) (fun _ U o U' => ∃ v L, o = .returned v ∧ own_nbl_1_Q Z zCS fm h0 n0 v U'.heap L ∧ FrameEnd U o U' L (⟨0, 0, 0, 0⟩ : Room).cells (⟨0, 0, 0, 0⟩ : Room).slots) := by
  refine MetFree.of_bodySF (plainFor_of_name own_pn_java_lang_StringUTF16) hisR ?_
  intro p e s m args below meth c s₁ Bd hml0 hP hK
  obtain ⟨rfl, hZ, hh⟩ := hP
  have hx := Bd.exec
  have hby := Bd.bytes
  have hml : c.maxLocals = 1 := hml0
  have hown : s.vm.findClass "java/lang/StringUTF16" = some m.cls := findClass_of_methodNamed Bd.named
  have hnm := (name_of_methodNamed Bd.named Bd.method).1
  have hlk := Bd.notSynchronized
  have X0 : Stand p l e (⟨0, 0, 0, 0⟩ : Room) s m #[(.int 1)] below meth c s₁ [] 0 0 := Stand.of_body Bd
  have e0 : s₁.heap = h0 := by rw [← hh, Bd.state]; rfl
  have N0 := Fr.nil n0
  refine own_start (Q := own_nbl_1_Q Z zCS fm h0 n0) (own_nbl_1_ef m ) ?_
  refine own_g (mkF m 13 #[.val (.int 1)] [(.int 1)]) (fun _ q => XS.iloadN X0.here hx rfl (hb hby own_d19_0) rfl (XS.ifYes X0.here hx rfl (pc0 := 1) (pc' := 12) rfl (hb hby own_d19_1) rfl ((if0 _ _).trans (flt (by decide : ¬ ((1 : Int32) < (0 : Int32)))).2.1) (by decide) (by decide) (XS.iloadN X0.here hx rfl (hb hby own_d19_12) rfl q))) ?_
  refine own_by (g' := (mkF m 15 #[.val (.int 1)] [(.int 1073741823), (.int 1)])) (fun _ kq => X0.ldcInt hx hown (mvT hZ (own_h hw 87 rfl)) (g := (mkF m 13 #[.val (.int 1)] [(.int 1)])) rfl (hb hby own_d19_13) _ kq) ?_
  refine own_g (mkF m 58 #[.val (.int 1)] [(.int 2)]) (fun _ q => XS.icmpYes X0.here hx rfl (pc0 := 15) (pc' := 55) rfl (hb hby own_d19_15) rfl (tlt (by decide : (1 : Int32) < (1073741823 : Int32))).1 (by decide) (by decide) (XS.iloadN X0.here hx rfl (hb hby own_d19_55) rfl (XS.iconst X0.here hx rfl (hb hby own_d19_56) (XS.ishl X0.here hx rfl (hb hby own_d19_57) rfl q)))) ?_
  exact own_end X0 (v := some (.int 2)) (fun h => by rw [Bd.returns] at h; cases h) hlk (fun hr => retOut X0 hx Bd.returns rfl (Or.inl ⟨rfl, Or.inl rfl, _, rfl⟩) (hb hby own_d19_58) hr) (by rw [e0]; exact ⟨rfl, N0, rfl⟩) (by decide) (by decide)
theorem own_d18_0 : decode jdk_52_method_2_code 0 = .ok (.iload_n 0, 1) := by decide +kernel
theorem own_d18_1 : decode jdk_52_method_2_code 1 = .ok (.invokestatic 11, 3) := by decide +kernel
theorem own_pd__28I_29I : parseMethodDescriptor "(I)I" = some ⟨[.int], some .int⟩ := by decide +kernel
theorem own_d18_4 : decode jdk_52_method_2_code 4 = .ok (.newarray .byte, 2) := by decide +kernel
theorem own_d18_6 : decode jdk_52_method_2_code 6 = .ok (.areturn, 1) := by decide +kernel
theorem own_nbf_1_ef (m : MethodId)  : entryFrame m #[(.int 1)] 1 = mkF m 0 #[.val (.int 1)] [] := by  first | (simp [entryFrame, mkF, argsToLocals, Value.category]; done) | rfl
def own_nbf_1_Q (Z : State) (zCS : Int32) (fm : Value) (h0 : Heap) (n0 : Nat) (v : Option Value) (h : Heap) (L : List Loc) : Prop := ∃ (t : Addr) (kb : ClassId), v = some (.ref t) ∧ Fr n0 L ∧ Keep h0 h [] ∧ h0.size ≤ t ∧ n0 ≤ t ∧ Arv Z h t kb .byte (2 : Int32) [(.int 0), (.int 0)] (.int 0)
set_option maxRecDepth 65536 in
set_option maxHeartbeats 40000000 in
theorem own_nbf_1 (l : Launch) (Z : State) (a0 : Array Value) (hw : ∀ d ∈ tables_1, d.before a0 Z = true) (ws : List Jvm.Cond) (zCS : Int32) (fm : Value) (h0 : Heap) (n0 : Nat) (Z0 : n0 ≤ h0.size) (S_CS : own_A0 Z zCS) (nCS : ¬ zCS = 0) (S_AD : own_A1 Z) (S_HI : own_A2 Z) (S_LO : own_A3 Z) (S_SF : own_A4 Z fm) (hfm : fm.isRef = true) (O0 : Old Z n0 h0) :
    MetFree l own_y18 (head1 (Jvm.Cond.code own_y18 jdk_52_method_2_code 1 (some (.array .byte)) :: ws) (⟨1, 1, 2, 12⟩ : Room)) (fun aa U => aa = #[(.int 1)] ∧ Z.Warmed39 U.vm ∧ U.heap = h0) (fun _ _ _ _ _ => True) (fun _ U o U' => ∃ v L, o = .returned v ∧ own_nbf_1_Q Z zCS fm h0 n0 v U'.heap L ∧ FrameEnd U o U' L (⟨1, 1, 2, 12⟩ : Room).cells (⟨1, 1, 2, 12⟩ : Room).slots) := by
  refine MetFree.of_bodySF (plainFor_of_name own_pn_java_lang_StringUTF16) hisR ?_
  intro p e s m args below meth c s₁ Bd hml0 hP hK
  obtain ⟨rfl, hZ, hh⟩ := hP
  have hx := Bd.exec
  have hby := Bd.bytes
  have hml : c.maxLocals = 1 := hml0
  have hown : s.vm.findClass "java/lang/StringUTF16" = some m.cls := findClass_of_methodNamed Bd.named
  have hnm := (name_of_methodNamed Bd.named Bd.method).1
  have hlk := Bd.notSynchronized
  have X0 : Stand p l e (⟨1, 1, 2, 12⟩ : Room) s m #[(.int 1)] below meth c s₁ [] 0 0 := Stand.of_body Bd
  have e0 : s₁.heap = h0 := by rw [← hh, Bd.state]; rfl
  have N0 := Fr.nil n0
  refine own_start (Q := own_nbf_1_Q Z zCS fm h0 n0) (own_nbf_1_ef m ) ?_
  refine own_g (mkF m 1 #[.val (.int 1)] [(.int 1)]) (fun _ q => XS.iloadN X0.here hx rfl (hb hby own_d18_0) rfl q) ?_
  refine own_callS X0 hx hZ (y := own_y19) hown (own_h hw 84 rfl) (own_h hw 85 rfl) (own_h hw 44 rfl) (own_h hw 86 rfl) (by decide) (own_nbl_1 l Z a0 hw [] zCS fm h0 n0 Z0 S_CS nCS S_AD S_HI S_LO S_SF hfm O0) (by decide) (by decide) e0 (g := (mkF m 1 #[.val (.int 1)] [(.int 1)])) rfl (by rw [hml]; rfl) (argsL := [(.int 1)]) (rest := []) (lenOf own_pd__28I_29I rfl) rfl (W := 0) (by show 2 * 0 + _ ≤ _; exact Nat.le_of_eq rfl) (hb hby own_d18_1) rfl (by decide) (by decide) ?_
  rintro rv1 T1 L1 X1 ⟨rfl, Nq1, eh1⟩
  have N1 := Fr.app N0 Nq1
  show own_Fin p e below _ T1 (mkF m 4 #[.val (.int 1)] [(.int 2)])
  obtain ⟨T2, h2, k2, X2, e2, E2, A2, st2⟩ := newP X1 hx hZ (own_h hw 20 rfl) eh1 (g := (mkF m 4 #[.val (.int 1)] [(.int 2)])) rfl (hb hby own_d18_4) rfl (by decide) (cap := 2) (by decide) (by decide) (by decide) (by decide)
  obtain ⟨b2, g2⟩ : ∃ z, z = h0.size := ⟨_, rfl⟩
  rw [← g2] at A2 st2
  have g_b2 : n0 ≤ b2 := Nat.le_trans Z0 (Nat.le_of_eq g2.symm)
  have sz_b2 : h0.size ≤ b2 := Nat.le_trans (Keep.refl h0 []).1 (Nat.le_of_eq g2.symm)
  have V_b2 : Arv Z h2 b2 k2 .byte (2 : Int32) [(.int 0), (.int 0)] (.int 0) := (Arv.new A2 (by decide)).pad (pad_rep [] (.int 0) 2)
  refine own_by (g' := (mkF m 6 #[.val (.int 1)] [(.ref b2)])) st2 ?_
  have k3_ := ((Keep.refl h0 []).ext E2)
  exact own_end X2 (v := some (.ref b2)) (fun h => by rw [Bd.returns] at h; cases h) hlk (fun hr => retOut X2 hx Bd.returns (own_narR rfl) (Or.inr (Or.inr (Or.inr (Or.inr ⟨rfl, rfl, rfl⟩)))) (hb hby own_d18_6) hr) (by rw [e2]; exact ⟨b2, k2, rfl, N1, k3_, sz_b2, g_b2, V_b2⟩) (by decide) (by decide)
theorem own_d17_0 : decode jdk_52_method_14_code 0 = .ok (.iload_n 2, 1) := by decide +kernel
theorem own_d17_1 : decode jdk_52_method_14_code 1 = .ok (.invokestatic 107, 3) := by decide +kernel
theorem own_pd__28I_29_5bB : parseMethodDescriptor "(I)[B" = some ⟨[.int], some (.array .byte)⟩ := by decide +kernel
theorem own_d17_4 : decode jdk_52_method_14_code 4 = .ok (.astore_n 3, 1) := by decide +kernel
theorem own_d17_5 : decode jdk_52_method_14_code 5 = .ok (.iconst 0, 1) := by decide +kernel
theorem own_d17_6 : decode jdk_52_method_14_code 6 = .ok (.istore 4, 2) := by decide +kernel
theorem own_d17_8 : decode jdk_52_method_14_code 8 = .ok (.iload 4, 2) := by decide +kernel
theorem own_d17_10 : decode jdk_52_method_14_code 10 = .ok (.iload_n 2, 1) := by decide +kernel
theorem own_d17_11 : decode jdk_52_method_14_code 11 = .ok (.if_icmp .ge 21, 3) := by decide +kernel
theorem own_d17_14 : decode jdk_52_method_14_code 14 = .ok (.aload_n 3, 1) := by decide +kernel
theorem own_d17_15 : decode jdk_52_method_14_code 15 = .ok (.iload 4, 2) := by decide +kernel
theorem own_d17_17 : decode jdk_52_method_14_code 17 = .ok (.aload_n 0, 1) := by decide +kernel
theorem own_d17_18 : decode jdk_52_method_14_code 18 = .ok (.iload_n 1, 1) := by decide +kernel
theorem own_d17_19 : decode jdk_52_method_14_code 19 = .ok (.caload, 1) := by decide +kernel
theorem own_d17_20 : decode jdk_52_method_14_code 20 = .ok (.invokestatic 111, 3) := by decide +kernel
theorem own_pd__28_5bBII_29V : parseMethodDescriptor "([BII)V" = some ⟨[(.array .byte), .int, .int], none⟩ := by decide +kernel
theorem own_d17_23 : decode jdk_52_method_14_code 23 = .ok (.iinc 1 1, 3) := by decide +kernel
theorem own_d17_26 : decode jdk_52_method_14_code 26 = .ok (.iinc 4 1, 3) := by decide +kernel
theorem own_d17_29 : decode jdk_52_method_14_code 29 = .ok (.goto (-21), 3) := by decide +kernel
theorem own_d17_32 : decode jdk_52_method_14_code 32 = .ok (.aload_n 3, 1) := by decide +kernel
theorem own_d17_33 : decode jdk_52_method_14_code 33 = .ok (.areturn, 1) := by decide +kernel
theorem own_tb_1_ef (m : MethodId) (a : Addr) : entryFrame m #[(.ref a), (.int 0), (.int 1)] 5 = mkF m 0 #[.val (.ref a), .val (.int 0), .val (.int 1), .unset, .unset] [] := by  first | (simp [entryFrame, mkF, argsToLocals, Value.category]; done) | rfl
def own_tb_1_Q (Z : State) (a : Addr) (ka : ClassId) (da : Value) (c0 : Int32) (zCS : Int32) (fm : Value) (h0 : Heap) (n0 : Nat) (v : Option Value) (h : Heap) (L : List Loc) : Prop := ∃ (t : Addr) (kb : ClassId), v = some (.ref t) ∧ Fr n0 L ∧ Keep h0 h [] ∧ h0.size ≤ t ∧ n0 ≤ t ∧ Arv Z h t kb .byte (2 : Int32) [(.int (StrChars.lo8 c0)), (.int (StrChars.hi8 c0))] (.int 0)
set_option maxRecDepth 65536 in
set_option maxHeartbeats 40000000 in
theorem own_tb_1 (l : Launch) (Z : State) (a0 : Array Value) (hw : ∀ d ∈ tables_1, d.before a0 Z = true) (ws : List Jvm.Cond) (a : Addr) (ka : ClassId) (da : Value) (c0 : Int32) (zCS : Int32) (fm : Value) (h0 : Heap) (n0 : Nat) (Z0 : n0 ≤ h0.size) (S_CS : own_A0 Z zCS) (nCS : ¬ zCS = 0) (S_AD : own_A1 Z) (S_HI : own_A2 Z) (S_LO : own_A3 Z) (S_SF : own_A4 Z fm) (hfm : fm.isRef = true) (O0 : Old Z n0 h0) (K_a : Arv Z h0 a ka .char (1 : Int32) [(.int c0)] da) :
    MetFree l own_y21 (head1 (Jvm.Cond.code own_y21 jdk_52_method_14_code 5 (some (.array .byte)) :: ws) (⟨2, 1, 2, 24⟩ : Room)) (fun aa U => aa = #[(.ref a), (.int 0), (.int 1)] ∧ Z.Warmed39 U.vm ∧ U.heap = h0) (fun _ _ _ _ _ => True) (fun _ U o U' => ∃ v L, o = .returned v ∧ own_tb_1_Q Z a ka da c0 zCS fm h0 n0 v U'.heap L ∧ FrameEnd U o U' L (⟨2, 1, 2, 24⟩ : Room).cells (⟨2, 1, 2, 24⟩ : Room).slots) := by
  refine MetFree.of_bodySF (plainFor_of_name own_pn_java_lang_StringUTF16) hisR ?_
  intro p e s m args below meth c s₁ Bd hml0 hP hK
  obtain ⟨rfl, hZ, hh⟩ := hP
  have hx := Bd.exec
  have hby := Bd.bytes
  have hml : c.maxLocals = 5 := hml0
  have hown : s.vm.findClass "java/lang/StringUTF16" = some m.cls := findClass_of_methodNamed Bd.named
  have hnm := (name_of_methodNamed Bd.named Bd.method).1
  have hlk := Bd.notSynchronized
  have X0 : Stand p l e (⟨2, 1, 2, 24⟩ : Room) s m #[(.ref a), (.int 0), (.int 1)] below meth c s₁ [] 0 0 := Stand.of_body Bd
  have e0 : s₁.heap = h0 := by rw [← hh, Bd.state]; rfl
  have N0 := Fr.nil n0
  refine own_start (Q := own_tb_1_Q Z a ka da c0 zCS fm h0 n0) (own_tb_1_ef m a) ?_
  refine own_g (mkF m 1 #[.val (.ref a), .val (.int 0), .val (.int 1), .unset, .unset] [(.int 1)]) (fun _ q => XS.iloadN X0.here hx rfl (hb hby own_d17_0) rfl q) ?_
  refine own_callS X0 hx hZ (y := own_y18) hown (own_h hw 81 rfl) (own_h hw 82 rfl) (own_h hw 44 rfl) (own_h hw 83 rfl) (by decide) (own_nbf_1 l Z a0 hw [] zCS fm h0 n0 Z0 S_CS nCS S_AD S_HI S_LO S_SF hfm O0) (by decide) (by decide) e0 (g := (mkF m 1 #[.val (.ref a), .val (.int 0), .val (.int 1), .unset, .unset] [(.int 1)])) rfl (by rw [hml]; rfl) (argsL := [(.int 1)]) (rest := []) (lenOf own_pd__28I_29_5bB rfl) rfl (W := 0) (by show 2 * 0 + _ ≤ _; exact Nat.le_of_eq rfl) (hb hby own_d17_1) rfl (by decide) (by decide) ?_
  rintro rv1 T1 L1 X1 ⟨t0, k0, rfl, Nq1, Kq1, sz1, g1, A1⟩
  have N1 := Fr.app N0 Nq1
  show own_Fin p e below _ T1 (mkF m 4 #[.val (.ref a), .val (.int 0), .val (.int 1), .unset, .unset] [(.ref t0)])
  have ne_a : a ≠ t0 := Nat.ne_of_lt (Nat.lt_of_lt_of_le K_a.lt sz1)
  refine own_g (mkF m 17 #[.val (.ref a), .val (.int 0), .val (.int 1), .val (.ref t0), .val (.int 0)] [(.int 0), (.ref t0)]) (fun _ q => XS.astoreN X1.here hx rfl (hb hby own_d17_4) rfl rfl (l' := #[.val (.ref a), .val (.int 0), .val (.int 1), .val (.ref t0), .unset]) rfl (XS.iconst X1.here hx rfl (hb hby own_d17_5) (XS.istore X1.here hx rfl (hb hby own_d17_6) rfl (l' := #[.val (.ref a), .val (.int 0), .val (.int 1), .val (.ref t0), .val (.int 0)]) rfl (XS.iload X1.here hx rfl (hb hby own_d17_8) rfl (XS.iloadN X1.here hx rfl (hb hby own_d17_10) rfl (XS.icmpNo X1.here hx rfl (hb hby own_d17_11) rfl (tlt (by decide : (0 : Int32) < (1 : Int32))).2.1 (XS.aloadN X1.here hx rfl (hb hby own_d17_14) rfl rfl (XS.iload X1.here hx rfl (hb hby own_d17_15) rfl q)))))))) ?_
  refine own_g (mkF m 19 #[.val (.ref a), .val (.int 0), .val (.int 1), .val (.ref t0), .val (.int 0)] [(.int 0), (.ref a), (.int 0), (.ref t0)]) (fun _ q => XS.aloadN X1.here hx rfl (hb hby own_d17_17) rfl rfl (XS.iloadN X1.here hx rfl (hb hby own_d17_18) rfl q)) ?_
  have a2_a := (K_a.keep Kq1 nin0)
  obtain ⟨cl3, Ar3, q3, S3, P3, H3, G3⟩ := id a2_a
  have hin3 : ¬ ((0 : Int32) < 0 ∨ cl3.slots.size ≤ ((0 : Int32)).toNatClampNeg) := inb_of S3 ⟨by decide, by decide⟩
  refine own_by (g' := (mkF m 20 #[.val (.ref a), .val (.int 0), .val (.int 1), .val (.ref t0), .val (.int 0)] [(.int c0), (.int 0), (.ref t0)])) (fun _ kq => X1.caload hx (j := (0 : Int32)) (v := (.int c0)) Ar3.1 (State.isArrayOf_alike hZ.alike Ar3.2.1) Ar3.2.2 hin3 (H3.at hin3 rfl) (g := (mkF m 19 #[.val (.ref a), .val (.int 0), .val (.int 1), .val (.ref t0), .val (.int 0)] [(.int 0), (.ref a), (.int 0), (.ref t0)])) rfl rfl (hb hby own_d17_19) _ kq) ?_
  have k4_ := ((Keep.refl h0 []).trans Kq1 all0)
  have o5_ := (O0.keep Kq1 all0)
  refine own_callS X1 hx hZ (y := own_y20) hown (own_h hw 88 rfl) (own_h hw 89 rfl) (own_h hw 44 rfl) (own_h hw 90 rfl) (by decide) (own_put_1_0 l Z a0 hw [] t0 c0 k0 (0 : Int32) (0 : Int32) zCS fm T1.heap n0 (Nat.le_trans Z0 k4_.1) S_CS nCS S_AD S_HI S_LO S_SF hfm o5_ A1 g1) (by decide) (by decide) rfl (g := (mkF m 20 #[.val (.ref a), .val (.int 0), .val (.int 1), .val (.ref t0), .val (.int 0)] [(.int c0), (.int 0), (.ref t0)])) rfl (by rw [hml]; rfl) (argsL := [(.ref t0), (.int 0), (.int c0)]) (rest := []) (lenOf own_pd__28_5bBII_29V rfl) rfl (W := 0) (by show 2 * 0 + _ ≤ _; exact Nat.le_of_eq rfl) (hb hby own_d17_20) rfl (by decide) (by decide) ?_
  rintro rv6 T6 L6 X6 ⟨rfl, Nq6, Kq6, A6⟩
  have N6 := Fr.app N1 Nq6
  refine own_g (mkF m 33 #[.val (.ref a), .val (.int 1), .val (.int 1), .val (.ref t0), .val (.int 1)] [(.ref t0)]) (fun _ q => XS.iinc X6.here hx rfl (hb hby own_d17_23) rfl (l' := #[.val (.ref a), .val (.int 1), .val (.int 1), .val (.ref t0), .val (.int 0)]) rfl (XS.iinc X6.here hx rfl (hb hby own_d17_26) rfl (l' := #[.val (.ref a), .val (.int 1), .val (.int 1), .val (.ref t0), .val (.int 1)]) rfl (XS.goto X6.here hx rfl (pc0 := 29) (pc' := 8) rfl (hb hby own_d17_29) (by decide) (by decide) (XS.iload X6.here hx rfl (hb hby own_d17_8) rfl (XS.iloadN X6.here hx rfl (hb hby own_d17_10) rfl (XS.icmpYes X6.here hx rfl (pc0 := 11) (pc' := 32) rfl (hb hby own_d17_11) rfl (flt (by decide : ¬ ((1 : Int32) < (1 : Int32)))).2.1 (by decide) (by decide) (XS.aloadN X6.here hx rfl (hb hby own_d17_32) rfl rfl q))))))) ?_
  have k7_ := (k4_.trans Kq6 (allS (Or.inr sz1) all0))
  exact own_end X6 (v := some (.ref t0)) (fun h => by rw [Bd.returns] at h; cases h) hlk (fun hr => retOut X6 hx Bd.returns (own_narR rfl) (Or.inr (Or.inr (Or.inr (Or.inr ⟨rfl, rfl, rfl⟩)))) (hb hby own_d17_33) hr) (⟨t0, k0, rfl, N6, k7_, sz1, g1, A6⟩) (by decide) (by decide)
theorem own_d9_0 : decode jdk_52_method_21_code 0 = .ok (.iconst 0, 1) := by decide +kernel
theorem own_d9_1 : decode jdk_52_method_21_code 1 = .ok (.istore 5, 2) := by decide +kernel
theorem own_d9_3 : decode jdk_52_method_21_code 3 = .ok (.iload 5, 2) := by decide +kernel
theorem own_d9_5 : decode jdk_52_method_21_code 5 = .ok (.iload 4, 2) := by decide +kernel
theorem own_d9_7 : decode jdk_52_method_21_code 7 = .ok (.if_icmp .ge 37, 3) := by decide +kernel
theorem own_d9_10 : decode jdk_52_method_21_code 10 = .ok (.aload_n 0, 1) := by decide +kernel
theorem own_d9_11 : decode jdk_52_method_21_code 11 = .ok (.iload_n 1, 1) := by decide +kernel
theorem own_d9_12 : decode jdk_52_method_21_code 12 = .ok (.caload, 1) := by decide +kernel
theorem own_d9_13 : decode jdk_52_method_21_code 13 = .ok (.istore 6, 2) := by decide +kernel
theorem own_d9_15 : decode jdk_52_method_21_code 15 = .ok (.iload 6, 2) := by decide +kernel
theorem own_d9_17 : decode jdk_52_method_21_code 17 = .ok (.sipush 255, 3) := by decide +kernel
theorem own_d9_20 : decode jdk_52_method_21_code 20 = .ok (.if_icmp .le 6, 3) := by decide +kernel
theorem own_d9_23 : decode jdk_52_method_21_code 23 = .ok (.iload 5, 2) := by decide +kernel
theorem own_d9_25 : decode jdk_52_method_21_code 25 = .ok (.ireturn, 1) := by decide +kernel
theorem own_d9_26 : decode jdk_52_method_21_code 26 = .ok (.aload_n 2, 1) := by decide +kernel
theorem own_d9_27 : decode jdk_52_method_21_code 27 = .ok (.iload_n 3, 1) := by decide +kernel
theorem own_d9_28 : decode jdk_52_method_21_code 28 = .ok (.iload 6, 2) := by decide +kernel
theorem own_d9_30 : decode jdk_52_method_21_code 30 = .ok (.i2b, 1) := by decide +kernel
theorem own_d9_31 : decode jdk_52_method_21_code 31 = .ok (.bastore, 1) := by decide +kernel
theorem own_d9_32 : decode jdk_52_method_21_code 32 = .ok (.iinc 1 1, 3) := by decide +kernel
theorem own_d9_35 : decode jdk_52_method_21_code 35 = .ok (.iinc 3 1, 3) := by decide +kernel
theorem own_d9_38 : decode jdk_52_method_21_code 38 = .ok (.iinc 5 1, 3) := by decide +kernel
theorem own_d9_41 : decode jdk_52_method_21_code 41 = .ok (.goto (-38), 3) := by decide +kernel
theorem own_d9_44 : decode jdk_52_method_21_code 44 = .ok (.iload 4, 2) := by decide +kernel
theorem own_d9_46 : decode jdk_52_method_21_code 46 = .ok (.ireturn, 1) := by decide +kernel
theorem own_c2_1_ef (m : MethodId) (a : Addr) (b : Addr) : entryFrame m #[(.ref a), (.int 0), (.ref b), (.int 0), (.int 1)] 7 = mkF m 0 #[.val (.ref a), .val (.int 0), .val (.ref b), .val (.int 0), .val (.int 1), .unset, .unset] [] := by  first | (simp [entryFrame, mkF, argsToLocals, Value.category]; done) | rfl
def own_c2_1_Q (Z : State) (a : Addr) (b : Addr) (ka : ClassId) (da : Value) (c0 : Int32) (kb : ClassId) (zCS : Int32) (fm : Value) (h0 : Heap) (n0 : Nat) (v : Option Value) (h : Heap) (L : List Loc) : Prop := Fr n0 L ∧ Keep h0 h [b] ∧ ((v = some (.int 1) ∧ ¬ (255 : Int32) < c0 ∧ Arv Z h b kb .byte (1 : Int32) [(.int (StrChars.lo8 c0))] (.int 0)) ∨ (v = some (.int 0) ∧ (255 : Int32) < c0))
set_option maxRecDepth 65536 in
set_option maxHeartbeats 40000000 in
theorem own_c2_1 (l : Launch) (Z : State) (a0 : Array Value) (hw : ∀ d ∈ tables_1, d.before a0 Z = true) (ws : List Jvm.Cond) (a : Addr) (b : Addr) (ka : ClassId) (da : Value) (c0 : Int32) (kb : ClassId) (zCS : Int32) (fm : Value) (h0 : Heap) (n0 : Nat) (Z0 : n0 ≤ h0.size) (S_CS : own_A0 Z zCS) (nCS : ¬ zCS = 0) (S_AD : own_A1 Z) (S_HI : own_A2 Z) (S_LO : own_A3 Z) (S_SF : own_A4 Z fm) (hfm : fm.isRef = true) (O0 : Old Z n0 h0) (K_a : Arv Z h0 a ka .char (1 : Int32) [(.int c0)] da) (K_b : Arv Z h0 b kb .byte (1 : Int32) [(.int 0)] (.int 0)) (g_b : n0 ≤ b) (n_ab : a ≠ b) :
    MetFree l own_y15 (head1 (Jvm.Cond.code own_y15 jdk_52_method_21_code 7 (some .int) :: ws) (⟨0, 0, 0, 0⟩ : Room)) (fun aa U => aa = #[(.ref a), (.int 0), (.ref b), (.int 0), (.int 1)] ∧ Z.Warmed39 U.vm ∧ U.heap = h0) (fun _ _ _ _ _ => True) (fun _ U o U' => ∃ v L, o = .returned v ∧ own_c2_1_Q Z a b ka da c0 kb zCS fm h0 n0 v U'.heap L ∧ FrameEnd U o U' L (⟨0, 0, 0, 0⟩ : Room).cells (⟨0, 0, 0, 0⟩ : Room).slots) := by
  refine MetFree.of_bodySF (plainFor_of_name own_pn_java_lang_StringUTF16) hisR ?_
  intro p e s m args below meth c s₁ Bd hml0 hP hK
  obtain ⟨rfl, hZ, hh⟩ := hP
  have hx := Bd.exec
  have hby := Bd.bytes
  have hml : c.maxLocals = 7 := hml0
  have hown : s.vm.findClass "java/lang/StringUTF16" = some m.cls := findClass_of_methodNamed Bd.named
  have hnm := (name_of_methodNamed Bd.named Bd.method).1
  have hlk := Bd.notSynchronized
  have X0 : Stand p l e (⟨0, 0, 0, 0⟩ : Room) s m #[(.ref a), (.int 0), (.ref b), (.int 0), (.int 1)] below meth c s₁ [] 0 0 := Stand.of_body Bd
  have e0 : s₁.heap = h0 := by rw [← hh, Bd.state]; rfl
  have N0 := Fr.nil n0
  refine own_start (Q := own_c2_1_Q Z a b ka da c0 kb zCS fm h0 n0) (own_c2_1_ef m a b) ?_
  refine own_g (mkF m 12 #[.val (.ref a), .val (.int 0), .val (.ref b), .val (.int 0), .val (.int 1), .val (.int 0), .unset] [(.int 0), (.ref a)]) (fun _ q => XS.iconst X0.here hx rfl (hb hby own_d9_0) (XS.istore X0.here hx rfl (hb hby own_d9_1) rfl (l' := #[.val (.ref a), .val (.int 0), .val (.ref b), .val (.int 0), .val (.int 1), .val (.int 0), .unset]) rfl (XS.iload X0.here hx rfl (hb hby own_d9_3) rfl (XS.iload X0.here hx rfl (hb hby own_d9_5) rfl (XS.icmpNo X0.here hx rfl (hb hby own_d9_7) rfl (tlt (by decide : (0 : Int32) < (1 : Int32))).2.1 (XS.aloadN X0.here hx rfl (hb hby own_d9_10) rfl rfl (XS.iloadN X0.here hx rfl (hb hby own_d9_11) rfl q))))))) ?_
  obtain ⟨cl1, Ar1, q1, S1, P1, H1, G1⟩ := id K_a
  have hin1 : ¬ ((0 : Int32) < 0 ∨ cl1.slots.size ≤ ((0 : Int32)).toNatClampNeg) := inb_of S1 ⟨by decide, by decide⟩
  refine own_by (g' := (mkF m 13 #[.val (.ref a), .val (.int 0), .val (.ref b), .val (.int 0), .val (.int 1), .val (.int 0), .unset] [(.int c0)])) (fun _ kq => X0.caload hx (j := (0 : Int32)) (v := (.int c0)) (by rw [e0]; exact Ar1.1) (State.isArrayOf_alike hZ.alike Ar1.2.1) Ar1.2.2 hin1 (H1.at hin1 rfl) (g := (mkF m 12 #[.val (.ref a), .val (.int 0), .val (.ref b), .val (.int 0), .val (.int 1), .val (.int 0), .unset] [(.int 0), (.ref a)])) rfl rfl (hb hby own_d9_12) _ kq) ?_
  refine own_g (mkF m 20 #[.val (.ref a), .val (.int 0), .val (.ref b), .val (.int 0), .val (.int 1), .val (.int 0), .val (.int c0)] [(.int 255), (.int c0)]) (fun _ q => XS.istore X0.here hx rfl (hb hby own_d9_13) rfl (l' := #[.val (.ref a), .val (.int 0), .val (.ref b), .val (.int 0), .val (.int 1), .val (.int 0), .val (.int c0)]) rfl (XS.iload X0.here hx rfl (hb hby own_d9_15) rfl (XS.sipush X0.here hx rfl (hb hby own_d9_17) q))) ?_
  by_cases hc2 : (255 : Int32) < c0
  · refine own_g (mkF m 25 #[.val (.ref a), .val (.int 0), .val (.ref b), .val (.int 0), .val (.int 1), .val (.int 0), .val (.int c0)] [(.int 0)]) (fun _ q => XS.icmpNo X0.here hx rfl (hb hby own_d9_20) rfl (tlt hc2).2.2.2 (XS.iload X0.here hx rfl (hb hby own_d9_23) rfl q)) ?_
    exact own_end X0 (v := some (.int 0)) (fun h => by rw [Bd.returns] at h; cases h) hlk (fun hr => retOut X0 hx Bd.returns rfl (Or.inl ⟨rfl, Or.inl rfl, _, rfl⟩) (hb hby own_d9_25) hr) (by rw [e0]; exact ⟨N0, (Keep.refl h0 [b]), Or.inr (⟨rfl, hc2⟩)⟩) (by decide) (by decide)
  · refine own_g (mkF m 31 #[.val (.ref a), .val (.int 0), .val (.ref b), .val (.int 0), .val (.int 1), .val (.int 0), .val (.int c0)] [(.int (c0.toInt8.toInt32)), (.int 0), (.ref b)]) (fun _ q => XS.icmpYes X0.here hx rfl (pc0 := 20) (pc' := 26) rfl (hb hby own_d9_20) rfl (flt hc2).2.2.2 (by decide) (by decide) (XS.aloadN X0.here hx rfl (hb hby own_d9_26) rfl rfl (XS.iloadN X0.here hx rfl (hb hby own_d9_27) rfl (XS.iload X0.here hx rfl (hb hby own_d9_28) rfl (XS.i2b X0.here hx rfl (hb hby own_d9_30) rfl q))))) ?_
    obtain ⟨cl3, Ar3, q3, S3, P3, H3, G3⟩ := id K_b
    have hin3 : ¬ ((0 : Int32) < 0 ∨ cl3.slots.size ≤ ((0 : Int32)).toNatClampNeg) := inb_of S3 ⟨by decide, by decide⟩
    obtain ⟨T4, h4, X4, e4, W4, st4⟩ := stB X0 hx hZ e0 Ar3 (j := (0 : Int32)) hin3 (g := (mkF m 31 #[.val (.ref a), .val (.int 0), .val (.ref b), .val (.int 0), .val (.int 1), .val (.int 0), .val (.int c0)] [(.int (c0.toInt8.toInt32)), (.int 0), (.ref b)])) rfl rfl (hb hby own_d9_31)
    have V4 : Arv Z h4 b kb .byte (1 : Int32) [(.int ((c0.toInt8.toInt32).toInt8.toInt32))] (.int 0) := Arv.set Ar3 q3 S3 P3 H3 G3 (fits_nar_byte _) W4 0 rfl (Nat.le_of_ble_eq_true rfl)
    have N4 := Fr.snoc X4 N0 g_b
    refine own_by (g' := (mkF m 32 #[.val (.ref a), .val (.int 0), .val (.ref b), .val (.int 0), .val (.int 1), .val (.int 0), .val (.int c0)] [])) st4 ?_
    refine own_g (mkF m 46 #[.val (.ref a), .val (.int 1), .val (.ref b), .val (.int 1), .val (.int 1), .val (.int 1), .val (.int c0)] [(.int 1)]) (fun _ q => XS.iinc X4.here hx rfl (hb hby own_d9_32) rfl (l' := #[.val (.ref a), .val (.int 1), .val (.ref b), .val (.int 0), .val (.int 1), .val (.int 0), .val (.int c0)]) rfl (XS.iinc X4.here hx rfl (hb hby own_d9_35) rfl (l' := #[.val (.ref a), .val (.int 1), .val (.ref b), .val (.int 1), .val (.int 1), .val (.int 0), .val (.int c0)]) rfl (XS.iinc X4.here hx rfl (hb hby own_d9_38) rfl (l' := #[.val (.ref a), .val (.int 1), .val (.ref b), .val (.int 1), .val (.int 1), .val (.int 1), .val (.int c0)]) rfl (XS.goto X4.here hx rfl (pc0 := 41) (pc' := 3) rfl (hb hby own_d9_41) (by decide) (by decide) (XS.iload X4.here hx rfl (hb hby own_d9_3) rfl (XS.iload X4.here hx rfl (hb hby own_d9_5) rfl (XS.icmpYes X4.here hx rfl (pc0 := 7) (pc' := 44) rfl (hb hby own_d9_7) rfl (flt (by decide : ¬ ((1 : Int32) < (1 : Int32)))).2.1 (by decide) (by decide) (XS.iload X4.here hx rfl (hb hby own_d9_44) rfl q)))))))) ?_
    have k5_ := ((Keep.refl h0 [b]).wr W4 (Or.inl (List.mem_of_getElem? (i := 0) rfl)))
    exact own_end X4 (v := some (.int 1)) (fun h => by rw [Bd.returns] at h; cases h) hlk (fun hr => retOut X4 hx Bd.returns rfl (Or.inl ⟨rfl, Or.inl rfl, _, rfl⟩) (hb hby own_d9_46) hr) (by rw [e4]; exact ⟨N4, k5_, Or.inl ⟨rfl, hc2, by have q := V4; simp only [own_bb] at q; exact q⟩⟩) (by decide) (by decide)
theorem own_d8_0 : decode jdk_52_method_16_code 0 = .ok (.iload_n 2, 1) := by decide +kernel
theorem own_d8_1 : decode jdk_52_method_16_code 1 = .ok (.newarray .byte, 2) := by decide +kernel
theorem own_d8_3 : decode jdk_52_method_16_code 3 = .ok (.astore_n 3, 1) := by decide +kernel
theorem own_d8_4 : decode jdk_52_method_16_code 4 = .ok (.aload_n 0, 1) := by decide +kernel
theorem own_d8_5 : decode jdk_52_method_16_code 5 = .ok (.iload_n 1, 1) := by decide +kernel
theorem own_d8_6 : decode jdk_52_method_16_code 6 = .ok (.aload_n 3, 1) := by decide +kernel
theorem own_d8_7 : decode jdk_52_method_16_code 7 = .ok (.iconst 0, 1) := by decide +kernel
theorem own_d8_8 : decode jdk_52_method_16_code 8 = .ok (.iload_n 2, 1) := by decide +kernel
theorem own_d8_9 : decode jdk_52_method_16_code 9 = .ok (.invokestatic 115, 3) := by decide +kernel
theorem own_pd__28_5bCI_5bBII_29I : parseMethodDescriptor "([CI[BII)I" = some ⟨[(.array .char), .int, (.array .byte), .int, .int], some .int⟩ := by decide +kernel
theorem own_d8_12 : decode jdk_52_method_16_code 12 = .ok (.istore 4, 2) := by decide +kernel
theorem own_d8_14 : decode jdk_52_method_16_code 14 = .ok (.iload 4, 2) := by decide +kernel
theorem own_d8_16 : decode jdk_52_method_16_code 16 = .ok (.iload_n 2, 1) := by decide +kernel
theorem own_d8_17 : decode jdk_52_method_16_code 17 = .ok (.if_icmp .eq 40, 3) := by decide +kernel
theorem own_d8_57 : decode jdk_52_method_16_code 57 = .ok (.aload_n 3, 1) := by decide +kernel
theorem own_d8_58 : decode jdk_52_method_16_code 58 = .ok (.areturn, 1) := by decide +kernel
theorem own_d8_20 : decode jdk_52_method_16_code 20 = .ok (.aload_n 0, 1) := by decide +kernel
theorem own_d8_21 : decode jdk_52_method_16_code 21 = .ok (.iload_n 1, 1) := by decide +kernel
theorem own_d8_22 : decode jdk_52_method_16_code 22 = .ok (.iload_n 2, 1) := by decide +kernel
theorem own_d8_23 : decode jdk_52_method_16_code 23 = .ok (.invokestatic 119, 3) := by decide +kernel
theorem own_pd__28_5bCII_29_5bB : parseMethodDescriptor "([CII)[B" = some ⟨[(.array .char), .int, .int], some (.array .byte)⟩ := by decide +kernel
theorem own_d8_26 : decode jdk_52_method_16_code 26 = .ok (.astore 5, 2) := by decide +kernel
theorem own_d8_28 : decode jdk_52_method_16_code 28 = .ok (.aload 5, 2) := by decide +kernel
theorem own_d8_30 : decode jdk_52_method_16_code 30 = .ok (.iload 4, 2) := by decide +kernel
theorem own_d8_32 : decode jdk_52_method_16_code 32 = .ok (.invokestatic 71, 3) := by decide +kernel
theorem own_pd__28_5bBI_29C : parseMethodDescriptor "([BI)C" = some ⟨[(.array .byte), .int], some .char⟩ := by decide +kernel
theorem own_d8_35 : decode jdk_52_method_16_code 35 = .ok (.sipush 255, 3) := by decide +kernel
theorem own_d8_38 : decode jdk_52_method_16_code 38 = .ok (.if_icmp .gt 16, 3) := by decide +kernel
theorem own_d8_54 : decode jdk_52_method_16_code 54 = .ok (.aload 5, 2) := by decide +kernel
theorem own_d8_56 : decode jdk_52_method_16_code 56 = .ok (.areturn, 1) := by decide +kernel
theorem own_c1_1_ef (m : MethodId) (a : Addr) : entryFrame m #[(.ref a), (.int 0), (.int 1)] 6 = mkF m 0 #[.val (.ref a), .val (.int 0), .val (.int 1), .unset, .unset, .unset] [] := by  first | (simp [entryFrame, mkF, argsToLocals, Value.category]; done) | rfl
def own_c1_1_Q (Z : State) (a : Addr) (ka : ClassId) (da : Value) (c0 : Int32) (zCS : Int32) (fm : Value) (h0 : Heap) (n0 : Nat) (v : Option Value) (h : Heap) (L : List Loc) : Prop := ∃ (t : Addr) (kb : ClassId), v = some (.ref t) ∧ Fr n0 L ∧ Keep h0 h [] ∧ h0.size ≤ t ∧ n0 ≤ t ∧ ((¬ (255 : Int32) < c0 ∧ Arv Z h t kb .byte (1 : Int32) [(.int (StrChars.lo8 c0))] (.int 0)) ∨ Arv Z h t kb .byte (2 : Int32) [(.int (StrChars.lo8 c0)), (.int (StrChars.hi8 c0))] (.int 0))
set_option maxRecDepth 65536 in
set_option maxHeartbeats 40000000 in
theorem own_c1_1 (l : Launch) (Z : State) (a0 : Array Value) (hw : ∀ d ∈ tables_1, d.before a0 Z = true) (ws : List Jvm.Cond) (a : Addr) (ka : ClassId) (da : Value) (c0 : Int32) (zCS : Int32) (fm : Value) (h0 : Heap) (n0 : Nat) (Z0 : n0 ≤ h0.size) (S_CS : own_A0 Z zCS) (nCS : ¬ zCS = 0) (S_AD : own_A1 Z) (S_HI : own_A2 Z) (S_LO : own_A3 Z) (S_SF : own_A4 Z fm) (hfm : fm.isRef = true) (O0 : Old Z n0 h0) (K_a : Arv Z h0 a ka .char (1 : Int32) [(.int c0)] da) (hb0 : ¬ c0 < 0 ∧ ¬ (65535 : Int32) < c0) (hn0 : nar .char c0 = c0) :
    MetFree l own_y14 (head1 (Jvm.Cond.code own_y14 jdk_52_method_16_code 6 (some (.array .byte)) :: ws) (⟨3, 2, 3, 40⟩ : Room)) (fun aa U => aa = #[(.ref a), (.int 0), (.int 1)] ∧ Z.Warmed39 U.vm ∧ U.heap = h0) (fun _ _ _ _ _ => True) (fun _ U o U' => ∃ v L, o = .returned v ∧ own_c1_1_Q Z a ka da c0 zCS fm h0 n0 v U'.heap L ∧ FrameEnd U o U' L (⟨3, 2, 3, 40⟩ : Room).cells (⟨3, 2, 3, 40⟩ : Room).slots) := by
  refine MetFree.of_bodySF (plainFor_of_name own_pn_java_lang_StringUTF16) hisR ?_
  intro p e s m args below meth c s₁ Bd hml0 hP hK
  obtain ⟨rfl, hZ, hh⟩ := hP
  have hx := Bd.exec
  have hby := Bd.bytes
  have hml : c.maxLocals = 6 := hml0
  have hown : s.vm.findClass "java/lang/StringUTF16" = some m.cls := findClass_of_methodNamed Bd.named
  have hnm := (name_of_methodNamed Bd.named Bd.method).1
  have hlk := Bd.notSynchronized
  have X0 : Stand p l e (⟨3, 2, 3, 40⟩ : Room) s m #[(.ref a), (.int 0), (.int 1)] below meth c s₁ [] 0 0 := Stand.of_body Bd
  have e0 : s₁.heap = h0 := by rw [← hh, Bd.state]; rfl
  have N0 := Fr.nil n0
  refine own_start (Q := own_c1_1_Q Z a ka da c0 zCS fm h0 n0) (own_c1_1_ef m a) ?_
  refine own_g (mkF m 1 #[.val (.ref a), .val (.int 0), .val (.int 1), .unset, .unset, .unset] [(.int 1)]) (fun _ q => XS.iloadN X0.here hx rfl (hb hby own_d8_0) rfl q) ?_
  obtain ⟨T1, h1, k1, X1, e1, E1, A1, st1⟩ := newP X0 hx hZ (own_h hw 20 rfl) e0 (g := (mkF m 1 #[.val (.ref a), .val (.int 0), .val (.int 1), .unset, .unset, .unset] [(.int 1)])) rfl (hb hby own_d8_1) rfl (by decide) (cap := 1) (by decide) (by decide) (by decide) (by decide)
  obtain ⟨b1, g1⟩ : ∃ z, z = h0.size := ⟨_, rfl⟩
  rw [← g1] at A1 st1
  have g_b1 : n0 ≤ b1 := Nat.le_trans Z0 (Nat.le_of_eq g1.symm)
  have sz_b1 : h0.size ≤ b1 := Nat.le_trans (Keep.refl h0 []).1 (Nat.le_of_eq g1.symm)
  have ne_a_b1 : a ≠ b1 := Nat.ne_of_lt (Nat.lt_of_lt_of_le K_a.lt (Nat.le_of_eq g1.symm))
  have V_b1 : Arv Z h1 b1 k1 .byte (1 : Int32) [(.int 0)] (.int 0) := (Arv.new A1 (by decide)).pad (pad_rep [] (.int 0) 1)
  refine own_by (g' := (mkF m 3 #[.val (.ref a), .val (.int 0), .val (.int 1), .unset, .unset, .unset] [(.ref b1)])) st1 ?_
  refine own_g (mkF m 9 #[.val (.ref a), .val (.int 0), .val (.int 1), .val (.ref b1), .unset, .unset] [(.int 1), (.int 0), (.ref b1), (.int 0), (.ref a)]) (fun _ q => XS.astoreN X1.here hx rfl (hb hby own_d8_3) rfl rfl (l' := #[.val (.ref a), .val (.int 0), .val (.int 1), .val (.ref b1), .unset, .unset]) rfl (XS.aloadN X1.here hx rfl (hb hby own_d8_4) rfl rfl (XS.iloadN X1.here hx rfl (hb hby own_d8_5) rfl (XS.aloadN X1.here hx rfl (hb hby own_d8_6) rfl rfl (XS.iconst X1.here hx rfl (hb hby own_d8_7) (XS.iloadN X1.here hx rfl (hb hby own_d8_8) rfl q)))))) ?_
  have k2_ := ((Keep.refl h0 []).ext E1)
  have o3_ := (O0.ext E1)
  have a4_a := (K_a.ext E1)
  refine own_callS X1 hx hZ (y := own_y15) hown (own_h hw 46 rfl) (own_h hw 47 rfl) (own_h hw 44 rfl) (own_h hw 48 rfl) (by decide) (own_c2_1 l Z a0 hw [] a b1 ka da c0 k1 zCS fm h1 n0 (Nat.le_trans Z0 k2_.1) S_CS nCS S_AD S_HI S_LO S_SF hfm o3_ a4_a V_b1 g_b1 ne_a_b1) (by decide) (by decide) e1 (g := (mkF m 9 #[.val (.ref a), .val (.int 0), .val (.int 1), .val (.ref b1), .unset, .unset] [(.int 1), (.int 0), (.ref b1), (.int 0), (.ref a)])) rfl (by rw [hml]; rfl) (argsL := [(.ref a), (.int 0), (.ref b1), (.int 0), (.int 1)]) (rest := []) (lenOf own_pd__28_5bCI_5bBII_29I rfl) rfl (W := 0) (by show 2 * 0 + _ ≤ _; exact Nat.le_of_eq rfl) (hb hby own_d8_9) rfl (by decide) (by decide) ?_
  rintro rv5 T5 L5 X5 ⟨Nq5, Kq5, hv5⟩
  have N5 := Fr.app N0 Nq5
  rcases hv5 with ⟨rfl, ha0, Al5⟩ | ⟨rfl, hw0⟩
  · show own_Fin p e below _ T5 (mkF m 12 #[.val (.ref a), .val (.int 0), .val (.int 1), .val (.ref b1), .unset, .unset] [(.int 1)])
    refine own_g (mkF m 58 #[.val (.ref a), .val (.int 0), .val (.int 1), .val (.ref b1), .val (.int 1), .unset] [(.ref b1)]) (fun _ q => XS.istore X5.here hx rfl (hb hby own_d8_12) rfl (l' := #[.val (.ref a), .val (.int 0), .val (.int 1), .val (.ref b1), .val (.int 1), .unset]) rfl (XS.iload X5.here hx rfl (hb hby own_d8_14) rfl (XS.iloadN X5.here hx rfl (hb hby own_d8_16) rfl (XS.icmpYes X5.here hx rfl (pc0 := 17) (pc' := 57) rfl (hb hby own_d8_17) rfl (teq (by decide : (1 : Int32) = (1 : Int32))).1 (by decide) (by decide) (XS.aloadN X5.here hx rfl (hb hby own_d8_57) rfl rfl q))))) ?_
    have k6_ := (k2_.trans Kq5 (allS (Or.inr sz_b1) all0))
    exact own_end X5 (v := some (.ref b1)) (fun h => by rw [Bd.returns] at h; cases h) hlk (fun hr => retOut X5 hx Bd.returns (own_narR rfl) (Or.inr (Or.inr (Or.inr (Or.inr ⟨rfl, rfl, rfl⟩)))) (hb hby own_d8_58) hr) (⟨b1, k1, rfl, N5, k6_, sz_b1, g_b1, Or.inl ⟨ha0, Al5⟩⟩) (by decide) (by decide)
  · show own_Fin p e below _ T5 (mkF m 12 #[.val (.ref a), .val (.int 0), .val (.int 1), .val (.ref b1), .unset, .unset] [(.int 0)])
    refine own_g (mkF m 23 #[.val (.ref a), .val (.int 0), .val (.int 1), .val (.ref b1), .val (.int 0), .unset] [(.int 1), (.int 0), (.ref a)]) (fun _ q => XS.istore X5.here hx rfl (hb hby own_d8_12) rfl (l' := #[.val (.ref a), .val (.int 0), .val (.int 1), .val (.ref b1), .val (.int 0), .unset]) rfl (XS.iload X5.here hx rfl (hb hby own_d8_14) rfl (XS.iloadN X5.here hx rfl (hb hby own_d8_16) rfl (XS.icmpNo X5.here hx rfl (hb hby own_d8_17) rfl (feq (by decide : ¬ ((0 : Int32) = (1 : Int32)))).1 (XS.aloadN X5.here hx rfl (hb hby own_d8_20) rfl rfl (XS.iloadN X5.here hx rfl (hb hby own_d8_21) rfl (XS.iloadN X5.here hx rfl (hb hby own_d8_22) rfl q))))))) ?_
    have a7_a := (a4_a.keep Kq5 (ninS ne_a_b1 nin0))
    have k8_ := (k2_.trans Kq5 (allS (Or.inr sz_b1) all0))
    have o9_ := (o3_.keep Kq5 (allS g_b1 all0))
    refine own_callS X5 hx hZ (y := own_y21) hown (own_h hw 78 rfl) (own_h hw 79 rfl) (own_h hw 44 rfl) (own_h hw 80 rfl) (by decide) (own_tb_1 l Z a0 hw [] a ka da c0 zCS fm T5.heap n0 (Nat.le_trans Z0 k8_.1) S_CS nCS S_AD S_HI S_LO S_SF hfm o9_ a7_a) (by decide) (by decide) rfl (g := (mkF m 23 #[.val (.ref a), .val (.int 0), .val (.int 1), .val (.ref b1), .val (.int 0), .unset] [(.int 1), (.int 0), (.ref a)])) rfl (by rw [hml]; rfl) (argsL := [(.ref a), (.int 0), (.int 1)]) (rest := []) (lenOf own_pd__28_5bCII_29_5bB rfl) rfl (W := 0) (by show 2 * 0 + _ ≤ _; exact Nat.le_of_eq rfl) (hb hby own_d8_23) rfl (by decide) (by decide) ?_
    rintro rv10 T10 L10 X10 ⟨t0, k0, rfl, Nq10, Kq10, sz10, g10, A10⟩
    have N10 := Fr.app N5 Nq10
    have szz10 := Nat.le_trans k8_.1 sz10
    refine own_g (mkF m 32 #[.val (.ref a), .val (.int 0), .val (.int 1), .val (.ref b1), .val (.int 0), .val (.ref t0)] [(.int 0), (.ref t0)]) (fun _ q => XS.astore X10.here hx rfl (hb hby own_d8_26) rfl rfl (l' := #[.val (.ref a), .val (.int 0), .val (.int 1), .val (.ref b1), .val (.int 0), .val (.ref t0)]) rfl (XS.aload X10.here hx rfl (hb hby own_d8_28) rfl rfl (XS.iload X10.here hx rfl (hb hby own_d8_30) rfl q))) ?_
    have k11_ := (k8_.trans Kq10 all0)
    have o12_ := (o9_.keep Kq10 all0)
    refine own_callS X10 hx hZ (y := own_y16) hown (own_h hw 94 rfl) (own_h hw 95 rfl) (own_h hw 44 rfl) (own_h hw 96 rfl) (by decide) (own_get_1_0 l Z a0 hw [] t0 k0 (StrChars.lo8 c0) (StrChars.hi8 c0) zCS fm T10.heap n0 (Nat.le_trans Z0 k11_.1) S_CS nCS S_AD S_HI S_LO S_SF hfm o12_ A10) (by decide) (by decide) rfl (g := (mkF m 32 #[.val (.ref a), .val (.int 0), .val (.int 1), .val (.ref b1), .val (.int 0), .val (.ref t0)] [(.int 0), (.ref t0)])) rfl (by rw [hml]; rfl) (argsL := [(.ref t0), (.int 0)]) (rest := []) (lenOf own_pd__28_5bBI_29C rfl) rfl (W := 0) (by show 2 * 0 + _ ≤ _; exact Nat.le_of_eq rfl) (hb hby own_d8_32) rfl (by decide) (by decide) ?_
    rintro rv13 T13 L13 X13 ⟨hv13, Nq13, eh13⟩
    have N13 := Fr.app N10 Nq13
    rw [StrChars.pair_says hb0.1 hb0.2, hn0] at hv13
    subst hv13
    refine own_g (mkF m 56 #[.val (.ref a), .val (.int 0), .val (.int 1), .val (.ref b1), .val (.int 0), .val (.ref t0)] [(.ref t0)]) (fun _ q => XS.sipush X13.here hx rfl (hb hby own_d8_35) (XS.icmpYes X13.here hx rfl (pc0 := 38) (pc' := 54) rfl (hb hby own_d8_38) rfl (tlt hw0).2.2.1 (by decide) (by decide) (XS.aload X13.here hx rfl (hb hby own_d8_54) rfl rfl q))) ?_
    exact own_end X13 (v := some (.ref t0)) (fun h => by rw [Bd.returns] at h; cases h) hlk (fun hr => retOut X13 hx Bd.returns (own_narR rfl) (Or.inr (Or.inr (Or.inr (Or.inr ⟨rfl, rfl, rfl⟩)))) (hb hby own_d8_56) hr) (by rw [eh13]; exact ⟨t0, k0, rfl, N13, k11_, szz10, g10, Or.inr A10⟩) (by decide) (by decide)
theorem own_d10_0 : decode jdk_52_method_15_code 0 = .ok (.iload_n 1, 1) := by decide +kernel
theorem own_d10_1 : decode jdk_52_method_15_code 1 = .ok (.aload_n 0, 1) := by decide +kernel
theorem own_d10_2 : decode jdk_52_method_15_code 2 = .ok (.arraylength, 1) := by decide +kernel
theorem own_d10_3 : decode jdk_52_method_15_code 3 = .ok (.isub, 1) := by decide +kernel
theorem own_d10_4 : decode jdk_52_method_15_code 4 = .ok (.bipush 31, 2) := by decide +kernel
theorem own_d10_6 : decode jdk_52_method_15_code 6 = .ok (.iushr, 1) := by decide +kernel
theorem own_d10_7 : decode jdk_52_method_15_code 7 = .ok (.i2b, 1) := by decide +kernel
theorem own_d10_8 : decode jdk_52_method_15_code 8 = .ok (.ireturn, 1) := by decide +kernel
theorem own_co_1_1_ef (m : MethodId) (b : Addr) : entryFrame m #[(.ref b), (.int 1)] 2 = mkF m 0 #[.val (.ref b), .val (.int 1)] [] := by  first | (simp [entryFrame, mkF, argsToLocals, Value.category]; done) | rfl
def own_co_1_1_Q (Z : State) (b : Addr) (kb : ClassId) (vs : List Value) (dv : Value) (zCS : Int32) (fm : Value) (h0 : Heap) (n0 : Nat) (v : Option Value) (h : Heap) (L : List Loc) : Prop := v = some (.int 0) ∧ Fr n0 L ∧ h = h0
set_option maxRecDepth 65536 in
set_option maxHeartbeats 40000000 in
theorem own_co_1_1 (l : Launch) (Z : State) (a0 : Array Value) (hw : ∀ d ∈ tables_1, d.before a0 Z = true) (ws : List Jvm.Cond) (b : Addr) (kb : ClassId) (vs : List Value) (dv : Value) (zCS : Int32) (fm : Value) (h0 : Heap) (n0 : Nat) (Z0 : n0 ≤ h0.size) (S_CS : own_A0 Z zCS) (nCS : ¬ zCS = 0) (S_AD : own_A1 Z) (S_HI : own_A2 Z) (S_LO : own_A3 Z) (S_SF : own_A4 Z fm) (hfm : fm.isRef = true) (O0 : Old Z n0 h0) (K_b : Arv Z h0 b kb .byte (1 : Int32) vs dv) :
    MetFree l own_y13 (head1 (Jvm.Cond.code own_y13 jdk_52_method_15_code 2 (some .byte) :: ws) (⟨0, 0, 0, 0⟩ : Room)) (fun aa U => aa = #[(.ref b), (.int 1)] ∧ Z.Warmed39 U.vm ∧ U.heap = h0) (fun _ _ _ _ _ => True) (fun _ U o U' => ∃ v L, o = .returned v ∧ own_co_1_1_Q Z b kb vs dv zCS fm h0 n0 v U'.heap L ∧ FrameEnd U o U' L (⟨0, 0, 0, 0⟩ : Room).cells (⟨0, 0, 0, 0⟩ : Room).slots) := by
  refine MetFree.of_bodySF (plainFor_of_name own_pn_java_lang_StringUTF16) hisR ?_
  intro p e s m args below meth c s₁ Bd hml0 hP hK
  obtain ⟨rfl, hZ, hh⟩ := hP
  have hx := Bd.exec
  have hby := Bd.bytes
  have hml : c.maxLocals = 2 := hml0
  have hown : s.vm.findClass "java/lang/StringUTF16" = some m.cls := findClass_of_methodNamed Bd.named
  have hnm := (name_of_methodNamed Bd.named Bd.method).1
  have hlk := Bd.notSynchronized
  have X0 : Stand p l e (⟨0, 0, 0, 0⟩ : Room) s m #[(.ref b), (.int 1)] below meth c s₁ [] 0 0 := Stand.of_body Bd
  have e0 : s₁.heap = h0 := by rw [← hh, Bd.state]; rfl
  have N0 := Fr.nil n0
  refine own_start (Q := own_co_1_1_Q Z b kb vs dv zCS fm h0 n0) (own_co_1_1_ef m b) ?_
  refine own_g (mkF m 2 #[.val (.ref b), .val (.int 1)] [(.ref b), (.int 1)]) (fun _ q => XS.iloadN X0.here hx rfl (hb hby own_d10_0) rfl (XS.aloadN X0.here hx rfl (hb hby own_d10_1) rfl rfl q)) ?_
  obtain ⟨cl1, Ar1, q1, S1, P1, H1, G1⟩ := id K_b
  refine own_by (g' := (mkF m 3 #[.val (.ref b), .val (.int 1)] [(.int 1), (.int 1)])) (fun _ kq => X0.arraylength hx (by rw [e0]; exact Ar1.1) (State.isArrayOf_alike hZ.alike Ar1.2.1) (g := (mkF m 2 #[.val (.ref b), .val (.int 1)] [(.ref b), (.int 1)])) rfl rfl (hb hby own_d10_2) _ (by rw [len_of S1 P1]; exact kq)) ?_
  refine own_g (mkF m 8 #[.val (.ref b), .val (.int 1)] [(.int 0)]) (fun _ q => XS.isub X0.here hx rfl (hb hby own_d10_3) rfl (XS.bipush X0.here hx rfl (hb hby own_d10_4) (XS.iushr X0.here hx rfl (hb hby own_d10_6) rfl (XS.i2b X0.here hx rfl (hb hby own_d10_7) rfl q)))) ?_
  exact own_end X0 (v := some (.int (nar .byte (0 : Int32)))) (fun h => by rw [Bd.returns] at h; cases h) hlk (fun hr => retN X0 hx (t := .byte) Bd.returns (by simp) (hb hby own_d10_8) hr) (by rw [e0]; exact ⟨rfl, N0, rfl⟩) (by decide) (by decide)
theorem own_co_2_1_ef (m : MethodId) (b : Addr) : entryFrame m #[(.ref b), (.int 1)] 2 = mkF m 0 #[.val (.ref b), .val (.int 1)] [] := by  first | (simp [entryFrame, mkF, argsToLocals, Value.category]; done) | rfl
def own_co_2_1_Q (Z : State) (b : Addr) (kb : ClassId) (vs : List Value) (dv : Value) (zCS : Int32) (fm : Value) (h0 : Heap) (n0 : Nat) (v : Option Value) (h : Heap) (L : List Loc) : Prop := v = some (.int 1) ∧ Fr n0 L ∧ h = h0
set_option maxRecDepth 65536 in
set_option maxHeartbeats 40000000 in
theorem own_co_2_1 (l : Launch) (Z : State) (a0 : Array Value) (hw : ∀ d ∈ tables_1, d.before a0 Z = true) (ws : List Jvm.Cond) (b : Addr) (kb : ClassId) (vs : List Value) (dv : Value) (zCS : Int32) (fm : Value) (h0 : Heap) (n0 : Nat) (Z0 : n0 ≤ h0.size) (S_CS : own_A0 Z zCS) (nCS : ¬ zCS = 0) (S_AD : own_A1 Z) (S_HI : own_A2 Z) (S_LO : own_A3 Z) (S_SF : own_A4 Z fm) (hfm : fm.isRef = true) (O0 : Old Z n0 h0) (K_b : Arv Z h0 b kb .byte (2 : Int32) vs dv) :
    MetFree l own_y13 (head1 (Jvm.Cond.code own_y13 jdk_52_method_15_code 2 (some .byte) :: ws) (⟨0, 0, 0, 0⟩ : Room)) (fun aa U => aa = #[(.ref b), (.int 1)] ∧ Z.Warmed39 U.vm ∧ U.heap = h0) (fun _ _ _ _ _ => True) (fun _ U o U' => ∃ v L, o = .returned v ∧ own_co_2_1_Q Z b kb vs dv zCS fm h0 n0 v U'.heap L ∧ FrameEnd U o U' L (⟨0, 0, 0, 0⟩ : Room).cells (⟨0, 0, 0, 0⟩ : Room).slots) := by
  refine MetFree.of_bodySF (plainFor_of_name own_pn_java_lang_StringUTF16) hisR ?_
  intro p e s m args below meth c s₁ Bd hml0 hP hK
  obtain ⟨rfl, hZ, hh⟩ := hP
  have hx := Bd.exec
  have hby := Bd.bytes
  have hml : c.maxLocals = 2 := hml0
  have hown : s.vm.findClass "java/lang/StringUTF16" = some m.cls := findClass_of_methodNamed Bd.named
  have hnm := (name_of_methodNamed Bd.named Bd.method).1
  have hlk := Bd.notSynchronized
  have X0 : Stand p l e (⟨0, 0, 0, 0⟩ : Room) s m #[(.ref b), (.int 1)] below meth c s₁ [] 0 0 := Stand.of_body Bd
  have e0 : s₁.heap = h0 := by rw [← hh, Bd.state]; rfl
  have N0 := Fr.nil n0
  refine own_start (Q := own_co_2_1_Q Z b kb vs dv zCS fm h0 n0) (own_co_2_1_ef m b) ?_
  refine own_g (mkF m 2 #[.val (.ref b), .val (.int 1)] [(.ref b), (.int 1)]) (fun _ q => XS.iloadN X0.here hx rfl (hb hby own_d10_0) rfl (XS.aloadN X0.here hx rfl (hb hby own_d10_1) rfl rfl q)) ?_
  obtain ⟨cl1, Ar1, q1, S1, P1, H1, G1⟩ := id K_b
  refine own_by (g' := (mkF m 3 #[.val (.ref b), .val (.int 1)] [(.int 2), (.int 1)])) (fun _ kq => X0.arraylength hx (by rw [e0]; exact Ar1.1) (State.isArrayOf_alike hZ.alike Ar1.2.1) (g := (mkF m 2 #[.val (.ref b), .val (.int 1)] [(.ref b), (.int 1)])) rfl rfl (hb hby own_d10_2) _ (by rw [len_of S1 P1]; exact kq)) ?_
  refine own_g (mkF m 8 #[.val (.ref b), .val (.int 1)] [(.int 1)]) (fun _ q => XS.isub X0.here hx rfl (hb hby own_d10_3) rfl (XS.bipush X0.here hx rfl (hb hby own_d10_4) (XS.iushr X0.here hx rfl (hb hby own_d10_6) rfl (XS.i2b X0.here hx rfl (hb hby own_d10_7) rfl q)))) ?_
  exact own_end X0 (v := some (.int (nar .byte (1 : Int32)))) (fun h => by rw [Bd.returns] at h; cases h) hlk (fun hr => retN X0 hx (t := .byte) Bd.returns (by simp) (hb hby own_d10_8) hr) (by rw [e0]; exact ⟨rfl, N0, rfl⟩) (by decide) (by decide)
theorem own_d3_27 : decode jdk_42_method_149_code 27 = .ok (.getstatic 38, 3) := by decide +kernel
theorem own_d3_30 : decode jdk_42_method_149_code 30 = .ok (.ifCond .eq 28, 3) := by decide +kernel
theorem own_d3_33 : decode jdk_42_method_149_code 33 = .ok (.aload_n 1, 1) := by decide +kernel
theorem own_d3_34 : decode jdk_42_method_149_code 34 = .ok (.iload_n 2, 1) := by decide +kernel
theorem own_d3_35 : decode jdk_42_method_149_code 35 = .ok (.iload_n 3, 1) := by decide +kernel
theorem own_d3_36 : decode jdk_42_method_149_code 36 = .ok (.invokestatic 177, 3) := by decide +kernel
theorem own_d3_39 : decode jdk_42_method_149_code 39 = .ok (.astore 5, 2) := by decide +kernel
theorem own_d3_41 : decode jdk_42_method_149_code 41 = .ok (.aload_n 0, 1) := by decide +kernel
theorem own_d3_42 : decode jdk_42_method_149_code 42 = .ok (.aload 5, 2) := by decide +kernel
theorem own_d3_44 : decode jdk_42_method_149_code 44 = .ok (.iload_n 3, 1) := by decide +kernel
theorem own_d3_45 : decode jdk_42_method_149_code 45 = .ok (.invokestatic 47, 3) := by decide +kernel
theorem own_pd__28_5bBI_29B : parseMethodDescriptor "([BI)B" = some ⟨[(.array .byte), .int], some .byte⟩ := by decide +kernel
theorem own_d3_48 : decode jdk_42_method_149_code 48 = .ok (.putfield 15, 3) := by decide +kernel
theorem own_d3_51 : decode jdk_42_method_149_code 51 = .ok (.aload_n 0, 1) := by decide +kernel
theorem own_d3_52 : decode jdk_42_method_149_code 52 = .ok (.aload 5, 2) := by decide +kernel
theorem own_d3_54 : decode jdk_42_method_149_code 54 = .ok (.putfield 9, 3) := by decide +kernel
theorem own_d3_57 : decode jdk_42_method_149_code 57 = .ok (.return_, 1) := by decide +kernel
theorem own_i8_1_ef (m : MethodId) (x0 : Addr) (a : Addr) : entryFrame m #[(.ref x0), (.ref a), (.int 0), (.int 1), .null] 6 = mkF m 0 #[.val (.ref x0), .val (.ref a), .val (.int 0), .val (.int 1), .val .null, .unset] [] := by  first | (simp [entryFrame, mkF, argsToLocals, Value.category]; done) | rfl
def own_i8_1_Q (Z : State) (x0 : Addr) (a : Addr) (ka : ClassId) (da : Value) (c0 : Int32) (zCS : Int32) (fm : Value) (h0 : Heap) (n0 : Nat) (v : Option Value) (h : Heap) (L : List Loc) : Prop := v = none ∧ Fr n0 L ∧ Keep h0 h [x0] ∧ Exa Z h x0 "java/lang/String" ∧ ∃ (t : Addr) (kb : ClassId), Fld Z h x0 "java/lang/String" "value" "[B" (.ref t) ∧ ((¬ (255 : Int32) < c0 ∧ Fld Z h x0 "java/lang/String" "coder" "B" (.int 0) ∧ Arv Z h t kb .byte (1 : Int32) [(.int (StrChars.lo8 c0))] (.int 0)) ∨ (Fld Z h x0 "java/lang/String" "coder" "B" (.int 1) ∧ Arv Z h t kb .byte (2 : Int32) [(.int (StrChars.lo8 c0)), (.int (StrChars.hi8 c0))] (.int 0)))
set_option maxRecDepth 65536 in
set_option maxHeartbeats 40000000 in
theorem own_i8_1 (l : Launch) (Z : State) (a0 : Array Value) (hw : ∀ d ∈ tables_1, d.before a0 Z = true) (ws : List Jvm.Cond) (x0 : Addr) (a : Addr) (ka : ClassId) (da : Value) (c0 : Int32) (zCS : Int32) (fm : Value) (h0 : Heap) (n0 : Nat) (Z0 : n0 ≤ h0.size) (S_CS : own_A0 Z zCS) (nCS : ¬ zCS = 0) (S_AD : own_A1 Z) (S_HI : own_A2 Z) (S_LO : own_A3 Z) (S_SF : own_A4 Z fm) (hfm : fm.isRef = true) (O0 : Old Z n0 h0) (E_x : Exa Z h0 x0 "java/lang/String") (V_x : Fld Z h0 x0 "java/lang/String" "value" "[B" .null) (C_x : Fld Z h0 x0 "java/lang/String" "coder" "B" (.int 0)) (g_x : n0 ≤ x0) (K_a : Arv Z h0 a ka .char (1 : Int32) [(.int c0)] da) (n_ax : a ≠ x0) (hb0 : ¬ c0 < 0 ∧ ¬ (65535 : Int32) < c0) (hn0 : nar .char c0 = c0) :
    MetFree l own_y4 (head1 (Jvm.Cond.code own_y4 jdk_42_method_149_code 6 none :: ws) (⟨4, 2, 3, 57⟩ : Room)) (fun aa U => aa = #[(.ref x0), (.ref a), (.int 0), (.int 1), .null] ∧ Z.Warmed39 U.vm ∧ U.heap = h0) (fun _ _ _ _ _ => True) (fun _ U o U' => ∃ v L, o = .returned v ∧ own_i8_1_Q Z x0 a ka da c0 zCS fm h0 n0 v U'.heap L ∧ FrameEnd U o U' L (⟨4, 2, 3, 57⟩ : Room).cells (⟨4, 2, 3, 57⟩ : Room).slots) := by
  refine MetFree.of_bodySF (plainFor_of_name own_pn_java_lang_String) hisR ?_
  intro p e s m args below meth c s₁ Bd hml0 hP hK
  obtain ⟨rfl, hZ, hh⟩ := hP
  have hx := Bd.exec
  have hby := Bd.bytes
  have hml : c.maxLocals = 6 := hml0
  have hown : s.vm.findClass "java/lang/String" = some m.cls := findClass_of_methodNamed Bd.named
  have hnm := (name_of_methodNamed Bd.named Bd.method).1
  have hlk := Bd.notSynchronized
  have X0 : Stand p l e (⟨4, 2, 3, 57⟩ : Room) s m #[(.ref x0), (.ref a), (.int 0), (.int 1), .null] below meth c s₁ [] 0 0 := Stand.of_body Bd
  have e0 : s₁.heap = h0 := by rw [← hh, Bd.state]; rfl
  have N0 := Fr.nil n0
  refine own_start (Q := own_i8_1_Q Z x0 a ka da c0 zCS fm h0 n0) (own_i8_1_ef m x0 a) ?_
  refine own_g (mkF m 1 #[.val (.ref x0), .val (.ref a), .val (.int 0), .val (.int 1), .val .null, .unset] [(.ref x0)]) (fun _ q => XS.aloadN X0.here hx rfl (hb hby own_d3_0) rfl rfl q) ?_
  obtain ⟨T1, X1, e1, st1⟩ := initO X0 hx hZ hown (own_h hw 16 rfl) (own_h hw 17 rfl) (own_h hw 18 rfl) e0 (g := (mkF m 1 #[.val (.ref x0), .val (.ref a), .val (.int 0), .val (.int 1), .val .null, .unset] [(.ref x0)])) rfl (by rw [hml]; rfl) rfl (hb hby own_d3_1) (by decide) (W := 0) (by show 2 * 0 + _ ≤ _; exact Nat.le_of_eq rfl) (by decide)
  refine own_by (g' := (mkF m 4 #[.val (.ref x0), .val (.ref a), .val (.int 0), .val (.int 1), .val .null, .unset] [])) st1 ?_
  refine own_g (mkF m 27 #[.val (.ref x0), .val (.ref a), .val (.int 0), .val (.int 1), .val .null, .unset] []) (fun _ q => XS.iloadN X1.here hx rfl (hb hby own_d3_4) rfl (XS.ifYes X1.here hx rfl (pc0 := 5) (pc' := 27) rfl (hb hby own_d3_5) rfl ((if0 _ _).trans (feq (by decide : ¬ ((1 : Int32) = (0 : Int32)))).2) (by decide) (by decide) q)) ?_
  obtain ⟨T2, X2, e2, st2⟩ := getS2 X1 hx hZ hown (host := "") (Or.inl (own_h hw 41 rfl)) Via.refl e1 (S_CS.ext O0.2) (g := (mkF m 27 #[.val (.ref x0), .val (.ref a), .val (.int 0), .val (.int 1), .val .null, .unset] [])) rfl (hb hby own_d3_27)
  refine own_by (g' := (mkF m 30 #[.val (.ref x0), .val (.ref a), .val (.int 0), .val (.int 1), .val .null, .unset] [(.int zCS)])) st2 ?_
  refine own_g (mkF m 36 #[.val (.ref x0), .val (.ref a), .val (.int 0), .val (.int 1), .val .null, .unset] [(.int 1), (.int 0), (.ref a)]) (fun _ q => XS.ifNo X2.here hx rfl (hb hby own_d3_30) rfl ((if0 _ _).trans (feq nCS).1) (XS.aloadN X2.here hx rfl (hb hby own_d3_33) rfl rfl (XS.iloadN X2.here hx rfl (hb hby own_d3_34) rfl (XS.iloadN X2.here hx rfl (hb hby own_d3_35) rfl q)))) ?_
  refine own_callS X2 hx hZ (y := own_y14) hown (own_h hw 42 rfl) (own_h hw 43 rfl) (own_h hw 44 rfl) (own_h hw 45 rfl) (by decide) (own_c1_1 l Z a0 hw [] a ka da c0 zCS fm h0 n0 (Nat.le_trans Z0 (Keep.refl h0 [x0]).1) S_CS nCS S_AD S_HI S_LO S_SF hfm O0 K_a hb0 hn0) (by decide) (by decide) e2 (g := (mkF m 36 #[.val (.ref x0), .val (.ref a), .val (.int 0), .val (.int 1), .val .null, .unset] [(.int 1), (.int 0), (.ref a)])) rfl (by rw [hml]; rfl) (argsL := [(.ref a), (.int 0), (.int 1)]) (rest := []) (lenOf own_pd__28_5bCII_29_5bB rfl) rfl (W := 0) (by show 2 * 0 + _ ≤ _; exact Nat.le_of_eq rfl) (hb hby own_d3_36) rfl (by decide) (by decide) ?_
  rintro rv3 T3 L3 X3 ⟨t0, k0, rfl, Nq3, Kq3, sz3, g3, hv3⟩
  have N3 := Fr.app N0 Nq3
  have ne_x : x0 ≠ t0 := Nat.ne_of_lt (Nat.lt_of_lt_of_le E_x.lt sz3)
  have szz3 := Nat.le_trans (Keep.refl h0 [x0]).1 sz3
  show own_Fin p e below _ T3 (mkF m 39 #[.val (.ref x0), .val (.ref a), .val (.int 0), .val (.int 1), .val .null, .unset] [(.ref t0)])
  rcases hv3 with ⟨ha0, Al⟩ | Al
  · skip
    refine own_g (mkF m 45 #[.val (.ref x0), .val (.ref a), .val (.int 0), .val (.int 1), .val .null, .val (.ref t0)] [(.int 1), (.ref t0), (.ref x0)]) (fun _ q => XS.astore X3.here hx rfl (hb hby own_d3_39) rfl rfl (l' := #[.val (.ref x0), .val (.ref a), .val (.int 0), .val (.int 1), .val .null, .val (.ref t0)]) rfl (XS.aloadN X3.here hx rfl (hb hby own_d3_41) rfl rfl (XS.aload X3.here hx rfl (hb hby own_d3_42) rfl rfl (XS.iloadN X3.here hx rfl (hb hby own_d3_44) rfl q)))) ?_
    have k4_ := ((Keep.refl h0 [x0]).trans Kq3 all0)
    have o5_ := (O0.keep Kq3 all0)
    refine own_callS X3 hx hZ (y := own_y13) hown (own_h hw 49 rfl) (own_h hw 50 rfl) (own_h hw 44 rfl) (own_h hw 51 rfl) (by decide) (own_co_1_1 l Z a0 hw [] t0 k0 _ _ zCS fm T3.heap n0 (Nat.le_trans Z0 k4_.1) S_CS nCS S_AD S_HI S_LO S_SF hfm o5_ Al) (by decide) (by decide) rfl (g := (mkF m 45 #[.val (.ref x0), .val (.ref a), .val (.int 0), .val (.int 1), .val .null, .val (.ref t0)] [(.int 1), (.ref t0), (.ref x0)])) rfl (by rw [hml]; rfl) (argsL := [(.ref t0), (.int 1)]) (rest := [(.ref x0)]) (lenOf own_pd__28_5bBI_29B rfl) rfl (W := 1) (by show 2 * 0 + _ ≤ _; exact Nat.le_of_eq rfl) (hb hby own_d3_45) rfl (by decide) (by decide) ?_
    rintro rv6 T6 L6 X6 ⟨rfl, Nq6, eh6⟩
    have N6 := Fr.app N3 Nq6
    show own_Fin p e below _ T6 (mkF m 48 #[.val (.ref x0), .val (.ref a), .val (.int 0), .val (.int 1), .val .null, .val (.ref t0)] [(.int 0), (.ref x0)])
    have e7_x0 := (E_x.keep Kq3)
    have f8_x0 := (C_x.keep Kq3 nin0)
    obtain ⟨T9, h9, X9, e9, W9, st9⟩ := putFN X6 hx hZ hown (own_h hw 26 rfl) Via.refl eh6 f8_x0 e7_x0 (Or.inr ⟨(own_h hw 22 rfl), rfl, hnm⟩) (own_h hw 7 rfl) (ty := .byte) (v' := (.int 0)) (by decide) rfl (by decide) (g := (mkF m 48 #[.val (.ref x0), .val (.ref a), .val (.int 0), .val (.int 1), .val .null, .val (.ref t0)] [(.int 0), (.ref x0)])) rfl rfl (hb hby own_d3_48)
    have Fw9 := f8_x0.same W9
    have N9 := Fr.snoc X9 N6 g_x
    refine own_by (g' := (mkF m 51 #[.val (.ref x0), .val (.ref a), .val (.int 0), .val (.int 1), .val .null, .val (.ref t0)] [])) st9 ?_
    refine own_g (mkF m 54 #[.val (.ref x0), .val (.ref a), .val (.int 0), .val (.int 1), .val .null, .val (.ref t0)] [(.ref t0), (.ref x0)]) (fun _ q => XS.aloadN X9.here hx rfl (hb hby own_d3_51) rfl rfl (XS.aload X9.here hx rfl (hb hby own_d3_52) rfl rfl q)) ?_
    have e10_x0 := (e7_x0.wr W9)
    have f11_x0 := ((V_x.keep Kq3 nin0).other W9 (Or.inr (slot_ne (Or.inr (own_h hw 21 rfl)) (Or.inr (own_h hw 22 rfl)) (by decide) (t := (.array .byte)) (t' := .byte) (by decide) (by decide))))
    obtain ⟨T12, h12, X12, e12, W12, st12⟩ := putF X9 hx hZ hown (host := "") (Or.inl (own_h hw 25 rfl)) Via.refl e9 f11_x0 e10_x0 (Or.inr ⟨(own_h hw 21 rfl), rfl, hnm⟩) (own_h hw 7 rfl) (ty := (.array .byte)) (by decide) (rfl) (rfl) (g := (mkF m 54 #[.val (.ref x0), .val (.ref a), .val (.int 0), .val (.int 1), .val .null, .val (.ref t0)] [(.ref t0), (.ref x0)])) rfl rfl (hb hby own_d3_54)
    have Fw12 := f11_x0.same W12
    have N12 := Fr.snoc X12 N9 g_x
    refine own_by (g' := (mkF m 57 #[.val (.ref x0), .val (.ref a), .val (.int 0), .val (.int 1), .val .null, .val (.ref t0)] [])) st12 ?_
    have f13_x0 := (Fw9.other W12 (Or.inr (slot_ne (Or.inr (own_h hw 22 rfl)) (Or.inr (own_h hw 21 rfl)) (by decide) (t := .byte) (t' := (.array .byte)) (by decide) (by decide))))
    have a14_t0 := ((Al.other W9 (Ne.symm ne_x)).other W12 (Ne.symm ne_x))
    have k15_ := ((k4_.wr W9 (Or.inl (List.mem_of_getElem? (i := 0) rfl))).wr W12 (Or.inl (List.mem_of_getElem? (i := 0) rfl)))
    have e16_x0 := (e10_x0.wr W12)
    exact own_end X12 (v := none) (fun _ => rfl) hlk (fun hr => X12.returnOut hx Bd.returns (hb hby own_d3_57) hr) (by rw [e12]; exact ⟨rfl, N12, k15_, e16_x0, t0, k0, Fw12, Or.inl ⟨ha0, f13_x0, a14_t0⟩⟩) (by decide) (by decide)
  · skip
    refine own_g (mkF m 45 #[.val (.ref x0), .val (.ref a), .val (.int 0), .val (.int 1), .val .null, .val (.ref t0)] [(.int 1), (.ref t0), (.ref x0)]) (fun _ q => XS.astore X3.here hx rfl (hb hby own_d3_39) rfl rfl (l' := #[.val (.ref x0), .val (.ref a), .val (.int 0), .val (.int 1), .val .null, .val (.ref t0)]) rfl (XS.aloadN X3.here hx rfl (hb hby own_d3_41) rfl rfl (XS.aload X3.here hx rfl (hb hby own_d3_42) rfl rfl (XS.iloadN X3.here hx rfl (hb hby own_d3_44) rfl q)))) ?_
    have k17_ := ((Keep.refl h0 [x0]).trans Kq3 all0)
    have o18_ := (O0.keep Kq3 all0)
    refine own_callS X3 hx hZ (y := own_y13) hown (own_h hw 49 rfl) (own_h hw 50 rfl) (own_h hw 44 rfl) (own_h hw 51 rfl) (by decide) (own_co_2_1 l Z a0 hw [] t0 k0 _ _ zCS fm T3.heap n0 (Nat.le_trans Z0 k17_.1) S_CS nCS S_AD S_HI S_LO S_SF hfm o18_ Al) (by decide) (by decide) rfl (g := (mkF m 45 #[.val (.ref x0), .val (.ref a), .val (.int 0), .val (.int 1), .val .null, .val (.ref t0)] [(.int 1), (.ref t0), (.ref x0)])) rfl (by rw [hml]; rfl) (argsL := [(.ref t0), (.int 1)]) (rest := [(.ref x0)]) (lenOf own_pd__28_5bBI_29B rfl) rfl (W := 1) (by show 2 * 0 + _ ≤ _; exact Nat.le_of_eq rfl) (hb hby own_d3_45) rfl (by decide) (by decide) ?_
    rintro rv19 T19 L19 X19 ⟨rfl, Nq19, eh19⟩
    have N19 := Fr.app N3 Nq19
    show own_Fin p e below _ T19 (mkF m 48 #[.val (.ref x0), .val (.ref a), .val (.int 0), .val (.int 1), .val .null, .val (.ref t0)] [(.int 1), (.ref x0)])
    have e20_x0 := (E_x.keep Kq3)
    have f21_x0 := (C_x.keep Kq3 nin0)
    obtain ⟨T22, h22, X22, e22, W22, st22⟩ := putFN X19 hx hZ hown (own_h hw 26 rfl) Via.refl eh19 f21_x0 e20_x0 (Or.inr ⟨(own_h hw 22 rfl), rfl, hnm⟩) (own_h hw 7 rfl) (ty := .byte) (v' := (.int 1)) (by decide) rfl (by decide) (g := (mkF m 48 #[.val (.ref x0), .val (.ref a), .val (.int 0), .val (.int 1), .val .null, .val (.ref t0)] [(.int 1), (.ref x0)])) rfl rfl (hb hby own_d3_48)
    have Fw22 := f21_x0.same W22
    have N22 := Fr.snoc X22 N19 g_x
    refine own_by (g' := (mkF m 51 #[.val (.ref x0), .val (.ref a), .val (.int 0), .val (.int 1), .val .null, .val (.ref t0)] [])) st22 ?_
    refine own_g (mkF m 54 #[.val (.ref x0), .val (.ref a), .val (.int 0), .val (.int 1), .val .null, .val (.ref t0)] [(.ref t0), (.ref x0)]) (fun _ q => XS.aloadN X22.here hx rfl (hb hby own_d3_51) rfl rfl (XS.aload X22.here hx rfl (hb hby own_d3_52) rfl rfl q)) ?_
    have e23_x0 := (e20_x0.wr W22)
    have f24_x0 := ((V_x.keep Kq3 nin0).other W22 (Or.inr (slot_ne (Or.inr (own_h hw 21 rfl)) (Or.inr (own_h hw 22 rfl)) (by decide) (t := (.array .byte)) (t' := .byte) (by decide) (by decide))))
    obtain ⟨T25, h25, X25, e25, W25, st25⟩ := putF X22 hx hZ hown (host := "") (Or.inl (own_h hw 25 rfl)) Via.refl e22 f24_x0 e23_x0 (Or.inr ⟨(own_h hw 21 rfl), rfl, hnm⟩) (own_h hw 7 rfl) (ty := (.array .byte)) (by decide) (rfl) (rfl) (g := (mkF m 54 #[.val (.ref x0), .val (.ref a), .val (.int 0), .val (.int 1), .val .null, .val (.ref t0)] [(.ref t0), (.ref x0)])) rfl rfl (hb hby own_d3_54)
    have Fw25 := f24_x0.same W25
    have N25 := Fr.snoc X25 N22 g_x
    refine own_by (g' := (mkF m 57 #[.val (.ref x0), .val (.ref a), .val (.int 0), .val (.int 1), .val .null, .val (.ref t0)] [])) st25 ?_
    have f26_x0 := (Fw22.other W25 (Or.inr (slot_ne (Or.inr (own_h hw 22 rfl)) (Or.inr (own_h hw 21 rfl)) (by decide) (t := .byte) (t' := (.array .byte)) (by decide) (by decide))))
    have a27_t0 := ((Al.other W22 (Ne.symm ne_x)).other W25 (Ne.symm ne_x))
    have k28_ := ((k17_.wr W22 (Or.inl (List.mem_of_getElem? (i := 0) rfl))).wr W25 (Or.inl (List.mem_of_getElem? (i := 0) rfl)))
    have e29_x0 := (e23_x0.wr W25)
    exact own_end X25 (v := none) (fun _ => rfl) hlk (fun hr => X25.returnOut hx Bd.returns (hb hby own_d3_57) hr) (by rw [e25]; exact ⟨rfl, N25, k28_, e29_x0, t0, k0, Fw25, Or.inr ⟨f26_x0, a27_t0⟩⟩) (by decide) (by decide)
theorem own_i7_1_ef (m : MethodId) (x0 : Addr) (a : Addr) : entryFrame m #[(.ref x0), (.ref a)] 2 = mkF m 0 #[.val (.ref x0), .val (.ref a)] [] := by  first | (simp [entryFrame, mkF, argsToLocals, Value.category]; done) | rfl
def own_i7_1_Q (Z : State) (x0 : Addr) (a : Addr) (ka : ClassId) (da : Value) (c0 : Int32) (zCS : Int32) (fm : Value) (h0 : Heap) (n0 : Nat) (v : Option Value) (h : Heap) (L : List Loc) : Prop := v = none ∧ Fr n0 L ∧ Keep h0 h [x0] ∧ Exa Z h x0 "java/lang/String" ∧ ∃ (t : Addr) (kb : ClassId), Fld Z h x0 "java/lang/String" "value" "[B" (.ref t) ∧ ((¬ (255 : Int32) < c0 ∧ Fld Z h x0 "java/lang/String" "coder" "B" (.int 0) ∧ Arv Z h t kb .byte (1 : Int32) [(.int (StrChars.lo8 c0))] (.int 0)) ∨ (Fld Z h x0 "java/lang/String" "coder" "B" (.int 1) ∧ Arv Z h t kb .byte (2 : Int32) [(.int (StrChars.lo8 c0)), (.int (StrChars.hi8 c0))] (.int 0)))
set_option maxRecDepth 65536 in
set_option maxHeartbeats 40000000 in
theorem own_i7_1 (l : Launch) (Z : State) (a0 : Array Value) (hw : ∀ d ∈ tables_1, d.before a0 Z = true) (ws : List Jvm.Cond) (x0 : Addr) (a : Addr) (ka : ClassId) (da : Value) (c0 : Int32) (zCS : Int32) (fm : Value) (h0 : Heap) (n0 : Nat) (Z0 : n0 ≤ h0.size) (S_CS : own_A0 Z zCS) (nCS : ¬ zCS = 0) (S_AD : own_A1 Z) (S_HI : own_A2 Z) (S_LO : own_A3 Z) (S_SF : own_A4 Z fm) (hfm : fm.isRef = true) (O0 : Old Z n0 h0) (E_x : Exa Z h0 x0 "java/lang/String") (V_x : Fld Z h0 x0 "java/lang/String" "value" "[B" .null) (C_x : Fld Z h0 x0 "java/lang/String" "coder" "B" (.int 0)) (g_x : n0 ≤ x0) (K_a : Arv Z h0 a ka .char (1 : Int32) [(.int c0)] da) (n_ax : a ≠ x0) (hb0 : ¬ c0 < 0 ∧ ¬ (65535 : Int32) < c0) (hn0 : nar .char c0 = c0) :
    MetFree l own_y3 (head1 (Jvm.Cond.code own_y3 jdk_42_method_3_code 2 none :: ws) (⟨5, 2, 3, 74⟩ : Room)) (fun aa U => aa = #[(.ref x0), (.ref a)] ∧ Z.Warmed39 U.vm ∧ U.heap = h0) (fun _ _ _ _ _ => True) (fun _ U o U' => ∃ v L, o = .returned v ∧ own_i7_1_Q Z x0 a ka da c0 zCS fm h0 n0 v U'.heap L ∧ FrameEnd U o U' L (⟨5, 2, 3, 74⟩ : Room).cells (⟨5, 2, 3, 74⟩ : Room).slots) := by
  refine MetFree.of_bodySF (plainFor_of_name own_pn_java_lang_String) hisR ?_
  intro p e s m args below meth c s₁ Bd hml0 hP hK
  obtain ⟨rfl, hZ, hh⟩ := hP
  have hx := Bd.exec
  have hby := Bd.bytes
  have hml : c.maxLocals = 2 := hml0
  have hown : s.vm.findClass "java/lang/String" = some m.cls := findClass_of_methodNamed Bd.named
  have hnm := (name_of_methodNamed Bd.named Bd.method).1
  have hlk := Bd.notSynchronized
  have X0 : Stand p l e (⟨5, 2, 3, 74⟩ : Room) s m #[(.ref x0), (.ref a)] below meth c s₁ [] 0 0 := Stand.of_body Bd
  have e0 : s₁.heap = h0 := by rw [← hh, Bd.state]; rfl
  have N0 := Fr.nil n0
  refine own_start (Q := own_i7_1_Q Z x0 a ka da c0 zCS fm h0 n0) (own_i7_1_ef m x0 a) ?_
  refine own_g (mkF m 4 #[.val (.ref x0), .val (.ref a)] [(.ref a), (.int 0), (.ref a), (.ref x0)]) (fun _ q => XS.aloadN X0.here hx rfl (hb hby own_d2_0) rfl rfl (XS.aloadN X0.here hx rfl (hb hby own_d2_1) rfl rfl (XS.iconst X0.here hx rfl (hb hby own_d2_2) (XS.aloadN X0.here hx rfl (hb hby own_d2_3) rfl rfl q)))) ?_
  obtain ⟨cl1, Ar1, q1, S1, P1, H1, G1⟩ := id K_a
  refine own_by (g' := (mkF m 5 #[.val (.ref x0), .val (.ref a)] [(.int 1), (.int 0), (.ref a), (.ref x0)])) (fun _ kq => X0.arraylength hx (by rw [e0]; exact Ar1.1) (State.isArrayOf_alike hZ.alike Ar1.2.1) (g := (mkF m 4 #[.val (.ref x0), .val (.ref a)] [(.ref a), (.int 0), (.ref a), (.ref x0)])) rfl rfl (hb hby own_d2_4) _ (by rw [len_of S1 P1]; exact kq)) ?_
  refine own_g (mkF m 6 #[.val (.ref x0), .val (.ref a)] [.null, (.int 1), (.int 0), (.ref a), (.ref x0)]) (fun _ q => XS.aconstNull X0.here hx rfl (hb hby own_d2_5) q) ?_
  refine own_callI X0 hx hZ (y := own_y4) rfl hown (own_h hw 12 rfl) (own_h hw 13 rfl) (own_h hw 15 rfl) (own_h hw 8 rfl) (by decide) (own_i8_1 l Z a0 hw [] x0 a ka da c0 zCS fm h0 n0 (Nat.le_trans Z0 (Keep.refl h0 [x0]).1) S_CS nCS S_AD S_HI S_LO S_SF hfm O0 E_x V_x C_x g_x K_a n_ax hb0 hn0) (by decide) (by decide) e0 (g := (mkF m 6 #[.val (.ref x0), .val (.ref a)] [.null, (.int 1), (.int 0), (.ref a), (.ref x0)])) rfl (by rw [hml]; rfl) (argsL := [(.ref a), (.int 0), (.int 1), .null]) (rest := []) (lenOf own_pd__28_5bCIILjava_2flang_2fVoid_3b_29V rfl) rfl (W := 0) (by show 2 * 0 + _ ≤ _; exact Nat.le_of_eq rfl) (hb hby own_d2_6) rfl (by decide) (by decide) ?_
  rintro rv2 T2 L2 X2 ⟨rfl, Nq2, Kq2, Hq2⟩
  have N2 := Fr.app N0 Nq2
  show own_Fin p e below _ T2 (mkF m 9 #[.val (.ref x0), .val (.ref a)] [])
  have k3_ := ((Keep.refl h0 [x0]).trans Kq2 (allS (Or.inl (List.mem_of_getElem? (i := 0) rfl)) all0))
  exact own_end X2 (v := none) (fun _ => rfl) hlk (fun hr => X2.returnOut hx Bd.returns (hb hby own_d2_9) hr) (⟨rfl, N2, k3_, Hq2⟩) (by decide) (by decide)
theorem own_nbl_2_ef (m : MethodId)  : entryFrame m #[(.int 2)] 1 = mkF m 0 #[.val (.int 2)] [] := by  first | (simp [entryFrame, mkF, argsToLocals, Value.category]; done) | rfl
def own_nbl_2_Q (Z : State) (zCS : Int32) (fm : Value) (h0 : Heap) (n0 : Nat) (v : Option Value) (h : Heap) (L : List Loc) : Prop := v = some (.int 4) ∧ Fr n0 L ∧ h = h0
set_option maxRecDepth 65536 in
set_option maxHeartbeats 40000000 in
theorem own_nbl_2 (l : Launch) (Z : State) (a0 : Array Value) (hw : ∀ d ∈ tables_1, d.before a0 Z = true) (ws : List Jvm.Cond) (zCS : Int32) (fm : Value) (h0 : Heap) (n0 : Nat) (Z0 : n0 ≤ h0.size) (S_CS : own_A0 Z zCS) (nCS : ¬ zCS = 0) (S_AD : own_A1 Z) (S_HI : own_A2 Z) (S_LO : own_A3 Z) (S_SF : own_A4 Z fm) (hfm : fm.isRef = true) (O0 : Old Z n0 h0) :
    MetFree l own_y19 (head1 (Jvm.Cond.code own_y19 jdk_52_method_3_code 1 (some .int) :: ws) (⟨0, 0, 0, 0⟩ : Room)) (fun aa U => aa = #[(.int 2)] ∧ Z.Warmed39 U.vm ∧ U.heap = h0) (fun _ _ _ _ _ => True) (fun _ U o U' => ∃ v L, o = .returned v ∧ own_nbl_2_Q Z zCS fm h0 n0 v U'.heap L ∧ FrameEnd U o U' L (⟨0, 0, 0, 0⟩ : Room).cells (⟨0, 0, 0, 0⟩ : Room).slots) := by
  refine MetFree.of_bodySF (plainFor_of_name own_pn_java_lang_StringUTF16) hisR ?_
  intro p e s m args below meth c s₁ Bd hml0 hP hK
  obtain ⟨rfl, hZ, hh⟩ := hP
  have hx := Bd.exec
  have hby := Bd.bytes
  have hml : c.maxLocals = 1 := hml0
  have hown : s.vm.findClass "java/lang/StringUTF16" = some m.cls := findClass_of_methodNamed Bd.named
  have hnm := (name_of_methodNamed Bd.named Bd.method).1
  have hlk := Bd.notSynchronized
  have X0 : Stand p l e (⟨0, 0, 0, 0⟩ : Room) s m #[(.int 2)] below meth c s₁ [] 0 0 := Stand.of_body Bd
  have e0 : s₁.heap = h0 := by rw [← hh, Bd.state]; rfl
  have N0 := Fr.nil n0
  refine own_start (Q := own_nbl_2_Q Z zCS fm h0 n0) (own_nbl_2_ef m ) ?_
  refine own_g (mkF m 13 #[.val (.int 2)] [(.int 2)]) (fun _ q => XS.iloadN X0.here hx rfl (hb hby own_d19_0) rfl (XS.ifYes X0.here hx rfl (pc0 := 1) (pc' := 12) rfl (hb hby own_d19_1) rfl ((if0 _ _).trans (flt (by decide : ¬ ((2 : Int32) < (0 : Int32)))).2.1) (by decide) (by decide) (XS.iloadN X0.here hx rfl (hb hby own_d19_12) rfl q))) ?_
  refine own_by (g' := (mkF m 15 #[.val (.int 2)] [(.int 1073741823), (.int 2)])) (fun _ kq => X0.ldcInt hx hown (mvT hZ (own_h hw 87 rfl)) (g := (mkF m 13 #[.val (.int 2)] [(.int 2)])) rfl (hb hby own_d19_13) _ kq) ?_
  refine own_g (mkF m 58 #[.val (.int 2)] [(.int 4)]) (fun _ q => XS.icmpYes X0.here hx rfl (pc0 := 15) (pc' := 55) rfl (hb hby own_d19_15) rfl (tlt (by decide : (2 : Int32) < (1073741823 : Int32))).1 (by decide) (by decide) (XS.iloadN X0.here hx rfl (hb hby own_d19_55) rfl (XS.iconst X0.here hx rfl (hb hby own_d19_56) (XS.ishl X0.here hx rfl (hb hby own_d19_57) rfl q)))) ?_
  exact own_end X0 (v := some (.int 4)) (fun h => by rw [Bd.returns] at h; cases h) hlk (fun hr => retOut X0 hx Bd.returns rfl (Or.inl ⟨rfl, Or.inl rfl, _, rfl⟩) (hb hby own_d19_58) hr) (by rw [e0]; exact ⟨rfl, N0, rfl⟩) (by decide) (by decide)
theorem own_nbf_2_ef (m : MethodId)  : entryFrame m #[(.int 2)] 1 = mkF m 0 #[.val (.int 2)] [] := by  first | (simp [entryFrame, mkF, argsToLocals, Value.category]; done) | rfl
def own_nbf_2_Q (Z : State) (zCS : Int32) (fm : Value) (h0 : Heap) (n0 : Nat) (v : Option Value) (h : Heap) (L : List Loc) : Prop := ∃ (t : Addr) (kb : ClassId), v = some (.ref t) ∧ Fr n0 L ∧ Keep h0 h [] ∧ h0.size ≤ t ∧ n0 ≤ t ∧ Arv Z h t kb .byte (4 : Int32) [(.int 0), (.int 0), (.int 0), (.int 0)] (.int 0)
set_option maxRecDepth 65536 in
set_option maxHeartbeats 40000000 in
theorem own_nbf_2 (l : Launch) (Z : State) (a0 : Array Value) (hw : ∀ d ∈ tables_1, d.before a0 Z = true) (ws : List Jvm.Cond) (zCS : Int32) (fm : Value) (h0 : Heap) (n0 : Nat) (Z0 : n0 ≤ h0.size) (S_CS : own_A0 Z zCS) (nCS : ¬ zCS = 0) (S_AD : own_A1 Z) (S_HI : own_A2 Z) (S_LO : own_A3 Z) (S_SF : own_A4 Z fm) (hfm : fm.isRef = true) (O0 : Old Z n0 h0) :
    MetFree l own_y18 (head1 (Jvm.Cond.code own_y18 jdk_52_method_2_code 1 (some (.array .byte)) :: ws) (⟨1, 1, 4, 12⟩ : Room)) (fun aa U => aa = #[(.int 2)] ∧ Z.Warmed39 U.vm ∧ U.heap = h0) (fun _ _ _ _ _ => True) (fun _ U o U' => ∃ v L, o = .returned v ∧ own_nbf_2_Q Z zCS fm h0 n0 v U'.heap L ∧ FrameEnd U o U' L (⟨1, 1, 4, 12⟩ : Room).cells (⟨1, 1, 4, 12⟩ : Room).slots) := by
  refine MetFree.of_bodySF (plainFor_of_name own_pn_java_lang_StringUTF16) hisR ?_
  intro p e s m args below meth c s₁ Bd hml0 hP hK
  obtain ⟨rfl, hZ, hh⟩ := hP
  have hx := Bd.exec
  have hby := Bd.bytes
  have hml : c.maxLocals = 1 := hml0
  have hown : s.vm.findClass "java/lang/StringUTF16" = some m.cls := findClass_of_methodNamed Bd.named
  have hnm := (name_of_methodNamed Bd.named Bd.method).1
  have hlk := Bd.notSynchronized
  have X0 : Stand p l e (⟨1, 1, 4, 12⟩ : Room) s m #[(.int 2)] below meth c s₁ [] 0 0 := Stand.of_body Bd
  have e0 : s₁.heap = h0 := by rw [← hh, Bd.state]; rfl
  have N0 := Fr.nil n0
  refine own_start (Q := own_nbf_2_Q Z zCS fm h0 n0) (own_nbf_2_ef m ) ?_
  refine own_g (mkF m 1 #[.val (.int 2)] [(.int 2)]) (fun _ q => XS.iloadN X0.here hx rfl (hb hby own_d18_0) rfl q) ?_
  refine own_callS X0 hx hZ (y := own_y19) hown (own_h hw 84 rfl) (own_h hw 85 rfl) (own_h hw 44 rfl) (own_h hw 86 rfl) (by decide) (own_nbl_2 l Z a0 hw [] zCS fm h0 n0 Z0 S_CS nCS S_AD S_HI S_LO S_SF hfm O0) (by decide) (by decide) e0 (g := (mkF m 1 #[.val (.int 2)] [(.int 2)])) rfl (by rw [hml]; rfl) (argsL := [(.int 2)]) (rest := []) (lenOf own_pd__28I_29I rfl) rfl (W := 0) (by show 2 * 0 + _ ≤ _; exact Nat.le_of_eq rfl) (hb hby own_d18_1) rfl (by decide) (by decide) ?_
  rintro rv1 T1 L1 X1 ⟨rfl, Nq1, eh1⟩
  have N1 := Fr.app N0 Nq1
  show own_Fin p e below _ T1 (mkF m 4 #[.val (.int 2)] [(.int 4)])
  obtain ⟨T2, h2, k2, X2, e2, E2, A2, st2⟩ := newP X1 hx hZ (own_h hw 20 rfl) eh1 (g := (mkF m 4 #[.val (.int 2)] [(.int 4)])) rfl (hb hby own_d18_4) rfl (by decide) (cap := 4) (by decide) (by decide) (by decide) (by decide)
  obtain ⟨b2, g2⟩ : ∃ z, z = h0.size := ⟨_, rfl⟩
  rw [← g2] at A2 st2
  have g_b2 : n0 ≤ b2 := Nat.le_trans Z0 (Nat.le_of_eq g2.symm)
  have sz_b2 : h0.size ≤ b2 := Nat.le_trans (Keep.refl h0 []).1 (Nat.le_of_eq g2.symm)
  have V_b2 : Arv Z h2 b2 k2 .byte (4 : Int32) [(.int 0), (.int 0), (.int 0), (.int 0)] (.int 0) := (Arv.new A2 (by decide)).pad (pad_rep [] (.int 0) 4)
  refine own_by (g' := (mkF m 6 #[.val (.int 2)] [(.ref b2)])) st2 ?_
  have k3_ := ((Keep.refl h0 []).ext E2)
  exact own_end X2 (v := some (.ref b2)) (fun h => by rw [Bd.returns] at h; cases h) hlk (fun hr => retOut X2 hx Bd.returns (own_narR rfl) (Or.inr (Or.inr (Or.inr (Or.inr ⟨rfl, rfl, rfl⟩)))) (hb hby own_d18_6) hr) (by rw [e2]; exact ⟨b2, k2, rfl, N1, k3_, sz_b2, g_b2, V_b2⟩) (by decide) (by decide)
theorem own_tb_2_ef (m : MethodId) (a : Addr) : entryFrame m #[(.ref a), (.int 0), (.int 2)] 5 = mkF m 0 #[.val (.ref a), .val (.int 0), .val (.int 2), .unset, .unset] [] := by  first | (simp [entryFrame, mkF, argsToLocals, Value.category]; done) | rfl
def own_tb_2_Q (Z : State) (a : Addr) (ka : ClassId) (da : Value) (c0 : Int32) (c1 : Int32) (zCS : Int32) (fm : Value) (h0 : Heap) (n0 : Nat) (v : Option Value) (h : Heap) (L : List Loc) : Prop := ∃ (t : Addr) (kb : ClassId), v = some (.ref t) ∧ Fr n0 L ∧ Keep h0 h [] ∧ h0.size ≤ t ∧ n0 ≤ t ∧ Arv Z h t kb .byte (4 : Int32) [(.int (StrChars.lo8 c0)), (.int (StrChars.hi8 c0)), (.int (StrChars.lo8 c1)), (.int (StrChars.hi8 c1))] (.int 0)
set_option maxRecDepth 65536 in
set_option maxHeartbeats 40000000 in
theorem own_tb_2 (l : Launch) (Z : State) (a0 : Array Value) (hw : ∀ d ∈ tables_1, d.before a0 Z = true) (ws : List Jvm.Cond) (a : Addr) (ka : ClassId) (da : Value) (c0 : Int32) (c1 : Int32) (zCS : Int32) (fm : Value) (h0 : Heap) (n0 : Nat) (Z0 : n0 ≤ h0.size) (S_CS : own_A0 Z zCS) (nCS : ¬ zCS = 0) (S_AD : own_A1 Z) (S_HI : own_A2 Z) (S_LO : own_A3 Z) (S_SF : own_A4 Z fm) (hfm : fm.isRef = true) (O0 : Old Z n0 h0) (K_a : Arv Z h0 a ka .char (2 : Int32) [(.int c0), (.int c1)] da) :
    MetFree l own_y21 (head1 (Jvm.Cond.code own_y21 jdk_52_method_14_code 5 (some (.array .byte)) :: ws) (⟨2, 1, 4, 24⟩ : Room)) (fun aa U => aa = #[(.ref a), (.int 0), (.int 2)] ∧ Z.Warmed39 U.vm ∧ U.heap = h0) (fun _ _ _ _ _ => True) (fun _ U o U' => ∃ v L, o = .returned v ∧ own_tb_2_Q Z a ka da c0 c1 zCS fm h0 n0 v U'.heap L ∧ FrameEnd U o U' L (⟨2, 1, 4, 24⟩ : Room).cells (⟨2, 1, 4, 24⟩ : Room).slots) := by
  refine MetFree.of_bodySF (plainFor_of_name own_pn_java_lang_StringUTF16) hisR ?_
  intro p e s m args below meth c s₁ Bd hml0 hP hK
  obtain ⟨rfl, hZ, hh⟩ := hP
  have hx := Bd.exec
  have hby := Bd.bytes
  have hml : c.maxLocals = 5 := hml0
  have hown : s.vm.findClass "java/lang/StringUTF16" = some m.cls := findClass_of_methodNamed Bd.named
  have hnm := (name_of_methodNamed Bd.named Bd.method).1
  have hlk := Bd.notSynchronized
  have X0 : Stand p l e (⟨2, 1, 4, 24⟩ : Room) s m #[(.ref a), (.int 0), (.int 2)] below meth c s₁ [] 0 0 := Stand.of_body Bd
  have e0 : s₁.heap = h0 := by rw [← hh, Bd.state]; rfl
  have N0 := Fr.nil n0
  refine own_start (Q := own_tb_2_Q Z a ka da c0 c1 zCS fm h0 n0) (own_tb_2_ef m a) ?_
  refine own_g (mkF m 1 #[.val (.ref a), .val (.int 0), .val (.int 2), .unset, .unset] [(.int 2)]) (fun _ q => XS.iloadN X0.here hx rfl (hb hby own_d17_0) rfl q) ?_
  refine own_callS X0 hx hZ (y := own_y18) hown (own_h hw 81 rfl) (own_h hw 82 rfl) (own_h hw 44 rfl) (own_h hw 83 rfl) (by decide) (own_nbf_2 l Z a0 hw [] zCS fm h0 n0 Z0 S_CS nCS S_AD S_HI S_LO S_SF hfm O0) (by decide) (by decide) e0 (g := (mkF m 1 #[.val (.ref a), .val (.int 0), .val (.int 2), .unset, .unset] [(.int 2)])) rfl (by rw [hml]; rfl) (argsL := [(.int 2)]) (rest := []) (lenOf own_pd__28I_29_5bB rfl) rfl (W := 0) (by show 2 * 0 + _ ≤ _; exact Nat.le_of_eq rfl) (hb hby own_d17_1) rfl (by decide) (by decide) ?_
  rintro rv1 T1 L1 X1 ⟨t0, k0, rfl, Nq1, Kq1, sz1, g1, A1⟩
  have N1 := Fr.app N0 Nq1
  show own_Fin p e below _ T1 (mkF m 4 #[.val (.ref a), .val (.int 0), .val (.int 2), .unset, .unset] [(.ref t0)])
  have ne_a : a ≠ t0 := Nat.ne_of_lt (Nat.lt_of_lt_of_le K_a.lt sz1)
  refine own_g (mkF m 17 #[.val (.ref a), .val (.int 0), .val (.int 2), .val (.ref t0), .val (.int 0)] [(.int 0), (.ref t0)]) (fun _ q => XS.astoreN X1.here hx rfl (hb hby own_d17_4) rfl rfl (l' := #[.val (.ref a), .val (.int 0), .val (.int 2), .val (.ref t0), .unset]) rfl (XS.iconst X1.here hx rfl (hb hby own_d17_5) (XS.istore X1.here hx rfl (hb hby own_d17_6) rfl (l' := #[.val (.ref a), .val (.int 0), .val (.int 2), .val (.ref t0), .val (.int 0)]) rfl (XS.iload X1.here hx rfl (hb hby own_d17_8) rfl (XS.iloadN X1.here hx rfl (hb hby own_d17_10) rfl (XS.icmpNo X1.here hx rfl (hb hby own_d17_11) rfl (tlt (by decide : (0 : Int32) < (2 : Int32))).2.1 (XS.aloadN X1.here hx rfl (hb hby own_d17_14) rfl rfl (XS.iload X1.here hx rfl (hb hby own_d17_15) rfl q)))))))) ?_
  refine own_g (mkF m 19 #[.val (.ref a), .val (.int 0), .val (.int 2), .val (.ref t0), .val (.int 0)] [(.int 0), (.ref a), (.int 0), (.ref t0)]) (fun _ q => XS.aloadN X1.here hx rfl (hb hby own_d17_17) rfl rfl (XS.iloadN X1.here hx rfl (hb hby own_d17_18) rfl q)) ?_
  have a2_a := (K_a.keep Kq1 nin0)
  obtain ⟨cl3, Ar3, q3, S3, P3, H3, G3⟩ := id a2_a
  have hin3 : ¬ ((0 : Int32) < 0 ∨ cl3.slots.size ≤ ((0 : Int32)).toNatClampNeg) := inb_of S3 ⟨by decide, by decide⟩
  refine own_by (g' := (mkF m 20 #[.val (.ref a), .val (.int 0), .val (.int 2), .val (.ref t0), .val (.int 0)] [(.int c0), (.int 0), (.ref t0)])) (fun _ kq => X1.caload hx (j := (0 : Int32)) (v := (.int c0)) Ar3.1 (State.isArrayOf_alike hZ.alike Ar3.2.1) Ar3.2.2 hin3 (H3.at hin3 rfl) (g := (mkF m 19 #[.val (.ref a), .val (.int 0), .val (.int 2), .val (.ref t0), .val (.int 0)] [(.int 0), (.ref a), (.int 0), (.ref t0)])) rfl rfl (hb hby own_d17_19) _ kq) ?_
  have k4_ := ((Keep.refl h0 []).trans Kq1 all0)
  have o5_ := (O0.keep Kq1 all0)
  refine own_callS X1 hx hZ (y := own_y20) hown (own_h hw 88 rfl) (own_h hw 89 rfl) (own_h hw 44 rfl) (own_h hw 90 rfl) (by decide) (own_put_2_0 l Z a0 hw [] t0 c0 k0 (0 : Int32) (0 : Int32) (0 : Int32) (0 : Int32) zCS fm T1.heap n0 (Nat.le_trans Z0 k4_.1) S_CS nCS S_AD S_HI S_LO S_SF hfm o5_ A1 g1) (by decide) (by decide) rfl (g := (mkF m 20 #[.val (.ref a), .val (.int 0), .val (.int 2), .val (.ref t0), .val (.int 0)] [(.int c0), (.int 0), (.ref t0)])) rfl (by rw [hml]; rfl) (argsL := [(.ref t0), (.int 0), (.int c0)]) (rest := []) (lenOf own_pd__28_5bBII_29V rfl) rfl (W := 0) (by show 2 * 0 + _ ≤ _; exact Nat.le_of_eq rfl) (hb hby own_d17_20) rfl (by decide) (by decide) ?_
  rintro rv6 T6 L6 X6 ⟨rfl, Nq6, Kq6, A6⟩
  have N6 := Fr.app N1 Nq6
  refine own_g (mkF m 17 #[.val (.ref a), .val (.int 1), .val (.int 2), .val (.ref t0), .val (.int 1)] [(.int 1), (.ref t0)]) (fun _ q => XS.iinc X6.here hx rfl (hb hby own_d17_23) rfl (l' := #[.val (.ref a), .val (.int 1), .val (.int 2), .val (.ref t0), .val (.int 0)]) rfl (XS.iinc X6.here hx rfl (hb hby own_d17_26) rfl (l' := #[.val (.ref a), .val (.int 1), .val (.int 2), .val (.ref t0), .val (.int 1)]) rfl (XS.goto X6.here hx rfl (pc0 := 29) (pc' := 8) rfl (hb hby own_d17_29) (by decide) (by decide) (XS.iload X6.here hx rfl (hb hby own_d17_8) rfl (XS.iloadN X6.here hx rfl (hb hby own_d17_10) rfl (XS.icmpNo X6.here hx rfl (hb hby own_d17_11) rfl (tlt (by decide : (1 : Int32) < (2 : Int32))).2.1 (XS.aloadN X6.here hx rfl (hb hby own_d17_14) rfl rfl (XS.iload X6.here hx rfl (hb hby own_d17_15) rfl q)))))))) ?_
  refine own_g (mkF m 19 #[.val (.ref a), .val (.int 1), .val (.int 2), .val (.ref t0), .val (.int 1)] [(.int 1), (.ref a), (.int 1), (.ref t0)]) (fun _ q => XS.aloadN X6.here hx rfl (hb hby own_d17_17) rfl rfl (XS.iloadN X6.here hx rfl (hb hby own_d17_18) rfl q)) ?_
  have a7_a := (a2_a.keep Kq6 (ninS ne_a nin0))
  obtain ⟨cl8, Ar8, q8, S8, P8, H8, G8⟩ := id a7_a
  have hin8 : ¬ ((1 : Int32) < 0 ∨ cl8.slots.size ≤ ((1 : Int32)).toNatClampNeg) := inb_of S8 ⟨by decide, by decide⟩
  refine own_by (g' := (mkF m 20 #[.val (.ref a), .val (.int 1), .val (.int 2), .val (.ref t0), .val (.int 1)] [(.int c1), (.int 1), (.ref t0)])) (fun _ kq => X6.caload hx (j := (1 : Int32)) (v := (.int c1)) Ar8.1 (State.isArrayOf_alike hZ.alike Ar8.2.1) Ar8.2.2 hin8 (H8.at hin8 rfl) (g := (mkF m 19 #[.val (.ref a), .val (.int 1), .val (.int 2), .val (.ref t0), .val (.int 1)] [(.int 1), (.ref a), (.int 1), (.ref t0)])) rfl rfl (hb hby own_d17_19) _ kq) ?_
  have k9_ := (k4_.trans Kq6 (allS (Or.inr sz1) all0))
  have o10_ := (o5_.keep Kq6 (allS g1 all0))
  refine own_callS X6 hx hZ (y := own_y20) hown (own_h hw 88 rfl) (own_h hw 89 rfl) (own_h hw 44 rfl) (own_h hw 90 rfl) (by decide) (own_put_2_1 l Z a0 hw [] t0 c1 k0 (StrChars.lo8 c0) (StrChars.hi8 c0) (0 : Int32) (0 : Int32) zCS fm T6.heap n0 (Nat.le_trans Z0 k9_.1) S_CS nCS S_AD S_HI S_LO S_SF hfm o10_ A6 g1) (by decide) (by decide) rfl (g := (mkF m 20 #[.val (.ref a), .val (.int 1), .val (.int 2), .val (.ref t0), .val (.int 1)] [(.int c1), (.int 1), (.ref t0)])) rfl (by rw [hml]; rfl) (argsL := [(.ref t0), (.int 1), (.int c1)]) (rest := []) (lenOf own_pd__28_5bBII_29V rfl) rfl (W := 0) (by show 2 * 0 + _ ≤ _; exact Nat.le_of_eq rfl) (hb hby own_d17_20) rfl (by decide) (by decide) ?_
  rintro rv11 T11 L11 X11 ⟨rfl, Nq11, Kq11, A11⟩
  have N11 := Fr.app N6 Nq11
  refine own_g (mkF m 33 #[.val (.ref a), .val (.int 2), .val (.int 2), .val (.ref t0), .val (.int 2)] [(.ref t0)]) (fun _ q => XS.iinc X11.here hx rfl (hb hby own_d17_23) rfl (l' := #[.val (.ref a), .val (.int 2), .val (.int 2), .val (.ref t0), .val (.int 1)]) rfl (XS.iinc X11.here hx rfl (hb hby own_d17_26) rfl (l' := #[.val (.ref a), .val (.int 2), .val (.int 2), .val (.ref t0), .val (.int 2)]) rfl (XS.goto X11.here hx rfl (pc0 := 29) (pc' := 8) rfl (hb hby own_d17_29) (by decide) (by decide) (XS.iload X11.here hx rfl (hb hby own_d17_8) rfl (XS.iloadN X11.here hx rfl (hb hby own_d17_10) rfl (XS.icmpYes X11.here hx rfl (pc0 := 11) (pc' := 32) rfl (hb hby own_d17_11) rfl (flt (by decide : ¬ ((2 : Int32) < (2 : Int32)))).2.1 (by decide) (by decide) (XS.aloadN X11.here hx rfl (hb hby own_d17_32) rfl rfl q))))))) ?_
  have k12_ := (k9_.trans Kq11 (allS (Or.inr sz1) all0))
  exact own_end X11 (v := some (.ref t0)) (fun h => by rw [Bd.returns] at h; cases h) hlk (fun hr => retOut X11 hx Bd.returns (own_narR rfl) (Or.inr (Or.inr (Or.inr (Or.inr ⟨rfl, rfl, rfl⟩)))) (hb hby own_d17_33) hr) (⟨t0, k0, rfl, N11, k12_, sz1, g1, A11⟩) (by decide) (by decide)
theorem own_c2_2_ef (m : MethodId) (a : Addr) (b : Addr) : entryFrame m #[(.ref a), (.int 0), (.ref b), (.int 0), (.int 2)] 7 = mkF m 0 #[.val (.ref a), .val (.int 0), .val (.ref b), .val (.int 0), .val (.int 2), .unset, .unset] [] := by  first | (simp [entryFrame, mkF, argsToLocals, Value.category]; done) | rfl
def own_c2_2_Q (Z : State) (a : Addr) (b : Addr) (ka : ClassId) (da : Value) (c0 : Int32) (c1 : Int32) (kb : ClassId) (zCS : Int32) (fm : Value) (h0 : Heap) (n0 : Nat) (v : Option Value) (h : Heap) (L : List Loc) : Prop := Fr n0 L ∧ Keep h0 h [b] ∧ ((v = some (.int 2) ∧ ¬ (255 : Int32) < c0 ∧ ¬ (255 : Int32) < c1 ∧ Arv Z h b kb .byte (2 : Int32) [(.int (StrChars.lo8 c0)), (.int (StrChars.lo8 c1))] (.int 0)) ∨ (v = some (.int 0) ∧ (255 : Int32) < c0) ∨ (v = some (.int 1) ∧ (255 : Int32) < c1))
set_option maxRecDepth 65536 in
set_option maxHeartbeats 40000000 in
theorem own_c2_2 (l : Launch) (Z : State) (a0 : Array Value) (hw : ∀ d ∈ tables_1, d.before a0 Z = true) (ws : List Jvm.Cond) (a : Addr) (b : Addr) (ka : ClassId) (da : Value) (c0 : Int32) (c1 : Int32) (kb : ClassId) (zCS : Int32) (fm : Value) (h0 : Heap) (n0 : Nat) (Z0 : n0 ≤ h0.size) (S_CS : own_A0 Z zCS) (nCS : ¬ zCS = 0) (S_AD : own_A1 Z) (S_HI : own_A2 Z) (S_LO : own_A3 Z) (S_SF : own_A4 Z fm) (hfm : fm.isRef = true) (O0 : Old Z n0 h0) (K_a : Arv Z h0 a ka .char (2 : Int32) [(.int c0), (.int c1)] da) (K_b : Arv Z h0 b kb .byte (2 : Int32) [(.int 0), (.int 0)] (.int 0)) (g_b : n0 ≤ b) (n_ab : a ≠ b) :
    MetFree l own_y15 (head1 (Jvm.Cond.code own_y15 jdk_52_method_21_code 7 (some .int) :: ws) (⟨0, 0, 0, 0⟩ : Room)) (fun aa U => aa = #[(.ref a), (.int 0), (.ref b), (.int 0), (.int 2)] ∧ Z.Warmed39 U.vm ∧ U.heap = h0) (fun _ _ _ _ _ => True) (fun _ U o U' => ∃ v L, o = .returned v ∧ own_c2_2_Q Z a b ka da c0 c1 kb zCS fm h0 n0 v U'.heap L ∧ FrameEnd U o U' L (⟨0, 0, 0, 0⟩ : Room).cells (⟨0, 0, 0, 0⟩ : Room).slots) := by
  refine MetFree.of_bodySF (plainFor_of_name own_pn_java_lang_StringUTF16) hisR ?_
  intro p e s m args below meth c s₁ Bd hml0 hP hK
  obtain ⟨rfl, hZ, hh⟩ := hP
  have hx := Bd.exec
  have hby := Bd.bytes
  have hml : c.maxLocals = 7 := hml0
  have hown : s.vm.findClass "java/lang/StringUTF16" = some m.cls := findClass_of_methodNamed Bd.named
  have hnm := (name_of_methodNamed Bd.named Bd.method).1
  have hlk := Bd.notSynchronized
  have X0 : Stand p l e (⟨0, 0, 0, 0⟩ : Room) s m #[(.ref a), (.int 0), (.ref b), (.int 0), (.int 2)] below meth c s₁ [] 0 0 := Stand.of_body Bd
  have e0 : s₁.heap = h0 := by rw [← hh, Bd.state]; rfl
  have N0 := Fr.nil n0
  refine own_start (Q := own_c2_2_Q Z a b ka da c0 c1 kb zCS fm h0 n0) (own_c2_2_ef m a b) ?_
  refine own_g (mkF m 12 #[.val (.ref a), .val (.int 0), .val (.ref b), .val (.int 0), .val (.int 2), .val (.int 0), .unset] [(.int 0), (.ref a)]) (fun _ q => XS.iconst X0.here hx rfl (hb hby own_d9_0) (XS.istore X0.here hx rfl (hb hby own_d9_1) rfl (l' := #[.val (.ref a), .val (.int 0), .val (.ref b), .val (.int 0), .val (.int 2), .val (.int 0), .unset]) rfl (XS.iload X0.here hx rfl (hb hby own_d9_3) rfl (XS.iload X0.here hx rfl (hb hby own_d9_5) rfl (XS.icmpNo X0.here hx rfl (hb hby own_d9_7) rfl (tlt (by decide : (0 : Int32) < (2 : Int32))).2.1 (XS.aloadN X0.here hx rfl (hb hby own_d9_10) rfl rfl (XS.iloadN X0.here hx rfl (hb hby own_d9_11) rfl q))))))) ?_
  obtain ⟨cl1, Ar1, q1, S1, P1, H1, G1⟩ := id K_a
  have hin1 : ¬ ((0 : Int32) < 0 ∨ cl1.slots.size ≤ ((0 : Int32)).toNatClampNeg) := inb_of S1 ⟨by decide, by decide⟩
  refine own_by (g' := (mkF m 13 #[.val (.ref a), .val (.int 0), .val (.ref b), .val (.int 0), .val (.int 2), .val (.int 0), .unset] [(.int c0)])) (fun _ kq => X0.caload hx (j := (0 : Int32)) (v := (.int c0)) (by rw [e0]; exact Ar1.1) (State.isArrayOf_alike hZ.alike Ar1.2.1) Ar1.2.2 hin1 (H1.at hin1 rfl) (g := (mkF m 12 #[.val (.ref a), .val (.int 0), .val (.ref b), .val (.int 0), .val (.int 2), .val (.int 0), .unset] [(.int 0), (.ref a)])) rfl rfl (hb hby own_d9_12) _ kq) ?_
  refine own_g (mkF m 20 #[.val (.ref a), .val (.int 0), .val (.ref b), .val (.int 0), .val (.int 2), .val (.int 0), .val (.int c0)] [(.int 255), (.int c0)]) (fun _ q => XS.istore X0.here hx rfl (hb hby own_d9_13) rfl (l' := #[.val (.ref a), .val (.int 0), .val (.ref b), .val (.int 0), .val (.int 2), .val (.int 0), .val (.int c0)]) rfl (XS.iload X0.here hx rfl (hb hby own_d9_15) rfl (XS.sipush X0.here hx rfl (hb hby own_d9_17) q))) ?_
  by_cases hc2 : (255 : Int32) < c0
  · refine own_g (mkF m 25 #[.val (.ref a), .val (.int 0), .val (.ref b), .val (.int 0), .val (.int 2), .val (.int 0), .val (.int c0)] [(.int 0)]) (fun _ q => XS.icmpNo X0.here hx rfl (hb hby own_d9_20) rfl (tlt hc2).2.2.2 (XS.iload X0.here hx rfl (hb hby own_d9_23) rfl q)) ?_
    exact own_end X0 (v := some (.int 0)) (fun h => by rw [Bd.returns] at h; cases h) hlk (fun hr => retOut X0 hx Bd.returns rfl (Or.inl ⟨rfl, Or.inl rfl, _, rfl⟩) (hb hby own_d9_25) hr) (by rw [e0]; exact ⟨N0, (Keep.refl h0 [b]), Or.inr (Or.inl ⟨rfl, hc2⟩)⟩) (by decide) (by decide)
  · refine own_g (mkF m 31 #[.val (.ref a), .val (.int 0), .val (.ref b), .val (.int 0), .val (.int 2), .val (.int 0), .val (.int c0)] [(.int (c0.toInt8.toInt32)), (.int 0), (.ref b)]) (fun _ q => XS.icmpYes X0.here hx rfl (pc0 := 20) (pc' := 26) rfl (hb hby own_d9_20) rfl (flt hc2).2.2.2 (by decide) (by decide) (XS.aloadN X0.here hx rfl (hb hby own_d9_26) rfl rfl (XS.iloadN X0.here hx rfl (hb hby own_d9_27) rfl (XS.iload X0.here hx rfl (hb hby own_d9_28) rfl (XS.i2b X0.here hx rfl (hb hby own_d9_30) rfl q))))) ?_
    obtain ⟨cl3, Ar3, q3, S3, P3, H3, G3⟩ := id K_b
    have hin3 : ¬ ((0 : Int32) < 0 ∨ cl3.slots.size ≤ ((0 : Int32)).toNatClampNeg) := inb_of S3 ⟨by decide, by decide⟩
    obtain ⟨T4, h4, X4, e4, W4, st4⟩ := stB X0 hx hZ e0 Ar3 (j := (0 : Int32)) hin3 (g := (mkF m 31 #[.val (.ref a), .val (.int 0), .val (.ref b), .val (.int 0), .val (.int 2), .val (.int 0), .val (.int c0)] [(.int (c0.toInt8.toInt32)), (.int 0), (.ref b)])) rfl rfl (hb hby own_d9_31)
    have V4 : Arv Z h4 b kb .byte (2 : Int32) [(.int ((c0.toInt8.toInt32).toInt8.toInt32)), (.int 0)] (.int 0) := Arv.set Ar3 q3 S3 P3 H3 G3 (fits_nar_byte _) W4 0 rfl (Nat.le_of_ble_eq_true rfl)
    have N4 := Fr.snoc X4 N0 g_b
    refine own_by (g' := (mkF m 32 #[.val (.ref a), .val (.int 0), .val (.ref b), .val (.int 0), .val (.int 2), .val (.int 0), .val (.int c0)] [])) st4 ?_
    refine own_g (mkF m 11 #[.val (.ref a), .val (.int 1), .val (.ref b), .val (.int 1), .val (.int 2), .val (.int 1), .val (.int c0)] [(.ref a)]) (fun _ q => XS.iinc X4.here hx rfl (hb hby own_d9_32) rfl (l' := #[.val (.ref a), .val (.int 1), .val (.ref b), .val (.int 0), .val (.int 2), .val (.int 0), .val (.int c0)]) rfl (XS.iinc X4.here hx rfl (hb hby own_d9_35) rfl (l' := #[.val (.ref a), .val (.int 1), .val (.ref b), .val (.int 1), .val (.int 2), .val (.int 0), .val (.int c0)]) rfl (XS.iinc X4.here hx rfl (hb hby own_d9_38) rfl (l' := #[.val (.ref a), .val (.int 1), .val (.ref b), .val (.int 1), .val (.int 2), .val (.int 1), .val (.int c0)]) rfl (XS.goto X4.here hx rfl (pc0 := 41) (pc' := 3) rfl (hb hby own_d9_41) (by decide) (by decide) (XS.iload X4.here hx rfl (hb hby own_d9_3) rfl (XS.iload X4.here hx rfl (hb hby own_d9_5) rfl (XS.icmpNo X4.here hx rfl (hb hby own_d9_7) rfl (tlt (by decide : (1 : Int32) < (2 : Int32))).2.1 (XS.aloadN X4.here hx rfl (hb hby own_d9_10) rfl rfl q)))))))) ?_
    refine own_g (mkF m 12 #[.val (.ref a), .val (.int 1), .val (.ref b), .val (.int 1), .val (.int 2), .val (.int 1), .val (.int c0)] [(.int 1), (.ref a)]) (fun _ q => XS.iloadN X4.here hx rfl (hb hby own_d9_11) rfl q) ?_
    have a5_a := (K_a.other W4 n_ab)
    obtain ⟨cl6, Ar6, q6, S6, P6, H6, G6⟩ := id a5_a
    have hin6 : ¬ ((1 : Int32) < 0 ∨ cl6.slots.size ≤ ((1 : Int32)).toNatClampNeg) := inb_of S6 ⟨by decide, by decide⟩
    refine own_by (g' := (mkF m 13 #[.val (.ref a), .val (.int 1), .val (.ref b), .val (.int 1), .val (.int 2), .val (.int 1), .val (.int c0)] [(.int c1)])) (fun _ kq => X4.caload hx (j := (1 : Int32)) (v := (.int c1)) (by rw [e4]; exact Ar6.1) (State.isArrayOf_alike hZ.alike Ar6.2.1) Ar6.2.2 hin6 (H6.at hin6 rfl) (g := (mkF m 12 #[.val (.ref a), .val (.int 1), .val (.ref b), .val (.int 1), .val (.int 2), .val (.int 1), .val (.int c0)] [(.int 1), (.ref a)])) rfl rfl (hb hby own_d9_12) _ kq) ?_
    refine own_g (mkF m 20 #[.val (.ref a), .val (.int 1), .val (.ref b), .val (.int 1), .val (.int 2), .val (.int 1), .val (.int c1)] [(.int 255), (.int c1)]) (fun _ q => XS.istore X4.here hx rfl (hb hby own_d9_13) rfl (l' := #[.val (.ref a), .val (.int 1), .val (.ref b), .val (.int 1), .val (.int 2), .val (.int 1), .val (.int c1)]) rfl (XS.iload X4.here hx rfl (hb hby own_d9_15) rfl (XS.sipush X4.here hx rfl (hb hby own_d9_17) q))) ?_
    by_cases hc7 : (255 : Int32) < c1
    · refine own_g (mkF m 25 #[.val (.ref a), .val (.int 1), .val (.ref b), .val (.int 1), .val (.int 2), .val (.int 1), .val (.int c1)] [(.int 1)]) (fun _ q => XS.icmpNo X4.here hx rfl (hb hby own_d9_20) rfl (tlt hc7).2.2.2 (XS.iload X4.here hx rfl (hb hby own_d9_23) rfl q)) ?_
      have k8_ := ((Keep.refl h0 [b]).wr W4 (Or.inl (List.mem_of_getElem? (i := 0) rfl)))
      exact own_end X4 (v := some (.int 1)) (fun h => by rw [Bd.returns] at h; cases h) hlk (fun hr => retOut X4 hx Bd.returns rfl (Or.inl ⟨rfl, Or.inl rfl, _, rfl⟩) (hb hby own_d9_25) hr) (by rw [e4]; exact ⟨N4, k8_, Or.inr (Or.inr (⟨rfl, hc7⟩))⟩) (by decide) (by decide)
    · refine own_g (mkF m 31 #[.val (.ref a), .val (.int 1), .val (.ref b), .val (.int 1), .val (.int 2), .val (.int 1), .val (.int c1)] [(.int (c1.toInt8.toInt32)), (.int 1), (.ref b)]) (fun _ q => XS.icmpYes X4.here hx rfl (pc0 := 20) (pc' := 26) rfl (hb hby own_d9_20) rfl (flt hc7).2.2.2 (by decide) (by decide) (XS.aloadN X4.here hx rfl (hb hby own_d9_26) rfl rfl (XS.iloadN X4.here hx rfl (hb hby own_d9_27) rfl (XS.iload X4.here hx rfl (hb hby own_d9_28) rfl (XS.i2b X4.here hx rfl (hb hby own_d9_30) rfl q))))) ?_
      obtain ⟨cl9, Ar9, q9, S9, P9, H9, G9⟩ := id V4
      have hin9 : ¬ ((1 : Int32) < 0 ∨ cl9.slots.size ≤ ((1 : Int32)).toNatClampNeg) := inb_of S9 ⟨by decide, by decide⟩
      obtain ⟨T10, h10, X10, e10, W10, st10⟩ := stB X4 hx hZ e4 Ar9 (j := (1 : Int32)) hin9 (g := (mkF m 31 #[.val (.ref a), .val (.int 1), .val (.ref b), .val (.int 1), .val (.int 2), .val (.int 1), .val (.int c1)] [(.int (c1.toInt8.toInt32)), (.int 1), (.ref b)])) rfl rfl (hb hby own_d9_31)
      have V10 : Arv Z h10 b kb .byte (2 : Int32) [(.int ((c0.toInt8.toInt32).toInt8.toInt32)), (.int ((c1.toInt8.toInt32).toInt8.toInt32))] (.int 0) := Arv.set Ar9 q9 S9 P9 H9 G9 (fits_nar_byte _) W10 1 rfl (Nat.le_of_ble_eq_true rfl)
      have N10 := Fr.snoc X10 N4 g_b
      refine own_by (g' := (mkF m 32 #[.val (.ref a), .val (.int 1), .val (.ref b), .val (.int 1), .val (.int 2), .val (.int 1), .val (.int c1)] [])) st10 ?_
      refine own_g (mkF m 46 #[.val (.ref a), .val (.int 2), .val (.ref b), .val (.int 2), .val (.int 2), .val (.int 2), .val (.int c1)] [(.int 2)]) (fun _ q => XS.iinc X10.here hx rfl (hb hby own_d9_32) rfl (l' := #[.val (.ref a), .val (.int 2), .val (.ref b), .val (.int 1), .val (.int 2), .val (.int 1), .val (.int c1)]) rfl (XS.iinc X10.here hx rfl (hb hby own_d9_35) rfl (l' := #[.val (.ref a), .val (.int 2), .val (.ref b), .val (.int 2), .val (.int 2), .val (.int 1), .val (.int c1)]) rfl (XS.iinc X10.here hx rfl (hb hby own_d9_38) rfl (l' := #[.val (.ref a), .val (.int 2), .val (.ref b), .val (.int 2), .val (.int 2), .val (.int 2), .val (.int c1)]) rfl (XS.goto X10.here hx rfl (pc0 := 41) (pc' := 3) rfl (hb hby own_d9_41) (by decide) (by decide) (XS.iload X10.here hx rfl (hb hby own_d9_3) rfl (XS.iload X10.here hx rfl (hb hby own_d9_5) rfl (XS.icmpYes X10.here hx rfl (pc0 := 7) (pc' := 44) rfl (hb hby own_d9_7) rfl (flt (by decide : ¬ ((2 : Int32) < (2 : Int32)))).2.1 (by decide) (by decide) (XS.iload X10.here hx rfl (hb hby own_d9_44) rfl q)))))))) ?_
      have k11_ := (((Keep.refl h0 [b]).wr W4 (Or.inl (List.mem_of_getElem? (i := 0) rfl))).wr W10 (Or.inl (List.mem_of_getElem? (i := 0) rfl)))
      exact own_end X10 (v := some (.int 2)) (fun h => by rw [Bd.returns] at h; cases h) hlk (fun hr => retOut X10 hx Bd.returns rfl (Or.inl ⟨rfl, Or.inl rfl, _, rfl⟩) (hb hby own_d9_46) hr) (by rw [e10]; exact ⟨N10, k11_, Or.inl ⟨rfl, hc2, hc7, by have q := V10; simp only [own_bb] at q; exact q⟩⟩) (by decide) (by decide)
theorem own_c1_2_ef (m : MethodId) (a : Addr) : entryFrame m #[(.ref a), (.int 0), (.int 2)] 6 = mkF m 0 #[.val (.ref a), .val (.int 0), .val (.int 2), .unset, .unset, .unset] [] := by  first | (simp [entryFrame, mkF, argsToLocals, Value.category]; done) | rfl
def own_c1_2_Q (Z : State) (a : Addr) (ka : ClassId) (da : Value) (c0 : Int32) (c1 : Int32) (zCS : Int32) (fm : Value) (h0 : Heap) (n0 : Nat) (v : Option Value) (h : Heap) (L : List Loc) : Prop := ∃ (t : Addr) (kb : ClassId), v = some (.ref t) ∧ Fr n0 L ∧ Keep h0 h [] ∧ h0.size ≤ t ∧ n0 ≤ t ∧ ((¬ (255 : Int32) < c0 ∧ ¬ (255 : Int32) < c1 ∧ Arv Z h t kb .byte (2 : Int32) [(.int (StrChars.lo8 c0)), (.int (StrChars.lo8 c1))] (.int 0)) ∨ Arv Z h t kb .byte (4 : Int32) [(.int (StrChars.lo8 c0)), (.int (StrChars.hi8 c0)), (.int (StrChars.lo8 c1)), (.int (StrChars.hi8 c1))] (.int 0))
set_option maxRecDepth 65536 in
set_option maxHeartbeats 40000000 in
theorem own_c1_2 (l : Launch) (Z : State) (a0 : Array Value) (hw : ∀ d ∈ tables_1, d.before a0 Z = true) (ws : List Jvm.Cond) (a : Addr) (ka : ClassId) (da : Value) (c0 : Int32) (c1 : Int32) (zCS : Int32) (fm : Value) (h0 : Heap) (n0 : Nat) (Z0 : n0 ≤ h0.size) (S_CS : own_A0 Z zCS) (nCS : ¬ zCS = 0) (S_AD : own_A1 Z) (S_HI : own_A2 Z) (S_LO : own_A3 Z) (S_SF : own_A4 Z fm) (hfm : fm.isRef = true) (O0 : Old Z n0 h0) (K_a : Arv Z h0 a ka .char (2 : Int32) [(.int c0), (.int c1)] da) (hb0 : ¬ c0 < 0 ∧ ¬ (65535 : Int32) < c0) (hb1 : ¬ c1 < 0 ∧ ¬ (65535 : Int32) < c1) (hn0 : nar .char c0 = c0) (hn1 : nar .char c1 = c1) :
    MetFree l own_y14 (head1 (Jvm.Cond.code own_y14 jdk_52_method_16_code 6 (some (.array .byte)) :: ws) (⟨3, 2, 6, 40⟩ : Room)) (fun aa U => aa = #[(.ref a), (.int 0), (.int 2)] ∧ Z.Warmed39 U.vm ∧ U.heap = h0) (fun _ _ _ _ _ => True) (fun _ U o U' => ∃ v L, o = .returned v ∧ own_c1_2_Q Z a ka da c0 c1 zCS fm h0 n0 v U'.heap L ∧ FrameEnd U o U' L (⟨3, 2, 6, 40⟩ : Room).cells (⟨3, 2, 6, 40⟩ : Room).slots) := by
  refine MetFree.of_bodySF (plainFor_of_name own_pn_java_lang_StringUTF16) hisR ?_
  intro p e s m args below meth c s₁ Bd hml0 hP hK
  obtain ⟨rfl, hZ, hh⟩ := hP
  have hx := Bd.exec
  have hby := Bd.bytes
  have hml : c.maxLocals = 6 := hml0
  have hown : s.vm.findClass "java/lang/StringUTF16" = some m.cls := findClass_of_methodNamed Bd.named
  have hnm := (name_of_methodNamed Bd.named Bd.method).1
  have hlk := Bd.notSynchronized
  have X0 : Stand p l e (⟨3, 2, 6, 40⟩ : Room) s m #[(.ref a), (.int 0), (.int 2)] below meth c s₁ [] 0 0 := Stand.of_body Bd
  have e0 : s₁.heap = h0 := by rw [← hh, Bd.state]; rfl
  have N0 := Fr.nil n0
  refine own_start (Q := own_c1_2_Q Z a ka da c0 c1 zCS fm h0 n0) (own_c1_2_ef m a) ?_
  refine own_g (mkF m 1 #[.val (.ref a), .val (.int 0), .val (.int 2), .unset, .unset, .unset] [(.int 2)]) (fun _ q => XS.iloadN X0.here hx rfl (hb hby own_d8_0) rfl q) ?_
  obtain ⟨T1, h1, k1, X1, e1, E1, A1, st1⟩ := newP X0 hx hZ (own_h hw 20 rfl) e0 (g := (mkF m 1 #[.val (.ref a), .val (.int 0), .val (.int 2), .unset, .unset, .unset] [(.int 2)])) rfl (hb hby own_d8_1) rfl (by decide) (cap := 2) (by decide) (by decide) (by decide) (by decide)
  obtain ⟨b1, g1⟩ : ∃ z, z = h0.size := ⟨_, rfl⟩
  rw [← g1] at A1 st1
  have g_b1 : n0 ≤ b1 := Nat.le_trans Z0 (Nat.le_of_eq g1.symm)
  have sz_b1 : h0.size ≤ b1 := Nat.le_trans (Keep.refl h0 []).1 (Nat.le_of_eq g1.symm)
  have ne_a_b1 : a ≠ b1 := Nat.ne_of_lt (Nat.lt_of_lt_of_le K_a.lt (Nat.le_of_eq g1.symm))
  have V_b1 : Arv Z h1 b1 k1 .byte (2 : Int32) [(.int 0), (.int 0)] (.int 0) := (Arv.new A1 (by decide)).pad (pad_rep [] (.int 0) 2)
  refine own_by (g' := (mkF m 3 #[.val (.ref a), .val (.int 0), .val (.int 2), .unset, .unset, .unset] [(.ref b1)])) st1 ?_
  refine own_g (mkF m 9 #[.val (.ref a), .val (.int 0), .val (.int 2), .val (.ref b1), .unset, .unset] [(.int 2), (.int 0), (.ref b1), (.int 0), (.ref a)]) (fun _ q => XS.astoreN X1.here hx rfl (hb hby own_d8_3) rfl rfl (l' := #[.val (.ref a), .val (.int 0), .val (.int 2), .val (.ref b1), .unset, .unset]) rfl (XS.aloadN X1.here hx rfl (hb hby own_d8_4) rfl rfl (XS.iloadN X1.here hx rfl (hb hby own_d8_5) rfl (XS.aloadN X1.here hx rfl (hb hby own_d8_6) rfl rfl (XS.iconst X1.here hx rfl (hb hby own_d8_7) (XS.iloadN X1.here hx rfl (hb hby own_d8_8) rfl q)))))) ?_
  have k2_ := ((Keep.refl h0 []).ext E1)
  have o3_ := (O0.ext E1)
  have a4_a := (K_a.ext E1)
  refine own_callS X1 hx hZ (y := own_y15) hown (own_h hw 46 rfl) (own_h hw 47 rfl) (own_h hw 44 rfl) (own_h hw 48 rfl) (by decide) (own_c2_2 l Z a0 hw [] a b1 ka da c0 c1 k1 zCS fm h1 n0 (Nat.le_trans Z0 k2_.1) S_CS nCS S_AD S_HI S_LO S_SF hfm o3_ a4_a V_b1 g_b1 ne_a_b1) (by decide) (by decide) e1 (g := (mkF m 9 #[.val (.ref a), .val (.int 0), .val (.int 2), .val (.ref b1), .unset, .unset] [(.int 2), (.int 0), (.ref b1), (.int 0), (.ref a)])) rfl (by rw [hml]; rfl) (argsL := [(.ref a), (.int 0), (.ref b1), (.int 0), (.int 2)]) (rest := []) (lenOf own_pd__28_5bCI_5bBII_29I rfl) rfl (W := 0) (by show 2 * 0 + _ ≤ _; exact Nat.le_of_eq rfl) (hb hby own_d8_9) rfl (by decide) (by decide) ?_
  rintro rv5 T5 L5 X5 ⟨Nq5, Kq5, hv5⟩
  have N5 := Fr.app N0 Nq5
  rcases hv5 with ⟨rfl, ha0, ha1, Al5⟩ | ⟨rfl, hw0⟩ | ⟨rfl, hw1⟩
  · show own_Fin p e below _ T5 (mkF m 12 #[.val (.ref a), .val (.int 0), .val (.int 2), .val (.ref b1), .unset, .unset] [(.int 2)])
    refine own_g (mkF m 58 #[.val (.ref a), .val (.int 0), .val (.int 2), .val (.ref b1), .val (.int 2), .unset] [(.ref b1)]) (fun _ q => XS.istore X5.here hx rfl (hb hby own_d8_12) rfl (l' := #[.val (.ref a), .val (.int 0), .val (.int 2), .val (.ref b1), .val (.int 2), .unset]) rfl (XS.iload X5.here hx rfl (hb hby own_d8_14) rfl (XS.iloadN X5.here hx rfl (hb hby own_d8_16) rfl (XS.icmpYes X5.here hx rfl (pc0 := 17) (pc' := 57) rfl (hb hby own_d8_17) rfl (teq (by decide : (2 : Int32) = (2 : Int32))).1 (by decide) (by decide) (XS.aloadN X5.here hx rfl (hb hby own_d8_57) rfl rfl q))))) ?_
    have k6_ := (k2_.trans Kq5 (allS (Or.inr sz_b1) all0))
    exact own_end X5 (v := some (.ref b1)) (fun h => by rw [Bd.returns] at h; cases h) hlk (fun hr => retOut X5 hx Bd.returns (own_narR rfl) (Or.inr (Or.inr (Or.inr (Or.inr ⟨rfl, rfl, rfl⟩)))) (hb hby own_d8_58) hr) (⟨b1, k1, rfl, N5, k6_, sz_b1, g_b1, Or.inl ⟨ha0, ha1, Al5⟩⟩) (by decide) (by decide)
  · show own_Fin p e below _ T5 (mkF m 12 #[.val (.ref a), .val (.int 0), .val (.int 2), .val (.ref b1), .unset, .unset] [(.int 0)])
    refine own_g (mkF m 23 #[.val (.ref a), .val (.int 0), .val (.int 2), .val (.ref b1), .val (.int 0), .unset] [(.int 2), (.int 0), (.ref a)]) (fun _ q => XS.istore X5.here hx rfl (hb hby own_d8_12) rfl (l' := #[.val (.ref a), .val (.int 0), .val (.int 2), .val (.ref b1), .val (.int 0), .unset]) rfl (XS.iload X5.here hx rfl (hb hby own_d8_14) rfl (XS.iloadN X5.here hx rfl (hb hby own_d8_16) rfl (XS.icmpNo X5.here hx rfl (hb hby own_d8_17) rfl (feq (by decide : ¬ ((0 : Int32) = (2 : Int32)))).1 (XS.aloadN X5.here hx rfl (hb hby own_d8_20) rfl rfl (XS.iloadN X5.here hx rfl (hb hby own_d8_21) rfl (XS.iloadN X5.here hx rfl (hb hby own_d8_22) rfl q))))))) ?_
    have a7_a := (a4_a.keep Kq5 (ninS ne_a_b1 nin0))
    have k8_ := (k2_.trans Kq5 (allS (Or.inr sz_b1) all0))
    have o9_ := (o3_.keep Kq5 (allS g_b1 all0))
    refine own_callS X5 hx hZ (y := own_y21) hown (own_h hw 78 rfl) (own_h hw 79 rfl) (own_h hw 44 rfl) (own_h hw 80 rfl) (by decide) (own_tb_2 l Z a0 hw [] a ka da c0 c1 zCS fm T5.heap n0 (Nat.le_trans Z0 k8_.1) S_CS nCS S_AD S_HI S_LO S_SF hfm o9_ a7_a) (by decide) (by decide) rfl (g := (mkF m 23 #[.val (.ref a), .val (.int 0), .val (.int 2), .val (.ref b1), .val (.int 0), .unset] [(.int 2), (.int 0), (.ref a)])) rfl (by rw [hml]; rfl) (argsL := [(.ref a), (.int 0), (.int 2)]) (rest := []) (lenOf own_pd__28_5bCII_29_5bB rfl) rfl (W := 0) (by show 2 * 0 + _ ≤ _; exact Nat.le_of_eq rfl) (hb hby own_d8_23) rfl (by decide) (by decide) ?_
    rintro rv10 T10 L10 X10 ⟨t0, k0, rfl, Nq10, Kq10, sz10, g10, A10⟩
    have N10 := Fr.app N5 Nq10
    have szz10 := Nat.le_trans k8_.1 sz10
    refine own_g (mkF m 32 #[.val (.ref a), .val (.int 0), .val (.int 2), .val (.ref b1), .val (.int 0), .val (.ref t0)] [(.int 0), (.ref t0)]) (fun _ q => XS.astore X10.here hx rfl (hb hby own_d8_26) rfl rfl (l' := #[.val (.ref a), .val (.int 0), .val (.int 2), .val (.ref b1), .val (.int 0), .val (.ref t0)]) rfl (XS.aload X10.here hx rfl (hb hby own_d8_28) rfl rfl (XS.iload X10.here hx rfl (hb hby own_d8_30) rfl q))) ?_
    have k11_ := (k8_.trans Kq10 all0)
    have o12_ := (o9_.keep Kq10 all0)
    refine own_callS X10 hx hZ (y := own_y16) hown (own_h hw 94 rfl) (own_h hw 95 rfl) (own_h hw 44 rfl) (own_h hw 96 rfl) (by decide) (own_get_2_0 l Z a0 hw [] t0 k0 (StrChars.lo8 c0) (StrChars.hi8 c0) (StrChars.lo8 c1) (StrChars.hi8 c1) zCS fm T10.heap n0 (Nat.le_trans Z0 k11_.1) S_CS nCS S_AD S_HI S_LO S_SF hfm o12_ A10) (by decide) (by decide) rfl (g := (mkF m 32 #[.val (.ref a), .val (.int 0), .val (.int 2), .val (.ref b1), .val (.int 0), .val (.ref t0)] [(.int 0), (.ref t0)])) rfl (by rw [hml]; rfl) (argsL := [(.ref t0), (.int 0)]) (rest := []) (lenOf own_pd__28_5bBI_29C rfl) rfl (W := 0) (by show 2 * 0 + _ ≤ _; exact Nat.le_of_eq rfl) (hb hby own_d8_32) rfl (by decide) (by decide) ?_
    rintro rv13 T13 L13 X13 ⟨hv13, Nq13, eh13⟩
    have N13 := Fr.app N10 Nq13
    rw [StrChars.pair_says hb0.1 hb0.2, hn0] at hv13
    subst hv13
    refine own_g (mkF m 56 #[.val (.ref a), .val (.int 0), .val (.int 2), .val (.ref b1), .val (.int 0), .val (.ref t0)] [(.ref t0)]) (fun _ q => XS.sipush X13.here hx rfl (hb hby own_d8_35) (XS.icmpYes X13.here hx rfl (pc0 := 38) (pc' := 54) rfl (hb hby own_d8_38) rfl (tlt hw0).2.2.1 (by decide) (by decide) (XS.aload X13.here hx rfl (hb hby own_d8_54) rfl rfl q))) ?_
    exact own_end X13 (v := some (.ref t0)) (fun h => by rw [Bd.returns] at h; cases h) hlk (fun hr => retOut X13 hx Bd.returns (own_narR rfl) (Or.inr (Or.inr (Or.inr (Or.inr ⟨rfl, rfl, rfl⟩)))) (hb hby own_d8_56) hr) (by rw [eh13]; exact ⟨t0, k0, rfl, N13, k11_, szz10, g10, Or.inr A10⟩) (by decide) (by decide)
  · show own_Fin p e below _ T5 (mkF m 12 #[.val (.ref a), .val (.int 0), .val (.int 2), .val (.ref b1), .unset, .unset] [(.int 1)])
    refine own_g (mkF m 23 #[.val (.ref a), .val (.int 0), .val (.int 2), .val (.ref b1), .val (.int 1), .unset] [(.int 2), (.int 0), (.ref a)]) (fun _ q => XS.istore X5.here hx rfl (hb hby own_d8_12) rfl (l' := #[.val (.ref a), .val (.int 0), .val (.int 2), .val (.ref b1), .val (.int 1), .unset]) rfl (XS.iload X5.here hx rfl (hb hby own_d8_14) rfl (XS.iloadN X5.here hx rfl (hb hby own_d8_16) rfl (XS.icmpNo X5.here hx rfl (hb hby own_d8_17) rfl (feq (by decide : ¬ ((1 : Int32) = (2 : Int32)))).1 (XS.aloadN X5.here hx rfl (hb hby own_d8_20) rfl rfl (XS.iloadN X5.here hx rfl (hb hby own_d8_21) rfl (XS.iloadN X5.here hx rfl (hb hby own_d8_22) rfl q))))))) ?_
    have a14_a := (a4_a.keep Kq5 (ninS ne_a_b1 nin0))
    have k15_ := (k2_.trans Kq5 (allS (Or.inr sz_b1) all0))
    have o16_ := (o3_.keep Kq5 (allS g_b1 all0))
    refine own_callS X5 hx hZ (y := own_y21) hown (own_h hw 78 rfl) (own_h hw 79 rfl) (own_h hw 44 rfl) (own_h hw 80 rfl) (by decide) (own_tb_2 l Z a0 hw [] a ka da c0 c1 zCS fm T5.heap n0 (Nat.le_trans Z0 k15_.1) S_CS nCS S_AD S_HI S_LO S_SF hfm o16_ a14_a) (by decide) (by decide) rfl (g := (mkF m 23 #[.val (.ref a), .val (.int 0), .val (.int 2), .val (.ref b1), .val (.int 1), .unset] [(.int 2), (.int 0), (.ref a)])) rfl (by rw [hml]; rfl) (argsL := [(.ref a), (.int 0), (.int 2)]) (rest := []) (lenOf own_pd__28_5bCII_29_5bB rfl) rfl (W := 0) (by show 2 * 0 + _ ≤ _; exact Nat.le_of_eq rfl) (hb hby own_d8_23) rfl (by decide) (by decide) ?_
    rintro rv17 T17 L17 X17 ⟨t0, k0, rfl, Nq17, Kq17, sz17, g17, A17⟩
    have N17 := Fr.app N5 Nq17
    have szz17 := Nat.le_trans k15_.1 sz17
    refine own_g (mkF m 32 #[.val (.ref a), .val (.int 0), .val (.int 2), .val (.ref b1), .val (.int 1), .val (.ref t0)] [(.int 1), (.ref t0)]) (fun _ q => XS.astore X17.here hx rfl (hb hby own_d8_26) rfl rfl (l' := #[.val (.ref a), .val (.int 0), .val (.int 2), .val (.ref b1), .val (.int 1), .val (.ref t0)]) rfl (XS.aload X17.here hx rfl (hb hby own_d8_28) rfl rfl (XS.iload X17.here hx rfl (hb hby own_d8_30) rfl q))) ?_
    have k18_ := (k15_.trans Kq17 all0)
    have o19_ := (o16_.keep Kq17 all0)
    refine own_callS X17 hx hZ (y := own_y16) hown (own_h hw 94 rfl) (own_h hw 95 rfl) (own_h hw 44 rfl) (own_h hw 96 rfl) (by decide) (own_get_2_1 l Z a0 hw [] t0 k0 (StrChars.lo8 c0) (StrChars.hi8 c0) (StrChars.lo8 c1) (StrChars.hi8 c1) zCS fm T17.heap n0 (Nat.le_trans Z0 k18_.1) S_CS nCS S_AD S_HI S_LO S_SF hfm o19_ A17) (by decide) (by decide) rfl (g := (mkF m 32 #[.val (.ref a), .val (.int 0), .val (.int 2), .val (.ref b1), .val (.int 1), .val (.ref t0)] [(.int 1), (.ref t0)])) rfl (by rw [hml]; rfl) (argsL := [(.ref t0), (.int 1)]) (rest := []) (lenOf own_pd__28_5bBI_29C rfl) rfl (W := 0) (by show 2 * 0 + _ ≤ _; exact Nat.le_of_eq rfl) (hb hby own_d8_32) rfl (by decide) (by decide) ?_
    rintro rv20 T20 L20 X20 ⟨hv20, Nq20, eh20⟩
    have N20 := Fr.app N17 Nq20
    rw [StrChars.pair_says hb1.1 hb1.2, hn1] at hv20
    subst hv20
    refine own_g (mkF m 56 #[.val (.ref a), .val (.int 0), .val (.int 2), .val (.ref b1), .val (.int 1), .val (.ref t0)] [(.ref t0)]) (fun _ q => XS.sipush X20.here hx rfl (hb hby own_d8_35) (XS.icmpYes X20.here hx rfl (pc0 := 38) (pc' := 54) rfl (hb hby own_d8_38) rfl (tlt hw1).2.2.1 (by decide) (by decide) (XS.aload X20.here hx rfl (hb hby own_d8_54) rfl rfl q))) ?_
    exact own_end X20 (v := some (.ref t0)) (fun h => by rw [Bd.returns] at h; cases h) hlk (fun hr => retOut X20 hx Bd.returns (own_narR rfl) (Or.inr (Or.inr (Or.inr (Or.inr ⟨rfl, rfl, rfl⟩)))) (hb hby own_d8_56) hr) (by rw [eh20]; exact ⟨t0, k0, rfl, N20, k18_, szz17, g17, Or.inr A17⟩) (by decide) (by decide)
theorem own_co_2_2_ef (m : MethodId) (b : Addr) : entryFrame m #[(.ref b), (.int 2)] 2 = mkF m 0 #[.val (.ref b), .val (.int 2)] [] := by  first | (simp [entryFrame, mkF, argsToLocals, Value.category]; done) | rfl
def own_co_2_2_Q (Z : State) (b : Addr) (kb : ClassId) (vs : List Value) (dv : Value) (zCS : Int32) (fm : Value) (h0 : Heap) (n0 : Nat) (v : Option Value) (h : Heap) (L : List Loc) : Prop := v = some (.int 0) ∧ Fr n0 L ∧ h = h0
set_option maxRecDepth 65536 in
set_option maxHeartbeats 40000000 in
theorem own_co_2_2 (l : Launch) (Z : State) (a0 : Array Value) (hw : ∀ d ∈ tables_1, d.before a0 Z = true) (ws : List Jvm.Cond) (b : Addr) (kb : ClassId) (vs : List Value) (dv : Value) (zCS : Int32) (fm : Value) (h0 : Heap) (n0 : Nat) (Z0 : n0 ≤ h0.size) (S_CS : own_A0 Z zCS) (nCS : ¬ zCS = 0) (S_AD : own_A1 Z) (S_HI : own_A2 Z) (S_LO : own_A3 Z) (S_SF : own_A4 Z fm) (hfm : fm.isRef = true) (O0 : Old Z n0 h0) (K_b : Arv Z h0 b kb .byte (2 : Int32) vs dv) :
    MetFree l own_y13 (head1 (Jvm.Cond.code own_y13 jdk_52_method_15_code 2 (some .byte) :: ws) (⟨0, 0, 0, 0⟩ : Room)) (fun aa U => aa = #[(.ref b), (.int 2)] ∧ Z.Warmed39 U.vm ∧ U.heap = h0) (fun _ _ _ _ _ => True) (fun _ U o U' => ∃ v L, o = .returned v ∧ own_co_2_2_Q Z b kb vs dv zCS fm h0 n0 v U'.heap L ∧ FrameEnd U o U' L (⟨0, 0, 0, 0⟩ : Room).cells (⟨0, 0, 0, 0⟩ : Room).slots) := by
  refine MetFree.of_bodySF (plainFor_of_name own_pn_java_lang_StringUTF16) hisR ?_
  intro p e s m args below meth c s₁ Bd hml0 hP hK
  obtain ⟨rfl, hZ, hh⟩ := hP
  have hx := Bd.exec
  have hby := Bd.bytes
  have hml : c.maxLocals = 2 := hml0
  have hown : s.vm.findClass "java/lang/StringUTF16" = some m.cls := findClass_of_methodNamed Bd.named
  have hnm := (name_of_methodNamed Bd.named Bd.method).1
  have hlk := Bd.notSynchronized
  have X0 : Stand p l e (⟨0, 0, 0, 0⟩ : Room) s m #[(.ref b), (.int 2)] below meth c s₁ [] 0 0 := Stand.of_body Bd
  have e0 : s₁.heap = h0 := by rw [← hh, Bd.state]; rfl
  have N0 := Fr.nil n0
  refine own_start (Q := own_co_2_2_Q Z b kb vs dv zCS fm h0 n0) (own_co_2_2_ef m b) ?_
  refine own_g (mkF m 2 #[.val (.ref b), .val (.int 2)] [(.ref b), (.int 2)]) (fun _ q => XS.iloadN X0.here hx rfl (hb hby own_d10_0) rfl (XS.aloadN X0.here hx rfl (hb hby own_d10_1) rfl rfl q)) ?_
  obtain ⟨cl1, Ar1, q1, S1, P1, H1, G1⟩ := id K_b
  refine own_by (g' := (mkF m 3 #[.val (.ref b), .val (.int 2)] [(.int 2), (.int 2)])) (fun _ kq => X0.arraylength hx (by rw [e0]; exact Ar1.1) (State.isArrayOf_alike hZ.alike Ar1.2.1) (g := (mkF m 2 #[.val (.ref b), .val (.int 2)] [(.ref b), (.int 2)])) rfl rfl (hb hby own_d10_2) _ (by rw [len_of S1 P1]; exact kq)) ?_
  refine own_g (mkF m 8 #[.val (.ref b), .val (.int 2)] [(.int 0)]) (fun _ q => XS.isub X0.here hx rfl (hb hby own_d10_3) rfl (XS.bipush X0.here hx rfl (hb hby own_d10_4) (XS.iushr X0.here hx rfl (hb hby own_d10_6) rfl (XS.i2b X0.here hx rfl (hb hby own_d10_7) rfl q)))) ?_
  exact own_end X0 (v := some (.int (nar .byte (0 : Int32)))) (fun h => by rw [Bd.returns] at h; cases h) hlk (fun hr => retN X0 hx (t := .byte) Bd.returns (by simp) (hb hby own_d10_8) hr) (by rw [e0]; exact ⟨rfl, N0, rfl⟩) (by decide) (by decide)
theorem own_co_4_2_ef (m : MethodId) (b : Addr) : entryFrame m #[(.ref b), (.int 2)] 2 = mkF m 0 #[.val (.ref b), .val (.int 2)] [] := by  first | (simp [entryFrame, mkF, argsToLocals, Value.category]; done) | rfl
def own_co_4_2_Q (Z : State) (b : Addr) (kb : ClassId) (vs : List Value) (dv : Value) (zCS : Int32) (fm : Value) (h0 : Heap) (n0 : Nat) (v : Option Value) (h : Heap) (L : List Loc) : Prop := v = some (.int 1) ∧ Fr n0 L ∧ h = h0
set_option maxRecDepth 65536 in
set_option maxHeartbeats 40000000 in
theorem own_co_4_2 (l : Launch) (Z : State) (a0 : Array Value) (hw : ∀ d ∈ tables_1, d.before a0 Z = true) (ws : List Jvm.Cond) (b : Addr) (kb : ClassId) (vs : List Value) (dv : Value) (zCS : Int32) (fm : Value) (h0 : Heap) (n0 : Nat) (Z0 : n0 ≤ h0.size) (S_CS : own_A0 Z zCS) (nCS : ¬ zCS = 0) (S_AD : own_A1 Z) (S_HI : own_A2 Z) (S_LO : own_A3 Z) (S_SF : own_A4 Z fm) (hfm : fm.isRef = true) (O0 : Old Z n0 h0) (K_b : Arv Z h0 b kb .byte (4 : Int32) vs dv) :
    MetFree l own_y13 (head1 (Jvm.Cond.code own_y13 jdk_52_method_15_code 2 (some .byte) :: ws) (⟨0, 0, 0, 0⟩ : Room)) (fun aa U => aa = #[(.ref b), (.int 2)] ∧ Z.Warmed39 U.vm ∧ U.heap = h0) (fun _ _ _ _ _ => True) (fun _ U o U' => ∃ v L, o = .returned v ∧ own_co_4_2_Q Z b kb vs dv zCS fm h0 n0 v U'.heap L ∧ FrameEnd U o U' L (⟨0, 0, 0, 0⟩ : Room).cells (⟨0, 0, 0, 0⟩ : Room).slots) := by
  refine MetFree.of_bodySF (plainFor_of_name own_pn_java_lang_StringUTF16) hisR ?_
  intro p e s m args below meth c s₁ Bd hml0 hP hK
  obtain ⟨rfl, hZ, hh⟩ := hP
  have hx := Bd.exec
  have hby := Bd.bytes
  have hml : c.maxLocals = 2 := hml0
  have hown : s.vm.findClass "java/lang/StringUTF16" = some m.cls := findClass_of_methodNamed Bd.named
  have hnm := (name_of_methodNamed Bd.named Bd.method).1
  have hlk := Bd.notSynchronized
  have X0 : Stand p l e (⟨0, 0, 0, 0⟩ : Room) s m #[(.ref b), (.int 2)] below meth c s₁ [] 0 0 := Stand.of_body Bd
  have e0 : s₁.heap = h0 := by rw [← hh, Bd.state]; rfl
  have N0 := Fr.nil n0
  refine own_start (Q := own_co_4_2_Q Z b kb vs dv zCS fm h0 n0) (own_co_4_2_ef m b) ?_
  refine own_g (mkF m 2 #[.val (.ref b), .val (.int 2)] [(.ref b), (.int 2)]) (fun _ q => XS.iloadN X0.here hx rfl (hb hby own_d10_0) rfl (XS.aloadN X0.here hx rfl (hb hby own_d10_1) rfl rfl q)) ?_
  obtain ⟨cl1, Ar1, q1, S1, P1, H1, G1⟩ := id K_b
  refine own_by (g' := (mkF m 3 #[.val (.ref b), .val (.int 2)] [(.int 4), (.int 2)])) (fun _ kq => X0.arraylength hx (by rw [e0]; exact Ar1.1) (State.isArrayOf_alike hZ.alike Ar1.2.1) (g := (mkF m 2 #[.val (.ref b), .val (.int 2)] [(.ref b), (.int 2)])) rfl rfl (hb hby own_d10_2) _ (by rw [len_of S1 P1]; exact kq)) ?_
  refine own_g (mkF m 8 #[.val (.ref b), .val (.int 2)] [(.int 1)]) (fun _ q => XS.isub X0.here hx rfl (hb hby own_d10_3) rfl (XS.bipush X0.here hx rfl (hb hby own_d10_4) (XS.iushr X0.here hx rfl (hb hby own_d10_6) rfl (XS.i2b X0.here hx rfl (hb hby own_d10_7) rfl q)))) ?_
  exact own_end X0 (v := some (.int (nar .byte (1 : Int32)))) (fun h => by rw [Bd.returns] at h; cases h) hlk (fun hr => retN X0 hx (t := .byte) Bd.returns (by simp) (hb hby own_d10_8) hr) (by rw [e0]; exact ⟨rfl, N0, rfl⟩) (by decide) (by decide)
theorem own_i8_2_ef (m : MethodId) (x0 : Addr) (a : Addr) : entryFrame m #[(.ref x0), (.ref a), (.int 0), (.int 2), .null] 6 = mkF m 0 #[.val (.ref x0), .val (.ref a), .val (.int 0), .val (.int 2), .val .null, .unset] [] := by  first | (simp [entryFrame, mkF, argsToLocals, Value.category]; done) | rfl
def own_i8_2_Q (Z : State) (x0 : Addr) (a : Addr) (ka : ClassId) (da : Value) (c0 : Int32) (c1 : Int32) (zCS : Int32) (fm : Value) (h0 : Heap) (n0 : Nat) (v : Option Value) (h : Heap) (L : List Loc) : Prop := v = none ∧ Fr n0 L ∧ Keep h0 h [x0] ∧ Exa Z h x0 "java/lang/String" ∧ ∃ (t : Addr) (kb : ClassId), Fld Z h x0 "java/lang/String" "value" "[B" (.ref t) ∧ ((¬ (255 : Int32) < c0 ∧ ¬ (255 : Int32) < c1 ∧ Fld Z h x0 "java/lang/String" "coder" "B" (.int 0) ∧ Arv Z h t kb .byte (2 : Int32) [(.int (StrChars.lo8 c0)), (.int (StrChars.lo8 c1))] (.int 0)) ∨ (Fld Z h x0 "java/lang/String" "coder" "B" (.int 1) ∧ Arv Z h t kb .byte (4 : Int32) [(.int (StrChars.lo8 c0)), (.int (StrChars.hi8 c0)), (.int (StrChars.lo8 c1)), (.int (StrChars.hi8 c1))] (.int 0)))
set_option maxRecDepth 65536 in
set_option maxHeartbeats 40000000 in
theorem own_i8_2 (l : Launch) (Z : State) (a0 : Array Value) (hw : ∀ d ∈ tables_1, d.before a0 Z = true) (ws : List Jvm.Cond) (x0 : Addr) (a : Addr) (ka : ClassId) (da : Value) (c0 : Int32) (c1 : Int32) (zCS : Int32) (fm : Value) (h0 : Heap) (n0 : Nat) (Z0 : n0 ≤ h0.size) (S_CS : own_A0 Z zCS) (nCS : ¬ zCS = 0) (S_AD : own_A1 Z) (S_HI : own_A2 Z) (S_LO : own_A3 Z) (S_SF : own_A4 Z fm) (hfm : fm.isRef = true) (O0 : Old Z n0 h0) (E_x : Exa Z h0 x0 "java/lang/String") (V_x : Fld Z h0 x0 "java/lang/String" "value" "[B" .null) (C_x : Fld Z h0 x0 "java/lang/String" "coder" "B" (.int 0)) (g_x : n0 ≤ x0) (K_a : Arv Z h0 a ka .char (2 : Int32) [(.int c0), (.int c1)] da) (n_ax : a ≠ x0) (hb0 : ¬ c0 < 0 ∧ ¬ (65535 : Int32) < c0) (hb1 : ¬ c1 < 0 ∧ ¬ (65535 : Int32) < c1) (hn0 : nar .char c0 = c0) (hn1 : nar .char c1 = c1) :
    MetFree l own_y4 (head1 (Jvm.Cond.code own_y4 jdk_42_method_149_code 6 none :: ws) (⟨4, 2, 6, 57⟩ : Room)) (fun aa U => aa = #[(.ref x0), (.ref a), (.int 0), (.int 2), .null] ∧ Z.Warmed39 U.vm ∧ U.heap = h0) (fun _ _ _ _ _ => True) (fun _ U o U' => ∃ v L, o = .returned v ∧ own_i8_2_Q Z x0 a ka da c0 c1 zCS fm h0 n0 v U'.heap L ∧ FrameEnd U o U' L (⟨4, 2, 6, 57⟩ : Room).cells (⟨4, 2, 6, 57⟩ : Room).slots) := by
  refine MetFree.of_bodySF (plainFor_of_name own_pn_java_lang_String) hisR ?_
  intro p e s m args below meth c s₁ Bd hml0 hP hK
  obtain ⟨rfl, hZ, hh⟩ := hP
  have hx := Bd.exec
  have hby := Bd.bytes
  have hml : c.maxLocals = 6 := hml0
  have hown : s.vm.findClass "java/lang/String" = some m.cls := findClass_of_methodNamed Bd.named
  have hnm := (name_of_methodNamed Bd.named Bd.method).1
  have hlk := Bd.notSynchronized
  have X0 : Stand p l e (⟨4, 2, 6, 57⟩ : Room) s m #[(.ref x0), (.ref a), (.int 0), (.int 2), .null] below meth c s₁ [] 0 0 := Stand.of_body Bd
  have e0 : s₁.heap = h0 := by rw [← hh, Bd.state]; rfl
  have N0 := Fr.nil n0
  refine own_start (Q := own_i8_2_Q Z x0 a ka da c0 c1 zCS fm h0 n0) (own_i8_2_ef m x0 a) ?_
  refine own_g (mkF m 1 #[.val (.ref x0), .val (.ref a), .val (.int 0), .val (.int 2), .val .null, .unset] [(.ref x0)]) (fun _ q => XS.aloadN X0.here hx rfl (hb hby own_d3_0) rfl rfl q) ?_
  obtain ⟨T1, X1, e1, st1⟩ := initO X0 hx hZ hown (own_h hw 16 rfl) (own_h hw 17 rfl) (own_h hw 18 rfl) e0 (g := (mkF m 1 #[.val (.ref x0), .val (.ref a), .val (.int 0), .val (.int 2), .val .null, .unset] [(.ref x0)])) rfl (by rw [hml]; rfl) rfl (hb hby own_d3_1) (by decide) (W := 0) (by show 2 * 0 + _ ≤ _; exact Nat.le_of_eq rfl) (by decide)
  refine own_by (g' := (mkF m 4 #[.val (.ref x0), .val (.ref a), .val (.int 0), .val (.int 2), .val .null, .unset] [])) st1 ?_
  refine own_g (mkF m 27 #[.val (.ref x0), .val (.ref a), .val (.int 0), .val (.int 2), .val .null, .unset] []) (fun _ q => XS.iloadN X1.here hx rfl (hb hby own_d3_4) rfl (XS.ifYes X1.here hx rfl (pc0 := 5) (pc' := 27) rfl (hb hby own_d3_5) rfl ((if0 _ _).trans (feq (by decide : ¬ ((2 : Int32) = (0 : Int32)))).2) (by decide) (by decide) q)) ?_
  obtain ⟨T2, X2, e2, st2⟩ := getS2 X1 hx hZ hown (host := "") (Or.inl (own_h hw 41 rfl)) Via.refl e1 (S_CS.ext O0.2) (g := (mkF m 27 #[.val (.ref x0), .val (.ref a), .val (.int 0), .val (.int 2), .val .null, .unset] [])) rfl (hb hby own_d3_27)
  refine own_by (g' := (mkF m 30 #[.val (.ref x0), .val (.ref a), .val (.int 0), .val (.int 2), .val .null, .unset] [(.int zCS)])) st2 ?_
  refine own_g (mkF m 36 #[.val (.ref x0), .val (.ref a), .val (.int 0), .val (.int 2), .val .null, .unset] [(.int 2), (.int 0), (.ref a)]) (fun _ q => XS.ifNo X2.here hx rfl (hb hby own_d3_30) rfl ((if0 _ _).trans (feq nCS).1) (XS.aloadN X2.here hx rfl (hb hby own_d3_33) rfl rfl (XS.iloadN X2.here hx rfl (hb hby own_d3_34) rfl (XS.iloadN X2.here hx rfl (hb hby own_d3_35) rfl q)))) ?_
  refine own_callS X2 hx hZ (y := own_y14) hown (own_h hw 42 rfl) (own_h hw 43 rfl) (own_h hw 44 rfl) (own_h hw 45 rfl) (by decide) (own_c1_2 l Z a0 hw [] a ka da c0 c1 zCS fm h0 n0 (Nat.le_trans Z0 (Keep.refl h0 [x0]).1) S_CS nCS S_AD S_HI S_LO S_SF hfm O0 K_a hb0 hb1 hn0 hn1) (by decide) (by decide) e2 (g := (mkF m 36 #[.val (.ref x0), .val (.ref a), .val (.int 0), .val (.int 2), .val .null, .unset] [(.int 2), (.int 0), (.ref a)])) rfl (by rw [hml]; rfl) (argsL := [(.ref a), (.int 0), (.int 2)]) (rest := []) (lenOf own_pd__28_5bCII_29_5bB rfl) rfl (W := 0) (by show 2 * 0 + _ ≤ _; exact Nat.le_of_eq rfl) (hb hby own_d3_36) rfl (by decide) (by decide) ?_
  rintro rv3 T3 L3 X3 ⟨t0, k0, rfl, Nq3, Kq3, sz3, g3, hv3⟩
  have N3 := Fr.app N0 Nq3
  have ne_x : x0 ≠ t0 := Nat.ne_of_lt (Nat.lt_of_lt_of_le E_x.lt sz3)
  have szz3 := Nat.le_trans (Keep.refl h0 [x0]).1 sz3
  show own_Fin p e below _ T3 (mkF m 39 #[.val (.ref x0), .val (.ref a), .val (.int 0), .val (.int 2), .val .null, .unset] [(.ref t0)])
  rcases hv3 with ⟨ha0, ha1, Al⟩ | Al
  · skip
    refine own_g (mkF m 45 #[.val (.ref x0), .val (.ref a), .val (.int 0), .val (.int 2), .val .null, .val (.ref t0)] [(.int 2), (.ref t0), (.ref x0)]) (fun _ q => XS.astore X3.here hx rfl (hb hby own_d3_39) rfl rfl (l' := #[.val (.ref x0), .val (.ref a), .val (.int 0), .val (.int 2), .val .null, .val (.ref t0)]) rfl (XS.aloadN X3.here hx rfl (hb hby own_d3_41) rfl rfl (XS.aload X3.here hx rfl (hb hby own_d3_42) rfl rfl (XS.iloadN X3.here hx rfl (hb hby own_d3_44) rfl q)))) ?_
    have k4_ := ((Keep.refl h0 [x0]).trans Kq3 all0)
    have o5_ := (O0.keep Kq3 all0)
    refine own_callS X3 hx hZ (y := own_y13) hown (own_h hw 49 rfl) (own_h hw 50 rfl) (own_h hw 44 rfl) (own_h hw 51 rfl) (by decide) (own_co_2_2 l Z a0 hw [] t0 k0 _ _ zCS fm T3.heap n0 (Nat.le_trans Z0 k4_.1) S_CS nCS S_AD S_HI S_LO S_SF hfm o5_ Al) (by decide) (by decide) rfl (g := (mkF m 45 #[.val (.ref x0), .val (.ref a), .val (.int 0), .val (.int 2), .val .null, .val (.ref t0)] [(.int 2), (.ref t0), (.ref x0)])) rfl (by rw [hml]; rfl) (argsL := [(.ref t0), (.int 2)]) (rest := [(.ref x0)]) (lenOf own_pd__28_5bBI_29B rfl) rfl (W := 1) (by show 2 * 0 + _ ≤ _; exact Nat.le_of_eq rfl) (hb hby own_d3_45) rfl (by decide) (by decide) ?_
    rintro rv6 T6 L6 X6 ⟨rfl, Nq6, eh6⟩
    have N6 := Fr.app N3 Nq6
    show own_Fin p e below _ T6 (mkF m 48 #[.val (.ref x0), .val (.ref a), .val (.int 0), .val (.int 2), .val .null, .val (.ref t0)] [(.int 0), (.ref x0)])
    have e7_x0 := (E_x.keep Kq3)
    have f8_x0 := (C_x.keep Kq3 nin0)
    obtain ⟨T9, h9, X9, e9, W9, st9⟩ := putFN X6 hx hZ hown (own_h hw 26 rfl) Via.refl eh6 f8_x0 e7_x0 (Or.inr ⟨(own_h hw 22 rfl), rfl, hnm⟩) (own_h hw 7 rfl) (ty := .byte) (v' := (.int 0)) (by decide) rfl (by decide) (g := (mkF m 48 #[.val (.ref x0), .val (.ref a), .val (.int 0), .val (.int 2), .val .null, .val (.ref t0)] [(.int 0), (.ref x0)])) rfl rfl (hb hby own_d3_48)
    have Fw9 := f8_x0.same W9
    have N9 := Fr.snoc X9 N6 g_x
    refine own_by (g' := (mkF m 51 #[.val (.ref x0), .val (.ref a), .val (.int 0), .val (.int 2), .val .null, .val (.ref t0)] [])) st9 ?_
    refine own_g (mkF m 54 #[.val (.ref x0), .val (.ref a), .val (.int 0), .val (.int 2), .val .null, .val (.ref t0)] [(.ref t0), (.ref x0)]) (fun _ q => XS.aloadN X9.here hx rfl (hb hby own_d3_51) rfl rfl (XS.aload X9.here hx rfl (hb hby own_d3_52) rfl rfl q)) ?_
    have e10_x0 := (e7_x0.wr W9)
    have f11_x0 := ((V_x.keep Kq3 nin0).other W9 (Or.inr (slot_ne (Or.inr (own_h hw 21 rfl)) (Or.inr (own_h hw 22 rfl)) (by decide) (t := (.array .byte)) (t' := .byte) (by decide) (by decide))))
    obtain ⟨T12, h12, X12, e12, W12, st12⟩ := putF X9 hx hZ hown (host := "") (Or.inl (own_h hw 25 rfl)) Via.refl e9 f11_x0 e10_x0 (Or.inr ⟨(own_h hw 21 rfl), rfl, hnm⟩) (own_h hw 7 rfl) (ty := (.array .byte)) (by decide) (rfl) (rfl) (g := (mkF m 54 #[.val (.ref x0), .val (.ref a), .val (.int 0), .val (.int 2), .val .null, .val (.ref t0)] [(.ref t0), (.ref x0)])) rfl rfl (hb hby own_d3_54)
    have Fw12 := f11_x0.same W12
    have N12 := Fr.snoc X12 N9 g_x
    refine own_by (g' := (mkF m 57 #[.val (.ref x0), .val (.ref a), .val (.int 0), .val (.int 2), .val .null, .val (.ref t0)] [])) st12 ?_
    have f13_x0 := (Fw9.other W12 (Or.inr (slot_ne (Or.inr (own_h hw 22 rfl)) (Or.inr (own_h hw 21 rfl)) (by decide) (t := .byte) (t' := (.array .byte)) (by decide) (by decide))))
    have a14_t0 := ((Al.other W9 (Ne.symm ne_x)).other W12 (Ne.symm ne_x))
    have k15_ := ((k4_.wr W9 (Or.inl (List.mem_of_getElem? (i := 0) rfl))).wr W12 (Or.inl (List.mem_of_getElem? (i := 0) rfl)))
    have e16_x0 := (e10_x0.wr W12)
    exact own_end X12 (v := none) (fun _ => rfl) hlk (fun hr => X12.returnOut hx Bd.returns (hb hby own_d3_57) hr) (by rw [e12]; exact ⟨rfl, N12, k15_, e16_x0, t0, k0, Fw12, Or.inl ⟨ha0, ha1, f13_x0, a14_t0⟩⟩) (by decide) (by decide)
  · skip
    refine own_g (mkF m 45 #[.val (.ref x0), .val (.ref a), .val (.int 0), .val (.int 2), .val .null, .val (.ref t0)] [(.int 2), (.ref t0), (.ref x0)]) (fun _ q => XS.astore X3.here hx rfl (hb hby own_d3_39) rfl rfl (l' := #[.val (.ref x0), .val (.ref a), .val (.int 0), .val (.int 2), .val .null, .val (.ref t0)]) rfl (XS.aloadN X3.here hx rfl (hb hby own_d3_41) rfl rfl (XS.aload X3.here hx rfl (hb hby own_d3_42) rfl rfl (XS.iloadN X3.here hx rfl (hb hby own_d3_44) rfl q)))) ?_
    have k17_ := ((Keep.refl h0 [x0]).trans Kq3 all0)
    have o18_ := (O0.keep Kq3 all0)
    refine own_callS X3 hx hZ (y := own_y13) hown (own_h hw 49 rfl) (own_h hw 50 rfl) (own_h hw 44 rfl) (own_h hw 51 rfl) (by decide) (own_co_4_2 l Z a0 hw [] t0 k0 _ _ zCS fm T3.heap n0 (Nat.le_trans Z0 k17_.1) S_CS nCS S_AD S_HI S_LO S_SF hfm o18_ Al) (by decide) (by decide) rfl (g := (mkF m 45 #[.val (.ref x0), .val (.ref a), .val (.int 0), .val (.int 2), .val .null, .val (.ref t0)] [(.int 2), (.ref t0), (.ref x0)])) rfl (by rw [hml]; rfl) (argsL := [(.ref t0), (.int 2)]) (rest := [(.ref x0)]) (lenOf own_pd__28_5bBI_29B rfl) rfl (W := 1) (by show 2 * 0 + _ ≤ _; exact Nat.le_of_eq rfl) (hb hby own_d3_45) rfl (by decide) (by decide) ?_
    rintro rv19 T19 L19 X19 ⟨rfl, Nq19, eh19⟩
    have N19 := Fr.app N3 Nq19
    show own_Fin p e below _ T19 (mkF m 48 #[.val (.ref x0), .val (.ref a), .val (.int 0), .val (.int 2), .val .null, .val (.ref t0)] [(.int 1), (.ref x0)])
    have e20_x0 := (E_x.keep Kq3)
    have f21_x0 := (C_x.keep Kq3 nin0)
    obtain ⟨T22, h22, X22, e22, W22, st22⟩ := putFN X19 hx hZ hown (own_h hw 26 rfl) Via.refl eh19 f21_x0 e20_x0 (Or.inr ⟨(own_h hw 22 rfl), rfl, hnm⟩) (own_h hw 7 rfl) (ty := .byte) (v' := (.int 1)) (by decide) rfl (by decide) (g := (mkF m 48 #[.val (.ref x0), .val (.ref a), .val (.int 0), .val (.int 2), .val .null, .val (.ref t0)] [(.int 1), (.ref x0)])) rfl rfl (hb hby own_d3_48)
    have Fw22 := f21_x0.same W22
    have N22 := Fr.snoc X22 N19 g_x
    refine own_by (g' := (mkF m 51 #[.val (.ref x0), .val (.ref a), .val (.int 0), .val (.int 2), .val .null, .val (.ref t0)] [])) st22 ?_
    refine own_g (mkF m 54 #[.val (.ref x0), .val (.ref a), .val (.int 0), .val (.int 2), .val .null, .val (.ref t0)] [(.ref t0), (.ref x0)]) (fun _ q => XS.aloadN X22.here hx rfl (hb hby own_d3_51) rfl rfl (XS.aload X22.here hx rfl (hb hby own_d3_52) rfl rfl q)) ?_
    have e23_x0 := (e20_x0.wr W22)
    have f24_x0 := ((V_x.keep Kq3 nin0).other W22 (Or.inr (slot_ne (Or.inr (own_h hw 21 rfl)) (Or.inr (own_h hw 22 rfl)) (by decide) (t := (.array .byte)) (t' := .byte) (by decide) (by decide))))
    obtain ⟨T25, h25, X25, e25, W25, st25⟩ := putF X22 hx hZ hown (host := "") (Or.inl (own_h hw 25 rfl)) Via.refl e22 f24_x0 e23_x0 (Or.inr ⟨(own_h hw 21 rfl), rfl, hnm⟩) (own_h hw 7 rfl) (ty := (.array .byte)) (by decide) (rfl) (rfl) (g := (mkF m 54 #[.val (.ref x0), .val (.ref a), .val (.int 0), .val (.int 2), .val .null, .val (.ref t0)] [(.ref t0), (.ref x0)])) rfl rfl (hb hby own_d3_54)
    have Fw25 := f24_x0.same W25
    have N25 := Fr.snoc X25 N22 g_x
    refine own_by (g' := (mkF m 57 #[.val (.ref x0), .val (.ref a), .val (.int 0), .val (.int 2), .val .null, .val (.ref t0)] [])) st25 ?_
    have f26_x0 := (Fw22.other W25 (Or.inr (slot_ne (Or.inr (own_h hw 22 rfl)) (Or.inr (own_h hw 21 rfl)) (by decide) (t := .byte) (t' := (.array .byte)) (by decide) (by decide))))
    have a27_t0 := ((Al.other W22 (Ne.symm ne_x)).other W25 (Ne.symm ne_x))
    have k28_ := ((k17_.wr W22 (Or.inl (List.mem_of_getElem? (i := 0) rfl))).wr W25 (Or.inl (List.mem_of_getElem? (i := 0) rfl)))
    have e29_x0 := (e23_x0.wr W25)
    exact own_end X25 (v := none) (fun _ => rfl) hlk (fun hr => X25.returnOut hx Bd.returns (hb hby own_d3_57) hr) (by rw [e25]; exact ⟨rfl, N25, k28_, e29_x0, t0, k0, Fw25, Or.inr ⟨f26_x0, a27_t0⟩⟩) (by decide) (by decide)
theorem own_i7_2_ef (m : MethodId) (x0 : Addr) (a : Addr) : entryFrame m #[(.ref x0), (.ref a)] 2 = mkF m 0 #[.val (.ref x0), .val (.ref a)] [] := by  first | (simp [entryFrame, mkF, argsToLocals, Value.category]; done) | rfl
def own_i7_2_Q (Z : State) (x0 : Addr) (a : Addr) (ka : ClassId) (da : Value) (c0 : Int32) (c1 : Int32) (zCS : Int32) (fm : Value) (h0 : Heap) (n0 : Nat) (v : Option Value) (h : Heap) (L : List Loc) : Prop := v = none ∧ Fr n0 L ∧ Keep h0 h [x0] ∧ Exa Z h x0 "java/lang/String" ∧ ∃ (t : Addr) (kb : ClassId), Fld Z h x0 "java/lang/String" "value" "[B" (.ref t) ∧ ((¬ (255 : Int32) < c0 ∧ ¬ (255 : Int32) < c1 ∧ Fld Z h x0 "java/lang/String" "coder" "B" (.int 0) ∧ Arv Z h t kb .byte (2 : Int32) [(.int (StrChars.lo8 c0)), (.int (StrChars.lo8 c1))] (.int 0)) ∨ (Fld Z h x0 "java/lang/String" "coder" "B" (.int 1) ∧ Arv Z h t kb .byte (4 : Int32) [(.int (StrChars.lo8 c0)), (.int (StrChars.hi8 c0)), (.int (StrChars.lo8 c1)), (.int (StrChars.hi8 c1))] (.int 0)))
set_option maxRecDepth 65536 in
set_option maxHeartbeats 40000000 in
theorem own_i7_2 (l : Launch) (Z : State) (a0 : Array Value) (hw : ∀ d ∈ tables_1, d.before a0 Z = true) (ws : List Jvm.Cond) (x0 : Addr) (a : Addr) (ka : ClassId) (da : Value) (c0 : Int32) (c1 : Int32) (zCS : Int32) (fm : Value) (h0 : Heap) (n0 : Nat) (Z0 : n0 ≤ h0.size) (S_CS : own_A0 Z zCS) (nCS : ¬ zCS = 0) (S_AD : own_A1 Z) (S_HI : own_A2 Z) (S_LO : own_A3 Z) (S_SF : own_A4 Z fm) (hfm : fm.isRef = true) (O0 : Old Z n0 h0) (E_x : Exa Z h0 x0 "java/lang/String") (V_x : Fld Z h0 x0 "java/lang/String" "value" "[B" .null) (C_x : Fld Z h0 x0 "java/lang/String" "coder" "B" (.int 0)) (g_x : n0 ≤ x0) (K_a : Arv Z h0 a ka .char (2 : Int32) [(.int c0), (.int c1)] da) (n_ax : a ≠ x0) (hb0 : ¬ c0 < 0 ∧ ¬ (65535 : Int32) < c0) (hb1 : ¬ c1 < 0 ∧ ¬ (65535 : Int32) < c1) (hn0 : nar .char c0 = c0) (hn1 : nar .char c1 = c1) :
    MetFree l own_y3 (head1 (Jvm.Cond.code own_y3 jdk_42_method_3_code 2 none :: ws) (⟨5, 2, 6, 74⟩ : Room)) (fun aa U => aa = #[(.ref x0), (.ref a)] ∧ Z.Warmed39 U.vm ∧ U.heap = h0) (fun _ _ _ _ _ => True) (fun _ U o U' => ∃ v L, o = .returned v ∧ own_i7_2_Q Z x0 a ka da c0 c1 zCS fm h0 n0 v U'.heap L ∧ FrameEnd U o U' L (⟨5, 2, 6, 74⟩ : Room).cells (⟨5, 2, 6, 74⟩ : Room).slots) := by
  refine MetFree.of_bodySF (plainFor_of_name own_pn_java_lang_String) hisR ?_
  intro p e s m args below meth c s₁ Bd hml0 hP hK
  obtain ⟨rfl, hZ, hh⟩ := hP
  have hx := Bd.exec
  have hby := Bd.bytes
  have hml : c.maxLocals = 2 := hml0
  have hown : s.vm.findClass "java/lang/String" = some m.cls := findClass_of_methodNamed Bd.named
  have hnm := (name_of_methodNamed Bd.named Bd.method).1
  have hlk := Bd.notSynchronized
  have X0 : Stand p l e (⟨5, 2, 6, 74⟩ : Room) s m #[(.ref x0), (.ref a)] below meth c s₁ [] 0 0 := Stand.of_body Bd
  have e0 : s₁.heap = h0 := by rw [← hh, Bd.state]; rfl
  have N0 := Fr.nil n0
  refine own_start (Q := own_i7_2_Q Z x0 a ka da c0 c1 zCS fm h0 n0) (own_i7_2_ef m x0 a) ?_
  refine own_g (mkF m 4 #[.val (.ref x0), .val (.ref a)] [(.ref a), (.int 0), (.ref a), (.ref x0)]) (fun _ q => XS.aloadN X0.here hx rfl (hb hby own_d2_0) rfl rfl (XS.aloadN X0.here hx rfl (hb hby own_d2_1) rfl rfl (XS.iconst X0.here hx rfl (hb hby own_d2_2) (XS.aloadN X0.here hx rfl (hb hby own_d2_3) rfl rfl q)))) ?_
  obtain ⟨cl1, Ar1, q1, S1, P1, H1, G1⟩ := id K_a
  refine own_by (g' := (mkF m 5 #[.val (.ref x0), .val (.ref a)] [(.int 2), (.int 0), (.ref a), (.ref x0)])) (fun _ kq => X0.arraylength hx (by rw [e0]; exact Ar1.1) (State.isArrayOf_alike hZ.alike Ar1.2.1) (g := (mkF m 4 #[.val (.ref x0), .val (.ref a)] [(.ref a), (.int 0), (.ref a), (.ref x0)])) rfl rfl (hb hby own_d2_4) _ (by rw [len_of S1 P1]; exact kq)) ?_
  refine own_g (mkF m 6 #[.val (.ref x0), .val (.ref a)] [.null, (.int 2), (.int 0), (.ref a), (.ref x0)]) (fun _ q => XS.aconstNull X0.here hx rfl (hb hby own_d2_5) q) ?_
  refine own_callI X0 hx hZ (y := own_y4) rfl hown (own_h hw 12 rfl) (own_h hw 13 rfl) (own_h hw 15 rfl) (own_h hw 8 rfl) (by decide) (own_i8_2 l Z a0 hw [] x0 a ka da c0 c1 zCS fm h0 n0 (Nat.le_trans Z0 (Keep.refl h0 [x0]).1) S_CS nCS S_AD S_HI S_LO S_SF hfm O0 E_x V_x C_x g_x K_a n_ax hb0 hb1 hn0 hn1) (by decide) (by decide) e0 (g := (mkF m 6 #[.val (.ref x0), .val (.ref a)] [.null, (.int 2), (.int 0), (.ref a), (.ref x0)])) rfl (by rw [hml]; rfl) (argsL := [(.ref a), (.int 0), (.int 2), .null]) (rest := []) (lenOf own_pd__28_5bCIILjava_2flang_2fVoid_3b_29V rfl) rfl (W := 0) (by show 2 * 0 + _ ≤ _; exact Nat.le_of_eq rfl) (hb hby own_d2_6) rfl (by decide) (by decide) ?_
  rintro rv2 T2 L2 X2 ⟨rfl, Nq2, Kq2, Hq2⟩
  have N2 := Fr.app N0 Nq2
  show own_Fin p e below _ T2 (mkF m 9 #[.val (.ref x0), .val (.ref a)] [])
  have k3_ := ((Keep.refl h0 [x0]).trans Kq2 (allS (Or.inl (List.mem_of_getElem? (i := 0) rfl)) all0))
  exact own_end X2 (v := none) (fun _ => rfl) hlk (fun hr => X2.returnOut hx Bd.returns (hb hby own_d2_9) hr) (⟨rfl, N2, k3_, Hq2⟩) (by decide) (by decide)
theorem own_nbl_3_ef (m : MethodId)  : entryFrame m #[(.int 3)] 1 = mkF m 0 #[.val (.int 3)] [] := by  first | (simp [entryFrame, mkF, argsToLocals, Value.category]; done) | rfl
def own_nbl_3_Q (Z : State) (zCS : Int32) (fm : Value) (h0 : Heap) (n0 : Nat) (v : Option Value) (h : Heap) (L : List Loc) : Prop := v = some (.int 6) ∧ Fr n0 L ∧ h = h0
set_option maxRecDepth 65536 in
set_option maxHeartbeats 40000000 in
theorem own_nbl_3 (l : Launch) (Z : State) (a0 : Array Value) (hw : ∀ d ∈ tables_1, d.before a0 Z = true) (ws : List Jvm.Cond) (zCS : Int32) (fm : Value) (h0 : Heap) (n0 : Nat) (Z0 : n0 ≤ h0.size) (S_CS : own_A0 Z zCS) (nCS : ¬ zCS = 0) (S_AD : own_A1 Z) (S_HI : own_A2 Z) (S_LO : own_A3 Z) (S_SF : own_A4 Z fm) (hfm : fm.isRef = true) (O0 : Old Z n0 h0) :
    MetFree l own_y19 (head1 (Jvm.Cond.code own_y19 jdk_52_method_3_code 1 (some .int) :: ws) (⟨0, 0, 0, 0⟩ : Room)) (fun aa U => aa = #[(.int 3)] ∧ Z.Warmed39 U.vm ∧ U.heap = h0) (fun _ _ _ _ _ => True) (fun _ U o U' => ∃ v L, o = .returned v ∧ own_nbl_3_Q Z zCS fm h0 n0 v U'.heap L ∧ FrameEnd U o U' L (⟨0, 0, 0, 0⟩ : Room).cells (⟨0, 0, 0, 0⟩ : Room).slots) := by
  refine MetFree.of_bodySF (plainFor_of_name own_pn_java_lang_StringUTF16) hisR ?_
  intro p e s m args below meth c s₁ Bd hml0 hP hK
  obtain ⟨rfl, hZ, hh⟩ := hP
  have hx := Bd.exec
  have hby := Bd.bytes
  have hml : c.maxLocals = 1 := hml0
  have hown : s.vm.findClass "java/lang/StringUTF16" = some m.cls := findClass_of_methodNamed Bd.named
  have hnm := (name_of_methodNamed Bd.named Bd.method).1
  have hlk := Bd.notSynchronized
  have X0 : Stand p l e (⟨0, 0, 0, 0⟩ : Room) s m #[(.int 3)] below meth c s₁ [] 0 0 := Stand.of_body Bd
  have e0 : s₁.heap = h0 := by rw [← hh, Bd.state]; rfl
  have N0 := Fr.nil n0
  refine own_start (Q := own_nbl_3_Q Z zCS fm h0 n0) (own_nbl_3_ef m ) ?_
  refine own_g (mkF m 13 #[.val (.int 3)] [(.int 3)]) (fun _ q => XS.iloadN X0.here hx rfl (hb hby own_d19_0) rfl (XS.ifYes X0.here hx rfl (pc0 := 1) (pc' := 12) rfl (hb hby own_d19_1) rfl ((if0 _ _).trans (flt (by decide : ¬ ((3 : Int32) < (0 : Int32)))).2.1) (by decide) (by decide) (XS.iloadN X0.here hx rfl (hb hby own_d19_12) rfl q))) ?_
  refine own_by (g' := (mkF m 15 #[.val (.int 3)] [(.int 1073741823), (.int 3)])) (fun _ kq => X0.ldcInt hx hown (mvT hZ (own_h hw 87 rfl)) (g := (mkF m 13 #[.val (.int 3)] [(.int 3)])) rfl (hb hby own_d19_13) _ kq) ?_
  refine own_g (mkF m 58 #[.val (.int 3)] [(.int 6)]) (fun _ q => XS.icmpYes X0.here hx rfl (pc0 := 15) (pc' := 55) rfl (hb hby own_d19_15) rfl (tlt (by decide : (3 : Int32) < (1073741823 : Int32))).1 (by decide) (by decide) (XS.iloadN X0.here hx rfl (hb hby own_d19_55) rfl (XS.iconst X0.here hx rfl (hb hby own_d19_56) (XS.ishl X0.here hx rfl (hb hby own_d19_57) rfl q)))) ?_
  exact own_end X0 (v := some (.int 6)) (fun h => by rw [Bd.returns] at h; cases h) hlk (fun hr => retOut X0 hx Bd.returns rfl (Or.inl ⟨rfl, Or.inl rfl, _, rfl⟩) (hb hby own_d19_58) hr) (by rw [e0]; exact ⟨rfl, N0, rfl⟩) (by decide) (by decide)
theorem own_nbf_3_ef (m : MethodId)  : entryFrame m #[(.int 3)] 1 = mkF m 0 #[.val (.int 3)] [] := by  first | (simp [entryFrame, mkF, argsToLocals, Value.category]; done) | rfl
def own_nbf_3_Q (Z : State) (zCS : Int32) (fm : Value) (h0 : Heap) (n0 : Nat) (v : Option Value) (h : Heap) (L : List Loc) : Prop := ∃ (t : Addr) (kb : ClassId), v = some (.ref t) ∧ Fr n0 L ∧ Keep h0 h [] ∧ h0.size ≤ t ∧ n0 ≤ t ∧ Arv Z h t kb .byte (6 : Int32) [(.int 0), (.int 0), (.int 0), (.int 0), (.int 0), (.int 0)] (.int 0)
set_option maxRecDepth 65536 in
set_option maxHeartbeats 40000000 in
theorem own_nbf_3 (l : Launch) (Z : State) (a0 : Array Value) (hw : ∀ d ∈ tables_1, d.before a0 Z = true) (ws : List Jvm.Cond) (zCS : Int32) (fm : Value) (h0 : Heap) (n0 : Nat) (Z0 : n0 ≤ h0.size) (S_CS : own_A0 Z zCS) (nCS : ¬ zCS = 0) (S_AD : own_A1 Z) (S_HI : own_A2 Z) (S_LO : own_A3 Z) (S_SF : own_A4 Z fm) (hfm : fm.isRef = true) (O0 : Old Z n0 h0) :
    MetFree l own_y18 (head1 (Jvm.Cond.code own_y18 jdk_52_method_2_code 1 (some (.array .byte)) :: ws) (⟨1, 1, 6, 12⟩ : Room)) (fun aa U => aa = #[(.int 3)] ∧ Z.Warmed39 U.vm ∧ U.heap = h0) (fun _ _ _ _ _ => True) (fun _ U o U' => ∃ v L, o = .returned v ∧ own_nbf_3_Q Z zCS fm h0 n0 v U'.heap L ∧ FrameEnd U o U' L (⟨1, 1, 6, 12⟩ : Room).cells (⟨1, 1, 6, 12⟩ : Room).slots) := by
  refine MetFree.of_bodySF (plainFor_of_name own_pn_java_lang_StringUTF16) hisR ?_
  intro p e s m args below meth c s₁ Bd hml0 hP hK
  obtain ⟨rfl, hZ, hh⟩ := hP
  have hx := Bd.exec
  have hby := Bd.bytes
  have hml : c.maxLocals = 1 := hml0
  have hown : s.vm.findClass "java/lang/StringUTF16" = some m.cls := findClass_of_methodNamed Bd.named
  have hnm := (name_of_methodNamed Bd.named Bd.method).1
  have hlk := Bd.notSynchronized
  have X0 : Stand p l e (⟨1, 1, 6, 12⟩ : Room) s m #[(.int 3)] below meth c s₁ [] 0 0 := Stand.of_body Bd
  have e0 : s₁.heap = h0 := by rw [← hh, Bd.state]; rfl
  have N0 := Fr.nil n0
  refine own_start (Q := own_nbf_3_Q Z zCS fm h0 n0) (own_nbf_3_ef m ) ?_
  refine own_g (mkF m 1 #[.val (.int 3)] [(.int 3)]) (fun _ q => XS.iloadN X0.here hx rfl (hb hby own_d18_0) rfl q) ?_
  refine own_callS X0 hx hZ (y := own_y19) hown (own_h hw 84 rfl) (own_h hw 85 rfl) (own_h hw 44 rfl) (own_h hw 86 rfl) (by decide) (own_nbl_3 l Z a0 hw [] zCS fm h0 n0 Z0 S_CS nCS S_AD S_HI S_LO S_SF hfm O0) (by decide) (by decide) e0 (g := (mkF m 1 #[.val (.int 3)] [(.int 3)])) rfl (by rw [hml]; rfl) (argsL := [(.int 3)]) (rest := []) (lenOf own_pd__28I_29I rfl) rfl (W := 0) (by show 2 * 0 + _ ≤ _; exact Nat.le_of_eq rfl) (hb hby own_d18_1) rfl (by decide) (by decide) ?_
  rintro rv1 T1 L1 X1 ⟨rfl, Nq1, eh1⟩
  have N1 := Fr.app N0 Nq1
  show own_Fin p e below _ T1 (mkF m 4 #[.val (.int 3)] [(.int 6)])
  obtain ⟨T2, h2, k2, X2, e2, E2, A2, st2⟩ := newP X1 hx hZ (own_h hw 20 rfl) eh1 (g := (mkF m 4 #[.val (.int 3)] [(.int 6)])) rfl (hb hby own_d18_4) rfl (by decide) (cap := 6) (by decide) (by decide) (by decide) (by decide)
  obtain ⟨b2, g2⟩ : ∃ z, z = h0.size := ⟨_, rfl⟩
  rw [← g2] at A2 st2
  have g_b2 : n0 ≤ b2 := Nat.le_trans Z0 (Nat.le_of_eq g2.symm)
  have sz_b2 : h0.size ≤ b2 := Nat.le_trans (Keep.refl h0 []).1 (Nat.le_of_eq g2.symm)
  have V_b2 : Arv Z h2 b2 k2 .byte (6 : Int32) [(.int 0), (.int 0), (.int 0), (.int 0), (.int 0), (.int 0)] (.int 0) := (Arv.new A2 (by decide)).pad (pad_rep [] (.int 0) 6)
  refine own_by (g' := (mkF m 6 #[.val (.int 3)] [(.ref b2)])) st2 ?_
  have k3_ := ((Keep.refl h0 []).ext E2)
  exact own_end X2 (v := some (.ref b2)) (fun h => by rw [Bd.returns] at h; cases h) hlk (fun hr => retOut X2 hx Bd.returns (own_narR rfl) (Or.inr (Or.inr (Or.inr (Or.inr ⟨rfl, rfl, rfl⟩)))) (hb hby own_d18_6) hr) (by rw [e2]; exact ⟨b2, k2, rfl, N1, k3_, sz_b2, g_b2, V_b2⟩) (by decide) (by decide)
theorem own_tb_3_ef (m : MethodId) (a : Addr) : entryFrame m #[(.ref a), (.int 0), (.int 3)] 5 = mkF m 0 #[.val (.ref a), .val (.int 0), .val (.int 3), .unset, .unset] [] := by  first | (simp [entryFrame, mkF, argsToLocals, Value.category]; done) | rfl
def own_tb_3_Q (Z : State) (a : Addr) (ka : ClassId) (da : Value) (c0 : Int32) (c1 : Int32) (c2 : Int32) (zCS : Int32) (fm : Value) (h0 : Heap) (n0 : Nat) (v : Option Value) (h : Heap) (L : List Loc) : Prop := ∃ (t : Addr) (kb : ClassId), v = some (.ref t) ∧ Fr n0 L ∧ Keep h0 h [] ∧ h0.size ≤ t ∧ n0 ≤ t ∧ Arv Z h t kb .byte (6 : Int32) [(.int (StrChars.lo8 c0)), (.int (StrChars.hi8 c0)), (.int (StrChars.lo8 c1)), (.int (StrChars.hi8 c1)), (.int (StrChars.lo8 c2)), (.int (StrChars.hi8 c2))] (.int 0)
set_option maxRecDepth 65536 in
set_option maxHeartbeats 40000000 in
theorem own_tb_3 (l : Launch) (Z : State) (a0 : Array Value) (hw : ∀ d ∈ tables_1, d.before a0 Z = true) (ws : List Jvm.Cond) (a : Addr) (ka : ClassId) (da : Value) (c0 : Int32) (c1 : Int32) (c2 : Int32) (zCS : Int32) (fm : Value) (h0 : Heap) (n0 : Nat) (Z0 : n0 ≤ h0.size) (S_CS : own_A0 Z zCS) (nCS : ¬ zCS = 0) (S_AD : own_A1 Z) (S_HI : own_A2 Z) (S_LO : own_A3 Z) (S_SF : own_A4 Z fm) (hfm : fm.isRef = true) (O0 : Old Z n0 h0) (K_a : Arv Z h0 a ka .char (3 : Int32) [(.int c0), (.int c1), (.int c2)] da) :
    MetFree l own_y21 (head1 (Jvm.Cond.code own_y21 jdk_52_method_14_code 5 (some (.array .byte)) :: ws) (⟨2, 1, 6, 24⟩ : Room)) (fun aa U => aa = #[(.ref a), (.int 0), (.int 3)] ∧ Z.Warmed39 U.vm ∧ U.heap = h0) (fun _ _ _ _ _ => True) (fun _ U o U' => ∃ v L, o = .returned v ∧ own_tb_3_Q Z a ka da c0 c1 c2 zCS fm h0 n0 v U'.heap L ∧ FrameEnd U o U' L (⟨2, 1, 6, 24⟩ : Room).cells (⟨2, 1, 6, 24⟩ : Room).slots) := by
  refine MetFree.of_bodySF (plainFor_of_name own_pn_java_lang_StringUTF16) hisR ?_
  intro p e s m args below meth c s₁ Bd hml0 hP hK
  obtain ⟨rfl, hZ, hh⟩ := hP
  have hx := Bd.exec
  have hby := Bd.bytes
  have hml : c.maxLocals = 5 := hml0
  have hown : s.vm.findClass "java/lang/StringUTF16" = some m.cls := findClass_of_methodNamed Bd.named
  have hnm := (name_of_methodNamed Bd.named Bd.method).1
  have hlk := Bd.notSynchronized
  have X0 : Stand p l e (⟨2, 1, 6, 24⟩ : Room) s m #[(.ref a), (.int 0), (.int 3)] below meth c s₁ [] 0 0 := Stand.of_body Bd
  have e0 : s₁.heap = h0 := by rw [← hh, Bd.state]; rfl
  have N0 := Fr.nil n0
  refine own_start (Q := own_tb_3_Q Z a ka da c0 c1 c2 zCS fm h0 n0) (own_tb_3_ef m a) ?_
  refine own_g (mkF m 1 #[.val (.ref a), .val (.int 0), .val (.int 3), .unset, .unset] [(.int 3)]) (fun _ q => XS.iloadN X0.here hx rfl (hb hby own_d17_0) rfl q) ?_
  refine own_callS X0 hx hZ (y := own_y18) hown (own_h hw 81 rfl) (own_h hw 82 rfl) (own_h hw 44 rfl) (own_h hw 83 rfl) (by decide) (own_nbf_3 l Z a0 hw [] zCS fm h0 n0 Z0 S_CS nCS S_AD S_HI S_LO S_SF hfm O0) (by decide) (by decide) e0 (g := (mkF m 1 #[.val (.ref a), .val (.int 0), .val (.int 3), .unset, .unset] [(.int 3)])) rfl (by rw [hml]; rfl) (argsL := [(.int 3)]) (rest := []) (lenOf own_pd__28I_29_5bB rfl) rfl (W := 0) (by show 2 * 0 + _ ≤ _; exact Nat.le_of_eq rfl) (hb hby own_d17_1) rfl (by decide) (by decide) ?_
  rintro rv1 T1 L1 X1 ⟨t0, k0, rfl, Nq1, Kq1, sz1, g1, A1⟩
  have N1 := Fr.app N0 Nq1
  show own_Fin p e below _ T1 (mkF m 4 #[.val (.ref a), .val (.int 0), .val (.int 3), .unset, .unset] [(.ref t0)])
  have ne_a : a ≠ t0 := Nat.ne_of_lt (Nat.lt_of_lt_of_le K_a.lt sz1)
  refine own_g (mkF m 17 #[.val (.ref a), .val (.int 0), .val (.int 3), .val (.ref t0), .val (.int 0)] [(.int 0), (.ref t0)]) (fun _ q => XS.astoreN X1.here hx rfl (hb hby own_d17_4) rfl rfl (l' := #[.val (.ref a), .val (.int 0), .val (.int 3), .val (.ref t0), .unset]) rfl (XS.iconst X1.here hx rfl (hb hby own_d17_5) (XS.istore X1.here hx rfl (hb hby own_d17_6) rfl (l' := #[.val (.ref a), .val (.int 0), .val (.int 3), .val (.ref t0), .val (.int 0)]) rfl (XS.iload X1.here hx rfl (hb hby own_d17_8) rfl (XS.iloadN X1.here hx rfl (hb hby own_d17_10) rfl (XS.icmpNo X1.here hx rfl (hb hby own_d17_11) rfl (tlt (by decide : (0 : Int32) < (3 : Int32))).2.1 (XS.aloadN X1.here hx rfl (hb hby own_d17_14) rfl rfl (XS.iload X1.here hx rfl (hb hby own_d17_15) rfl q)))))))) ?_
  refine own_g (mkF m 19 #[.val (.ref a), .val (.int 0), .val (.int 3), .val (.ref t0), .val (.int 0)] [(.int 0), (.ref a), (.int 0), (.ref t0)]) (fun _ q => XS.aloadN X1.here hx rfl (hb hby own_d17_17) rfl rfl (XS.iloadN X1.here hx rfl (hb hby own_d17_18) rfl q)) ?_
  have a2_a := (K_a.keep Kq1 nin0)
  obtain ⟨cl3, Ar3, q3, S3, P3, H3, G3⟩ := id a2_a
  have hin3 : ¬ ((0 : Int32) < 0 ∨ cl3.slots.size ≤ ((0 : Int32)).toNatClampNeg) := inb_of S3 ⟨by decide, by decide⟩
  refine own_by (g' := (mkF m 20 #[.val (.ref a), .val (.int 0), .val (.int 3), .val (.ref t0), .val (.int 0)] [(.int c0), (.int 0), (.ref t0)])) (fun _ kq => X1.caload hx (j := (0 : Int32)) (v := (.int c0)) Ar3.1 (State.isArrayOf_alike hZ.alike Ar3.2.1) Ar3.2.2 hin3 (H3.at hin3 rfl) (g := (mkF m 19 #[.val (.ref a), .val (.int 0), .val (.int 3), .val (.ref t0), .val (.int 0)] [(.int 0), (.ref a), (.int 0), (.ref t0)])) rfl rfl (hb hby own_d17_19) _ kq) ?_
  have k4_ := ((Keep.refl h0 []).trans Kq1 all0)
  have o5_ := (O0.keep Kq1 all0)
  refine own_callS X1 hx hZ (y := own_y20) hown (own_h hw 88 rfl) (own_h hw 89 rfl) (own_h hw 44 rfl) (own_h hw 90 rfl) (by decide) (own_put_3_0 l Z a0 hw [] t0 c0 k0 (0 : Int32) (0 : Int32) (0 : Int32) (0 : Int32) (0 : Int32) (0 : Int32) zCS fm T1.heap n0 (Nat.le_trans Z0 k4_.1) S_CS nCS S_AD S_HI S_LO S_SF hfm o5_ A1 g1) (by decide) (by decide) rfl (g := (mkF m 20 #[.val (.ref a), .val (.int 0), .val (.int 3), .val (.ref t0), .val (.int 0)] [(.int c0), (.int 0), (.ref t0)])) rfl (by rw [hml]; rfl) (argsL := [(.ref t0), (.int 0), (.int c0)]) (rest := []) (lenOf own_pd__28_5bBII_29V rfl) rfl (W := 0) (by show 2 * 0 + _ ≤ _; exact Nat.le_of_eq rfl) (hb hby own_d17_20) rfl (by decide) (by decide) ?_
  rintro rv6 T6 L6 X6 ⟨rfl, Nq6, Kq6, A6⟩
  have N6 := Fr.app N1 Nq6
  refine own_g (mkF m 17 #[.val (.ref a), .val (.int 1), .val (.int 3), .val (.ref t0), .val (.int 1)] [(.int 1), (.ref t0)]) (fun _ q => XS.iinc X6.here hx rfl (hb hby own_d17_23) rfl (l' := #[.val (.ref a), .val (.int 1), .val (.int 3), .val (.ref t0), .val (.int 0)]) rfl (XS.iinc X6.here hx rfl (hb hby own_d17_26) rfl (l' := #[.val (.ref a), .val (.int 1), .val (.int 3), .val (.ref t0), .val (.int 1)]) rfl (XS.goto X6.here hx rfl (pc0 := 29) (pc' := 8) rfl (hb hby own_d17_29) (by decide) (by decide) (XS.iload X6.here hx rfl (hb hby own_d17_8) rfl (XS.iloadN X6.here hx rfl (hb hby own_d17_10) rfl (XS.icmpNo X6.here hx rfl (hb hby own_d17_11) rfl (tlt (by decide : (1 : Int32) < (3 : Int32))).2.1 (XS.aloadN X6.here hx rfl (hb hby own_d17_14) rfl rfl (XS.iload X6.here hx rfl (hb hby own_d17_15) rfl q)))))))) ?_
  refine own_g (mkF m 19 #[.val (.ref a), .val (.int 1), .val (.int 3), .val (.ref t0), .val (.int 1)] [(.int 1), (.ref a), (.int 1), (.ref t0)]) (fun _ q => XS.aloadN X6.here hx rfl (hb hby own_d17_17) rfl rfl (XS.iloadN X6.here hx rfl (hb hby own_d17_18) rfl q)) ?_
  have a7_a := (a2_a.keep Kq6 (ninS ne_a nin0))
  obtain ⟨cl8, Ar8, q8, S8, P8, H8, G8⟩ := id a7_a
  have hin8 : ¬ ((1 : Int32) < 0 ∨ cl8.slots.size ≤ ((1 : Int32)).toNatClampNeg) := inb_of S8 ⟨by decide, by decide⟩
  refine own_by (g' := (mkF m 20 #[.val (.ref a), .val (.int 1), .val (.int 3), .val (.ref t0), .val (.int 1)] [(.int c1), (.int 1), (.ref t0)])) (fun _ kq => X6.caload hx (j := (1 : Int32)) (v := (.int c1)) Ar8.1 (State.isArrayOf_alike hZ.alike Ar8.2.1) Ar8.2.2 hin8 (H8.at hin8 rfl) (g := (mkF m 19 #[.val (.ref a), .val (.int 1), .val (.int 3), .val (.ref t0), .val (.int 1)] [(.int 1), (.ref a), (.int 1), (.ref t0)])) rfl rfl (hb hby own_d17_19) _ kq) ?_
  have k9_ := (k4_.trans Kq6 (allS (Or.inr sz1) all0))
  have o10_ := (o5_.keep Kq6 (allS g1 all0))
  refine own_callS X6 hx hZ (y := own_y20) hown (own_h hw 88 rfl) (own_h hw 89 rfl) (own_h hw 44 rfl) (own_h hw 90 rfl) (by decide) (own_put_3_1 l Z a0 hw [] t0 c1 k0 (StrChars.lo8 c0) (StrChars.hi8 c0) (0 : Int32) (0 : Int32) (0 : Int32) (0 : Int32) zCS fm T6.heap n0 (Nat.le_trans Z0 k9_.1) S_CS nCS S_AD S_HI S_LO S_SF hfm o10_ A6 g1) (by decide) (by decide) rfl (g := (mkF m 20 #[.val (.ref a), .val (.int 1), .val (.int 3), .val (.ref t0), .val (.int 1)] [(.int c1), (.int 1), (.ref t0)])) rfl (by rw [hml]; rfl) (argsL := [(.ref t0), (.int 1), (.int c1)]) (rest := []) (lenOf own_pd__28_5bBII_29V rfl) rfl (W := 0) (by show 2 * 0 + _ ≤ _; exact Nat.le_of_eq rfl) (hb hby own_d17_20) rfl (by decide) (by decide) ?_
  rintro rv11 T11 L11 X11 ⟨rfl, Nq11, Kq11, A11⟩
  have N11 := Fr.app N6 Nq11
  refine own_g (mkF m 17 #[.val (.ref a), .val (.int 2), .val (.int 3), .val (.ref t0), .val (.int 2)] [(.int 2), (.ref t0)]) (fun _ q => XS.iinc X11.here hx rfl (hb hby own_d17_23) rfl (l' := #[.val (.ref a), .val (.int 2), .val (.int 3), .val (.ref t0), .val (.int 1)]) rfl (XS.iinc X11.here hx rfl (hb hby own_d17_26) rfl (l' := #[.val (.ref a), .val (.int 2), .val (.int 3), .val (.ref t0), .val (.int 2)]) rfl (XS.goto X11.here hx rfl (pc0 := 29) (pc' := 8) rfl (hb hby own_d17_29) (by decide) (by decide) (XS.iload X11.here hx rfl (hb hby own_d17_8) rfl (XS.iloadN X11.here hx rfl (hb hby own_d17_10) rfl (XS.icmpNo X11.here hx rfl (hb hby own_d17_11) rfl (tlt (by decide : (2 : Int32) < (3 : Int32))).2.1 (XS.aloadN X11.here hx rfl (hb hby own_d17_14) rfl rfl (XS.iload X11.here hx rfl (hb hby own_d17_15) rfl q)))))))) ?_
  refine own_g (mkF m 19 #[.val (.ref a), .val (.int 2), .val (.int 3), .val (.ref t0), .val (.int 2)] [(.int 2), (.ref a), (.int 2), (.ref t0)]) (fun _ q => XS.aloadN X11.here hx rfl (hb hby own_d17_17) rfl rfl (XS.iloadN X11.here hx rfl (hb hby own_d17_18) rfl q)) ?_
  have a12_a := (a7_a.keep Kq11 (ninS ne_a nin0))
  obtain ⟨cl13, Ar13, q13, S13, P13, H13, G13⟩ := id a12_a
  have hin13 : ¬ ((2 : Int32) < 0 ∨ cl13.slots.size ≤ ((2 : Int32)).toNatClampNeg) := inb_of S13 ⟨by decide, by decide⟩
  refine own_by (g' := (mkF m 20 #[.val (.ref a), .val (.int 2), .val (.int 3), .val (.ref t0), .val (.int 2)] [(.int c2), (.int 2), (.ref t0)])) (fun _ kq => X11.caload hx (j := (2 : Int32)) (v := (.int c2)) Ar13.1 (State.isArrayOf_alike hZ.alike Ar13.2.1) Ar13.2.2 hin13 (H13.at hin13 rfl) (g := (mkF m 19 #[.val (.ref a), .val (.int 2), .val (.int 3), .val (.ref t0), .val (.int 2)] [(.int 2), (.ref a), (.int 2), (.ref t0)])) rfl rfl (hb hby own_d17_19) _ kq) ?_
  have k14_ := (k9_.trans Kq11 (allS (Or.inr sz1) all0))
  have o15_ := (o10_.keep Kq11 (allS g1 all0))
  refine own_callS X11 hx hZ (y := own_y20) hown (own_h hw 88 rfl) (own_h hw 89 rfl) (own_h hw 44 rfl) (own_h hw 90 rfl) (by decide) (own_put_3_2 l Z a0 hw [] t0 c2 k0 (StrChars.lo8 c0) (StrChars.hi8 c0) (StrChars.lo8 c1) (StrChars.hi8 c1) (0 : Int32) (0 : Int32) zCS fm T11.heap n0 (Nat.le_trans Z0 k14_.1) S_CS nCS S_AD S_HI S_LO S_SF hfm o15_ A11 g1) (by decide) (by decide) rfl (g := (mkF m 20 #[.val (.ref a), .val (.int 2), .val (.int 3), .val (.ref t0), .val (.int 2)] [(.int c2), (.int 2), (.ref t0)])) rfl (by rw [hml]; rfl) (argsL := [(.ref t0), (.int 2), (.int c2)]) (rest := []) (lenOf own_pd__28_5bBII_29V rfl) rfl (W := 0) (by show 2 * 0 + _ ≤ _; exact Nat.le_of_eq rfl) (hb hby own_d17_20) rfl (by decide) (by decide) ?_
  rintro rv16 T16 L16 X16 ⟨rfl, Nq16, Kq16, A16⟩
  have N16 := Fr.app N11 Nq16
  refine own_g (mkF m 33 #[.val (.ref a), .val (.int 3), .val (.int 3), .val (.ref t0), .val (.int 3)] [(.ref t0)]) (fun _ q => XS.iinc X16.here hx rfl (hb hby own_d17_23) rfl (l' := #[.val (.ref a), .val (.int 3), .val (.int 3), .val (.ref t0), .val (.int 2)]) rfl (XS.iinc X16.here hx rfl (hb hby own_d17_26) rfl (l' := #[.val (.ref a), .val (.int 3), .val (.int 3), .val (.ref t0), .val (.int 3)]) rfl (XS.goto X16.here hx rfl (pc0 := 29) (pc' := 8) rfl (hb hby own_d17_29) (by decide) (by decide) (XS.iload X16.here hx rfl (hb hby own_d17_8) rfl (XS.iloadN X16.here hx rfl (hb hby own_d17_10) rfl (XS.icmpYes X16.here hx rfl (pc0 := 11) (pc' := 32) rfl (hb hby own_d17_11) rfl (flt (by decide : ¬ ((3 : Int32) < (3 : Int32)))).2.1 (by decide) (by decide) (XS.aloadN X16.here hx rfl (hb hby own_d17_32) rfl rfl q))))))) ?_
  have k17_ := (k14_.trans Kq16 (allS (Or.inr sz1) all0))
  exact own_end X16 (v := some (.ref t0)) (fun h => by rw [Bd.returns] at h; cases h) hlk (fun hr => retOut X16 hx Bd.returns (own_narR rfl) (Or.inr (Or.inr (Or.inr (Or.inr ⟨rfl, rfl, rfl⟩)))) (hb hby own_d17_33) hr) (⟨t0, k0, rfl, N16, k17_, sz1, g1, A16⟩) (by decide) (by decide)
theorem own_c2_3_ef (m : MethodId) (a : Addr) (b : Addr) : entryFrame m #[(.ref a), (.int 0), (.ref b), (.int 0), (.int 3)] 7 = mkF m 0 #[.val (.ref a), .val (.int 0), .val (.ref b), .val (.int 0), .val (.int 3), .unset, .unset] [] := by  first | (simp [entryFrame, mkF, argsToLocals, Value.category]; done) | rfl
def own_c2_3_Q (Z : State) (a : Addr) (b : Addr) (ka : ClassId) (da : Value) (c0 : Int32) (c1 : Int32) (c2 : Int32) (kb : ClassId) (zCS : Int32) (fm : Value) (h0 : Heap) (n0 : Nat) (v : Option Value) (h : Heap) (L : List Loc) : Prop := Fr n0 L ∧ Keep h0 h [b] ∧ ((v = some (.int 3) ∧ ¬ (255 : Int32) < c0 ∧ ¬ (255 : Int32) < c1 ∧ ¬ (255 : Int32) < c2 ∧ Arv Z h b kb .byte (3 : Int32) [(.int (StrChars.lo8 c0)), (.int (StrChars.lo8 c1)), (.int (StrChars.lo8 c2))] (.int 0)) ∨ (v = some (.int 0) ∧ (255 : Int32) < c0) ∨ (v = some (.int 1) ∧ (255 : Int32) < c1) ∨ (v = some (.int 2) ∧ (255 : Int32) < c2))
set_option maxRecDepth 65536 in
set_option maxHeartbeats 40000000 in
theorem own_c2_3 (l : Launch) (Z : State) (a0 : Array Value) (hw : ∀ d ∈ tables_1, d.before a0 Z = true) (ws : List Jvm.Cond) (a : Addr) (b : Addr) (ka : ClassId) (da : Value) (c0 : Int32) (c1 : Int32) (c2 : Int32) (kb : ClassId) (zCS : Int32) (fm : Value) (h0 : Heap) (n0 : Nat) (Z0 : n0 ≤ h0.size) (S_CS : own_A0 Z zCS) (nCS : ¬ zCS = 0) (S_AD : own_A1 Z) (S_HI : own_A2 Z) (S_LO : own_A3 Z) (S_SF : own_A4 Z fm) (hfm : fm.isRef = true) (O0 : Old Z n0 h0) (K_a : Arv Z h0 a ka .char (3 : Int32) [(.int c0), (.int c1), (.int c2)] da) (K_b : Arv Z h0 b kb .byte (3 : Int32) [(.int 0), (.int 0), (.int 0)] (.int 0)) (g_b : n0 ≤ b) (n_ab : a ≠ b) :
    MetFree l own_y15 (head1 (Jvm.Cond.code own_y15 jdk_52_method_21_code 7 (some .int) :: ws) (⟨0, 0, 0, 0⟩ : Room)) (fun aa U => aa = #[(.ref a), (.int 0), (.ref b), (.int 0), (.int 3)] ∧ Z.Warmed39 U.vm ∧ U.heap = h0) (fun _ _ _ _ _ => True) (fun _ U o U' => ∃ v L, o = .returned v ∧ own_c2_3_Q Z a b ka da c0 c1 c2 kb zCS fm h0 n0 v U'.heap L ∧ FrameEnd U o U' L (⟨0, 0, 0, 0⟩ : Room).cells (⟨0, 0, 0, 0⟩ : Room).slots) := by
  refine MetFree.of_bodySF (plainFor_of_name own_pn_java_lang_StringUTF16) hisR ?_
  intro p e s m args below meth c s₁ Bd hml0 hP hK
  obtain ⟨rfl, hZ, hh⟩ := hP
  have hx := Bd.exec
  have hby := Bd.bytes
  have hml : c.maxLocals = 7 := hml0
  have hown : s.vm.findClass "java/lang/StringUTF16" = some m.cls := findClass_of_methodNamed Bd.named
  have hnm := (name_of_methodNamed Bd.named Bd.method).1
  have hlk := Bd.notSynchronized
  have X0 : Stand p l e (⟨0, 0, 0, 0⟩ : Room) s m #[(.ref a), (.int 0), (.ref b), (.int 0), (.int 3)] below meth c s₁ [] 0 0 := Stand.of_body Bd
  have e0 : s₁.heap = h0 := by rw [← hh, Bd.state]; rfl
  have N0 := Fr.nil n0
  refine own_start (Q := own_c2_3_Q Z a b ka da c0 c1 c2 kb zCS fm h0 n0) (own_c2_3_ef m a b) ?_
  refine own_g (mkF m 12 #[.val (.ref a), .val (.int 0), .val (.ref b), .val (.int 0), .val (.int 3), .val (.int 0), .unset] [(.int 0), (.ref a)]) (fun _ q => XS.iconst X0.here hx rfl (hb hby own_d9_0) (XS.istore X0.here hx rfl (hb hby own_d9_1) rfl (l' := #[.val (.ref a), .val (.int 0), .val (.ref b), .val (.int 0), .val (.int 3), .val (.int 0), .unset]) rfl (XS.iload X0.here hx rfl (hb hby own_d9_3) rfl (XS.iload X0.here hx rfl (hb hby own_d9_5) rfl (XS.icmpNo X0.here hx rfl (hb hby own_d9_7) rfl (tlt (by decide : (0 : Int32) < (3 : Int32))).2.1 (XS.aloadN X0.here hx rfl (hb hby own_d9_10) rfl rfl (XS.iloadN X0.here hx rfl (hb hby own_d9_11) rfl q))))))) ?_
  obtain ⟨cl1, Ar1, q1, S1, P1, H1, G1⟩ := id K_a
  have hin1 : ¬ ((0 : Int32) < 0 ∨ cl1.slots.size ≤ ((0 : Int32)).toNatClampNeg) := inb_of S1 ⟨by decide, by decide⟩
  refine own_by (g' := (mkF m 13 #[.val (.ref a), .val (.int 0), .val (.ref b), .val (.int 0), .val (.int 3), .val (.int 0), .unset] [(.int c0)])) (fun _ kq => X0.caload hx (j := (0 : Int32)) (v := (.int c0)) (by rw [e0]; exact Ar1.1) (State.isArrayOf_alike hZ.alike Ar1.2.1) Ar1.2.2 hin1 (H1.at hin1 rfl) (g := (mkF m 12 #[.val (.ref a), .val (.int 0), .val (.ref b), .val (.int 0), .val (.int 3), .val (.int 0), .unset] [(.int 0), (.ref a)])) rfl rfl (hb hby own_d9_12) _ kq) ?_
  refine own_g (mkF m 20 #[.val (.ref a), .val (.int 0), .val (.ref b), .val (.int 0), .val (.int 3), .val (.int 0), .val (.int c0)] [(.int 255), (.int c0)]) (fun _ q => XS.istore X0.here hx rfl (hb hby own_d9_13) rfl (l' := #[.val (.ref a), .val (.int 0), .val (.ref b), .val (.int 0), .val (.int 3), .val (.int 0), .val (.int c0)]) rfl (XS.iload X0.here hx rfl (hb hby own_d9_15) rfl (XS.sipush X0.here hx rfl (hb hby own_d9_17) q))) ?_
  by_cases hc2 : (255 : Int32) < c0
  · refine own_g (mkF m 25 #[.val (.ref a), .val (.int 0), .val (.ref b), .val (.int 0), .val (.int 3), .val (.int 0), .val (.int c0)] [(.int 0)]) (fun _ q => XS.icmpNo X0.here hx rfl (hb hby own_d9_20) rfl (tlt hc2).2.2.2 (XS.iload X0.here hx rfl (hb hby own_d9_23) rfl q)) ?_
    exact own_end X0 (v := some (.int 0)) (fun h => by rw [Bd.returns] at h; cases h) hlk (fun hr => retOut X0 hx Bd.returns rfl (Or.inl ⟨rfl, Or.inl rfl, _, rfl⟩) (hb hby own_d9_25) hr) (by rw [e0]; exact ⟨N0, (Keep.refl h0 [b]), Or.inr (Or.inl ⟨rfl, hc2⟩)⟩) (by decide) (by decide)
  · refine own_g (mkF m 31 #[.val (.ref a), .val (.int 0), .val (.ref b), .val (.int 0), .val (.int 3), .val (.int 0), .val (.int c0)] [(.int (c0.toInt8.toInt32)), (.int 0), (.ref b)]) (fun _ q => XS.icmpYes X0.here hx rfl (pc0 := 20) (pc' := 26) rfl (hb hby own_d9_20) rfl (flt hc2).2.2.2 (by decide) (by decide) (XS.aloadN X0.here hx rfl (hb hby own_d9_26) rfl rfl (XS.iloadN X0.here hx rfl (hb hby own_d9_27) rfl (XS.iload X0.here hx rfl (hb hby own_d9_28) rfl (XS.i2b X0.here hx rfl (hb hby own_d9_30) rfl q))))) ?_
    obtain ⟨cl3, Ar3, q3, S3, P3, H3, G3⟩ := id K_b
    have hin3 : ¬ ((0 : Int32) < 0 ∨ cl3.slots.size ≤ ((0 : Int32)).toNatClampNeg) := inb_of S3 ⟨by decide, by decide⟩
    obtain ⟨T4, h4, X4, e4, W4, st4⟩ := stB X0 hx hZ e0 Ar3 (j := (0 : Int32)) hin3 (g := (mkF m 31 #[.val (.ref a), .val (.int 0), .val (.ref b), .val (.int 0), .val (.int 3), .val (.int 0), .val (.int c0)] [(.int (c0.toInt8.toInt32)), (.int 0), (.ref b)])) rfl rfl (hb hby own_d9_31)
    have V4 : Arv Z h4 b kb .byte (3 : Int32) [(.int ((c0.toInt8.toInt32).toInt8.toInt32)), (.int 0), (.int 0)] (.int 0) := Arv.set Ar3 q3 S3 P3 H3 G3 (fits_nar_byte _) W4 0 rfl (Nat.le_of_ble_eq_true rfl)
    have N4 := Fr.snoc X4 N0 g_b
    refine own_by (g' := (mkF m 32 #[.val (.ref a), .val (.int 0), .val (.ref b), .val (.int 0), .val (.int 3), .val (.int 0), .val (.int c0)] [])) st4 ?_
    refine own_g (mkF m 11 #[.val (.ref a), .val (.int 1), .val (.ref b), .val (.int 1), .val (.int 3), .val (.int 1), .val (.int c0)] [(.ref a)]) (fun _ q => XS.iinc X4.here hx rfl (hb hby own_d9_32) rfl (l' := #[.val (.ref a), .val (.int 1), .val (.ref b), .val (.int 0), .val (.int 3), .val (.int 0), .val (.int c0)]) rfl (XS.iinc X4.here hx rfl (hb hby own_d9_35) rfl (l' := #[.val (.ref a), .val (.int 1), .val (.ref b), .val (.int 1), .val (.int 3), .val (.int 0), .val (.int c0)]) rfl (XS.iinc X4.here hx rfl (hb hby own_d9_38) rfl (l' := #[.val (.ref a), .val (.int 1), .val (.ref b), .val (.int 1), .val (.int 3), .val (.int 1), .val (.int c0)]) rfl (XS.goto X4.here hx rfl (pc0 := 41) (pc' := 3) rfl (hb hby own_d9_41) (by decide) (by decide) (XS.iload X4.here hx rfl (hb hby own_d9_3) rfl (XS.iload X4.here hx rfl (hb hby own_d9_5) rfl (XS.icmpNo X4.here hx rfl (hb hby own_d9_7) rfl (tlt (by decide : (1 : Int32) < (3 : Int32))).2.1 (XS.aloadN X4.here hx rfl (hb hby own_d9_10) rfl rfl q)))))))) ?_
    refine own_g (mkF m 12 #[.val (.ref a), .val (.int 1), .val (.ref b), .val (.int 1), .val (.int 3), .val (.int 1), .val (.int c0)] [(.int 1), (.ref a)]) (fun _ q => XS.iloadN X4.here hx rfl (hb hby own_d9_11) rfl q) ?_
    have a5_a := (K_a.other W4 n_ab)
    obtain ⟨cl6, Ar6, q6, S6, P6, H6, G6⟩ := id a5_a
    have hin6 : ¬ ((1 : Int32) < 0 ∨ cl6.slots.size ≤ ((1 : Int32)).toNatClampNeg) := inb_of S6 ⟨by decide, by decide⟩
    refine own_by (g' := (mkF m 13 #[.val (.ref a), .val (.int 1), .val (.ref b), .val (.int 1), .val (.int 3), .val (.int 1), .val (.int c0)] [(.int c1)])) (fun _ kq => X4.caload hx (j := (1 : Int32)) (v := (.int c1)) (by rw [e4]; exact Ar6.1) (State.isArrayOf_alike hZ.alike Ar6.2.1) Ar6.2.2 hin6 (H6.at hin6 rfl) (g := (mkF m 12 #[.val (.ref a), .val (.int 1), .val (.ref b), .val (.int 1), .val (.int 3), .val (.int 1), .val (.int c0)] [(.int 1), (.ref a)])) rfl rfl (hb hby own_d9_12) _ kq) ?_
    refine own_g (mkF m 20 #[.val (.ref a), .val (.int 1), .val (.ref b), .val (.int 1), .val (.int 3), .val (.int 1), .val (.int c1)] [(.int 255), (.int c1)]) (fun _ q => XS.istore X4.here hx rfl (hb hby own_d9_13) rfl (l' := #[.val (.ref a), .val (.int 1), .val (.ref b), .val (.int 1), .val (.int 3), .val (.int 1), .val (.int c1)]) rfl (XS.iload X4.here hx rfl (hb hby own_d9_15) rfl (XS.sipush X4.here hx rfl (hb hby own_d9_17) q))) ?_
    by_cases hc7 : (255 : Int32) < c1
    · refine own_g (mkF m 25 #[.val (.ref a), .val (.int 1), .val (.ref b), .val (.int 1), .val (.int 3), .val (.int 1), .val (.int c1)] [(.int 1)]) (fun _ q => XS.icmpNo X4.here hx rfl (hb hby own_d9_20) rfl (tlt hc7).2.2.2 (XS.iload X4.here hx rfl (hb hby own_d9_23) rfl q)) ?_
      have k8_ := ((Keep.refl h0 [b]).wr W4 (Or.inl (List.mem_of_getElem? (i := 0) rfl)))
      exact own_end X4 (v := some (.int 1)) (fun h => by rw [Bd.returns] at h; cases h) hlk (fun hr => retOut X4 hx Bd.returns rfl (Or.inl ⟨rfl, Or.inl rfl, _, rfl⟩) (hb hby own_d9_25) hr) (by rw [e4]; exact ⟨N4, k8_, Or.inr (Or.inr (Or.inl ⟨rfl, hc7⟩))⟩) (by decide) (by decide)
    · refine own_g (mkF m 31 #[.val (.ref a), .val (.int 1), .val (.ref b), .val (.int 1), .val (.int 3), .val (.int 1), .val (.int c1)] [(.int (c1.toInt8.toInt32)), (.int 1), (.ref b)]) (fun _ q => XS.icmpYes X4.here hx rfl (pc0 := 20) (pc' := 26) rfl (hb hby own_d9_20) rfl (flt hc7).2.2.2 (by decide) (by decide) (XS.aloadN X4.here hx rfl (hb hby own_d9_26) rfl rfl (XS.iloadN X4.here hx rfl (hb hby own_d9_27) rfl (XS.iload X4.here hx rfl (hb hby own_d9_28) rfl (XS.i2b X4.here hx rfl (hb hby own_d9_30) rfl q))))) ?_
      obtain ⟨cl9, Ar9, q9, S9, P9, H9, G9⟩ := id V4
      have hin9 : ¬ ((1 : Int32) < 0 ∨ cl9.slots.size ≤ ((1 : Int32)).toNatClampNeg) := inb_of S9 ⟨by decide, by decide⟩
      obtain ⟨T10, h10, X10, e10, W10, st10⟩ := stB X4 hx hZ e4 Ar9 (j := (1 : Int32)) hin9 (g := (mkF m 31 #[.val (.ref a), .val (.int 1), .val (.ref b), .val (.int 1), .val (.int 3), .val (.int 1), .val (.int c1)] [(.int (c1.toInt8.toInt32)), (.int 1), (.ref b)])) rfl rfl (hb hby own_d9_31)
      have V10 : Arv Z h10 b kb .byte (3 : Int32) [(.int ((c0.toInt8.toInt32).toInt8.toInt32)), (.int ((c1.toInt8.toInt32).toInt8.toInt32)), (.int 0)] (.int 0) := Arv.set Ar9 q9 S9 P9 H9 G9 (fits_nar_byte _) W10 1 rfl (Nat.le_of_ble_eq_true rfl)
      have N10 := Fr.snoc X10 N4 g_b
      refine own_by (g' := (mkF m 32 #[.val (.ref a), .val (.int 1), .val (.ref b), .val (.int 1), .val (.int 3), .val (.int 1), .val (.int c1)] [])) st10 ?_
      refine own_g (mkF m 11 #[.val (.ref a), .val (.int 2), .val (.ref b), .val (.int 2), .val (.int 3), .val (.int 2), .val (.int c1)] [(.ref a)]) (fun _ q => XS.iinc X10.here hx rfl (hb hby own_d9_32) rfl (l' := #[.val (.ref a), .val (.int 2), .val (.ref b), .val (.int 1), .val (.int 3), .val (.int 1), .val (.int c1)]) rfl (XS.iinc X10.here hx rfl (hb hby own_d9_35) rfl (l' := #[.val (.ref a), .val (.int 2), .val (.ref b), .val (.int 2), .val (.int 3), .val (.int 1), .val (.int c1)]) rfl (XS.iinc X10.here hx rfl (hb hby own_d9_38) rfl (l' := #[.val (.ref a), .val (.int 2), .val (.ref b), .val (.int 2), .val (.int 3), .val (.int 2), .val (.int c1)]) rfl (XS.goto X10.here hx rfl (pc0 := 41) (pc' := 3) rfl (hb hby own_d9_41) (by decide) (by decide) (XS.iload X10.here hx rfl (hb hby own_d9_3) rfl (XS.iload X10.here hx rfl (hb hby own_d9_5) rfl (XS.icmpNo X10.here hx rfl (hb hby own_d9_7) rfl (tlt (by decide : (2 : Int32) < (3 : Int32))).2.1 (XS.aloadN X10.here hx rfl (hb hby own_d9_10) rfl rfl q)))))))) ?_
      refine own_g (mkF m 12 #[.val (.ref a), .val (.int 2), .val (.ref b), .val (.int 2), .val (.int 3), .val (.int 2), .val (.int c1)] [(.int 2), (.ref a)]) (fun _ q => XS.iloadN X10.here hx rfl (hb hby own_d9_11) rfl q) ?_
      have a11_a := (a5_a.other W10 n_ab)
      obtain ⟨cl12, Ar12, q12, S12, P12, H12, G12⟩ := id a11_a
      have hin12 : ¬ ((2 : Int32) < 0 ∨ cl12.slots.size ≤ ((2 : Int32)).toNatClampNeg) := inb_of S12 ⟨by decide, by decide⟩
      refine own_by (g' := (mkF m 13 #[.val (.ref a), .val (.int 2), .val (.ref b), .val (.int 2), .val (.int 3), .val (.int 2), .val (.int c1)] [(.int c2)])) (fun _ kq => X10.caload hx (j := (2 : Int32)) (v := (.int c2)) (by rw [e10]; exact Ar12.1) (State.isArrayOf_alike hZ.alike Ar12.2.1) Ar12.2.2 hin12 (H12.at hin12 rfl) (g := (mkF m 12 #[.val (.ref a), .val (.int 2), .val (.ref b), .val (.int 2), .val (.int 3), .val (.int 2), .val (.int c1)] [(.int 2), (.ref a)])) rfl rfl (hb hby own_d9_12) _ kq) ?_
      refine own_g (mkF m 20 #[.val (.ref a), .val (.int 2), .val (.ref b), .val (.int 2), .val (.int 3), .val (.int 2), .val (.int c2)] [(.int 255), (.int c2)]) (fun _ q => XS.istore X10.here hx rfl (hb hby own_d9_13) rfl (l' := #[.val (.ref a), .val (.int 2), .val (.ref b), .val (.int 2), .val (.int 3), .val (.int 2), .val (.int c2)]) rfl (XS.iload X10.here hx rfl (hb hby own_d9_15) rfl (XS.sipush X10.here hx rfl (hb hby own_d9_17) q))) ?_
      by_cases hc13 : (255 : Int32) < c2
      · refine own_g (mkF m 25 #[.val (.ref a), .val (.int 2), .val (.ref b), .val (.int 2), .val (.int 3), .val (.int 2), .val (.int c2)] [(.int 2)]) (fun _ q => XS.icmpNo X10.here hx rfl (hb hby own_d9_20) rfl (tlt hc13).2.2.2 (XS.iload X10.here hx rfl (hb hby own_d9_23) rfl q)) ?_
        have k14_ := (((Keep.refl h0 [b]).wr W4 (Or.inl (List.mem_of_getElem? (i := 0) rfl))).wr W10 (Or.inl (List.mem_of_getElem? (i := 0) rfl)))
        exact own_end X10 (v := some (.int 2)) (fun h => by rw [Bd.returns] at h; cases h) hlk (fun hr => retOut X10 hx Bd.returns rfl (Or.inl ⟨rfl, Or.inl rfl, _, rfl⟩) (hb hby own_d9_25) hr) (by rw [e10]; exact ⟨N10, k14_, Or.inr (Or.inr (Or.inr (⟨rfl, hc13⟩)))⟩) (by decide) (by decide)
      · refine own_g (mkF m 31 #[.val (.ref a), .val (.int 2), .val (.ref b), .val (.int 2), .val (.int 3), .val (.int 2), .val (.int c2)] [(.int (c2.toInt8.toInt32)), (.int 2), (.ref b)]) (fun _ q => XS.icmpYes X10.here hx rfl (pc0 := 20) (pc' := 26) rfl (hb hby own_d9_20) rfl (flt hc13).2.2.2 (by decide) (by decide) (XS.aloadN X10.here hx rfl (hb hby own_d9_26) rfl rfl (XS.iloadN X10.here hx rfl (hb hby own_d9_27) rfl (XS.iload X10.here hx rfl (hb hby own_d9_28) rfl (XS.i2b X10.here hx rfl (hb hby own_d9_30) rfl q))))) ?_
        obtain ⟨cl15, Ar15, q15, S15, P15, H15, G15⟩ := id V10
        have hin15 : ¬ ((2 : Int32) < 0 ∨ cl15.slots.size ≤ ((2 : Int32)).toNatClampNeg) := inb_of S15 ⟨by decide, by decide⟩
        obtain ⟨T16, h16, X16, e16, W16, st16⟩ := stB X10 hx hZ e10 Ar15 (j := (2 : Int32)) hin15 (g := (mkF m 31 #[.val (.ref a), .val (.int 2), .val (.ref b), .val (.int 2), .val (.int 3), .val (.int 2), .val (.int c2)] [(.int (c2.toInt8.toInt32)), (.int 2), (.ref b)])) rfl rfl (hb hby own_d9_31)
        have V16 : Arv Z h16 b kb .byte (3 : Int32) [(.int ((c0.toInt8.toInt32).toInt8.toInt32)), (.int ((c1.toInt8.toInt32).toInt8.toInt32)), (.int ((c2.toInt8.toInt32).toInt8.toInt32))] (.int 0) := Arv.set Ar15 q15 S15 P15 H15 G15 (fits_nar_byte _) W16 2 rfl (Nat.le_of_ble_eq_true rfl)
        have N16 := Fr.snoc X16 N10 g_b
        refine own_by (g' := (mkF m 32 #[.val (.ref a), .val (.int 2), .val (.ref b), .val (.int 2), .val (.int 3), .val (.int 2), .val (.int c2)] [])) st16 ?_
        refine own_g (mkF m 46 #[.val (.ref a), .val (.int 3), .val (.ref b), .val (.int 3), .val (.int 3), .val (.int 3), .val (.int c2)] [(.int 3)]) (fun _ q => XS.iinc X16.here hx rfl (hb hby own_d9_32) rfl (l' := #[.val (.ref a), .val (.int 3), .val (.ref b), .val (.int 2), .val (.int 3), .val (.int 2), .val (.int c2)]) rfl (XS.iinc X16.here hx rfl (hb hby own_d9_35) rfl (l' := #[.val (.ref a), .val (.int 3), .val (.ref b), .val (.int 3), .val (.int 3), .val (.int 2), .val (.int c2)]) rfl (XS.iinc X16.here hx rfl (hb hby own_d9_38) rfl (l' := #[.val (.ref a), .val (.int 3), .val (.ref b), .val (.int 3), .val (.int 3), .val (.int 3), .val (.int c2)]) rfl (XS.goto X16.here hx rfl (pc0 := 41) (pc' := 3) rfl (hb hby own_d9_41) (by decide) (by decide) (XS.iload X16.here hx rfl (hb hby own_d9_3) rfl (XS.iload X16.here hx rfl (hb hby own_d9_5) rfl (XS.icmpYes X16.here hx rfl (pc0 := 7) (pc' := 44) rfl (hb hby own_d9_7) rfl (flt (by decide : ¬ ((3 : Int32) < (3 : Int32)))).2.1 (by decide) (by decide) (XS.iload X16.here hx rfl (hb hby own_d9_44) rfl q)))))))) ?_
        have k17_ := ((((Keep.refl h0 [b]).wr W4 (Or.inl (List.mem_of_getElem? (i := 0) rfl))).wr W10 (Or.inl (List.mem_of_getElem? (i := 0) rfl))).wr W16 (Or.inl (List.mem_of_getElem? (i := 0) rfl)))
        exact own_end X16 (v := some (.int 3)) (fun h => by rw [Bd.returns] at h; cases h) hlk (fun hr => retOut X16 hx Bd.returns rfl (Or.inl ⟨rfl, Or.inl rfl, _, rfl⟩) (hb hby own_d9_46) hr) (by rw [e16]; exact ⟨N16, k17_, Or.inl ⟨rfl, hc2, hc7, hc13, by have q := V16; simp only [own_bb] at q; exact q⟩⟩) (by decide) (by decide)
theorem own_c1_3_ef (m : MethodId) (a : Addr) : entryFrame m #[(.ref a), (.int 0), (.int 3)] 6 = mkF m 0 #[.val (.ref a), .val (.int 0), .val (.int 3), .unset, .unset, .unset] [] := by  first | (simp [entryFrame, mkF, argsToLocals, Value.category]; done) | rfl
def own_c1_3_Q (Z : State) (a : Addr) (ka : ClassId) (da : Value) (c0 : Int32) (c1 : Int32) (c2 : Int32) (zCS : Int32) (fm : Value) (h0 : Heap) (n0 : Nat) (v : Option Value) (h : Heap) (L : List Loc) : Prop := ∃ (t : Addr) (kb : ClassId), v = some (.ref t) ∧ Fr n0 L ∧ Keep h0 h [] ∧ h0.size ≤ t ∧ n0 ≤ t ∧ ((¬ (255 : Int32) < c0 ∧ ¬ (255 : Int32) < c1 ∧ ¬ (255 : Int32) < c2 ∧ Arv Z h t kb .byte (3 : Int32) [(.int (StrChars.lo8 c0)), (.int (StrChars.lo8 c1)), (.int (StrChars.lo8 c2))] (.int 0)) ∨ Arv Z h t kb .byte (6 : Int32) [(.int (StrChars.lo8 c0)), (.int (StrChars.hi8 c0)), (.int (StrChars.lo8 c1)), (.int (StrChars.hi8 c1)), (.int (StrChars.lo8 c2)), (.int (StrChars.hi8 c2))] (.int 0))
set_option maxRecDepth 65536 in
set_option maxHeartbeats 40000000 in
theorem own_c1_3 (l : Launch) (Z : State) (a0 : Array Value) (hw : ∀ d ∈ tables_1, d.before a0 Z = true) (ws : List Jvm.Cond) (a : Addr) (ka : ClassId) (da : Value) (c0 : Int32) (c1 : Int32) (c2 : Int32) (zCS : Int32) (fm : Value) (h0 : Heap) (n0 : Nat) (Z0 : n0 ≤ h0.size) (S_CS : own_A0 Z zCS) (nCS : ¬ zCS = 0) (S_AD : own_A1 Z) (S_HI : own_A2 Z) (S_LO : own_A3 Z) (S_SF : own_A4 Z fm) (hfm : fm.isRef = true) (O0 : Old Z n0 h0) (K_a : Arv Z h0 a ka .char (3 : Int32) [(.int c0), (.int c1), (.int c2)] da) (hb0 : ¬ c0 < 0 ∧ ¬ (65535 : Int32) < c0) (hb1 : ¬ c1 < 0 ∧ ¬ (65535 : Int32) < c1) (hb2 : ¬ c2 < 0 ∧ ¬ (65535 : Int32) < c2) (hn0 : nar .char c0 = c0) (hn1 : nar .char c1 = c1) (hn2 : nar .char c2 = c2) :
    MetFree l own_y14 (head1 (Jvm.Cond.code own_y14 jdk_52_method_16_code 6 (some (.array .byte)) :: ws) (⟨3, 2, 9, 40⟩ : Room)) (fun aa U => aa = #[(.ref a), (.int 0), (.int 3)] ∧ Z.Warmed39 U.vm ∧ U.heap = h0) (fun _ _ _ _ _ => True) (fun _ U o U' => ∃ v L, o = .returned v ∧ own_c1_3_Q Z a ka da c0 c1 c2 zCS fm h0 n0 v U'.heap L ∧ FrameEnd U o U' L (⟨3, 2, 9, 40⟩ : Room).cells (⟨3, 2, 9, 40⟩ : Room).slots) := by
  refine MetFree.of_bodySF (plainFor_of_name own_pn_java_lang_StringUTF16) hisR ?_
  intro p e s m args below meth c s₁ Bd hml0 hP hK
  obtain ⟨rfl, hZ, hh⟩ := hP
  have hx := Bd.exec
  have hby := Bd.bytes
  have hml : c.maxLocals = 6 := hml0
  have hown : s.vm.findClass "java/lang/StringUTF16" = some m.cls := findClass_of_methodNamed Bd.named
  have hnm := (name_of_methodNamed Bd.named Bd.method).1
  have hlk := Bd.notSynchronized
  have X0 : Stand p l e (⟨3, 2, 9, 40⟩ : Room) s m #[(.ref a), (.int 0), (.int 3)] below meth c s₁ [] 0 0 := Stand.of_body Bd
  have e0 : s₁.heap = h0 := by rw [← hh, Bd.state]; rfl
  have N0 := Fr.nil n0
  refine own_start (Q := own_c1_3_Q Z a ka da c0 c1 c2 zCS fm h0 n0) (own_c1_3_ef m a) ?_
  refine own_g (mkF m 1 #[.val (.ref a), .val (.int 0), .val (.int 3), .unset, .unset, .unset] [(.int 3)]) (fun _ q => XS.iloadN X0.here hx rfl (hb hby own_d8_0) rfl q) ?_
  obtain ⟨T1, h1, k1, X1, e1, E1, A1, st1⟩ := newP X0 hx hZ (own_h hw 20 rfl) e0 (g := (mkF m 1 #[.val (.ref a), .val (.int 0), .val (.int 3), .unset, .unset, .unset] [(.int 3)])) rfl (hb hby own_d8_1) rfl (by decide) (cap := 3) (by decide) (by decide) (by decide) (by decide)
  obtain ⟨b1, g1⟩ : ∃ z, z = h0.size := ⟨_, rfl⟩
  rw [← g1] at A1 st1
  have g_b1 : n0 ≤ b1 := Nat.le_trans Z0 (Nat.le_of_eq g1.symm)
  have sz_b1 : h0.size ≤ b1 := Nat.le_trans (Keep.refl h0 []).1 (Nat.le_of_eq g1.symm)
  have ne_a_b1 : a ≠ b1 := Nat.ne_of_lt (Nat.lt_of_lt_of_le K_a.lt (Nat.le_of_eq g1.symm))
  have V_b1 : Arv Z h1 b1 k1 .byte (3 : Int32) [(.int 0), (.int 0), (.int 0)] (.int 0) := (Arv.new A1 (by decide)).pad (pad_rep [] (.int 0) 3)
  refine own_by (g' := (mkF m 3 #[.val (.ref a), .val (.int 0), .val (.int 3), .unset, .unset, .unset] [(.ref b1)])) st1 ?_
  refine own_g (mkF m 9 #[.val (.ref a), .val (.int 0), .val (.int 3), .val (.ref b1), .unset, .unset] [(.int 3), (.int 0), (.ref b1), (.int 0), (.ref a)]) (fun _ q => XS.astoreN X1.here hx rfl (hb hby own_d8_3) rfl rfl (l' := #[.val (.ref a), .val (.int 0), .val (.int 3), .val (.ref b1), .unset, .unset]) rfl (XS.aloadN X1.here hx rfl (hb hby own_d8_4) rfl rfl (XS.iloadN X1.here hx rfl (hb hby own_d8_5) rfl (XS.aloadN X1.here hx rfl (hb hby own_d8_6) rfl rfl (XS.iconst X1.here hx rfl (hb hby own_d8_7) (XS.iloadN X1.here hx rfl (hb hby own_d8_8) rfl q)))))) ?_
  have k2_ := ((Keep.refl h0 []).ext E1)
  have o3_ := (O0.ext E1)
  have a4_a := (K_a.ext E1)
  refine own_callS X1 hx hZ (y := own_y15) hown (own_h hw 46 rfl) (own_h hw 47 rfl) (own_h hw 44 rfl) (own_h hw 48 rfl) (by decide) (own_c2_3 l Z a0 hw [] a b1 ka da c0 c1 c2 k1 zCS fm h1 n0 (Nat.le_trans Z0 k2_.1) S_CS nCS S_AD S_HI S_LO S_SF hfm o3_ a4_a V_b1 g_b1 ne_a_b1) (by decide) (by decide) e1 (g := (mkF m 9 #[.val (.ref a), .val (.int 0), .val (.int 3), .val (.ref b1), .unset, .unset] [(.int 3), (.int 0), (.ref b1), (.int 0), (.ref a)])) rfl (by rw [hml]; rfl) (argsL := [(.ref a), (.int 0), (.ref b1), (.int 0), (.int 3)]) (rest := []) (lenOf own_pd__28_5bCI_5bBII_29I rfl) rfl (W := 0) (by show 2 * 0 + _ ≤ _; exact Nat.le_of_eq rfl) (hb hby own_d8_9) rfl (by decide) (by decide) ?_
  rintro rv5 T5 L5 X5 ⟨Nq5, Kq5, hv5⟩
  have N5 := Fr.app N0 Nq5
  rcases hv5 with ⟨rfl, ha0, ha1, ha2, Al5⟩ | ⟨rfl, hw0⟩ | ⟨rfl, hw1⟩ | ⟨rfl, hw2⟩
  · show own_Fin p e below _ T5 (mkF m 12 #[.val (.ref a), .val (.int 0), .val (.int 3), .val (.ref b1), .unset, .unset] [(.int 3)])
    refine own_g (mkF m 58 #[.val (.ref a), .val (.int 0), .val (.int 3), .val (.ref b1), .val (.int 3), .unset] [(.ref b1)]) (fun _ q => XS.istore X5.here hx rfl (hb hby own_d8_12) rfl (l' := #[.val (.ref a), .val (.int 0), .val (.int 3), .val (.ref b1), .val (.int 3), .unset]) rfl (XS.iload X5.here hx rfl (hb hby own_d8_14) rfl (XS.iloadN X5.here hx rfl (hb hby own_d8_16) rfl (XS.icmpYes X5.here hx rfl (pc0 := 17) (pc' := 57) rfl (hb hby own_d8_17) rfl (teq (by decide : (3 : Int32) = (3 : Int32))).1 (by decide) (by decide) (XS.aloadN X5.here hx rfl (hb hby own_d8_57) rfl rfl q))))) ?_
    have k6_ := (k2_.trans Kq5 (allS (Or.inr sz_b1) all0))
    exact own_end X5 (v := some (.ref b1)) (fun h => by rw [Bd.returns] at h; cases h) hlk (fun hr => retOut X5 hx Bd.returns (own_narR rfl) (Or.inr (Or.inr (Or.inr (Or.inr ⟨rfl, rfl, rfl⟩)))) (hb hby own_d8_58) hr) (⟨b1, k1, rfl, N5, k6_, sz_b1, g_b1, Or.inl ⟨ha0, ha1, ha2, Al5⟩⟩) (by decide) (by decide)
  · show own_Fin p e below _ T5 (mkF m 12 #[.val (.ref a), .val (.int 0), .val (.int 3), .val (.ref b1), .unset, .unset] [(.int 0)])
    refine own_g (mkF m 23 #[.val (.ref a), .val (.int 0), .val (.int 3), .val (.ref b1), .val (.int 0), .unset] [(.int 3), (.int 0), (.ref a)]) (fun _ q => XS.istore X5.here hx rfl (hb hby own_d8_12) rfl (l' := #[.val (.ref a), .val (.int 0), .val (.int 3), .val (.ref b1), .val (.int 0), .unset]) rfl (XS.iload X5.here hx rfl (hb hby own_d8_14) rfl (XS.iloadN X5.here hx rfl (hb hby own_d8_16) rfl (XS.icmpNo X5.here hx rfl (hb hby own_d8_17) rfl (feq (by decide : ¬ ((0 : Int32) = (3 : Int32)))).1 (XS.aloadN X5.here hx rfl (hb hby own_d8_20) rfl rfl (XS.iloadN X5.here hx rfl (hb hby own_d8_21) rfl (XS.iloadN X5.here hx rfl (hb hby own_d8_22) rfl q))))))) ?_
    have a7_a := (a4_a.keep Kq5 (ninS ne_a_b1 nin0))
    have k8_ := (k2_.trans Kq5 (allS (Or.inr sz_b1) all0))
    have o9_ := (o3_.keep Kq5 (allS g_b1 all0))
    refine own_callS X5 hx hZ (y := own_y21) hown (own_h hw 78 rfl) (own_h hw 79 rfl) (own_h hw 44 rfl) (own_h hw 80 rfl) (by decide) (own_tb_3 l Z a0 hw [] a ka da c0 c1 c2 zCS fm T5.heap n0 (Nat.le_trans Z0 k8_.1) S_CS nCS S_AD S_HI S_LO S_SF hfm o9_ a7_a) (by decide) (by decide) rfl (g := (mkF m 23 #[.val (.ref a), .val (.int 0), .val (.int 3), .val (.ref b1), .val (.int 0), .unset] [(.int 3), (.int 0), (.ref a)])) rfl (by rw [hml]; rfl) (argsL := [(.ref a), (.int 0), (.int 3)]) (rest := []) (lenOf own_pd__28_5bCII_29_5bB rfl) rfl (W := 0) (by show 2 * 0 + _ ≤ _; exact Nat.le_of_eq rfl) (hb hby own_d8_23) rfl (by decide) (by decide) ?_
    rintro rv10 T10 L10 X10 ⟨t0, k0, rfl, Nq10, Kq10, sz10, g10, A10⟩
    have N10 := Fr.app N5 Nq10
    have szz10 := Nat.le_trans k8_.1 sz10
    refine own_g (mkF m 32 #[.val (.ref a), .val (.int 0), .val (.int 3), .val (.ref b1), .val (.int 0), .val (.ref t0)] [(.int 0), (.ref t0)]) (fun _ q => XS.astore X10.here hx rfl (hb hby own_d8_26) rfl rfl (l' := #[.val (.ref a), .val (.int 0), .val (.int 3), .val (.ref b1), .val (.int 0), .val (.ref t0)]) rfl (XS.aload X10.here hx rfl (hb hby own_d8_28) rfl rfl (XS.iload X10.here hx rfl (hb hby own_d8_30) rfl q))) ?_
    have k11_ := (k8_.trans Kq10 all0)
    have o12_ := (o9_.keep Kq10 all0)
    refine own_callS X10 hx hZ (y := own_y16) hown (own_h hw 94 rfl) (own_h hw 95 rfl) (own_h hw 44 rfl) (own_h hw 96 rfl) (by decide) (own_get_3_0 l Z a0 hw [] t0 k0 (StrChars.lo8 c0) (StrChars.hi8 c0) (StrChars.lo8 c1) (StrChars.hi8 c1) (StrChars.lo8 c2) (StrChars.hi8 c2) zCS fm T10.heap n0 (Nat.le_trans Z0 k11_.1) S_CS nCS S_AD S_HI S_LO S_SF hfm o12_ A10) (by decide) (by decide) rfl (g := (mkF m 32 #[.val (.ref a), .val (.int 0), .val (.int 3), .val (.ref b1), .val (.int 0), .val (.ref t0)] [(.int 0), (.ref t0)])) rfl (by rw [hml]; rfl) (argsL := [(.ref t0), (.int 0)]) (rest := []) (lenOf own_pd__28_5bBI_29C rfl) rfl (W := 0) (by show 2 * 0 + _ ≤ _; exact Nat.le_of_eq rfl) (hb hby own_d8_32) rfl (by decide) (by decide) ?_
    rintro rv13 T13 L13 X13 ⟨hv13, Nq13, eh13⟩
    have N13 := Fr.app N10 Nq13
    rw [StrChars.pair_says hb0.1 hb0.2, hn0] at hv13
    subst hv13
    refine own_g (mkF m 56 #[.val (.ref a), .val (.int 0), .val (.int 3), .val (.ref b1), .val (.int 0), .val (.ref t0)] [(.ref t0)]) (fun _ q => XS.sipush X13.here hx rfl (hb hby own_d8_35) (XS.icmpYes X13.here hx rfl (pc0 := 38) (pc' := 54) rfl (hb hby own_d8_38) rfl (tlt hw0).2.2.1 (by decide) (by decide) (XS.aload X13.here hx rfl (hb hby own_d8_54) rfl rfl q))) ?_
    exact own_end X13 (v := some (.ref t0)) (fun h => by rw [Bd.returns] at h; cases h) hlk (fun hr => retOut X13 hx Bd.returns (own_narR rfl) (Or.inr (Or.inr (Or.inr (Or.inr ⟨rfl, rfl, rfl⟩)))) (hb hby own_d8_56) hr) (by rw [eh13]; exact ⟨t0, k0, rfl, N13, k11_, szz10, g10, Or.inr A10⟩) (by decide) (by decide)
  · show own_Fin p e below _ T5 (mkF m 12 #[.val (.ref a), .val (.int 0), .val (.int 3), .val (.ref b1), .unset, .unset] [(.int 1)])
    refine own_g (mkF m 23 #[.val (.ref a), .val (.int 0), .val (.int 3), .val (.ref b1), .val (.int 1), .unset] [(.int 3), (.int 0), (.ref a)]) (fun _ q => XS.istore X5.here hx rfl (hb hby own_d8_12) rfl (l' := #[.val (.ref a), .val (.int 0), .val (.int 3), .val (.ref b1), .val (.int 1), .unset]) rfl (XS.iload X5.here hx rfl (hb hby own_d8_14) rfl (XS.iloadN X5.here hx rfl (hb hby own_d8_16) rfl (XS.icmpNo X5.here hx rfl (hb hby own_d8_17) rfl (feq (by decide : ¬ ((1 : Int32) = (3 : Int32)))).1 (XS.aloadN X5.here hx rfl (hb hby own_d8_20) rfl rfl (XS.iloadN X5.here hx rfl (hb hby own_d8_21) rfl (XS.iloadN X5.here hx rfl (hb hby own_d8_22) rfl q))))))) ?_
    have a14_a := (a4_a.keep Kq5 (ninS ne_a_b1 nin0))
    have k15_ := (k2_.trans Kq5 (allS (Or.inr sz_b1) all0))
    have o16_ := (o3_.keep Kq5 (allS g_b1 all0))
    refine own_callS X5 hx hZ (y := own_y21) hown (own_h hw 78 rfl) (own_h hw 79 rfl) (own_h hw 44 rfl) (own_h hw 80 rfl) (by decide) (own_tb_3 l Z a0 hw [] a ka da c0 c1 c2 zCS fm T5.heap n0 (Nat.le_trans Z0 k15_.1) S_CS nCS S_AD S_HI S_LO S_SF hfm o16_ a14_a) (by decide) (by decide) rfl (g := (mkF m 23 #[.val (.ref a), .val (.int 0), .val (.int 3), .val (.ref b1), .val (.int 1), .unset] [(.int 3), (.int 0), (.ref a)])) rfl (by rw [hml]; rfl) (argsL := [(.ref a), (.int 0), (.int 3)]) (rest := []) (lenOf own_pd__28_5bCII_29_5bB rfl) rfl (W := 0) (by show 2 * 0 + _ ≤ _; exact Nat.le_of_eq rfl) (hb hby own_d8_23) rfl (by decide) (by decide) ?_
    rintro rv17 T17 L17 X17 ⟨t0, k0, rfl, Nq17, Kq17, sz17, g17, A17⟩
    have N17 := Fr.app N5 Nq17
    have szz17 := Nat.le_trans k15_.1 sz17
    refine own_g (mkF m 32 #[.val (.ref a), .val (.int 0), .val (.int 3), .val (.ref b1), .val (.int 1), .val (.ref t0)] [(.int 1), (.ref t0)]) (fun _ q => XS.astore X17.here hx rfl (hb hby own_d8_26) rfl rfl (l' := #[.val (.ref a), .val (.int 0), .val (.int 3), .val (.ref b1), .val (.int 1), .val (.ref t0)]) rfl (XS.aload X17.here hx rfl (hb hby own_d8_28) rfl rfl (XS.iload X17.here hx rfl (hb hby own_d8_30) rfl q))) ?_
    have k18_ := (k15_.trans Kq17 all0)
    have o19_ := (o16_.keep Kq17 all0)
    refine own_callS X17 hx hZ (y := own_y16) hown (own_h hw 94 rfl) (own_h hw 95 rfl) (own_h hw 44 rfl) (own_h hw 96 rfl) (by decide) (own_get_3_1 l Z a0 hw [] t0 k0 (StrChars.lo8 c0) (StrChars.hi8 c0) (StrChars.lo8 c1) (StrChars.hi8 c1) (StrChars.lo8 c2) (StrChars.hi8 c2) zCS fm T17.heap n0 (Nat.le_trans Z0 k18_.1) S_CS nCS S_AD S_HI S_LO S_SF hfm o19_ A17) (by decide) (by decide) rfl (g := (mkF m 32 #[.val (.ref a), .val (.int 0), .val (.int 3), .val (.ref b1), .val (.int 1), .val (.ref t0)] [(.int 1), (.ref t0)])) rfl (by rw [hml]; rfl) (argsL := [(.ref t0), (.int 1)]) (rest := []) (lenOf own_pd__28_5bBI_29C rfl) rfl (W := 0) (by show 2 * 0 + _ ≤ _; exact Nat.le_of_eq rfl) (hb hby own_d8_32) rfl (by decide) (by decide) ?_
    rintro rv20 T20 L20 X20 ⟨hv20, Nq20, eh20⟩
    have N20 := Fr.app N17 Nq20
    rw [StrChars.pair_says hb1.1 hb1.2, hn1] at hv20
    subst hv20
    refine own_g (mkF m 56 #[.val (.ref a), .val (.int 0), .val (.int 3), .val (.ref b1), .val (.int 1), .val (.ref t0)] [(.ref t0)]) (fun _ q => XS.sipush X20.here hx rfl (hb hby own_d8_35) (XS.icmpYes X20.here hx rfl (pc0 := 38) (pc' := 54) rfl (hb hby own_d8_38) rfl (tlt hw1).2.2.1 (by decide) (by decide) (XS.aload X20.here hx rfl (hb hby own_d8_54) rfl rfl q))) ?_
    exact own_end X20 (v := some (.ref t0)) (fun h => by rw [Bd.returns] at h; cases h) hlk (fun hr => retOut X20 hx Bd.returns (own_narR rfl) (Or.inr (Or.inr (Or.inr (Or.inr ⟨rfl, rfl, rfl⟩)))) (hb hby own_d8_56) hr) (by rw [eh20]; exact ⟨t0, k0, rfl, N20, k18_, szz17, g17, Or.inr A17⟩) (by decide) (by decide)
  · show own_Fin p e below _ T5 (mkF m 12 #[.val (.ref a), .val (.int 0), .val (.int 3), .val (.ref b1), .unset, .unset] [(.int 2)])
    refine own_g (mkF m 23 #[.val (.ref a), .val (.int 0), .val (.int 3), .val (.ref b1), .val (.int 2), .unset] [(.int 3), (.int 0), (.ref a)]) (fun _ q => XS.istore X5.here hx rfl (hb hby own_d8_12) rfl (l' := #[.val (.ref a), .val (.int 0), .val (.int 3), .val (.ref b1), .val (.int 2), .unset]) rfl (XS.iload X5.here hx rfl (hb hby own_d8_14) rfl (XS.iloadN X5.here hx rfl (hb hby own_d8_16) rfl (XS.icmpNo X5.here hx rfl (hb hby own_d8_17) rfl (feq (by decide : ¬ ((2 : Int32) = (3 : Int32)))).1 (XS.aloadN X5.here hx rfl (hb hby own_d8_20) rfl rfl (XS.iloadN X5.here hx rfl (hb hby own_d8_21) rfl (XS.iloadN X5.here hx rfl (hb hby own_d8_22) rfl q))))))) ?_
    have a21_a := (a4_a.keep Kq5 (ninS ne_a_b1 nin0))
    have k22_ := (k2_.trans Kq5 (allS (Or.inr sz_b1) all0))
    have o23_ := (o3_.keep Kq5 (allS g_b1 all0))
    refine own_callS X5 hx hZ (y := own_y21) hown (own_h hw 78 rfl) (own_h hw 79 rfl) (own_h hw 44 rfl) (own_h hw 80 rfl) (by decide) (own_tb_3 l Z a0 hw [] a ka da c0 c1 c2 zCS fm T5.heap n0 (Nat.le_trans Z0 k22_.1) S_CS nCS S_AD S_HI S_LO S_SF hfm o23_ a21_a) (by decide) (by decide) rfl (g := (mkF m 23 #[.val (.ref a), .val (.int 0), .val (.int 3), .val (.ref b1), .val (.int 2), .unset] [(.int 3), (.int 0), (.ref a)])) rfl (by rw [hml]; rfl) (argsL := [(.ref a), (.int 0), (.int 3)]) (rest := []) (lenOf own_pd__28_5bCII_29_5bB rfl) rfl (W := 0) (by show 2 * 0 + _ ≤ _; exact Nat.le_of_eq rfl) (hb hby own_d8_23) rfl (by decide) (by decide) ?_
    rintro rv24 T24 L24 X24 ⟨t0, k0, rfl, Nq24, Kq24, sz24, g24, A24⟩
    have N24 := Fr.app N5 Nq24
    have szz24 := Nat.le_trans k22_.1 sz24
    refine own_g (mkF m 32 #[.val (.ref a), .val (.int 0), .val (.int 3), .val (.ref b1), .val (.int 2), .val (.ref t0)] [(.int 2), (.ref t0)]) (fun _ q => XS.astore X24.here hx rfl (hb hby own_d8_26) rfl rfl (l' := #[.val (.ref a), .val (.int 0), .val (.int 3), .val (.ref b1), .val (.int 2), .val (.ref t0)]) rfl (XS.aload X24.here hx rfl (hb hby own_d8_28) rfl rfl (XS.iload X24.here hx rfl (hb hby own_d8_30) rfl q))) ?_
    have k25_ := (k22_.trans Kq24 all0)
    have o26_ := (o23_.keep Kq24 all0)
    refine own_callS X24 hx hZ (y := own_y16) hown (own_h hw 94 rfl) (own_h hw 95 rfl) (own_h hw 44 rfl) (own_h hw 96 rfl) (by decide) (own_get_3_2 l Z a0 hw [] t0 k0 (StrChars.lo8 c0) (StrChars.hi8 c0) (StrChars.lo8 c1) (StrChars.hi8 c1) (StrChars.lo8 c2) (StrChars.hi8 c2) zCS fm T24.heap n0 (Nat.le_trans Z0 k25_.1) S_CS nCS S_AD S_HI S_LO S_SF hfm o26_ A24) (by decide) (by decide) rfl (g := (mkF m 32 #[.val (.ref a), .val (.int 0), .val (.int 3), .val (.ref b1), .val (.int 2), .val (.ref t0)] [(.int 2), (.ref t0)])) rfl (by rw [hml]; rfl) (argsL := [(.ref t0), (.int 2)]) (rest := []) (lenOf own_pd__28_5bBI_29C rfl) rfl (W := 0) (by show 2 * 0 + _ ≤ _; exact Nat.le_of_eq rfl) (hb hby own_d8_32) rfl (by decide) (by decide) ?_
    rintro rv27 T27 L27 X27 ⟨hv27, Nq27, eh27⟩
    have N27 := Fr.app N24 Nq27
    rw [StrChars.pair_says hb2.1 hb2.2, hn2] at hv27
    subst hv27
    refine own_g (mkF m 56 #[.val (.ref a), .val (.int 0), .val (.int 3), .val (.ref b1), .val (.int 2), .val (.ref t0)] [(.ref t0)]) (fun _ q => XS.sipush X27.here hx rfl (hb hby own_d8_35) (XS.icmpYes X27.here hx rfl (pc0 := 38) (pc' := 54) rfl (hb hby own_d8_38) rfl (tlt hw2).2.2.1 (by decide) (by decide) (XS.aload X27.here hx rfl (hb hby own_d8_54) rfl rfl q))) ?_
    exact own_end X27 (v := some (.ref t0)) (fun h => by rw [Bd.returns] at h; cases h) hlk (fun hr => retOut X27 hx Bd.returns (own_narR rfl) (Or.inr (Or.inr (Or.inr (Or.inr ⟨rfl, rfl, rfl⟩)))) (hb hby own_d8_56) hr) (by rw [eh27]; exact ⟨t0, k0, rfl, N27, k25_, szz24, g24, Or.inr A24⟩) (by decide) (by decide)
theorem own_co_3_3_ef (m : MethodId) (b : Addr) : entryFrame m #[(.ref b), (.int 3)] 2 = mkF m 0 #[.val (.ref b), .val (.int 3)] [] := by  first | (simp [entryFrame, mkF, argsToLocals, Value.category]; done) | rfl
def own_co_3_3_Q (Z : State) (b : Addr) (kb : ClassId) (vs : List Value) (dv : Value) (zCS : Int32) (fm : Value) (h0 : Heap) (n0 : Nat) (v : Option Value) (h : Heap) (L : List Loc) : Prop := v = some (.int 0) ∧ Fr n0 L ∧ h = h0
set_option maxRecDepth 65536 in
set_option maxHeartbeats 40000000 in
theorem own_co_3_3 (l : Launch) (Z : State) (a0 : Array Value) (hw : ∀ d ∈ tables_1, d.before a0 Z = true) (ws : List Jvm.Cond) (b : Addr) (kb : ClassId) (vs : List Value) (dv : Value) (zCS : Int32) (fm : Value) (h0 : Heap) (n0 : Nat) (Z0 : n0 ≤ h0.size) (S_CS : own_A0 Z zCS) (nCS : ¬ zCS = 0) (S_AD : own_A1 Z) (S_HI : own_A2 Z) (S_LO : own_A3 Z) (S_SF : own_A4 Z fm) (hfm : fm.isRef = true) (O0 : Old Z n0 h0) (K_b : Arv Z h0 b kb .byte (3 : Int32) vs dv) :
    MetFree l own_y13 (head1 (Jvm.Cond.code own_y13 jdk_52_method_15_code 2 (some .byte) :: ws) (⟨0, 0, 0, 0⟩ : Room)) (fun aa U => aa = #[(.ref b), (.int 3)] ∧ Z.Warmed39 U.vm ∧ U.heap = h0) (fun _ _ _ _ _ => True) (fun _ U o U' => ∃ v L, o = .returned v ∧ own_co_3_3_Q Z b kb vs dv zCS fm h0 n0 v U'.heap L ∧ FrameEnd U o U' L (⟨0, 0, 0, 0⟩ : Room).cells (⟨0, 0, 0, 0⟩ : Room).slots) := by
  refine MetFree.of_bodySF (plainFor_of_name own_pn_java_lang_StringUTF16) hisR ?_
  intro p e s m args below meth c s₁ Bd hml0 hP hK
  obtain ⟨rfl, hZ, hh⟩ := hP
  have hx := Bd.exec
  have hby := Bd.bytes
  have hml : c.maxLocals = 2 := hml0
  have hown : s.vm.findClass "java/lang/StringUTF16" = some m.cls := findClass_of_methodNamed Bd.named
  have hnm := (name_of_methodNamed Bd.named Bd.method).1
  have hlk := Bd.notSynchronized
  have X0 : Stand p l e (⟨0, 0, 0, 0⟩ : Room) s m #[(.ref b), (.int 3)] below meth c s₁ [] 0 0 := Stand.of_body Bd
  have e0 : s₁.heap = h0 := by rw [← hh, Bd.state]; rfl
  have N0 := Fr.nil n0
  refine own_start (Q := own_co_3_3_Q Z b kb vs dv zCS fm h0 n0) (own_co_3_3_ef m b) ?_
  refine own_g (mkF m 2 #[.val (.ref b), .val (.int 3)] [(.ref b), (.int 3)]) (fun _ q => XS.iloadN X0.here hx rfl (hb hby own_d10_0) rfl (XS.aloadN X0.here hx rfl (hb hby own_d10_1) rfl rfl q)) ?_
  obtain ⟨cl1, Ar1, q1, S1, P1, H1, G1⟩ := id K_b
  refine own_by (g' := (mkF m 3 #[.val (.ref b), .val (.int 3)] [(.int 3), (.int 3)])) (fun _ kq => X0.arraylength hx (by rw [e0]; exact Ar1.1) (State.isArrayOf_alike hZ.alike Ar1.2.1) (g := (mkF m 2 #[.val (.ref b), .val (.int 3)] [(.ref b), (.int 3)])) rfl rfl (hb hby own_d10_2) _ (by rw [len_of S1 P1]; exact kq)) ?_
  refine own_g (mkF m 8 #[.val (.ref b), .val (.int 3)] [(.int 0)]) (fun _ q => XS.isub X0.here hx rfl (hb hby own_d10_3) rfl (XS.bipush X0.here hx rfl (hb hby own_d10_4) (XS.iushr X0.here hx rfl (hb hby own_d10_6) rfl (XS.i2b X0.here hx rfl (hb hby own_d10_7) rfl q)))) ?_
  exact own_end X0 (v := some (.int (nar .byte (0 : Int32)))) (fun h => by rw [Bd.returns] at h; cases h) hlk (fun hr => retN X0 hx (t := .byte) Bd.returns (by simp) (hb hby own_d10_8) hr) (by rw [e0]; exact ⟨rfl, N0, rfl⟩) (by decide) (by decide)
theorem own_co_6_3_ef (m : MethodId) (b : Addr) : entryFrame m #[(.ref b), (.int 3)] 2 = mkF m 0 #[.val (.ref b), .val (.int 3)] [] := by  first | (simp [entryFrame, mkF, argsToLocals, Value.category]; done) | rfl
def own_co_6_3_Q (Z : State) (b : Addr) (kb : ClassId) (vs : List Value) (dv : Value) (zCS : Int32) (fm : Value) (h0 : Heap) (n0 : Nat) (v : Option Value) (h : Heap) (L : List Loc) : Prop := v = some (.int 1) ∧ Fr n0 L ∧ h = h0
set_option maxRecDepth 65536 in
set_option maxHeartbeats 40000000 in
theorem own_co_6_3 (l : Launch) (Z : State) (a0 : Array Value) (hw : ∀ d ∈ tables_1, d.before a0 Z = true) (ws : List Jvm.Cond) (b : Addr) (kb : ClassId) (vs : List Value) (dv : Value) (zCS : Int32) (fm : Value) (h0 : Heap) (n0 : Nat) (Z0 : n0 ≤ h0.size) (S_CS : own_A0 Z zCS) (nCS : ¬ zCS = 0) (S_AD : own_A1 Z) (S_HI : own_A2 Z) (S_LO : own_A3 Z) (S_SF : own_A4 Z fm) (hfm : fm.isRef = true) (O0 : Old Z n0 h0) (K_b : Arv Z h0 b kb .byte (6 : Int32) vs dv) :
    MetFree l own_y13 (head1 (Jvm.Cond.code own_y13 jdk_52_method_15_code 2 (some .byte) :: ws) (⟨0, 0, 0, 0⟩ : Room)) (fun aa U => aa = #[(.ref b), (.int 3)] ∧ Z.Warmed39 U.vm ∧ U.heap = h0) (fun _ _ _ _ _ => True) (fun _ U o U' => ∃ v L, o = .returned v ∧ own_co_6_3_Q Z b kb vs dv zCS fm h0 n0 v U'.heap L ∧ FrameEnd U o U' L (⟨0, 0, 0, 0⟩ : Room).cells (⟨0, 0, 0, 0⟩ : Room).slots) := by
  refine MetFree.of_bodySF (plainFor_of_name own_pn_java_lang_StringUTF16) hisR ?_
  intro p e s m args below meth c s₁ Bd hml0 hP hK
  obtain ⟨rfl, hZ, hh⟩ := hP
  have hx := Bd.exec
  have hby := Bd.bytes
  have hml : c.maxLocals = 2 := hml0
  have hown : s.vm.findClass "java/lang/StringUTF16" = some m.cls := findClass_of_methodNamed Bd.named
  have hnm := (name_of_methodNamed Bd.named Bd.method).1
  have hlk := Bd.notSynchronized
  have X0 : Stand p l e (⟨0, 0, 0, 0⟩ : Room) s m #[(.ref b), (.int 3)] below meth c s₁ [] 0 0 := Stand.of_body Bd
  have e0 : s₁.heap = h0 := by rw [← hh, Bd.state]; rfl
  have N0 := Fr.nil n0
  refine own_start (Q := own_co_6_3_Q Z b kb vs dv zCS fm h0 n0) (own_co_6_3_ef m b) ?_
  refine own_g (mkF m 2 #[.val (.ref b), .val (.int 3)] [(.ref b), (.int 3)]) (fun _ q => XS.iloadN X0.here hx rfl (hb hby own_d10_0) rfl (XS.aloadN X0.here hx rfl (hb hby own_d10_1) rfl rfl q)) ?_
  obtain ⟨cl1, Ar1, q1, S1, P1, H1, G1⟩ := id K_b
  refine own_by (g' := (mkF m 3 #[.val (.ref b), .val (.int 3)] [(.int 6), (.int 3)])) (fun _ kq => X0.arraylength hx (by rw [e0]; exact Ar1.1) (State.isArrayOf_alike hZ.alike Ar1.2.1) (g := (mkF m 2 #[.val (.ref b), .val (.int 3)] [(.ref b), (.int 3)])) rfl rfl (hb hby own_d10_2) _ (by rw [len_of S1 P1]; exact kq)) ?_
  refine own_g (mkF m 8 #[.val (.ref b), .val (.int 3)] [(.int 1)]) (fun _ q => XS.isub X0.here hx rfl (hb hby own_d10_3) rfl (XS.bipush X0.here hx rfl (hb hby own_d10_4) (XS.iushr X0.here hx rfl (hb hby own_d10_6) rfl (XS.i2b X0.here hx rfl (hb hby own_d10_7) rfl q)))) ?_
  exact own_end X0 (v := some (.int (nar .byte (1 : Int32)))) (fun h => by rw [Bd.returns] at h; cases h) hlk (fun hr => retN X0 hx (t := .byte) Bd.returns (by simp) (hb hby own_d10_8) hr) (by rw [e0]; exact ⟨rfl, N0, rfl⟩) (by decide) (by decide)
theorem own_i8_3_ef (m : MethodId) (x0 : Addr) (a : Addr) : entryFrame m #[(.ref x0), (.ref a), (.int 0), (.int 3), .null] 6 = mkF m 0 #[.val (.ref x0), .val (.ref a), .val (.int 0), .val (.int 3), .val .null, .unset] [] := by  first | (simp [entryFrame, mkF, argsToLocals, Value.category]; done) | rfl
def own_i8_3_Q (Z : State) (x0 : Addr) (a : Addr) (ka : ClassId) (da : Value) (c0 : Int32) (c1 : Int32) (c2 : Int32) (zCS : Int32) (fm : Value) (h0 : Heap) (n0 : Nat) (v : Option Value) (h : Heap) (L : List Loc) : Prop := v = none ∧ Fr n0 L ∧ Keep h0 h [x0] ∧ Exa Z h x0 "java/lang/String" ∧ ∃ (t : Addr) (kb : ClassId), Fld Z h x0 "java/lang/String" "value" "[B" (.ref t) ∧ ((¬ (255 : Int32) < c0 ∧ ¬ (255 : Int32) < c1 ∧ ¬ (255 : Int32) < c2 ∧ Fld Z h x0 "java/lang/String" "coder" "B" (.int 0) ∧ Arv Z h t kb .byte (3 : Int32) [(.int (StrChars.lo8 c0)), (.int (StrChars.lo8 c1)), (.int (StrChars.lo8 c2))] (.int 0)) ∨ (Fld Z h x0 "java/lang/String" "coder" "B" (.int 1) ∧ Arv Z h t kb .byte (6 : Int32) [(.int (StrChars.lo8 c0)), (.int (StrChars.hi8 c0)), (.int (StrChars.lo8 c1)), (.int (StrChars.hi8 c1)), (.int (StrChars.lo8 c2)), (.int (StrChars.hi8 c2))] (.int 0)))
set_option maxRecDepth 65536 in
set_option maxHeartbeats 40000000 in
theorem own_i8_3 (l : Launch) (Z : State) (a0 : Array Value) (hw : ∀ d ∈ tables_1, d.before a0 Z = true) (ws : List Jvm.Cond) (x0 : Addr) (a : Addr) (ka : ClassId) (da : Value) (c0 : Int32) (c1 : Int32) (c2 : Int32) (zCS : Int32) (fm : Value) (h0 : Heap) (n0 : Nat) (Z0 : n0 ≤ h0.size) (S_CS : own_A0 Z zCS) (nCS : ¬ zCS = 0) (S_AD : own_A1 Z) (S_HI : own_A2 Z) (S_LO : own_A3 Z) (S_SF : own_A4 Z fm) (hfm : fm.isRef = true) (O0 : Old Z n0 h0) (E_x : Exa Z h0 x0 "java/lang/String") (V_x : Fld Z h0 x0 "java/lang/String" "value" "[B" .null) (C_x : Fld Z h0 x0 "java/lang/String" "coder" "B" (.int 0)) (g_x : n0 ≤ x0) (K_a : Arv Z h0 a ka .char (3 : Int32) [(.int c0), (.int c1), (.int c2)] da) (n_ax : a ≠ x0) (hb0 : ¬ c0 < 0 ∧ ¬ (65535 : Int32) < c0) (hb1 : ¬ c1 < 0 ∧ ¬ (65535 : Int32) < c1) (hb2 : ¬ c2 < 0 ∧ ¬ (65535 : Int32) < c2) (hn0 : nar .char c0 = c0) (hn1 : nar .char c1 = c1) (hn2 : nar .char c2 = c2) :
    MetFree l own_y4 (head1 (Jvm.Cond.code own_y4 jdk_42_method_149_code 6 none :: ws) (⟨4, 2, 9, 57⟩ : Room)) (fun aa U => aa = #[(.ref x0), (.ref a), (.int 0), (.int 3), .null] ∧ Z.Warmed39 U.vm ∧ U.heap = h0) (fun _ _ _ _ _ => True) (fun _ U o U' => ∃ v L, o = .returned v ∧ own_i8_3_Q Z x0 a ka da c0 c1 c2 zCS fm h0 n0 v U'.heap L ∧ FrameEnd U o U' L (⟨4, 2, 9, 57⟩ : Room).cells (⟨4, 2, 9, 57⟩ : Room).slots) := by
  refine MetFree.of_bodySF (plainFor_of_name own_pn_java_lang_String) hisR ?_
  intro p e s m args below meth c s₁ Bd hml0 hP hK
  obtain ⟨rfl, hZ, hh⟩ := hP
  have hx := Bd.exec
  have hby := Bd.bytes
  have hml : c.maxLocals = 6 := hml0
  have hown : s.vm.findClass "java/lang/String" = some m.cls := findClass_of_methodNamed Bd.named
  have hnm := (name_of_methodNamed Bd.named Bd.method).1
  have hlk := Bd.notSynchronized
  have X0 : Stand p l e (⟨4, 2, 9, 57⟩ : Room) s m #[(.ref x0), (.ref a), (.int 0), (.int 3), .null] below meth c s₁ [] 0 0 := Stand.of_body Bd
  have e0 : s₁.heap = h0 := by rw [← hh, Bd.state]; rfl
  have N0 := Fr.nil n0
  refine own_start (Q := own_i8_3_Q Z x0 a ka da c0 c1 c2 zCS fm h0 n0) (own_i8_3_ef m x0 a) ?_
  refine own_g (mkF m 1 #[.val (.ref x0), .val (.ref a), .val (.int 0), .val (.int 3), .val .null, .unset] [(.ref x0)]) (fun _ q => XS.aloadN X0.here hx rfl (hb hby own_d3_0) rfl rfl q) ?_
  obtain ⟨T1, X1, e1, st1⟩ := initO X0 hx hZ hown (own_h hw 16 rfl) (own_h hw 17 rfl) (own_h hw 18 rfl) e0 (g := (mkF m 1 #[.val (.ref x0), .val (.ref a), .val (.int 0), .val (.int 3), .val .null, .unset] [(.ref x0)])) rfl (by rw [hml]; rfl) rfl (hb hby own_d3_1) (by decide) (W := 0) (by show 2 * 0 + _ ≤ _; exact Nat.le_of_eq rfl) (by decide)
  refine own_by (g' := (mkF m 4 #[.val (.ref x0), .val (.ref a), .val (.int 0), .val (.int 3), .val .null, .unset] [])) st1 ?_
  refine own_g (mkF m 27 #[.val (.ref x0), .val (.ref a), .val (.int 0), .val (.int 3), .val .null, .unset] []) (fun _ q => XS.iloadN X1.here hx rfl (hb hby own_d3_4) rfl (XS.ifYes X1.here hx rfl (pc0 := 5) (pc' := 27) rfl (hb hby own_d3_5) rfl ((if0 _ _).trans (feq (by decide : ¬ ((3 : Int32) = (0 : Int32)))).2) (by decide) (by decide) q)) ?_
  obtain ⟨T2, X2, e2, st2⟩ := getS2 X1 hx hZ hown (host := "") (Or.inl (own_h hw 41 rfl)) Via.refl e1 (S_CS.ext O0.2) (g := (mkF m 27 #[.val (.ref x0), .val (.ref a), .val (.int 0), .val (.int 3), .val .null, .unset] [])) rfl (hb hby own_d3_27)
  refine own_by (g' := (mkF m 30 #[.val (.ref x0), .val (.ref a), .val (.int 0), .val (.int 3), .val .null, .unset] [(.int zCS)])) st2 ?_
  refine own_g (mkF m 36 #[.val (.ref x0), .val (.ref a), .val (.int 0), .val (.int 3), .val .null, .unset] [(.int 3), (.int 0), (.ref a)]) (fun _ q => XS.ifNo X2.here hx rfl (hb hby own_d3_30) rfl ((if0 _ _).trans (feq nCS).1) (XS.aloadN X2.here hx rfl (hb hby own_d3_33) rfl rfl (XS.iloadN X2.here hx rfl (hb hby own_d3_34) rfl (XS.iloadN X2.here hx rfl (hb hby own_d3_35) rfl q)))) ?_
  refine own_callS X2 hx hZ (y := own_y14) hown (own_h hw 42 rfl) (own_h hw 43 rfl) (own_h hw 44 rfl) (own_h hw 45 rfl) (by decide) (own_c1_3 l Z a0 hw [] a ka da c0 c1 c2 zCS fm h0 n0 (Nat.le_trans Z0 (Keep.refl h0 [x0]).1) S_CS nCS S_AD S_HI S_LO S_SF hfm O0 K_a hb0 hb1 hb2 hn0 hn1 hn2) (by decide) (by decide) e2 (g := (mkF m 36 #[.val (.ref x0), .val (.ref a), .val (.int 0), .val (.int 3), .val .null, .unset] [(.int 3), (.int 0), (.ref a)])) rfl (by rw [hml]; rfl) (argsL := [(.ref a), (.int 0), (.int 3)]) (rest := []) (lenOf own_pd__28_5bCII_29_5bB rfl) rfl (W := 0) (by show 2 * 0 + _ ≤ _; exact Nat.le_of_eq rfl) (hb hby own_d3_36) rfl (by decide) (by decide) ?_
  rintro rv3 T3 L3 X3 ⟨t0, k0, rfl, Nq3, Kq3, sz3, g3, hv3⟩
  have N3 := Fr.app N0 Nq3
  have ne_x : x0 ≠ t0 := Nat.ne_of_lt (Nat.lt_of_lt_of_le E_x.lt sz3)
  have szz3 := Nat.le_trans (Keep.refl h0 [x0]).1 sz3
  show own_Fin p e below _ T3 (mkF m 39 #[.val (.ref x0), .val (.ref a), .val (.int 0), .val (.int 3), .val .null, .unset] [(.ref t0)])
  rcases hv3 with ⟨ha0, ha1, ha2, Al⟩ | Al
  · skip
    refine own_g (mkF m 45 #[.val (.ref x0), .val (.ref a), .val (.int 0), .val (.int 3), .val .null, .val (.ref t0)] [(.int 3), (.ref t0), (.ref x0)]) (fun _ q => XS.astore X3.here hx rfl (hb hby own_d3_39) rfl rfl (l' := #[.val (.ref x0), .val (.ref a), .val (.int 0), .val (.int 3), .val .null, .val (.ref t0)]) rfl (XS.aloadN X3.here hx rfl (hb hby own_d3_41) rfl rfl (XS.aload X3.here hx rfl (hb hby own_d3_42) rfl rfl (XS.iloadN X3.here hx rfl (hb hby own_d3_44) rfl q)))) ?_
    have k4_ := ((Keep.refl h0 [x0]).trans Kq3 all0)
    have o5_ := (O0.keep Kq3 all0)
    refine own_callS X3 hx hZ (y := own_y13) hown (own_h hw 49 rfl) (own_h hw 50 rfl) (own_h hw 44 rfl) (own_h hw 51 rfl) (by decide) (own_co_3_3 l Z a0 hw [] t0 k0 _ _ zCS fm T3.heap n0 (Nat.le_trans Z0 k4_.1) S_CS nCS S_AD S_HI S_LO S_SF hfm o5_ Al) (by decide) (by decide) rfl (g := (mkF m 45 #[.val (.ref x0), .val (.ref a), .val (.int 0), .val (.int 3), .val .null, .val (.ref t0)] [(.int 3), (.ref t0), (.ref x0)])) rfl (by rw [hml]; rfl) (argsL := [(.ref t0), (.int 3)]) (rest := [(.ref x0)]) (lenOf own_pd__28_5bBI_29B rfl) rfl (W := 1) (by show 2 * 0 + _ ≤ _; exact Nat.le_of_eq rfl) (hb hby own_d3_45) rfl (by decide) (by decide) ?_
    rintro rv6 T6 L6 X6 ⟨rfl, Nq6, eh6⟩
    have N6 := Fr.app N3 Nq6
    show own_Fin p e below _ T6 (mkF m 48 #[.val (.ref x0), .val (.ref a), .val (.int 0), .val (.int 3), .val .null, .val (.ref t0)] [(.int 0), (.ref x0)])
    have e7_x0 := (E_x.keep Kq3)
    have f8_x0 := (C_x.keep Kq3 nin0)
    obtain ⟨T9, h9, X9, e9, W9, st9⟩ := putFN X6 hx hZ hown (own_h hw 26 rfl) Via.refl eh6 f8_x0 e7_x0 (Or.inr ⟨(own_h hw 22 rfl), rfl, hnm⟩) (own_h hw 7 rfl) (ty := .byte) (v' := (.int 0)) (by decide) rfl (by decide) (g := (mkF m 48 #[.val (.ref x0), .val (.ref a), .val (.int 0), .val (.int 3), .val .null, .val (.ref t0)] [(.int 0), (.ref x0)])) rfl rfl (hb hby own_d3_48)
    have Fw9 := f8_x0.same W9
    have N9 := Fr.snoc X9 N6 g_x
    refine own_by (g' := (mkF m 51 #[.val (.ref x0), .val (.ref a), .val (.int 0), .val (.int 3), .val .null, .val (.ref t0)] [])) st9 ?_
    refine own_g (mkF m 54 #[.val (.ref x0), .val (.ref a), .val (.int 0), .val (.int 3), .val .null, .val (.ref t0)] [(.ref t0), (.ref x0)]) (fun _ q => XS.aloadN X9.here hx rfl (hb hby own_d3_51) rfl rfl (XS.aload X9.here hx rfl (hb hby own_d3_52) rfl rfl q)) ?_
    have e10_x0 := (e7_x0.wr W9)
    have f11_x0 := ((V_x.keep Kq3 nin0).other W9 (Or.inr (slot_ne (Or.inr (own_h hw 21 rfl)) (Or.inr (own_h hw 22 rfl)) (by decide) (t := (.array .byte)) (t' := .byte) (by decide) (by decide))))
    obtain ⟨T12, h12, X12, e12, W12, st12⟩ := putF X9 hx hZ hown (host := "") (Or.inl (own_h hw 25 rfl)) Via.refl e9 f11_x0 e10_x0 (Or.inr ⟨(own_h hw 21 rfl), rfl, hnm⟩) (own_h hw 7 rfl) (ty := (.array .byte)) (by decide) (rfl) (rfl) (g := (mkF m 54 #[.val (.ref x0), .val (.ref a), .val (.int 0), .val (.int 3), .val .null, .val (.ref t0)] [(.ref t0), (.ref x0)])) rfl rfl (hb hby own_d3_54)
    have Fw12 := f11_x0.same W12
    have N12 := Fr.snoc X12 N9 g_x
    refine own_by (g' := (mkF m 57 #[.val (.ref x0), .val (.ref a), .val (.int 0), .val (.int 3), .val .null, .val (.ref t0)] [])) st12 ?_
    have f13_x0 := (Fw9.other W12 (Or.inr (slot_ne (Or.inr (own_h hw 22 rfl)) (Or.inr (own_h hw 21 rfl)) (by decide) (t := .byte) (t' := (.array .byte)) (by decide) (by decide))))
    have a14_t0 := ((Al.other W9 (Ne.symm ne_x)).other W12 (Ne.symm ne_x))
    have k15_ := ((k4_.wr W9 (Or.inl (List.mem_of_getElem? (i := 0) rfl))).wr W12 (Or.inl (List.mem_of_getElem? (i := 0) rfl)))
    have e16_x0 := (e10_x0.wr W12)
    exact own_end X12 (v := none) (fun _ => rfl) hlk (fun hr => X12.returnOut hx Bd.returns (hb hby own_d3_57) hr) (by rw [e12]; exact ⟨rfl, N12, k15_, e16_x0, t0, k0, Fw12, Or.inl ⟨ha0, ha1, ha2, f13_x0, a14_t0⟩⟩) (by decide) (by decide)
  · skip
    refine own_g (mkF m 45 #[.val (.ref x0), .val (.ref a), .val (.int 0), .val (.int 3), .val .null, .val (.ref t0)] [(.int 3), (.ref t0), (.ref x0)]) (fun _ q => XS.astore X3.here hx rfl (hb hby own_d3_39) rfl rfl (l' := #[.val (.ref x0), .val (.ref a), .val (.int 0), .val (.int 3), .val .null, .val (.ref t0)]) rfl (XS.aloadN X3.here hx rfl (hb hby own_d3_41) rfl rfl (XS.aload X3.here hx rfl (hb hby own_d3_42) rfl rfl (XS.iloadN X3.here hx rfl (hb hby own_d3_44) rfl q)))) ?_
    have k17_ := ((Keep.refl h0 [x0]).trans Kq3 all0)
    have o18_ := (O0.keep Kq3 all0)
    refine own_callS X3 hx hZ (y := own_y13) hown (own_h hw 49 rfl) (own_h hw 50 rfl) (own_h hw 44 rfl) (own_h hw 51 rfl) (by decide) (own_co_6_3 l Z a0 hw [] t0 k0 _ _ zCS fm T3.heap n0 (Nat.le_trans Z0 k17_.1) S_CS nCS S_AD S_HI S_LO S_SF hfm o18_ Al) (by decide) (by decide) rfl (g := (mkF m 45 #[.val (.ref x0), .val (.ref a), .val (.int 0), .val (.int 3), .val .null, .val (.ref t0)] [(.int 3), (.ref t0), (.ref x0)])) rfl (by rw [hml]; rfl) (argsL := [(.ref t0), (.int 3)]) (rest := [(.ref x0)]) (lenOf own_pd__28_5bBI_29B rfl) rfl (W := 1) (by show 2 * 0 + _ ≤ _; exact Nat.le_of_eq rfl) (hb hby own_d3_45) rfl (by decide) (by decide) ?_
    rintro rv19 T19 L19 X19 ⟨rfl, Nq19, eh19⟩
    have N19 := Fr.app N3 Nq19
    show own_Fin p e below _ T19 (mkF m 48 #[.val (.ref x0), .val (.ref a), .val (.int 0), .val (.int 3), .val .null, .val (.ref t0)] [(.int 1), (.ref x0)])
    have e20_x0 := (E_x.keep Kq3)
    have f21_x0 := (C_x.keep Kq3 nin0)
    obtain ⟨T22, h22, X22, e22, W22, st22⟩ := putFN X19 hx hZ hown (own_h hw 26 rfl) Via.refl eh19 f21_x0 e20_x0 (Or.inr ⟨(own_h hw 22 rfl), rfl, hnm⟩) (own_h hw 7 rfl) (ty := .byte) (v' := (.int 1)) (by decide) rfl (by decide) (g := (mkF m 48 #[.val (.ref x0), .val (.ref a), .val (.int 0), .val (.int 3), .val .null, .val (.ref t0)] [(.int 1), (.ref x0)])) rfl rfl (hb hby own_d3_48)
    have Fw22 := f21_x0.same W22
    have N22 := Fr.snoc X22 N19 g_x
    refine own_by (g' := (mkF m 51 #[.val (.ref x0), .val (.ref a), .val (.int 0), .val (.int 3), .val .null, .val (.ref t0)] [])) st22 ?_
    refine own_g (mkF m 54 #[.val (.ref x0), .val (.ref a), .val (.int 0), .val (.int 3), .val .null, .val (.ref t0)] [(.ref t0), (.ref x0)]) (fun _ q => XS.aloadN X22.here hx rfl (hb hby own_d3_51) rfl rfl (XS.aload X22.here hx rfl (hb hby own_d3_52) rfl rfl q)) ?_
    have e23_x0 := (e20_x0.wr W22)
    have f24_x0 := ((V_x.keep Kq3 nin0).other W22 (Or.inr (slot_ne (Or.inr (own_h hw 21 rfl)) (Or.inr (own_h hw 22 rfl)) (by decide) (t := (.array .byte)) (t' := .byte) (by decide) (by decide))))
    obtain ⟨T25, h25, X25, e25, W25, st25⟩ := putF X22 hx hZ hown (host := "") (Or.inl (own_h hw 25 rfl)) Via.refl e22 f24_x0 e23_x0 (Or.inr ⟨(own_h hw 21 rfl), rfl, hnm⟩) (own_h hw 7 rfl) (ty := (.array .byte)) (by decide) (rfl) (rfl) (g := (mkF m 54 #[.val (.ref x0), .val (.ref a), .val (.int 0), .val (.int 3), .val .null, .val (.ref t0)] [(.ref t0), (.ref x0)])) rfl rfl (hb hby own_d3_54)
    have Fw25 := f24_x0.same W25
    have N25 := Fr.snoc X25 N22 g_x
    refine own_by (g' := (mkF m 57 #[.val (.ref x0), .val (.ref a), .val (.int 0), .val (.int 3), .val .null, .val (.ref t0)] [])) st25 ?_
    have f26_x0 := (Fw22.other W25 (Or.inr (slot_ne (Or.inr (own_h hw 22 rfl)) (Or.inr (own_h hw 21 rfl)) (by decide) (t := .byte) (t' := (.array .byte)) (by decide) (by decide))))
    have a27_t0 := ((Al.other W22 (Ne.symm ne_x)).other W25 (Ne.symm ne_x))
    have k28_ := ((k17_.wr W22 (Or.inl (List.mem_of_getElem? (i := 0) rfl))).wr W25 (Or.inl (List.mem_of_getElem? (i := 0) rfl)))
    have e29_x0 := (e23_x0.wr W25)
    exact own_end X25 (v := none) (fun _ => rfl) hlk (fun hr => X25.returnOut hx Bd.returns (hb hby own_d3_57) hr) (by rw [e25]; exact ⟨rfl, N25, k28_, e29_x0, t0, k0, Fw25, Or.inr ⟨f26_x0, a27_t0⟩⟩) (by decide) (by decide)
theorem own_i7_3_ef (m : MethodId) (x0 : Addr) (a : Addr) : entryFrame m #[(.ref x0), (.ref a)] 2 = mkF m 0 #[.val (.ref x0), .val (.ref a)] [] := by  first | (simp [entryFrame, mkF, argsToLocals, Value.category]; done) | rfl
def own_i7_3_Q (Z : State) (x0 : Addr) (a : Addr) (ka : ClassId) (da : Value) (c0 : Int32) (c1 : Int32) (c2 : Int32) (zCS : Int32) (fm : Value) (h0 : Heap) (n0 : Nat) (v : Option Value) (h : Heap) (L : List Loc) : Prop := v = none ∧ Fr n0 L ∧ Keep h0 h [x0] ∧ Exa Z h x0 "java/lang/String" ∧ ∃ (t : Addr) (kb : ClassId), Fld Z h x0 "java/lang/String" "value" "[B" (.ref t) ∧ ((¬ (255 : Int32) < c0 ∧ ¬ (255 : Int32) < c1 ∧ ¬ (255 : Int32) < c2 ∧ Fld Z h x0 "java/lang/String" "coder" "B" (.int 0) ∧ Arv Z h t kb .byte (3 : Int32) [(.int (StrChars.lo8 c0)), (.int (StrChars.lo8 c1)), (.int (StrChars.lo8 c2))] (.int 0)) ∨ (Fld Z h x0 "java/lang/String" "coder" "B" (.int 1) ∧ Arv Z h t kb .byte (6 : Int32) [(.int (StrChars.lo8 c0)), (.int (StrChars.hi8 c0)), (.int (StrChars.lo8 c1)), (.int (StrChars.hi8 c1)), (.int (StrChars.lo8 c2)), (.int (StrChars.hi8 c2))] (.int 0)))
set_option maxRecDepth 65536 in
set_option maxHeartbeats 40000000 in
theorem own_i7_3 (l : Launch) (Z : State) (a0 : Array Value) (hw : ∀ d ∈ tables_1, d.before a0 Z = true) (ws : List Jvm.Cond) (x0 : Addr) (a : Addr) (ka : ClassId) (da : Value) (c0 : Int32) (c1 : Int32) (c2 : Int32) (zCS : Int32) (fm : Value) (h0 : Heap) (n0 : Nat) (Z0 : n0 ≤ h0.size) (S_CS : own_A0 Z zCS) (nCS : ¬ zCS = 0) (S_AD : own_A1 Z) (S_HI : own_A2 Z) (S_LO : own_A3 Z) (S_SF : own_A4 Z fm) (hfm : fm.isRef = true) (O0 : Old Z n0 h0) (E_x : Exa Z h0 x0 "java/lang/String") (V_x : Fld Z h0 x0 "java/lang/String" "value" "[B" .null) (C_x : Fld Z h0 x0 "java/lang/String" "coder" "B" (.int 0)) (g_x : n0 ≤ x0) (K_a : Arv Z h0 a ka .char (3 : Int32) [(.int c0), (.int c1), (.int c2)] da) (n_ax : a ≠ x0) (hb0 : ¬ c0 < 0 ∧ ¬ (65535 : Int32) < c0) (hb1 : ¬ c1 < 0 ∧ ¬ (65535 : Int32) < c1) (hb2 : ¬ c2 < 0 ∧ ¬ (65535 : Int32) < c2) (hn0 : nar .char c0 = c0) (hn1 : nar .char c1 = c1) (hn2 : nar .char c2 = c2) :
    MetFree l own_y3 (head1 (Jvm.Cond.code own_y3 jdk_42_method_3_code 2 none :: ws) (⟨5, 2, 9, 74⟩ : Room)) (fun aa U => aa = #[(.ref x0), (.ref a)] ∧ Z.Warmed39 U.vm ∧ U.heap = h0) (fun _ _ _ _ _ => True) (fun _ U o U' => ∃ v L, o = .returned v ∧ own_i7_3_Q Z x0 a ka da c0 c1 c2 zCS fm h0 n0 v U'.heap L ∧ FrameEnd U o U' L (⟨5, 2, 9, 74⟩ : Room).cells (⟨5, 2, 9, 74⟩ : Room).slots) := by
  refine MetFree.of_bodySF (plainFor_of_name own_pn_java_lang_String) hisR ?_
  intro p e s m args below meth c s₁ Bd hml0 hP hK
  obtain ⟨rfl, hZ, hh⟩ := hP
  have hx := Bd.exec
  have hby := Bd.bytes
  have hml : c.maxLocals = 2 := hml0
  have hown : s.vm.findClass "java/lang/String" = some m.cls := findClass_of_methodNamed Bd.named
  have hnm := (name_of_methodNamed Bd.named Bd.method).1
  have hlk := Bd.notSynchronized
  have X0 : Stand p l e (⟨5, 2, 9, 74⟩ : Room) s m #[(.ref x0), (.ref a)] below meth c s₁ [] 0 0 := Stand.of_body Bd
  have e0 : s₁.heap = h0 := by rw [← hh, Bd.state]; rfl
  have N0 := Fr.nil n0
  refine own_start (Q := own_i7_3_Q Z x0 a ka da c0 c1 c2 zCS fm h0 n0) (own_i7_3_ef m x0 a) ?_
  refine own_g (mkF m 4 #[.val (.ref x0), .val (.ref a)] [(.ref a), (.int 0), (.ref a), (.ref x0)]) (fun _ q => XS.aloadN X0.here hx rfl (hb hby own_d2_0) rfl rfl (XS.aloadN X0.here hx rfl (hb hby own_d2_1) rfl rfl (XS.iconst X0.here hx rfl (hb hby own_d2_2) (XS.aloadN X0.here hx rfl (hb hby own_d2_3) rfl rfl q)))) ?_
  obtain ⟨cl1, Ar1, q1, S1, P1, H1, G1⟩ := id K_a
  refine own_by (g' := (mkF m 5 #[.val (.ref x0), .val (.ref a)] [(.int 3), (.int 0), (.ref a), (.ref x0)])) (fun _ kq => X0.arraylength hx (by rw [e0]; exact Ar1.1) (State.isArrayOf_alike hZ.alike Ar1.2.1) (g := (mkF m 4 #[.val (.ref x0), .val (.ref a)] [(.ref a), (.int 0), (.ref a), (.ref x0)])) rfl rfl (hb hby own_d2_4) _ (by rw [len_of S1 P1]; exact kq)) ?_
  refine own_g (mkF m 6 #[.val (.ref x0), .val (.ref a)] [.null, (.int 3), (.int 0), (.ref a), (.ref x0)]) (fun _ q => XS.aconstNull X0.here hx rfl (hb hby own_d2_5) q) ?_
  refine own_callI X0 hx hZ (y := own_y4) rfl hown (own_h hw 12 rfl) (own_h hw 13 rfl) (own_h hw 15 rfl) (own_h hw 8 rfl) (by decide) (own_i8_3 l Z a0 hw [] x0 a ka da c0 c1 c2 zCS fm h0 n0 (Nat.le_trans Z0 (Keep.refl h0 [x0]).1) S_CS nCS S_AD S_HI S_LO S_SF hfm O0 E_x V_x C_x g_x K_a n_ax hb0 hb1 hb2 hn0 hn1 hn2) (by decide) (by decide) e0 (g := (mkF m 6 #[.val (.ref x0), .val (.ref a)] [.null, (.int 3), (.int 0), (.ref a), (.ref x0)])) rfl (by rw [hml]; rfl) (argsL := [(.ref a), (.int 0), (.int 3), .null]) (rest := []) (lenOf own_pd__28_5bCIILjava_2flang_2fVoid_3b_29V rfl) rfl (W := 0) (by show 2 * 0 + _ ≤ _; exact Nat.le_of_eq rfl) (hb hby own_d2_6) rfl (by decide) (by decide) ?_
  rintro rv2 T2 L2 X2 ⟨rfl, Nq2, Kq2, Hq2⟩
  have N2 := Fr.app N0 Nq2
  show own_Fin p e below _ T2 (mkF m 9 #[.val (.ref x0), .val (.ref a)] [])
  have k3_ := ((Keep.refl h0 [x0]).trans Kq2 (allS (Or.inl (List.mem_of_getElem? (i := 0) rfl)) all0))
  exact own_end X2 (v := none) (fun _ => rfl) hlk (fun hr => X2.returnOut hx Bd.returns (hb hby own_d2_9) hr) (⟨rfl, N2, k3_, Hq2⟩) (by decide) (by decide)
theorem own_d7_0 : decode jdk_42_method_152_code 0 = .ok (.getstatic 38, 3) := by decide +kernel
theorem own_d7_3 : decode jdk_42_method_152_code 3 = .ok (.ifCond .eq 10, 3) := by decide +kernel
theorem own_d7_6 : decode jdk_42_method_152_code 6 = .ok (.aload_n 0, 1) := by decide +kernel
theorem own_d7_7 : decode jdk_42_method_152_code 7 = .ok (.getfield 15, 3) := by decide +kernel
theorem own_d7_10 : decode jdk_42_method_152_code 10 = .ok (.goto 4, 3) := by decide +kernel
theorem own_d7_14 : decode jdk_42_method_152_code 14 = .ok (.ireturn, 1) := by decide +kernel
theorem own_cdr_0_ef (m : MethodId) (x0 : Addr) : entryFrame m #[(.ref x0)] 1 = mkF m 0 #[.val (.ref x0)] [] := by  first | (simp [entryFrame, mkF, argsToLocals, Value.category]; done) | rfl
def own_cdr_0_Q (Z : State) (x0 : Addr) (zCS : Int32) (fm : Value) (h0 : Heap) (n0 : Nat) (v : Option Value) (h : Heap) (L : List Loc) : Prop := v = some (.int 0) ∧ Fr n0 L ∧ h = h0
set_option maxRecDepth 65536 in
set_option maxHeartbeats 40000000 in
theorem own_cdr_0 (l : Launch) (Z : State) (a0 : Array Value) (hw : ∀ d ∈ tables_1, d.before a0 Z = true) (ws : List Jvm.Cond) (x0 : Addr) (zCS : Int32) (fm : Value) (h0 : Heap) (n0 : Nat) (Z0 : n0 ≤ h0.size) (S_CS : own_A0 Z zCS) (nCS : ¬ zCS = 0) (S_AD : own_A1 Z) (S_HI : own_A2 Z) (S_LO : own_A3 Z) (S_SF : own_A4 Z fm) (hfm : fm.isRef = true) (O0 : Old Z n0 h0) (C_x : Fld Z h0 x0 "java/lang/String" "coder" "B" (.int 0)) :
    MetFree l own_y7 (head1 (Jvm.Cond.code own_y7 jdk_42_method_152_code 1 (some .byte) :: ws) (⟨0, 0, 0, 0⟩ : Room)) (fun aa U => aa = #[(.ref x0)] ∧ Z.Warmed39 U.vm ∧ U.heap = h0) (fun _ _ _ _ _ => True) (fun _ U o U' => ∃ v L, o = .returned v ∧ own_cdr_0_Q Z x0 zCS fm h0 n0 v U'.heap L ∧ FrameEnd U o U' L (⟨0, 0, 0, 0⟩ : Room).cells (⟨0, 0, 0, 0⟩ : Room).slots) := by
  refine MetFree.of_bodySF (plainFor_of_name own_pn_java_lang_String) hisR ?_
  intro p e s m args below meth c s₁ Bd hml0 hP hK
  obtain ⟨rfl, hZ, hh⟩ := hP
  have hx := Bd.exec
  have hby := Bd.bytes
  have hml : c.maxLocals = 1 := hml0
  have hown : s.vm.findClass "java/lang/String" = some m.cls := findClass_of_methodNamed Bd.named
  have hnm := (name_of_methodNamed Bd.named Bd.method).1
  have hlk := Bd.notSynchronized
  have X0 : Stand p l e (⟨0, 0, 0, 0⟩ : Room) s m #[(.ref x0)] below meth c s₁ [] 0 0 := Stand.of_body Bd
  have e0 : s₁.heap = h0 := by rw [← hh, Bd.state]; rfl
  have N0 := Fr.nil n0
  refine own_start (Q := own_cdr_0_Q Z x0 zCS fm h0 n0) (own_cdr_0_ef m x0) ?_
  obtain ⟨T1, X1, e1, st1⟩ := getS2 X0 hx hZ hown (host := "") (Or.inl (own_h hw 41 rfl)) Via.refl e0 (S_CS.ext O0.2) (g := (mkF m 0 #[.val (.ref x0)] [])) rfl (hb hby own_d7_0)
  refine own_by (g' := (mkF m 3 #[.val (.ref x0)] [(.int zCS)])) st1 ?_
  refine own_g (mkF m 7 #[.val (.ref x0)] [(.ref x0)]) (fun _ q => XS.ifNo X1.here hx rfl (hb hby own_d7_3) rfl ((if0 _ _).trans (feq nCS).1) (XS.aloadN X1.here hx rfl (hb hby own_d7_6) rfl rfl q)) ?_
  obtain ⟨T2, X2, e2, st2⟩ := getF X1 hx hZ hown (host := "") (Or.inl (own_h hw 26 rfl)) Via.refl e1 C_x (g := (mkF m 7 #[.val (.ref x0)] [(.ref x0)])) rfl rfl (hb hby own_d7_7)
  refine own_by (g' := (mkF m 10 #[.val (.ref x0)] [(.int 0)])) st2 ?_
  refine own_g (mkF m 14 #[.val (.ref x0)] [(.int 0)]) (fun _ q => XS.goto X2.here hx rfl (pc0 := 10) (pc' := 14) rfl (hb hby own_d7_10) (by decide) (by decide) q) ?_
  exact own_end X2 (v := some (.int (nar .byte (0 : Int32)))) (fun h => by rw [Bd.returns] at h; cases h) hlk (fun hr => retN X2 hx (t := .byte) Bd.returns (by simp) (hb hby own_d7_14) hr) (by rw [e2]; exact ⟨rfl, N0, rfl⟩) (by decide) (by decide)
theorem own_d13_0 : decode jdk_42_method_154_code 0 = .ok (.getstatic 38, 3) := by decide +kernel
theorem own_d13_3 : decode jdk_42_method_154_code 3 = .ok (.ifCond .eq 14, 3) := by decide +kernel
theorem own_d13_6 : decode jdk_42_method_154_code 6 = .ok (.aload_n 0, 1) := by decide +kernel
theorem own_d13_7 : decode jdk_42_method_154_code 7 = .ok (.getfield 15, 3) := by decide +kernel
theorem own_d13_10 : decode jdk_42_method_154_code 10 = .ok (.ifCond .ne 7, 3) := by decide +kernel
theorem own_d13_13 : decode jdk_42_method_154_code 13 = .ok (.iconst 1, 1) := by decide +kernel
theorem own_d13_14 : decode jdk_42_method_154_code 14 = .ok (.goto 4, 3) := by decide +kernel
theorem own_d13_18 : decode jdk_42_method_154_code 18 = .ok (.ireturn, 1) := by decide +kernel
theorem own_il_0_ef (m : MethodId) (x0 : Addr) : entryFrame m #[(.ref x0)] 1 = mkF m 0 #[.val (.ref x0)] [] := by  first | (simp [entryFrame, mkF, argsToLocals, Value.category]; done) | rfl
def own_il_0_Q (Z : State) (x0 : Addr) (zCS : Int32) (fm : Value) (h0 : Heap) (n0 : Nat) (v : Option Value) (h : Heap) (L : List Loc) : Prop := v = some (.int 1) ∧ Fr n0 L ∧ h = h0
set_option maxRecDepth 65536 in
set_option maxHeartbeats 40000000 in
theorem own_il_0 (l : Launch) (Z : State) (a0 : Array Value) (hw : ∀ d ∈ tables_1, d.before a0 Z = true) (ws : List Jvm.Cond) (x0 : Addr) (zCS : Int32) (fm : Value) (h0 : Heap) (n0 : Nat) (Z0 : n0 ≤ h0.size) (S_CS : own_A0 Z zCS) (nCS : ¬ zCS = 0) (S_AD : own_A1 Z) (S_HI : own_A2 Z) (S_LO : own_A3 Z) (S_SF : own_A4 Z fm) (hfm : fm.isRef = true) (O0 : Old Z n0 h0) (C_x : Fld Z h0 x0 "java/lang/String" "coder" "B" (.int 0)) :
    MetFree l own_y8 (head1 (Jvm.Cond.code own_y8 jdk_42_method_154_code 1 (some .boolean) :: ws) (⟨0, 0, 0, 0⟩ : Room)) (fun aa U => aa = #[(.ref x0)] ∧ Z.Warmed39 U.vm ∧ U.heap = h0) (fun _ _ _ _ _ => True) (fun _ U o U' => ∃ v L, o = .returned v ∧ own_il_0_Q Z x0 zCS fm h0 n0 v U'.heap L ∧ FrameEnd U o U' L (⟨0, 0, 0, 0⟩ : Room).cells (⟨0, 0, 0, 0⟩ : Room).slots) := by
  refine MetFree.of_bodySF (plainFor_of_name own_pn_java_lang_String) hisR ?_
  intro p e s m args below meth c s₁ Bd hml0 hP hK
  obtain ⟨rfl, hZ, hh⟩ := hP
  have hx := Bd.exec
  have hby := Bd.bytes
  have hml : c.maxLocals = 1 := hml0
  have hown : s.vm.findClass "java/lang/String" = some m.cls := findClass_of_methodNamed Bd.named
  have hnm := (name_of_methodNamed Bd.named Bd.method).1
  have hlk := Bd.notSynchronized
  have X0 : Stand p l e (⟨0, 0, 0, 0⟩ : Room) s m #[(.ref x0)] below meth c s₁ [] 0 0 := Stand.of_body Bd
  have e0 : s₁.heap = h0 := by rw [← hh, Bd.state]; rfl
  have N0 := Fr.nil n0
  refine own_start (Q := own_il_0_Q Z x0 zCS fm h0 n0) (own_il_0_ef m x0) ?_
  obtain ⟨T1, X1, e1, st1⟩ := getS2 X0 hx hZ hown (host := "") (Or.inl (own_h hw 41 rfl)) Via.refl e0 (S_CS.ext O0.2) (g := (mkF m 0 #[.val (.ref x0)] [])) rfl (hb hby own_d13_0)
  refine own_by (g' := (mkF m 3 #[.val (.ref x0)] [(.int zCS)])) st1 ?_
  refine own_g (mkF m 7 #[.val (.ref x0)] [(.ref x0)]) (fun _ q => XS.ifNo X1.here hx rfl (hb hby own_d13_3) rfl ((if0 _ _).trans (feq nCS).1) (XS.aloadN X1.here hx rfl (hb hby own_d13_6) rfl rfl q)) ?_
  obtain ⟨T2, X2, e2, st2⟩ := getF X1 hx hZ hown (host := "") (Or.inl (own_h hw 26 rfl)) Via.refl e1 C_x (g := (mkF m 7 #[.val (.ref x0)] [(.ref x0)])) rfl rfl (hb hby own_d13_7)
  refine own_by (g' := (mkF m 10 #[.val (.ref x0)] [(.int 0)])) st2 ?_
  refine own_g (mkF m 18 #[.val (.ref x0)] [(.int 1)]) (fun _ q => XS.ifNo X2.here hx rfl (hb hby own_d13_10) rfl ((if0 _ _).trans (teq (by decide : (0 : Int32) = (0 : Int32))).2) (XS.iconst X2.here hx rfl (hb hby own_d13_13) (XS.goto X2.here hx rfl (pc0 := 14) (pc' := 18) rfl (hb hby own_d13_14) (by decide) (by decide) q))) ?_
  exact own_end X2 (v := some (.int (nar .boolean (1 : Int32)))) (fun h => by rw [Bd.returns] at h; cases h) hlk (fun hr => retN X2 hx (t := .boolean) Bd.returns (by simp) (hb hby own_d13_18) hr) (by rw [e2]; exact ⟨rfl, N0, rfl⟩) (by decide) (by decide)
theorem own_d6_0 : decode jdk_42_method_54_code 0 = .ok (.aload_n 0, 1) := by decide +kernel
theorem own_d6_1 : decode jdk_42_method_54_code 1 = .ok (.getfield 9, 3) := by decide +kernel
theorem own_d6_4 : decode jdk_42_method_54_code 4 = .ok (.arraylength, 1) := by decide +kernel
theorem own_d6_5 : decode jdk_42_method_54_code 5 = .ok (.aload_n 0, 1) := by decide +kernel
theorem own_d6_6 : decode jdk_42_method_54_code 6 = .ok (.invokevirtual 335, 3) := by decide +kernel
theorem own_pd__28_29B : parseMethodDescriptor "()B" = some ⟨[], some .byte⟩ := by decide +kernel
theorem own_d6_9 : decode jdk_42_method_54_code 9 = .ok (.ishr, 1) := by decide +kernel
theorem own_d6_10 : decode jdk_42_method_54_code 10 = .ok (.ireturn, 1) := by decide +kernel
theorem own_len_0_0_ef (m : MethodId) (x0 : Addr) : entryFrame m #[(.ref x0)] 1 = mkF m 0 #[.val (.ref x0)] [] := by  first | (simp [entryFrame, mkF, argsToLocals, Value.category]; done) | rfl
def own_len_0_0_Q (Z : State) (x0 : Addr) (t : Addr) (kb : ClassId) (zCS : Int32) (fm : Value) (h0 : Heap) (n0 : Nat) (v : Option Value) (h : Heap) (L : List Loc) : Prop := v = some (.int 0) ∧ Fr n0 L ∧ h = h0
set_option maxRecDepth 65536 in
set_option maxHeartbeats 40000000 in
theorem own_len_0_0 (l : Launch) (Z : State) (a0 : Array Value) (hw : ∀ d ∈ tables_1, d.before a0 Z = true) (ws : List Jvm.Cond) (x0 : Addr) (t : Addr) (kb : ClassId) (zCS : Int32) (fm : Value) (h0 : Heap) (n0 : Nat) (Z0 : n0 ≤ h0.size) (S_CS : own_A0 Z zCS) (nCS : ¬ zCS = 0) (S_AD : own_A1 Z) (S_HI : own_A2 Z) (S_LO : own_A3 Z) (S_SF : own_A4 Z fm) (hfm : fm.isRef = true) (O0 : Old Z n0 h0) (E_x : Exa Z h0 x0 "java/lang/String") (V_x : Fld Z h0 x0 "java/lang/String" "value" "[B" (.ref t)) (C_x : Fld Z h0 x0 "java/lang/String" "coder" "B" (.int 0)) (K_t : Arv Z h0 t kb .byte (0 : Int32) [] (.int 0)) :
    MetFree l own_y9 (head1 (Jvm.Cond.code own_y9 jdk_42_method_54_code 1 (some .int) :: ws) (⟨1, 0, 0, 13⟩ : Room)) (fun aa U => aa = #[(.ref x0)] ∧ Z.Warmed39 U.vm ∧ U.heap = h0) (fun _ _ _ _ _ => True) (fun _ U o U' => ∃ v L, o = .returned v ∧ own_len_0_0_Q Z x0 t kb zCS fm h0 n0 v U'.heap L ∧ FrameEnd U o U' L (⟨1, 0, 0, 13⟩ : Room).cells (⟨1, 0, 0, 13⟩ : Room).slots) := by
  refine MetFree.of_bodySF (plainFor_of_name own_pn_java_lang_String) hisR ?_
  intro p e s m args below meth c s₁ Bd hml0 hP hK
  obtain ⟨rfl, hZ, hh⟩ := hP
  have hx := Bd.exec
  have hby := Bd.bytes
  have hml : c.maxLocals = 1 := hml0
  have hown : s.vm.findClass "java/lang/String" = some m.cls := findClass_of_methodNamed Bd.named
  have hnm := (name_of_methodNamed Bd.named Bd.method).1
  have hlk := Bd.notSynchronized
  have X0 : Stand p l e (⟨1, 0, 0, 13⟩ : Room) s m #[(.ref x0)] below meth c s₁ [] 0 0 := Stand.of_body Bd
  have e0 : s₁.heap = h0 := by rw [← hh, Bd.state]; rfl
  have N0 := Fr.nil n0
  refine own_start (Q := own_len_0_0_Q Z x0 t kb zCS fm h0 n0) (own_len_0_0_ef m x0) ?_
  refine own_g (mkF m 1 #[.val (.ref x0)] [(.ref x0)]) (fun _ q => XS.aloadN X0.here hx rfl (hb hby own_d6_0) rfl rfl q) ?_
  obtain ⟨T1, X1, e1, st1⟩ := getF X0 hx hZ hown (host := "") (Or.inl (own_h hw 25 rfl)) Via.refl e0 V_x (g := (mkF m 1 #[.val (.ref x0)] [(.ref x0)])) rfl rfl (hb hby own_d6_1)
  refine own_by (g' := (mkF m 4 #[.val (.ref x0)] [(.ref t)])) st1 ?_
  obtain ⟨cl2, Ar2, q2, S2, P2, H2, G2⟩ := id K_t
  refine own_by (g' := (mkF m 5 #[.val (.ref x0)] [(.int 0)])) (fun _ kq => X1.arraylength hx (by rw [e1]; exact Ar2.1) (State.isArrayOf_alike hZ.alike Ar2.2.1) (g := (mkF m 4 #[.val (.ref x0)] [(.ref t)])) rfl rfl (hb hby own_d6_4) _ (by rw [len_of S2 P2]; exact kq)) ?_
  refine own_g (mkF m 6 #[.val (.ref x0)] [(.ref x0), (.int 0)]) (fun _ q => XS.aloadN X1.here hx rfl (hb hby own_d6_5) rfl rfl q) ?_
  refine own_callV X1 hx hZ (y := own_y7) (z := own_y7) hown (own_h hw 36 rfl) (own_h hw 37 rfl) (own_nf (own_h hw 39 rfl)) (own_h hw 39 rfl) (own_h hw 38 rfl) (own_h hw 40 rfl) (own_h hw 8 rfl) (by decide) E_x (own_cdr_0 l Z a0 hw [] x0  zCS fm h0 n0 Z0 S_CS nCS S_AD S_HI S_LO S_SF hfm O0 C_x) (by decide) (by decide) e1 (g := (mkF m 6 #[.val (.ref x0)] [(.ref x0), (.int 0)])) rfl (by rw [hml]; rfl) (argsL := []) (rest := [(.int 0)]) (lenOf own_pd__28_29B rfl) rfl (W := 1) (by show 2 * 0 + _ ≤ _; exact Nat.le_of_eq rfl) (hb hby own_d6_6) rfl (by decide) (by decide) ?_
  rintro rv3 T3 L3 X3 ⟨rfl, Nq3, eh3⟩
  have N3 := Fr.app N0 Nq3
  refine own_g (mkF m 10 #[.val (.ref x0)] [(.int 0)]) (fun _ q => XS.ishr X3.here hx rfl (hb hby own_d6_9) rfl q) ?_
  exact own_end X3 (v := some (.int 0)) (fun h => by rw [Bd.returns] at h; cases h) hlk (fun hr => retOut X3 hx Bd.returns rfl (Or.inl ⟨rfl, Or.inl rfl, _, rfl⟩) (hb hby own_d6_10) hr) (by rw [eh3]; exact ⟨rfl, N3, rfl⟩) (by decide) (by decide)
theorem own_len_0_1_ef (m : MethodId) (x0 : Addr) : entryFrame m #[(.ref x0)] 1 = mkF m 0 #[.val (.ref x0)] [] := by  first | (simp [entryFrame, mkF, argsToLocals, Value.category]; done) | rfl
def own_len_0_1_Q (Z : State) (x0 : Addr) (t : Addr) (kb : ClassId) (c0 : Int32) (zCS : Int32) (fm : Value) (h0 : Heap) (n0 : Nat) (v : Option Value) (h : Heap) (L : List Loc) : Prop := v = some (.int 1) ∧ Fr n0 L ∧ h = h0
set_option maxRecDepth 65536 in
set_option maxHeartbeats 40000000 in
theorem own_len_0_1 (l : Launch) (Z : State) (a0 : Array Value) (hw : ∀ d ∈ tables_1, d.before a0 Z = true) (ws : List Jvm.Cond) (x0 : Addr) (t : Addr) (kb : ClassId) (c0 : Int32) (zCS : Int32) (fm : Value) (h0 : Heap) (n0 : Nat) (Z0 : n0 ≤ h0.size) (S_CS : own_A0 Z zCS) (nCS : ¬ zCS = 0) (S_AD : own_A1 Z) (S_HI : own_A2 Z) (S_LO : own_A3 Z) (S_SF : own_A4 Z fm) (hfm : fm.isRef = true) (O0 : Old Z n0 h0) (E_x : Exa Z h0 x0 "java/lang/String") (V_x : Fld Z h0 x0 "java/lang/String" "value" "[B" (.ref t)) (C_x : Fld Z h0 x0 "java/lang/String" "coder" "B" (.int 0)) (K_t : Arv Z h0 t kb .byte (1 : Int32) [(.int (StrChars.lo8 c0))] (.int 0)) :
    MetFree l own_y9 (head1 (Jvm.Cond.code own_y9 jdk_42_method_54_code 1 (some .int) :: ws) (⟨1, 0, 0, 13⟩ : Room)) (fun aa U => aa = #[(.ref x0)] ∧ Z.Warmed39 U.vm ∧ U.heap = h0) (fun _ _ _ _ _ => True) (fun _ U o U' => ∃ v L, o = .returned v ∧ own_len_0_1_Q Z x0 t kb c0 zCS fm h0 n0 v U'.heap L ∧ FrameEnd U o U' L (⟨1, 0, 0, 13⟩ : Room).cells (⟨1, 0, 0, 13⟩ : Room).slots) := by
  refine MetFree.of_bodySF (plainFor_of_name own_pn_java_lang_String) hisR ?_
  intro p e s m args below meth c s₁ Bd hml0 hP hK
  obtain ⟨rfl, hZ, hh⟩ := hP
  have hx := Bd.exec
  have hby := Bd.bytes
  have hml : c.maxLocals = 1 := hml0
  have hown : s.vm.findClass "java/lang/String" = some m.cls := findClass_of_methodNamed Bd.named
  have hnm := (name_of_methodNamed Bd.named Bd.method).1
  have hlk := Bd.notSynchronized
  have X0 : Stand p l e (⟨1, 0, 0, 13⟩ : Room) s m #[(.ref x0)] below meth c s₁ [] 0 0 := Stand.of_body Bd
  have e0 : s₁.heap = h0 := by rw [← hh, Bd.state]; rfl
  have N0 := Fr.nil n0
  refine own_start (Q := own_len_0_1_Q Z x0 t kb c0 zCS fm h0 n0) (own_len_0_1_ef m x0) ?_
  refine own_g (mkF m 1 #[.val (.ref x0)] [(.ref x0)]) (fun _ q => XS.aloadN X0.here hx rfl (hb hby own_d6_0) rfl rfl q) ?_
  obtain ⟨T1, X1, e1, st1⟩ := getF X0 hx hZ hown (host := "") (Or.inl (own_h hw 25 rfl)) Via.refl e0 V_x (g := (mkF m 1 #[.val (.ref x0)] [(.ref x0)])) rfl rfl (hb hby own_d6_1)
  refine own_by (g' := (mkF m 4 #[.val (.ref x0)] [(.ref t)])) st1 ?_
  obtain ⟨cl2, Ar2, q2, S2, P2, H2, G2⟩ := id K_t
  refine own_by (g' := (mkF m 5 #[.val (.ref x0)] [(.int 1)])) (fun _ kq => X1.arraylength hx (by rw [e1]; exact Ar2.1) (State.isArrayOf_alike hZ.alike Ar2.2.1) (g := (mkF m 4 #[.val (.ref x0)] [(.ref t)])) rfl rfl (hb hby own_d6_4) _ (by rw [len_of S2 P2]; exact kq)) ?_
  refine own_g (mkF m 6 #[.val (.ref x0)] [(.ref x0), (.int 1)]) (fun _ q => XS.aloadN X1.here hx rfl (hb hby own_d6_5) rfl rfl q) ?_
  refine own_callV X1 hx hZ (y := own_y7) (z := own_y7) hown (own_h hw 36 rfl) (own_h hw 37 rfl) (own_nf (own_h hw 39 rfl)) (own_h hw 39 rfl) (own_h hw 38 rfl) (own_h hw 40 rfl) (own_h hw 8 rfl) (by decide) E_x (own_cdr_0 l Z a0 hw [] x0  zCS fm h0 n0 Z0 S_CS nCS S_AD S_HI S_LO S_SF hfm O0 C_x) (by decide) (by decide) e1 (g := (mkF m 6 #[.val (.ref x0)] [(.ref x0), (.int 1)])) rfl (by rw [hml]; rfl) (argsL := []) (rest := [(.int 1)]) (lenOf own_pd__28_29B rfl) rfl (W := 1) (by show 2 * 0 + _ ≤ _; exact Nat.le_of_eq rfl) (hb hby own_d6_6) rfl (by decide) (by decide) ?_
  rintro rv3 T3 L3 X3 ⟨rfl, Nq3, eh3⟩
  have N3 := Fr.app N0 Nq3
  refine own_g (mkF m 10 #[.val (.ref x0)] [(.int 1)]) (fun _ q => XS.ishr X3.here hx rfl (hb hby own_d6_9) rfl q) ?_
  exact own_end X3 (v := some (.int 1)) (fun h => by rw [Bd.returns] at h; cases h) hlk (fun hr => retOut X3 hx Bd.returns rfl (Or.inl ⟨rfl, Or.inl rfl, _, rfl⟩) (hb hby own_d6_10) hr) (by rw [eh3]; exact ⟨rfl, N3, rfl⟩) (by decide) (by decide)
theorem own_len_0_2_ef (m : MethodId) (x0 : Addr) : entryFrame m #[(.ref x0)] 1 = mkF m 0 #[.val (.ref x0)] [] := by  first | (simp [entryFrame, mkF, argsToLocals, Value.category]; done) | rfl
def own_len_0_2_Q (Z : State) (x0 : Addr) (t : Addr) (kb : ClassId) (c0 : Int32) (c1 : Int32) (zCS : Int32) (fm : Value) (h0 : Heap) (n0 : Nat) (v : Option Value) (h : Heap) (L : List Loc) : Prop := v = some (.int 2) ∧ Fr n0 L ∧ h = h0
set_option maxRecDepth 65536 in
set_option maxHeartbeats 40000000 in
theorem own_len_0_2 (l : Launch) (Z : State) (a0 : Array Value) (hw : ∀ d ∈ tables_1, d.before a0 Z = true) (ws : List Jvm.Cond) (x0 : Addr) (t : Addr) (kb : ClassId) (c0 : Int32) (c1 : Int32) (zCS : Int32) (fm : Value) (h0 : Heap) (n0 : Nat) (Z0 : n0 ≤ h0.size) (S_CS : own_A0 Z zCS) (nCS : ¬ zCS = 0) (S_AD : own_A1 Z) (S_HI : own_A2 Z) (S_LO : own_A3 Z) (S_SF : own_A4 Z fm) (hfm : fm.isRef = true) (O0 : Old Z n0 h0) (E_x : Exa Z h0 x0 "java/lang/String") (V_x : Fld Z h0 x0 "java/lang/String" "value" "[B" (.ref t)) (C_x : Fld Z h0 x0 "java/lang/String" "coder" "B" (.int 0)) (K_t : Arv Z h0 t kb .byte (2 : Int32) [(.int (StrChars.lo8 c0)), (.int (StrChars.lo8 c1))] (.int 0)) :
    MetFree l own_y9 (head1 (Jvm.Cond.code own_y9 jdk_42_method_54_code 1 (some .int) :: ws) (⟨1, 0, 0, 13⟩ : Room)) (fun aa U => aa = #[(.ref x0)] ∧ Z.Warmed39 U.vm ∧ U.heap = h0) (fun _ _ _ _ _ => True) (fun _ U o U' => ∃ v L, o = .returned v ∧ own_len_0_2_Q Z x0 t kb c0 c1 zCS fm h0 n0 v U'.heap L ∧ FrameEnd U o U' L (⟨1, 0, 0, 13⟩ : Room).cells (⟨1, 0, 0, 13⟩ : Room).slots) := by
  refine MetFree.of_bodySF (plainFor_of_name own_pn_java_lang_String) hisR ?_
  intro p e s m args below meth c s₁ Bd hml0 hP hK
  obtain ⟨rfl, hZ, hh⟩ := hP
  have hx := Bd.exec
  have hby := Bd.bytes
  have hml : c.maxLocals = 1 := hml0
  have hown : s.vm.findClass "java/lang/String" = some m.cls := findClass_of_methodNamed Bd.named
  have hnm := (name_of_methodNamed Bd.named Bd.method).1
  have hlk := Bd.notSynchronized
  have X0 : Stand p l e (⟨1, 0, 0, 13⟩ : Room) s m #[(.ref x0)] below meth c s₁ [] 0 0 := Stand.of_body Bd
  have e0 : s₁.heap = h0 := by rw [← hh, Bd.state]; rfl
  have N0 := Fr.nil n0
  refine own_start (Q := own_len_0_2_Q Z x0 t kb c0 c1 zCS fm h0 n0) (own_len_0_2_ef m x0) ?_
  refine own_g (mkF m 1 #[.val (.ref x0)] [(.ref x0)]) (fun _ q => XS.aloadN X0.here hx rfl (hb hby own_d6_0) rfl rfl q) ?_
  obtain ⟨T1, X1, e1, st1⟩ := getF X0 hx hZ hown (host := "") (Or.inl (own_h hw 25 rfl)) Via.refl e0 V_x (g := (mkF m 1 #[.val (.ref x0)] [(.ref x0)])) rfl rfl (hb hby own_d6_1)
  refine own_by (g' := (mkF m 4 #[.val (.ref x0)] [(.ref t)])) st1 ?_
  obtain ⟨cl2, Ar2, q2, S2, P2, H2, G2⟩ := id K_t
  refine own_by (g' := (mkF m 5 #[.val (.ref x0)] [(.int 2)])) (fun _ kq => X1.arraylength hx (by rw [e1]; exact Ar2.1) (State.isArrayOf_alike hZ.alike Ar2.2.1) (g := (mkF m 4 #[.val (.ref x0)] [(.ref t)])) rfl rfl (hb hby own_d6_4) _ (by rw [len_of S2 P2]; exact kq)) ?_
  refine own_g (mkF m 6 #[.val (.ref x0)] [(.ref x0), (.int 2)]) (fun _ q => XS.aloadN X1.here hx rfl (hb hby own_d6_5) rfl rfl q) ?_
  refine own_callV X1 hx hZ (y := own_y7) (z := own_y7) hown (own_h hw 36 rfl) (own_h hw 37 rfl) (own_nf (own_h hw 39 rfl)) (own_h hw 39 rfl) (own_h hw 38 rfl) (own_h hw 40 rfl) (own_h hw 8 rfl) (by decide) E_x (own_cdr_0 l Z a0 hw [] x0  zCS fm h0 n0 Z0 S_CS nCS S_AD S_HI S_LO S_SF hfm O0 C_x) (by decide) (by decide) e1 (g := (mkF m 6 #[.val (.ref x0)] [(.ref x0), (.int 2)])) rfl (by rw [hml]; rfl) (argsL := []) (rest := [(.int 2)]) (lenOf own_pd__28_29B rfl) rfl (W := 1) (by show 2 * 0 + _ ≤ _; exact Nat.le_of_eq rfl) (hb hby own_d6_6) rfl (by decide) (by decide) ?_
  rintro rv3 T3 L3 X3 ⟨rfl, Nq3, eh3⟩
  have N3 := Fr.app N0 Nq3
  refine own_g (mkF m 10 #[.val (.ref x0)] [(.int 2)]) (fun _ q => XS.ishr X3.here hx rfl (hb hby own_d6_9) rfl q) ?_
  exact own_end X3 (v := some (.int 2)) (fun h => by rw [Bd.returns] at h; cases h) hlk (fun hr => retOut X3 hx Bd.returns rfl (Or.inl ⟨rfl, Or.inl rfl, _, rfl⟩) (hb hby own_d6_10) hr) (by rw [eh3]; exact ⟨rfl, N3, rfl⟩) (by decide) (by decide)
theorem own_len_0_3_ef (m : MethodId) (x0 : Addr) : entryFrame m #[(.ref x0)] 1 = mkF m 0 #[.val (.ref x0)] [] := by  first | (simp [entryFrame, mkF, argsToLocals, Value.category]; done) | rfl
def own_len_0_3_Q (Z : State) (x0 : Addr) (t : Addr) (kb : ClassId) (c0 : Int32) (c1 : Int32) (c2 : Int32) (zCS : Int32) (fm : Value) (h0 : Heap) (n0 : Nat) (v : Option Value) (h : Heap) (L : List Loc) : Prop := v = some (.int 3) ∧ Fr n0 L ∧ h = h0
set_option maxRecDepth 65536 in
set_option maxHeartbeats 40000000 in
theorem own_len_0_3 (l : Launch) (Z : State) (a0 : Array Value) (hw : ∀ d ∈ tables_1, d.before a0 Z = true) (ws : List Jvm.Cond) (x0 : Addr) (t : Addr) (kb : ClassId) (c0 : Int32) (c1 : Int32) (c2 : Int32) (zCS : Int32) (fm : Value) (h0 : Heap) (n0 : Nat) (Z0 : n0 ≤ h0.size) (S_CS : own_A0 Z zCS) (nCS : ¬ zCS = 0) (S_AD : own_A1 Z) (S_HI : own_A2 Z) (S_LO : own_A3 Z) (S_SF : own_A4 Z fm) (hfm : fm.isRef = true) (O0 : Old Z n0 h0) (E_x : Exa Z h0 x0 "java/lang/String") (V_x : Fld Z h0 x0 "java/lang/String" "value" "[B" (.ref t)) (C_x : Fld Z h0 x0 "java/lang/String" "coder" "B" (.int 0)) (K_t : Arv Z h0 t kb .byte (3 : Int32) [(.int (StrChars.lo8 c0)), (.int (StrChars.lo8 c1)), (.int (StrChars.lo8 c2))] (.int 0)) :
    MetFree l own_y9 (head1 (Jvm.Cond.code own_y9 jdk_42_method_54_code 1 (some .int) :: ws) (⟨1, 0, 0, 13⟩ : Room)) (fun aa U => aa = #[(.ref x0)] ∧ Z.Warmed39 U.vm ∧ U.heap = h0) (fun _ _ _ _ _ => True) (fun _ U o U' => ∃ v L, o = .returned v ∧ own_len_0_3_Q Z x0 t kb c0 c1 c2 zCS fm h0 n0 v U'.heap L ∧ FrameEnd U o U' L (⟨1, 0, 0, 13⟩ : Room).cells (⟨1, 0, 0, 13⟩ : Room).slots) := by
  refine MetFree.of_bodySF (plainFor_of_name own_pn_java_lang_String) hisR ?_
  intro p e s m args below meth c s₁ Bd hml0 hP hK
  obtain ⟨rfl, hZ, hh⟩ := hP
  have hx := Bd.exec
  have hby := Bd.bytes
  have hml : c.maxLocals = 1 := hml0
  have hown : s.vm.findClass "java/lang/String" = some m.cls := findClass_of_methodNamed Bd.named
  have hnm := (name_of_methodNamed Bd.named Bd.method).1
  have hlk := Bd.notSynchronized
  have X0 : Stand p l e (⟨1, 0, 0, 13⟩ : Room) s m #[(.ref x0)] below meth c s₁ [] 0 0 := Stand.of_body Bd
  have e0 : s₁.heap = h0 := by rw [← hh, Bd.state]; rfl
  have N0 := Fr.nil n0
  refine own_start (Q := own_len_0_3_Q Z x0 t kb c0 c1 c2 zCS fm h0 n0) (own_len_0_3_ef m x0) ?_
  refine own_g (mkF m 1 #[.val (.ref x0)] [(.ref x0)]) (fun _ q => XS.aloadN X0.here hx rfl (hb hby own_d6_0) rfl rfl q) ?_
  obtain ⟨T1, X1, e1, st1⟩ := getF X0 hx hZ hown (host := "") (Or.inl (own_h hw 25 rfl)) Via.refl e0 V_x (g := (mkF m 1 #[.val (.ref x0)] [(.ref x0)])) rfl rfl (hb hby own_d6_1)
  refine own_by (g' := (mkF m 4 #[.val (.ref x0)] [(.ref t)])) st1 ?_
  obtain ⟨cl2, Ar2, q2, S2, P2, H2, G2⟩ := id K_t
  refine own_by (g' := (mkF m 5 #[.val (.ref x0)] [(.int 3)])) (fun _ kq => X1.arraylength hx (by rw [e1]; exact Ar2.1) (State.isArrayOf_alike hZ.alike Ar2.2.1) (g := (mkF m 4 #[.val (.ref x0)] [(.ref t)])) rfl rfl (hb hby own_d6_4) _ (by rw [len_of S2 P2]; exact kq)) ?_
  refine own_g (mkF m 6 #[.val (.ref x0)] [(.ref x0), (.int 3)]) (fun _ q => XS.aloadN X1.here hx rfl (hb hby own_d6_5) rfl rfl q) ?_
  refine own_callV X1 hx hZ (y := own_y7) (z := own_y7) hown (own_h hw 36 rfl) (own_h hw 37 rfl) (own_nf (own_h hw 39 rfl)) (own_h hw 39 rfl) (own_h hw 38 rfl) (own_h hw 40 rfl) (own_h hw 8 rfl) (by decide) E_x (own_cdr_0 l Z a0 hw [] x0  zCS fm h0 n0 Z0 S_CS nCS S_AD S_HI S_LO S_SF hfm O0 C_x) (by decide) (by decide) e1 (g := (mkF m 6 #[.val (.ref x0)] [(.ref x0), (.int 3)])) rfl (by rw [hml]; rfl) (argsL := []) (rest := [(.int 3)]) (lenOf own_pd__28_29B rfl) rfl (W := 1) (by show 2 * 0 + _ ≤ _; exact Nat.le_of_eq rfl) (hb hby own_d6_6) rfl (by decide) (by decide) ?_
  rintro rv3 T3 L3 X3 ⟨rfl, Nq3, eh3⟩
  have N3 := Fr.app N0 Nq3
  refine own_g (mkF m 10 #[.val (.ref x0)] [(.int 3)]) (fun _ q => XS.ishr X3.here hx rfl (hb hby own_d6_9) rfl q) ?_
  exact own_end X3 (v := some (.int 3)) (fun h => by rw [Bd.returns] at h; cases h) hlk (fun hr => retOut X3 hx Bd.returns rfl (Or.inl ⟨rfl, Or.inl rfl, _, rfl⟩) (hb hby own_d6_10) hr) (by rw [eh3]; exact ⟨rfl, N3, rfl⟩) (by decide) (by decide)
theorem own_cdr_1_ef (m : MethodId) (x0 : Addr) : entryFrame m #[(.ref x0)] 1 = mkF m 0 #[.val (.ref x0)] [] := by  first | (simp [entryFrame, mkF, argsToLocals, Value.category]; done) | rfl
def own_cdr_1_Q (Z : State) (x0 : Addr) (zCS : Int32) (fm : Value) (h0 : Heap) (n0 : Nat) (v : Option Value) (h : Heap) (L : List Loc) : Prop := v = some (.int 1) ∧ Fr n0 L ∧ h = h0
set_option maxRecDepth 65536 in
set_option maxHeartbeats 40000000 in
theorem own_cdr_1 (l : Launch) (Z : State) (a0 : Array Value) (hw : ∀ d ∈ tables_1, d.before a0 Z = true) (ws : List Jvm.Cond) (x0 : Addr) (zCS : Int32) (fm : Value) (h0 : Heap) (n0 : Nat) (Z0 : n0 ≤ h0.size) (S_CS : own_A0 Z zCS) (nCS : ¬ zCS = 0) (S_AD : own_A1 Z) (S_HI : own_A2 Z) (S_LO : own_A3 Z) (S_SF : own_A4 Z fm) (hfm : fm.isRef = true) (O0 : Old Z n0 h0) (C_x : Fld Z h0 x0 "java/lang/String" "coder" "B" (.int 1)) :
    MetFree l own_y7 (head1 (Jvm.Cond.code own_y7 jdk_42_method_152_code 1 (some .byte) :: ws) (⟨0, 0, 0, 0⟩ : Room)) (fun aa U => aa = #[(.ref x0)] ∧ Z.Warmed39 U.vm ∧ U.heap = h0) (fun _ _ _ _ _ => True) (fun _ U o U' => ∃ v L, o = .returned v ∧ own_cdr_1_Q Z x0 zCS fm h0 n0 v U'.heap L ∧ FrameEnd U o U' L (⟨0, 0, 0, 0⟩ : Room).cells (⟨0, 0, 0, 0⟩ : Room).slots) := by
  refine MetFree.of_bodySF (plainFor_of_name own_pn_java_lang_String) hisR ?_
  intro p e s m args below meth c s₁ Bd hml0 hP hK
  obtain ⟨rfl, hZ, hh⟩ := hP
  have hx := Bd.exec
  have hby := Bd.bytes
  have hml : c.maxLocals = 1 := hml0
  have hown : s.vm.findClass "java/lang/String" = some m.cls := findClass_of_methodNamed Bd.named
  have hnm := (name_of_methodNamed Bd.named Bd.method).1
  have hlk := Bd.notSynchronized
  have X0 : Stand p l e (⟨0, 0, 0, 0⟩ : Room) s m #[(.ref x0)] below meth c s₁ [] 0 0 := Stand.of_body Bd
  have e0 : s₁.heap = h0 := by rw [← hh, Bd.state]; rfl
  have N0 := Fr.nil n0
  refine own_start (Q := own_cdr_1_Q Z x0 zCS fm h0 n0) (own_cdr_1_ef m x0) ?_
  obtain ⟨T1, X1, e1, st1⟩ := getS2 X0 hx hZ hown (host := "") (Or.inl (own_h hw 41 rfl)) Via.refl e0 (S_CS.ext O0.2) (g := (mkF m 0 #[.val (.ref x0)] [])) rfl (hb hby own_d7_0)
  refine own_by (g' := (mkF m 3 #[.val (.ref x0)] [(.int zCS)])) st1 ?_
  refine own_g (mkF m 7 #[.val (.ref x0)] [(.ref x0)]) (fun _ q => XS.ifNo X1.here hx rfl (hb hby own_d7_3) rfl ((if0 _ _).trans (feq nCS).1) (XS.aloadN X1.here hx rfl (hb hby own_d7_6) rfl rfl q)) ?_
  obtain ⟨T2, X2, e2, st2⟩ := getF X1 hx hZ hown (host := "") (Or.inl (own_h hw 26 rfl)) Via.refl e1 C_x (g := (mkF m 7 #[.val (.ref x0)] [(.ref x0)])) rfl rfl (hb hby own_d7_7)
  refine own_by (g' := (mkF m 10 #[.val (.ref x0)] [(.int 1)])) st2 ?_
  refine own_g (mkF m 14 #[.val (.ref x0)] [(.int 1)]) (fun _ q => XS.goto X2.here hx rfl (pc0 := 10) (pc' := 14) rfl (hb hby own_d7_10) (by decide) (by decide) q) ?_
  exact own_end X2 (v := some (.int (nar .byte (1 : Int32)))) (fun h => by rw [Bd.returns] at h; cases h) hlk (fun hr => retN X2 hx (t := .byte) Bd.returns (by simp) (hb hby own_d7_14) hr) (by rw [e2]; exact ⟨rfl, N0, rfl⟩) (by decide) (by decide)
theorem own_d13_17 : decode jdk_42_method_154_code 17 = .ok (.iconst 0, 1) := by decide +kernel
theorem own_il_1_ef (m : MethodId) (x0 : Addr) : entryFrame m #[(.ref x0)] 1 = mkF m 0 #[.val (.ref x0)] [] := by  first | (simp [entryFrame, mkF, argsToLocals, Value.category]; done) | rfl
def own_il_1_Q (Z : State) (x0 : Addr) (zCS : Int32) (fm : Value) (h0 : Heap) (n0 : Nat) (v : Option Value) (h : Heap) (L : List Loc) : Prop := v = some (.int 0) ∧ Fr n0 L ∧ h = h0
set_option maxRecDepth 65536 in
set_option maxHeartbeats 40000000 in
theorem own_il_1 (l : Launch) (Z : State) (a0 : Array Value) (hw : ∀ d ∈ tables_1, d.before a0 Z = true) (ws : List Jvm.Cond) (x0 : Addr) (zCS : Int32) (fm : Value) (h0 : Heap) (n0 : Nat) (Z0 : n0 ≤ h0.size) (S_CS : own_A0 Z zCS) (nCS : ¬ zCS = 0) (S_AD : own_A1 Z) (S_HI : own_A2 Z) (S_LO : own_A3 Z) (S_SF : own_A4 Z fm) (hfm : fm.isRef = true) (O0 : Old Z n0 h0) (C_x : Fld Z h0 x0 "java/lang/String" "coder" "B" (.int 1)) :
    MetFree l own_y8 (head1 (Jvm.Cond.code own_y8 jdk_42_method_154_code 1 (some .boolean) :: ws) (⟨0, 0, 0, 0⟩ : Room)) (fun aa U => aa = #[(.ref x0)] ∧ Z.Warmed39 U.vm ∧ U.heap = h0) (fun _ _ _ _ _ => True) (fun _ U o U' => ∃ v L, o = .returned v ∧ own_il_1_Q Z x0 zCS fm h0 n0 v U'.heap L ∧ FrameEnd U o U' L (⟨0, 0, 0, 0⟩ : Room).cells (⟨0, 0, 0, 0⟩ : Room).slots) := by
  refine MetFree.of_bodySF (plainFor_of_name own_pn_java_lang_String) hisR ?_
  intro p e s m args below meth c s₁ Bd hml0 hP hK
  obtain ⟨rfl, hZ, hh⟩ := hP
  have hx := Bd.exec
  have hby := Bd.bytes
  have hml : c.maxLocals = 1 := hml0
  have hown : s.vm.findClass "java/lang/String" = some m.cls := findClass_of_methodNamed Bd.named
  have hnm := (name_of_methodNamed Bd.named Bd.method).1
  have hlk := Bd.notSynchronized
  have X0 : Stand p l e (⟨0, 0, 0, 0⟩ : Room) s m #[(.ref x0)] below meth c s₁ [] 0 0 := Stand.of_body Bd
  have e0 : s₁.heap = h0 := by rw [← hh, Bd.state]; rfl
  have N0 := Fr.nil n0
  refine own_start (Q := own_il_1_Q Z x0 zCS fm h0 n0) (own_il_1_ef m x0) ?_
  obtain ⟨T1, X1, e1, st1⟩ := getS2 X0 hx hZ hown (host := "") (Or.inl (own_h hw 41 rfl)) Via.refl e0 (S_CS.ext O0.2) (g := (mkF m 0 #[.val (.ref x0)] [])) rfl (hb hby own_d13_0)
  refine own_by (g' := (mkF m 3 #[.val (.ref x0)] [(.int zCS)])) st1 ?_
  refine own_g (mkF m 7 #[.val (.ref x0)] [(.ref x0)]) (fun _ q => XS.ifNo X1.here hx rfl (hb hby own_d13_3) rfl ((if0 _ _).trans (feq nCS).1) (XS.aloadN X1.here hx rfl (hb hby own_d13_6) rfl rfl q)) ?_
  obtain ⟨T2, X2, e2, st2⟩ := getF X1 hx hZ hown (host := "") (Or.inl (own_h hw 26 rfl)) Via.refl e1 C_x (g := (mkF m 7 #[.val (.ref x0)] [(.ref x0)])) rfl rfl (hb hby own_d13_7)
  refine own_by (g' := (mkF m 10 #[.val (.ref x0)] [(.int 1)])) st2 ?_
  refine own_g (mkF m 18 #[.val (.ref x0)] [(.int 0)]) (fun _ q => XS.ifYes X2.here hx rfl (pc0 := 10) (pc' := 17) rfl (hb hby own_d13_10) rfl ((if0 _ _).trans (feq (by decide : ¬ ((1 : Int32) = (0 : Int32)))).2) (by decide) (by decide) (XS.iconst X2.here hx rfl (hb hby own_d13_17) q)) ?_
  exact own_end X2 (v := some (.int (nar .boolean (0 : Int32)))) (fun h => by rw [Bd.returns] at h; cases h) hlk (fun hr => retN X2 hx (t := .boolean) Bd.returns (by simp) (hb hby own_d13_18) hr) (by rw [e2]; exact ⟨rfl, N0, rfl⟩) (by decide) (by decide)
theorem own_len_1_1_ef (m : MethodId) (x0 : Addr) : entryFrame m #[(.ref x0)] 1 = mkF m 0 #[.val (.ref x0)] [] := by  first | (simp [entryFrame, mkF, argsToLocals, Value.category]; done) | rfl
def own_len_1_1_Q (Z : State) (x0 : Addr) (t : Addr) (kb : ClassId) (c0 : Int32) (zCS : Int32) (fm : Value) (h0 : Heap) (n0 : Nat) (v : Option Value) (h : Heap) (L : List Loc) : Prop := v = some (.int 1) ∧ Fr n0 L ∧ h = h0
set_option maxRecDepth 65536 in
set_option maxHeartbeats 40000000 in
theorem own_len_1_1 (l : Launch) (Z : State) (a0 : Array Value) (hw : ∀ d ∈ tables_1, d.before a0 Z = true) (ws : List Jvm.Cond) (x0 : Addr) (t : Addr) (kb : ClassId) (c0 : Int32) (zCS : Int32) (fm : Value) (h0 : Heap) (n0 : Nat) (Z0 : n0 ≤ h0.size) (S_CS : own_A0 Z zCS) (nCS : ¬ zCS = 0) (S_AD : own_A1 Z) (S_HI : own_A2 Z) (S_LO : own_A3 Z) (S_SF : own_A4 Z fm) (hfm : fm.isRef = true) (O0 : Old Z n0 h0) (E_x : Exa Z h0 x0 "java/lang/String") (V_x : Fld Z h0 x0 "java/lang/String" "value" "[B" (.ref t)) (C_x : Fld Z h0 x0 "java/lang/String" "coder" "B" (.int 1)) (K_t : Arv Z h0 t kb .byte (2 : Int32) [(.int (StrChars.lo8 c0)), (.int (StrChars.hi8 c0))] (.int 0)) :
    MetFree l own_y9 (head1 (Jvm.Cond.code own_y9 jdk_42_method_54_code 1 (some .int) :: ws) (⟨1, 0, 0, 13⟩ : Room)) (fun aa U => aa = #[(.ref x0)] ∧ Z.Warmed39 U.vm ∧ U.heap = h0) (fun _ _ _ _ _ => True) (fun _ U o U' => ∃ v L, o = .returned v ∧ own_len_1_1_Q Z x0 t kb c0 zCS fm h0 n0 v U'.heap L ∧ FrameEnd U o U' L (⟨1, 0, 0, 13⟩ : Room).cells (⟨1, 0, 0, 13⟩ : Room).slots) := by
  refine MetFree.of_bodySF (plainFor_of_name own_pn_java_lang_String) hisR ?_
  intro p e s m args below meth c s₁ Bd hml0 hP hK
  obtain ⟨rfl, hZ, hh⟩ := hP
  have hx := Bd.exec
  have hby := Bd.bytes
  have hml : c.maxLocals = 1 := hml0
  have hown : s.vm.findClass "java/lang/String" = some m.cls := findClass_of_methodNamed Bd.named
  have hnm := (name_of_methodNamed Bd.named Bd.method).1
  have hlk := Bd.notSynchronized
  have X0 : Stand p l e (⟨1, 0, 0, 13⟩ : Room) s m #[(.ref x0)] below meth c s₁ [] 0 0 := Stand.of_body Bd
  have e0 : s₁.heap = h0 := by rw [← hh, Bd.state]; rfl
  have N0 := Fr.nil n0
  refine own_start (Q := own_len_1_1_Q Z x0 t kb c0 zCS fm h0 n0) (own_len_1_1_ef m x0) ?_
  refine own_g (mkF m 1 #[.val (.ref x0)] [(.ref x0)]) (fun _ q => XS.aloadN X0.here hx rfl (hb hby own_d6_0) rfl rfl q) ?_
  obtain ⟨T1, X1, e1, st1⟩ := getF X0 hx hZ hown (host := "") (Or.inl (own_h hw 25 rfl)) Via.refl e0 V_x (g := (mkF m 1 #[.val (.ref x0)] [(.ref x0)])) rfl rfl (hb hby own_d6_1)
  refine own_by (g' := (mkF m 4 #[.val (.ref x0)] [(.ref t)])) st1 ?_
  obtain ⟨cl2, Ar2, q2, S2, P2, H2, G2⟩ := id K_t
  refine own_by (g' := (mkF m 5 #[.val (.ref x0)] [(.int 2)])) (fun _ kq => X1.arraylength hx (by rw [e1]; exact Ar2.1) (State.isArrayOf_alike hZ.alike Ar2.2.1) (g := (mkF m 4 #[.val (.ref x0)] [(.ref t)])) rfl rfl (hb hby own_d6_4) _ (by rw [len_of S2 P2]; exact kq)) ?_
  refine own_g (mkF m 6 #[.val (.ref x0)] [(.ref x0), (.int 2)]) (fun _ q => XS.aloadN X1.here hx rfl (hb hby own_d6_5) rfl rfl q) ?_
  refine own_callV X1 hx hZ (y := own_y7) (z := own_y7) hown (own_h hw 36 rfl) (own_h hw 37 rfl) (own_nf (own_h hw 39 rfl)) (own_h hw 39 rfl) (own_h hw 38 rfl) (own_h hw 40 rfl) (own_h hw 8 rfl) (by decide) E_x (own_cdr_1 l Z a0 hw [] x0  zCS fm h0 n0 Z0 S_CS nCS S_AD S_HI S_LO S_SF hfm O0 C_x) (by decide) (by decide) e1 (g := (mkF m 6 #[.val (.ref x0)] [(.ref x0), (.int 2)])) rfl (by rw [hml]; rfl) (argsL := []) (rest := [(.int 2)]) (lenOf own_pd__28_29B rfl) rfl (W := 1) (by show 2 * 0 + _ ≤ _; exact Nat.le_of_eq rfl) (hb hby own_d6_6) rfl (by decide) (by decide) ?_
  rintro rv3 T3 L3 X3 ⟨rfl, Nq3, eh3⟩
  have N3 := Fr.app N0 Nq3
  refine own_g (mkF m 10 #[.val (.ref x0)] [(.int 1)]) (fun _ q => XS.ishr X3.here hx rfl (hb hby own_d6_9) rfl q) ?_
  exact own_end X3 (v := some (.int 1)) (fun h => by rw [Bd.returns] at h; cases h) hlk (fun hr => retOut X3 hx Bd.returns rfl (Or.inl ⟨rfl, Or.inl rfl, _, rfl⟩) (hb hby own_d6_10) hr) (by rw [eh3]; exact ⟨rfl, N3, rfl⟩) (by decide) (by decide)
theorem own_len_1_2_ef (m : MethodId) (x0 : Addr) : entryFrame m #[(.ref x0)] 1 = mkF m 0 #[.val (.ref x0)] [] := by  first | (simp [entryFrame, mkF, argsToLocals, Value.category]; done) | rfl
def own_len_1_2_Q (Z : State) (x0 : Addr) (t : Addr) (kb : ClassId) (c0 : Int32) (c1 : Int32) (zCS : Int32) (fm : Value) (h0 : Heap) (n0 : Nat) (v : Option Value) (h : Heap) (L : List Loc) : Prop := v = some (.int 2) ∧ Fr n0 L ∧ h = h0
set_option maxRecDepth 65536 in
set_option maxHeartbeats 40000000 in
theorem own_len_1_2 (l : Launch) (Z : State) (a0 : Array Value) (hw : ∀ d ∈ tables_1, d.before a0 Z = true) (ws : List Jvm.Cond) (x0 : Addr) (t : Addr) (kb : ClassId) (c0 : Int32) (c1 : Int32) (zCS : Int32) (fm : Value) (h0 : Heap) (n0 : Nat) (Z0 : n0 ≤ h0.size) (S_CS : own_A0 Z zCS) (nCS : ¬ zCS = 0) (S_AD : own_A1 Z) (S_HI : own_A2 Z) (S_LO : own_A3 Z) (S_SF : own_A4 Z fm) (hfm : fm.isRef = true) (O0 : Old Z n0 h0) (E_x : Exa Z h0 x0 "java/lang/String") (V_x : Fld Z h0 x0 "java/lang/String" "value" "[B" (.ref t)) (C_x : Fld Z h0 x0 "java/lang/String" "coder" "B" (.int 1)) (K_t : Arv Z h0 t kb .byte (4 : Int32) [(.int (StrChars.lo8 c0)), (.int (StrChars.hi8 c0)), (.int (StrChars.lo8 c1)), (.int (StrChars.hi8 c1))] (.int 0)) :
    MetFree l own_y9 (head1 (Jvm.Cond.code own_y9 jdk_42_method_54_code 1 (some .int) :: ws) (⟨1, 0, 0, 13⟩ : Room)) (fun aa U => aa = #[(.ref x0)] ∧ Z.Warmed39 U.vm ∧ U.heap = h0) (fun _ _ _ _ _ => True) (fun _ U o U' => ∃ v L, o = .returned v ∧ own_len_1_2_Q Z x0 t kb c0 c1 zCS fm h0 n0 v U'.heap L ∧ FrameEnd U o U' L (⟨1, 0, 0, 13⟩ : Room).cells (⟨1, 0, 0, 13⟩ : Room).slots) := by
  refine MetFree.of_bodySF (plainFor_of_name own_pn_java_lang_String) hisR ?_
  intro p e s m args below meth c s₁ Bd hml0 hP hK
  obtain ⟨rfl, hZ, hh⟩ := hP
  have hx := Bd.exec
  have hby := Bd.bytes
  have hml : c.maxLocals = 1 := hml0
  have hown : s.vm.findClass "java/lang/String" = some m.cls := findClass_of_methodNamed Bd.named
  have hnm := (name_of_methodNamed Bd.named Bd.method).1
  have hlk := Bd.notSynchronized
  have X0 : Stand p l e (⟨1, 0, 0, 13⟩ : Room) s m #[(.ref x0)] below meth c s₁ [] 0 0 := Stand.of_body Bd
  have e0 : s₁.heap = h0 := by rw [← hh, Bd.state]; rfl
  have N0 := Fr.nil n0
  refine own_start (Q := own_len_1_2_Q Z x0 t kb c0 c1 zCS fm h0 n0) (own_len_1_2_ef m x0) ?_
  refine own_g (mkF m 1 #[.val (.ref x0)] [(.ref x0)]) (fun _ q => XS.aloadN X0.here hx rfl (hb hby own_d6_0) rfl rfl q) ?_
  obtain ⟨T1, X1, e1, st1⟩ := getF X0 hx hZ hown (host := "") (Or.inl (own_h hw 25 rfl)) Via.refl e0 V_x (g := (mkF m 1 #[.val (.ref x0)] [(.ref x0)])) rfl rfl (hb hby own_d6_1)
  refine own_by (g' := (mkF m 4 #[.val (.ref x0)] [(.ref t)])) st1 ?_
  obtain ⟨cl2, Ar2, q2, S2, P2, H2, G2⟩ := id K_t
  refine own_by (g' := (mkF m 5 #[.val (.ref x0)] [(.int 4)])) (fun _ kq => X1.arraylength hx (by rw [e1]; exact Ar2.1) (State.isArrayOf_alike hZ.alike Ar2.2.1) (g := (mkF m 4 #[.val (.ref x0)] [(.ref t)])) rfl rfl (hb hby own_d6_4) _ (by rw [len_of S2 P2]; exact kq)) ?_
  refine own_g (mkF m 6 #[.val (.ref x0)] [(.ref x0), (.int 4)]) (fun _ q => XS.aloadN X1.here hx rfl (hb hby own_d6_5) rfl rfl q) ?_
  refine own_callV X1 hx hZ (y := own_y7) (z := own_y7) hown (own_h hw 36 rfl) (own_h hw 37 rfl) (own_nf (own_h hw 39 rfl)) (own_h hw 39 rfl) (own_h hw 38 rfl) (own_h hw 40 rfl) (own_h hw 8 rfl) (by decide) E_x (own_cdr_1 l Z a0 hw [] x0  zCS fm h0 n0 Z0 S_CS nCS S_AD S_HI S_LO S_SF hfm O0 C_x) (by decide) (by decide) e1 (g := (mkF m 6 #[.val (.ref x0)] [(.ref x0), (.int 4)])) rfl (by rw [hml]; rfl) (argsL := []) (rest := [(.int 4)]) (lenOf own_pd__28_29B rfl) rfl (W := 1) (by show 2 * 0 + _ ≤ _; exact Nat.le_of_eq rfl) (hb hby own_d6_6) rfl (by decide) (by decide) ?_
  rintro rv3 T3 L3 X3 ⟨rfl, Nq3, eh3⟩
  have N3 := Fr.app N0 Nq3
  refine own_g (mkF m 10 #[.val (.ref x0)] [(.int 2)]) (fun _ q => XS.ishr X3.here hx rfl (hb hby own_d6_9) rfl q) ?_
  exact own_end X3 (v := some (.int 2)) (fun h => by rw [Bd.returns] at h; cases h) hlk (fun hr => retOut X3 hx Bd.returns rfl (Or.inl ⟨rfl, Or.inl rfl, _, rfl⟩) (hb hby own_d6_10) hr) (by rw [eh3]; exact ⟨rfl, N3, rfl⟩) (by decide) (by decide)
theorem own_len_1_3_ef (m : MethodId) (x0 : Addr) : entryFrame m #[(.ref x0)] 1 = mkF m 0 #[.val (.ref x0)] [] := by  first | (simp [entryFrame, mkF, argsToLocals, Value.category]; done) | rfl
def own_len_1_3_Q (Z : State) (x0 : Addr) (t : Addr) (kb : ClassId) (c0 : Int32) (c1 : Int32) (c2 : Int32) (zCS : Int32) (fm : Value) (h0 : Heap) (n0 : Nat) (v : Option Value) (h : Heap) (L : List Loc) : Prop := v = some (.int 3) ∧ Fr n0 L ∧ h = h0
set_option maxRecDepth 65536 in
set_option maxHeartbeats 40000000 in
theorem own_len_1_3 (l : Launch) (Z : State) (a0 : Array Value) (hw : ∀ d ∈ tables_1, d.before a0 Z = true) (ws : List Jvm.Cond) (x0 : Addr) (t : Addr) (kb : ClassId) (c0 : Int32) (c1 : Int32) (c2 : Int32) (zCS : Int32) (fm : Value) (h0 : Heap) (n0 : Nat) (Z0 : n0 ≤ h0.size) (S_CS : own_A0 Z zCS) (nCS : ¬ zCS = 0) (S_AD : own_A1 Z) (S_HI : own_A2 Z) (S_LO : own_A3 Z) (S_SF : own_A4 Z fm) (hfm : fm.isRef = true) (O0 : Old Z n0 h0) (E_x : Exa Z h0 x0 "java/lang/String") (V_x : Fld Z h0 x0 "java/lang/String" "value" "[B" (.ref t)) (C_x : Fld Z h0 x0 "java/lang/String" "coder" "B" (.int 1)) (K_t : Arv Z h0 t kb .byte (6 : Int32) [(.int (StrChars.lo8 c0)), (.int (StrChars.hi8 c0)), (.int (StrChars.lo8 c1)), (.int (StrChars.hi8 c1)), (.int (StrChars.lo8 c2)), (.int (StrChars.hi8 c2))] (.int 0)) :
    MetFree l own_y9 (head1 (Jvm.Cond.code own_y9 jdk_42_method_54_code 1 (some .int) :: ws) (⟨1, 0, 0, 13⟩ : Room)) (fun aa U => aa = #[(.ref x0)] ∧ Z.Warmed39 U.vm ∧ U.heap = h0) (fun _ _ _ _ _ => True) (fun _ U o U' => ∃ v L, o = .returned v ∧ own_len_1_3_Q Z x0 t kb c0 c1 c2 zCS fm h0 n0 v U'.heap L ∧ FrameEnd U o U' L (⟨1, 0, 0, 13⟩ : Room).cells (⟨1, 0, 0, 13⟩ : Room).slots) := by
  refine MetFree.of_bodySF (plainFor_of_name own_pn_java_lang_String) hisR ?_
  intro p e s m args below meth c s₁ Bd hml0 hP hK
  obtain ⟨rfl, hZ, hh⟩ := hP
  have hx := Bd.exec
  have hby := Bd.bytes
  have hml : c.maxLocals = 1 := hml0
  have hown : s.vm.findClass "java/lang/String" = some m.cls := findClass_of_methodNamed Bd.named
  have hnm := (name_of_methodNamed Bd.named Bd.method).1
  have hlk := Bd.notSynchronized
  have X0 : Stand p l e (⟨1, 0, 0, 13⟩ : Room) s m #[(.ref x0)] below meth c s₁ [] 0 0 := Stand.of_body Bd
  have e0 : s₁.heap = h0 := by rw [← hh, Bd.state]; rfl
  have N0 := Fr.nil n0
  refine own_start (Q := own_len_1_3_Q Z x0 t kb c0 c1 c2 zCS fm h0 n0) (own_len_1_3_ef m x0) ?_
  refine own_g (mkF m 1 #[.val (.ref x0)] [(.ref x0)]) (fun _ q => XS.aloadN X0.here hx rfl (hb hby own_d6_0) rfl rfl q) ?_
  obtain ⟨T1, X1, e1, st1⟩ := getF X0 hx hZ hown (host := "") (Or.inl (own_h hw 25 rfl)) Via.refl e0 V_x (g := (mkF m 1 #[.val (.ref x0)] [(.ref x0)])) rfl rfl (hb hby own_d6_1)
  refine own_by (g' := (mkF m 4 #[.val (.ref x0)] [(.ref t)])) st1 ?_
  obtain ⟨cl2, Ar2, q2, S2, P2, H2, G2⟩ := id K_t
  refine own_by (g' := (mkF m 5 #[.val (.ref x0)] [(.int 6)])) (fun _ kq => X1.arraylength hx (by rw [e1]; exact Ar2.1) (State.isArrayOf_alike hZ.alike Ar2.2.1) (g := (mkF m 4 #[.val (.ref x0)] [(.ref t)])) rfl rfl (hb hby own_d6_4) _ (by rw [len_of S2 P2]; exact kq)) ?_
  refine own_g (mkF m 6 #[.val (.ref x0)] [(.ref x0), (.int 6)]) (fun _ q => XS.aloadN X1.here hx rfl (hb hby own_d6_5) rfl rfl q) ?_
  refine own_callV X1 hx hZ (y := own_y7) (z := own_y7) hown (own_h hw 36 rfl) (own_h hw 37 rfl) (own_nf (own_h hw 39 rfl)) (own_h hw 39 rfl) (own_h hw 38 rfl) (own_h hw 40 rfl) (own_h hw 8 rfl) (by decide) E_x (own_cdr_1 l Z a0 hw [] x0  zCS fm h0 n0 Z0 S_CS nCS S_AD S_HI S_LO S_SF hfm O0 C_x) (by decide) (by decide) e1 (g := (mkF m 6 #[.val (.ref x0)] [(.ref x0), (.int 6)])) rfl (by rw [hml]; rfl) (argsL := []) (rest := [(.int 6)]) (lenOf own_pd__28_29B rfl) rfl (W := 1) (by show 2 * 0 + _ ≤ _; exact Nat.le_of_eq rfl) (hb hby own_d6_6) rfl (by decide) (by decide) ?_
  rintro rv3 T3 L3 X3 ⟨rfl, Nq3, eh3⟩
  have N3 := Fr.app N0 Nq3
  refine own_g (mkF m 10 #[.val (.ref x0)] [(.int 3)]) (fun _ q => XS.ishr X3.here hx rfl (hb hby own_d6_9) rfl q) ?_
  exact own_end X3 (v := some (.int 3)) (fun h => by rw [Bd.returns] at h; cases h) hlk (fun hr => retOut X3 hx Bd.returns rfl (Or.inl ⟨rfl, Or.inl rfl, _, rfl⟩) (hb hby own_d6_10) hr) (by rw [eh3]; exact ⟨rfl, N3, rfl⟩) (by decide) (by decide)
theorem own_d14_0 : decode jdk_43_method_2_code 0 = .ok (.iload_n 1, 1) := by decide +kernel
theorem own_d14_1 : decode jdk_43_method_2_code 1 = .ok (.aload_n 0, 1) := by decide +kernel
theorem own_d14_2 : decode jdk_43_method_2_code 2 = .ok (.arraylength, 1) := by decide +kernel
theorem own_d14_3 : decode jdk_43_method_2_code 3 = .ok (.invokestatic 9, 3) := by decide +kernel
theorem own_d14_6 : decode jdk_43_method_2_code 6 = .ok (.aload_n 0, 1) := by decide +kernel
theorem own_d14_7 : decode jdk_43_method_2_code 7 = .ok (.iload_n 1, 1) := by decide +kernel
theorem own_d14_8 : decode jdk_43_method_2_code 8 = .ok (.baload, 1) := by decide +kernel
theorem own_d14_9 : decode jdk_43_method_2_code 9 = .ok (.sipush 255, 3) := by decide +kernel
theorem own_d14_12 : decode jdk_43_method_2_code 12 = .ok (.iand, 1) := by decide +kernel
theorem own_d14_13 : decode jdk_43_method_2_code 13 = .ok (.i2c, 1) := by decide +kernel
theorem own_d14_14 : decode jdk_43_method_2_code 14 = .ok (.ireturn, 1) := by decide +kernel
theorem own_lc_1_0_ef (m : MethodId) (b : Addr) : entryFrame m #[(.ref b), (.int 0)] 2 = mkF m 0 #[.val (.ref b), .val (.int 0)] [] := by  first | (simp [entryFrame, mkF, argsToLocals, Value.category]; done) | rfl
def own_lc_1_0_Q (Z : State) (b : Addr) (kb : ClassId) (u0 : Int32) (zCS : Int32) (fm : Value) (h0 : Heap) (n0 : Nat) (v : Option Value) (h : Heap) (L : List Loc) : Prop := v = some (.int (nar .char (StrChars.chr8 u0))) ∧ Fr n0 L ∧ h = h0
theorem own_pn_java_lang_StringLatin1 : plainName "java/lang/StringLatin1" = true := by first | (simp [plainName, overriddenIn]; done) | decide +kernel
set_option maxRecDepth 65536 in
set_option maxHeartbeats 40000000 in
theorem own_lc_1_0 (l : Launch) (Z : State) (a0 : Array Value) (hw : ∀ d ∈ tables_1, d.before a0 Z = true) (ws : List Jvm.Cond) (b : Addr) (kb : ClassId) (u0 : Int32) (zCS : Int32) (fm : Value) (h0 : Heap) (n0 : Nat) (Z0 : n0 ≤ h0.size) (S_CS : own_A0 Z zCS) (nCS : ¬ zCS = 0) (S_AD : own_A1 Z) (S_HI : own_A2 Z) (S_LO : own_A3 Z) (S_SF : own_A4 Z fm) (hfm : fm.isRef = true) (O0 : Old Z n0 h0) (K_b : Arv Z h0 b kb .byte (1 : Int32) [(.int u0)] (.int 0)) :
    MetFree l own_y10 (head1 (Jvm.Cond.code own_y10 jdk_43_method_2_code 2 (some .char) :: ws) (⟨2, 0, 0, 27⟩ : Room)) (fun aa U => aa = #[(.ref b), (.int 0)] ∧ Z.Warmed39 U.vm ∧ U.heap = h0) (fun _ _ _ _ _ => True) (fun _ U o U' => ∃ v L, o = .returned v ∧ own_lc_1_0_Q Z b kb u0 zCS fm h0 n0 v U'.heap L ∧ FrameEnd U o U' L (⟨2, 0, 0, 27⟩ : Room).cells (⟨2, 0, 0, 27⟩ : Room).slots) := by
  refine MetFree.of_bodySF (plainFor_of_name own_pn_java_lang_StringLatin1) hisR ?_
  intro p e s m args below meth c s₁ Bd hml0 hP hK
  obtain ⟨rfl, hZ, hh⟩ := hP
  have hx := Bd.exec
  have hby := Bd.bytes
  have hml : c.maxLocals = 2 := hml0
  have hown : s.vm.findClass "java/lang/StringLatin1" = some m.cls := findClass_of_methodNamed Bd.named
  have hnm := (name_of_methodNamed Bd.named Bd.method).1
  have hlk := Bd.notSynchronized
  have X0 : Stand p l e (⟨2, 0, 0, 27⟩ : Room) s m #[(.ref b), (.int 0)] below meth c s₁ [] 0 0 := Stand.of_body Bd
  have e0 : s₁.heap = h0 := by rw [← hh, Bd.state]; rfl
  have N0 := Fr.nil n0
  refine own_start (Q := own_lc_1_0_Q Z b kb u0 zCS fm h0 n0) (own_lc_1_0_ef m b) ?_
  refine own_g (mkF m 2 #[.val (.ref b), .val (.int 0)] [(.ref b), (.int 0)]) (fun _ q => XS.iloadN X0.here hx rfl (hb hby own_d14_0) rfl (XS.aloadN X0.here hx rfl (hb hby own_d14_1) rfl rfl q)) ?_
  obtain ⟨cl1, Ar1, q1, S1, P1, H1, G1⟩ := id K_b
  refine own_by (g' := (mkF m 3 #[.val (.ref b), .val (.int 0)] [(.int 1), (.int 0)])) (fun _ kq => X0.arraylength hx (by rw [e0]; exact Ar1.1) (State.isArrayOf_alike hZ.alike Ar1.2.1) (g := (mkF m 2 #[.val (.ref b), .val (.int 0)] [(.ref b), (.int 0)])) rfl rfl (hb hby own_d14_2) _ (by rw [len_of S1 P1]; exact kq)) ?_
  refine own_callS X0 hx hZ (y := own_y6) hown (own_h hw 69 rfl) (own_h hw 70 rfl) (own_h hw 8 rfl) (own_h hw 71 rfl) (by decide) (own_sci_1_0 l Z a0 hw [] zCS fm h0 n0 Z0 S_CS nCS S_AD S_HI S_LO S_SF hfm O0) (by decide) (by decide) e0 (g := (mkF m 3 #[.val (.ref b), .val (.int 0)] [(.int 1), (.int 0)])) rfl (by rw [hml]; rfl) (argsL := [(.int 0), (.int 1)]) (rest := []) (lenOf own_pd__28II_29V rfl) rfl (W := 0) (by show 2 * 0 + _ ≤ _; exact Nat.le_of_eq rfl) (hb hby own_d14_3) rfl (by decide) (by decide) ?_
  rintro rv2 T2 L2 X2 ⟨rfl, Nq2, eh2⟩
  have N2 := Fr.app N0 Nq2
  refine own_g (mkF m 8 #[.val (.ref b), .val (.int 0)] [(.int 0), (.ref b)]) (fun _ q => XS.aloadN X2.here hx rfl (hb hby own_d14_6) rfl rfl (XS.iloadN X2.here hx rfl (hb hby own_d14_7) rfl q)) ?_
  obtain ⟨cl3, Ar3, q3, S3, P3, H3, G3⟩ := id K_b
  have hin3 : ¬ ((0 : Int32) < 0 ∨ cl3.slots.size ≤ ((0 : Int32)).toNatClampNeg) := inb_of S3 ⟨by decide, by decide⟩
  refine own_by (g' := (mkF m 9 #[.val (.ref b), .val (.int 0)] [(.int u0)])) (fun _ kq => X2.baloadBytes hx (j := (0 : Int32)) (v := (.int u0)) (by rw [eh2]; exact Ar3.1) (State.isArrayOf_alike hZ.alike Ar3.2.1) Ar3.2.2 hin3 (H3.at hin3 rfl) (g := (mkF m 8 #[.val (.ref b), .val (.int 0)] [(.int 0), (.ref b)])) rfl rfl (hb hby own_d14_8) _ kq) ?_
  refine own_g (mkF m 14 #[.val (.ref b), .val (.int 0)] [(.int ((u0 &&& (255 : Int32)).toUInt32.toUInt16.toUInt32.toInt32))]) (fun _ q => XS.sipush X2.here hx rfl (hb hby own_d14_9) (XS.iand X2.here hx rfl (hb hby own_d14_12) rfl (XS.i2c X2.here hx rfl (hb hby own_d14_13) rfl q))) ?_
  exact own_end X2 (v := some (.int (nar .char ((u0 &&& (255 : Int32)).toUInt32.toUInt16.toUInt32.toInt32)))) (fun h => by rw [Bd.returns] at h; cases h) hlk (fun hr => retN X2 hx (t := .char) Bd.returns (by simp) (hb hby own_d14_14) hr) (by rw [eh2]; exact ⟨rfl, N2, rfl⟩) (by decide) (by decide)
theorem own_d22_0 : decode jdk_52_method_83_code 0 = .ok (.iload_n 1, 1) := by decide +kernel
theorem own_d22_1 : decode jdk_52_method_83_code 1 = .ok (.aload_n 0, 1) := by decide +kernel
theorem own_d22_2 : decode jdk_52_method_83_code 2 = .ok (.invokestatic 67, 3) := by decide +kernel
theorem own_pd__28I_5bB_29V : parseMethodDescriptor "(I[B)V" = some ⟨[.int, (.array .byte)], none⟩ := by decide +kernel
theorem own_d22_5 : decode jdk_52_method_83_code 5 = .ok (.aload_n 0, 1) := by decide +kernel
theorem own_d22_6 : decode jdk_52_method_83_code 6 = .ok (.iload_n 1, 1) := by decide +kernel
theorem own_d22_7 : decode jdk_52_method_83_code 7 = .ok (.invokestatic 71, 3) := by decide +kernel
theorem own_d22_10 : decode jdk_52_method_83_code 10 = .ok (.ireturn, 1) := by decide +kernel
theorem own_uc_1_0_ef (m : MethodId) (b : Addr) : entryFrame m #[(.ref b), (.int 0)] 2 = mkF m 0 #[.val (.ref b), .val (.int 0)] [] := by  first | (simp [entryFrame, mkF, argsToLocals, Value.category]; done) | rfl
def own_uc_1_0_Q (Z : State) (b : Addr) (kb : ClassId) (u0 : Int32) (u1 : Int32) (zCS : Int32) (fm : Value) (h0 : Heap) (n0 : Nat) (v : Option Value) (h : Heap) (L : List Loc) : Prop := v = some (.int (nar .char (nar .char (StrChars.pairCh u0 u1)))) ∧ Fr n0 L ∧ h = h0
set_option maxRecDepth 65536 in
set_option maxHeartbeats 40000000 in
theorem own_uc_1_0 (l : Launch) (Z : State) (a0 : Array Value) (hw : ∀ d ∈ tables_1, d.before a0 Z = true) (ws : List Jvm.Cond) (b : Addr) (kb : ClassId) (u0 : Int32) (u1 : Int32) (zCS : Int32) (fm : Value) (h0 : Heap) (n0 : Nat) (Z0 : n0 ≤ h0.size) (S_CS : own_A0 Z zCS) (nCS : ¬ zCS = 0) (S_AD : own_A1 Z) (S_HI : own_A2 Z) (S_LO : own_A3 Z) (S_SF : own_A4 Z fm) (hfm : fm.isRef = true) (O0 : Old Z n0 h0) (K_b : Arv Z h0 b kb .byte (2 : Int32) [(.int u0), (.int u1)] (.int 0)) :
    MetFree l own_y11 (head1 (Jvm.Cond.code own_y11 jdk_52_method_83_code 2 (some .char) :: ws) (⟨3, 0, 0, 40⟩ : Room)) (fun aa U => aa = #[(.ref b), (.int 0)] ∧ Z.Warmed39 U.vm ∧ U.heap = h0) (fun _ _ _ _ _ => True) (fun _ U o U' => ∃ v L, o = .returned v ∧ own_uc_1_0_Q Z b kb u0 u1 zCS fm h0 n0 v U'.heap L ∧ FrameEnd U o U' L (⟨3, 0, 0, 40⟩ : Room).cells (⟨3, 0, 0, 40⟩ : Room).slots) := by
  refine MetFree.of_bodySF (plainFor_of_name own_pn_java_lang_StringUTF16) hisR ?_
  intro p e s m args below meth c s₁ Bd hml0 hP hK
  obtain ⟨rfl, hZ, hh⟩ := hP
  have hx := Bd.exec
  have hby := Bd.bytes
  have hml : c.maxLocals = 2 := hml0
  have hown : s.vm.findClass "java/lang/StringUTF16" = some m.cls := findClass_of_methodNamed Bd.named
  have hnm := (name_of_methodNamed Bd.named Bd.method).1
  have hlk := Bd.notSynchronized
  have X0 : Stand p l e (⟨3, 0, 0, 40⟩ : Room) s m #[(.ref b), (.int 0)] below meth c s₁ [] 0 0 := Stand.of_body Bd
  have e0 : s₁.heap = h0 := by rw [← hh, Bd.state]; rfl
  have N0 := Fr.nil n0
  refine own_start (Q := own_uc_1_0_Q Z b kb u0 u1 zCS fm h0 n0) (own_uc_1_0_ef m b) ?_
  refine own_g (mkF m 2 #[.val (.ref b), .val (.int 0)] [(.ref b), (.int 0)]) (fun _ q => XS.iloadN X0.here hx rfl (hb hby own_d22_0) rfl (XS.aloadN X0.here hx rfl (hb hby own_d22_1) rfl rfl q)) ?_
  refine own_callS X0 hx hZ (y := own_y12) hown (own_h hw 100 rfl) (own_h hw 101 rfl) (own_h hw 44 rfl) (own_h hw 102 rfl) (by decide) (own_uci_1_0 l Z a0 hw [] b kb _ _ zCS fm h0 n0 Z0 S_CS nCS S_AD S_HI S_LO S_SF hfm O0 K_b) (by decide) (by decide) e0 (g := (mkF m 2 #[.val (.ref b), .val (.int 0)] [(.ref b), (.int 0)])) rfl (by rw [hml]; rfl) (argsL := [(.int 0), (.ref b)]) (rest := []) (lenOf own_pd__28I_5bB_29V rfl) rfl (W := 0) (by show 2 * 0 + _ ≤ _; exact Nat.le_of_eq rfl) (hb hby own_d22_2) rfl (by decide) (by decide) ?_
  rintro rv1 T1 L1 X1 ⟨rfl, Nq1, eh1⟩
  have N1 := Fr.app N0 Nq1
  refine own_g (mkF m 7 #[.val (.ref b), .val (.int 0)] [(.int 0), (.ref b)]) (fun _ q => XS.aloadN X1.here hx rfl (hb hby own_d22_5) rfl rfl (XS.iloadN X1.here hx rfl (hb hby own_d22_6) rfl q)) ?_
  refine own_callS X1 hx hZ (y := own_y16) hown (own_h hw 94 rfl) (own_h hw 95 rfl) (own_h hw 44 rfl) (own_h hw 96 rfl) (by decide) (own_get_1_0 l Z a0 hw [] b kb u0 u1 zCS fm h0 n0 Z0 S_CS nCS S_AD S_HI S_LO S_SF hfm O0 K_b) (by decide) (by decide) eh1 (g := (mkF m 7 #[.val (.ref b), .val (.int 0)] [(.int 0), (.ref b)])) rfl (by rw [hml]; rfl) (argsL := [(.ref b), (.int 0)]) (rest := []) (lenOf own_pd__28_5bBI_29C rfl) rfl (W := 0) (by show 2 * 0 + _ ≤ _; exact Nat.le_of_eq rfl) (hb hby own_d22_7) rfl (by decide) (by decide) ?_
  rintro rv2 T2 L2 X2 ⟨rfl, Nq2, eh2⟩
  have N2 := Fr.app N1 Nq2
  show own_Fin p e below _ T2 (mkF m 10 #[.val (.ref b), .val (.int 0)] [(.int (nar .char (StrChars.pairCh u0 u1)))])
  exact own_end X2 (v := some (.int (nar .char (nar .char (StrChars.pairCh u0 u1))))) (fun h => by rw [Bd.returns] at h; cases h) hlk (fun hr => retN X2 hx (t := .char) Bd.returns (by simp) (hb hby own_d22_10) hr) (by rw [eh2]; exact ⟨rfl, N2, rfl⟩) (by decide) (by decide)
theorem own_d12_0 : decode jdk_42_method_56_code 0 = .ok (.aload_n 0, 1) := by decide +kernel
theorem own_d12_1 : decode jdk_42_method_56_code 1 = .ok (.invokevirtual 492, 3) := by decide +kernel
theorem own_pd__28_29Z : parseMethodDescriptor "()Z" = some ⟨[], some .boolean⟩ := by decide +kernel
theorem own_d12_4 : decode jdk_42_method_56_code 4 = .ok (.ifCond .eq 12, 3) := by decide +kernel
theorem own_d12_7 : decode jdk_42_method_56_code 7 = .ok (.aload_n 0, 1) := by decide +kernel
theorem own_d12_8 : decode jdk_42_method_56_code 8 = .ok (.getfield 9, 3) := by decide +kernel
theorem own_d12_11 : decode jdk_42_method_56_code 11 = .ok (.iload_n 1, 1) := by decide +kernel
theorem own_d12_12 : decode jdk_42_method_56_code 12 = .ok (.invokestatic 495, 3) := by decide +kernel
theorem own_d12_15 : decode jdk_42_method_56_code 15 = .ok (.ireturn, 1) := by decide +kernel
theorem own_ch_0_1_0_ef (m : MethodId) (x0 : Addr) : entryFrame m #[(.ref x0), (.int 0)] 2 = mkF m 0 #[.val (.ref x0), .val (.int 0)] [] := by  first | (simp [entryFrame, mkF, argsToLocals, Value.category]; done) | rfl
def own_ch_0_1_0_Q (Z : State) (x0 : Addr) (t : Addr) (kb : ClassId) (c0 : Int32) (zCS : Int32) (fm : Value) (h0 : Heap) (n0 : Nat) (v : Option Value) (h : Heap) (L : List Loc) : Prop := v = some (.int c0) ∧ Fr n0 L ∧ h = h0
set_option maxRecDepth 65536 in
set_option maxHeartbeats 40000000 in
theorem own_ch_0_1_0 (l : Launch) (Z : State) (a0 : Array Value) (hw : ∀ d ∈ tables_1, d.before a0 Z = true) (ws : List Jvm.Cond) (x0 : Addr) (t : Addr) (kb : ClassId) (c0 : Int32) (zCS : Int32) (fm : Value) (h0 : Heap) (n0 : Nat) (Z0 : n0 ≤ h0.size) (S_CS : own_A0 Z zCS) (nCS : ¬ zCS = 0) (S_AD : own_A1 Z) (S_HI : own_A2 Z) (S_LO : own_A3 Z) (S_SF : own_A4 Z fm) (hfm : fm.isRef = true) (O0 : Old Z n0 h0) (E_x : Exa Z h0 x0 "java/lang/String") (V_x : Fld Z h0 x0 "java/lang/String" "value" "[B" (.ref t)) (C_x : Fld Z h0 x0 "java/lang/String" "coder" "B" (.int 0)) (K_t : Arv Z h0 t kb .byte (1 : Int32) [(.int (StrChars.lo8 c0))] (.int 0)) (hbd : ¬ c0 < 0 ∧ ¬ (255 : Int32) < c0) (hnd : nar .char c0 = c0) :
    MetFree l own_y5 (head1 (Jvm.Cond.code own_y5 jdk_42_method_56_code 2 (some .char) :: ws) (⟨3, 0, 0, 40⟩ : Room)) (fun aa U => aa = #[(.ref x0), (.int 0)] ∧ Z.Warmed39 U.vm ∧ U.heap = h0) (fun _ _ _ _ _ => True) (fun _ U o U' => ∃ v L, o = .returned v ∧ own_ch_0_1_0_Q Z x0 t kb c0 zCS fm h0 n0 v U'.heap L ∧ FrameEnd U o U' L (⟨3, 0, 0, 40⟩ : Room).cells (⟨3, 0, 0, 40⟩ : Room).slots) := by
  refine MetFree.of_bodySF (plainFor_of_name own_pn_java_lang_String) hisR ?_
  intro p e s m args below meth c s₁ Bd hml0 hP hK
  obtain ⟨rfl, hZ, hh⟩ := hP
  have hx := Bd.exec
  have hby := Bd.bytes
  have hml : c.maxLocals = 2 := hml0
  have hown : s.vm.findClass "java/lang/String" = some m.cls := findClass_of_methodNamed Bd.named
  have hnm := (name_of_methodNamed Bd.named Bd.method).1
  have hlk := Bd.notSynchronized
  have X0 : Stand p l e (⟨3, 0, 0, 40⟩ : Room) s m #[(.ref x0), (.int 0)] below meth c s₁ [] 0 0 := Stand.of_body Bd
  have e0 : s₁.heap = h0 := by rw [← hh, Bd.state]; rfl
  have N0 := Fr.nil n0
  refine own_start (Q := own_ch_0_1_0_Q Z x0 t kb c0 zCS fm h0 n0) (own_ch_0_1_0_ef m x0) ?_
  refine own_g (mkF m 1 #[.val (.ref x0), .val (.int 0)] [(.ref x0)]) (fun _ q => XS.aloadN X0.here hx rfl (hb hby own_d12_0) rfl rfl q) ?_
  refine own_callV X0 hx hZ (y := own_y8) (z := own_y8) hown (own_h hw 60 rfl) (own_h hw 61 rfl) (own_nf (own_h hw 63 rfl)) (own_h hw 63 rfl) (own_h hw 62 rfl) (own_h hw 64 rfl) (own_h hw 8 rfl) (by decide) E_x (own_il_0 l Z a0 hw [] x0  zCS fm h0 n0 Z0 S_CS nCS S_AD S_HI S_LO S_SF hfm O0 C_x) (by decide) (by decide) e0 (g := (mkF m 1 #[.val (.ref x0), .val (.int 0)] [(.ref x0)])) rfl (by rw [hml]; rfl) (argsL := []) (rest := []) (lenOf own_pd__28_29Z rfl) rfl (W := 0) (by show 2 * 0 + _ ≤ _; exact Nat.le_of_eq rfl) (hb hby own_d12_1) rfl (by decide) (by decide) ?_
  rintro rv1 T1 L1 X1 ⟨rfl, Nq1, eh1⟩
  have N1 := Fr.app N0 Nq1
  refine own_g (mkF m 8 #[.val (.ref x0), .val (.int 0)] [(.ref x0)]) (fun _ q => XS.ifNo X1.here hx rfl (hb hby own_d12_4) rfl ((if0 _ _).trans (feq (by decide : ¬ ((1 : Int32) = (0 : Int32)))).1) (XS.aloadN X1.here hx rfl (hb hby own_d12_7) rfl rfl q)) ?_
  obtain ⟨T2, X2, e2, st2⟩ := getF X1 hx hZ hown (host := "") (Or.inl (own_h hw 25 rfl)) Via.refl eh1 V_x (g := (mkF m 8 #[.val (.ref x0), .val (.int 0)] [(.ref x0)])) rfl rfl (hb hby own_d12_8)
  refine own_by (g' := (mkF m 11 #[.val (.ref x0), .val (.int 0)] [(.ref t)])) st2 ?_
  refine own_g (mkF m 12 #[.val (.ref x0), .val (.int 0)] [(.int 0), (.ref t)]) (fun _ q => XS.iloadN X2.here hx rfl (hb hby own_d12_11) rfl q) ?_
  refine own_callS X2 hx hZ (y := own_y10) hown (own_h hw 65 rfl) (own_h hw 66 rfl) (own_h hw 67 rfl) (own_h hw 68 rfl) (by decide) (own_lc_1_0 l Z a0 hw [] t kb (StrChars.lo8 c0) zCS fm h0 n0 Z0 S_CS nCS S_AD S_HI S_LO S_SF hfm O0 K_t) (by decide) (by decide) e2 (g := (mkF m 12 #[.val (.ref x0), .val (.int 0)] [(.int 0), (.ref t)])) rfl (by rw [hml]; rfl) (argsL := [(.ref t), (.int 0)]) (rest := []) (lenOf own_pd__28_5bBI_29C rfl) rfl (W := 0) (by show 2 * 0 + _ ≤ _; exact Nat.le_of_eq rfl) (hb hby own_d12_12) rfl (by decide) (by decide) ?_
  rintro rv3 T3 L3 X3 ⟨hv3, Nq3, eh3⟩
  have N3 := Fr.app N1 Nq3
  rw [StrChars.chr8_lo8 hbd.1 hbd.2, hnd] at hv3
  subst hv3
  show own_Fin p e below _ T3 (mkF m 15 #[.val (.ref x0), .val (.int 0)] [(.int c0)])
  exact own_end X3 (v := some (.int (nar .char c0))) (fun h => by rw [Bd.returns] at h; cases h) hlk (fun hr => retN X3 hx (t := .char) Bd.returns (by simp) (hb hby own_d12_15) hr) (by rw [eh3]; exact ⟨by rw [hnd], N3, rfl⟩) (by decide) (by decide)
theorem own_d12_16 : decode jdk_42_method_56_code 16 = .ok (.aload_n 0, 1) := by decide +kernel
theorem own_d12_17 : decode jdk_42_method_56_code 17 = .ok (.getfield 9, 3) := by decide +kernel
theorem own_d12_20 : decode jdk_42_method_56_code 20 = .ok (.iload_n 1, 1) := by decide +kernel
theorem own_d12_21 : decode jdk_42_method_56_code 21 = .ok (.invokestatic 498, 3) := by decide +kernel
theorem own_d12_24 : decode jdk_42_method_56_code 24 = .ok (.ireturn, 1) := by decide +kernel
theorem own_ch_1_1_0_ef (m : MethodId) (x0 : Addr) : entryFrame m #[(.ref x0), (.int 0)] 2 = mkF m 0 #[.val (.ref x0), .val (.int 0)] [] := by  first | (simp [entryFrame, mkF, argsToLocals, Value.category]; done) | rfl
def own_ch_1_1_0_Q (Z : State) (x0 : Addr) (t : Addr) (kb : ClassId) (c0 : Int32) (zCS : Int32) (fm : Value) (h0 : Heap) (n0 : Nat) (v : Option Value) (h : Heap) (L : List Loc) : Prop := v = some (.int c0) ∧ Fr n0 L ∧ h = h0
set_option maxRecDepth 65536 in
set_option maxHeartbeats 40000000 in
theorem own_ch_1_1_0 (l : Launch) (Z : State) (a0 : Array Value) (hw : ∀ d ∈ tables_1, d.before a0 Z = true) (ws : List Jvm.Cond) (x0 : Addr) (t : Addr) (kb : ClassId) (c0 : Int32) (zCS : Int32) (fm : Value) (h0 : Heap) (n0 : Nat) (Z0 : n0 ≤ h0.size) (S_CS : own_A0 Z zCS) (nCS : ¬ zCS = 0) (S_AD : own_A1 Z) (S_HI : own_A2 Z) (S_LO : own_A3 Z) (S_SF : own_A4 Z fm) (hfm : fm.isRef = true) (O0 : Old Z n0 h0) (E_x : Exa Z h0 x0 "java/lang/String") (V_x : Fld Z h0 x0 "java/lang/String" "value" "[B" (.ref t)) (C_x : Fld Z h0 x0 "java/lang/String" "coder" "B" (.int 1)) (K_t : Arv Z h0 t kb .byte (2 : Int32) [(.int (StrChars.lo8 c0)), (.int (StrChars.hi8 c0))] (.int 0)) (hbd : ¬ c0 < 0 ∧ ¬ (65535 : Int32) < c0) (hnd : nar .char c0 = c0) :
    MetFree l own_y5 (head1 (Jvm.Cond.code own_y5 jdk_42_method_56_code 2 (some .char) :: ws) (⟨4, 0, 0, 53⟩ : Room)) (fun aa U => aa = #[(.ref x0), (.int 0)] ∧ Z.Warmed39 U.vm ∧ U.heap = h0) (fun _ _ _ _ _ => True) (fun _ U o U' => ∃ v L, o = .returned v ∧ own_ch_1_1_0_Q Z x0 t kb c0 zCS fm h0 n0 v U'.heap L ∧ FrameEnd U o U' L (⟨4, 0, 0, 53⟩ : Room).cells (⟨4, 0, 0, 53⟩ : Room).slots) := by
  refine MetFree.of_bodySF (plainFor_of_name own_pn_java_lang_String) hisR ?_
  intro p e s m args below meth c s₁ Bd hml0 hP hK
  obtain ⟨rfl, hZ, hh⟩ := hP
  have hx := Bd.exec
  have hby := Bd.bytes
  have hml : c.maxLocals = 2 := hml0
  have hown : s.vm.findClass "java/lang/String" = some m.cls := findClass_of_methodNamed Bd.named
  have hnm := (name_of_methodNamed Bd.named Bd.method).1
  have hlk := Bd.notSynchronized
  have X0 : Stand p l e (⟨4, 0, 0, 53⟩ : Room) s m #[(.ref x0), (.int 0)] below meth c s₁ [] 0 0 := Stand.of_body Bd
  have e0 : s₁.heap = h0 := by rw [← hh, Bd.state]; rfl
  have N0 := Fr.nil n0
  refine own_start (Q := own_ch_1_1_0_Q Z x0 t kb c0 zCS fm h0 n0) (own_ch_1_1_0_ef m x0) ?_
  refine own_g (mkF m 1 #[.val (.ref x0), .val (.int 0)] [(.ref x0)]) (fun _ q => XS.aloadN X0.here hx rfl (hb hby own_d12_0) rfl rfl q) ?_
  refine own_callV X0 hx hZ (y := own_y8) (z := own_y8) hown (own_h hw 60 rfl) (own_h hw 61 rfl) (own_nf (own_h hw 63 rfl)) (own_h hw 63 rfl) (own_h hw 62 rfl) (own_h hw 64 rfl) (own_h hw 8 rfl) (by decide) E_x (own_il_1 l Z a0 hw [] x0  zCS fm h0 n0 Z0 S_CS nCS S_AD S_HI S_LO S_SF hfm O0 C_x) (by decide) (by decide) e0 (g := (mkF m 1 #[.val (.ref x0), .val (.int 0)] [(.ref x0)])) rfl (by rw [hml]; rfl) (argsL := []) (rest := []) (lenOf own_pd__28_29Z rfl) rfl (W := 0) (by show 2 * 0 + _ ≤ _; exact Nat.le_of_eq rfl) (hb hby own_d12_1) rfl (by decide) (by decide) ?_
  rintro rv1 T1 L1 X1 ⟨rfl, Nq1, eh1⟩
  have N1 := Fr.app N0 Nq1
  refine own_g (mkF m 17 #[.val (.ref x0), .val (.int 0)] [(.ref x0)]) (fun _ q => XS.ifYes X1.here hx rfl (pc0 := 4) (pc' := 16) rfl (hb hby own_d12_4) rfl ((if0 _ _).trans (teq (by decide : (0 : Int32) = (0 : Int32))).1) (by decide) (by decide) (XS.aloadN X1.here hx rfl (hb hby own_d12_16) rfl rfl q)) ?_
  obtain ⟨T2, X2, e2, st2⟩ := getF X1 hx hZ hown (host := "") (Or.inl (own_h hw 25 rfl)) Via.refl eh1 V_x (g := (mkF m 17 #[.val (.ref x0), .val (.int 0)] [(.ref x0)])) rfl rfl (hb hby own_d12_17)
  refine own_by (g' := (mkF m 20 #[.val (.ref x0), .val (.int 0)] [(.ref t)])) st2 ?_
  refine own_g (mkF m 21 #[.val (.ref x0), .val (.int 0)] [(.int 0), (.ref t)]) (fun _ q => XS.iloadN X2.here hx rfl (hb hby own_d12_20) rfl q) ?_
  refine own_callS X2 hx hZ (y := own_y11) hown (own_h hw 97 rfl) (own_h hw 98 rfl) (own_h hw 44 rfl) (own_h hw 99 rfl) (by decide) (own_uc_1_0 l Z a0 hw [] t kb (StrChars.lo8 c0) (StrChars.hi8 c0) zCS fm h0 n0 Z0 S_CS nCS S_AD S_HI S_LO S_SF hfm O0 K_t) (by decide) (by decide) e2 (g := (mkF m 21 #[.val (.ref x0), .val (.int 0)] [(.int 0), (.ref t)])) rfl (by rw [hml]; rfl) (argsL := [(.ref t), (.int 0)]) (rest := []) (lenOf own_pd__28_5bBI_29C rfl) rfl (W := 0) (by show 2 * 0 + _ ≤ _; exact Nat.le_of_eq rfl) (hb hby own_d12_21) rfl (by decide) (by decide) ?_
  rintro rv3 T3 L3 X3 ⟨hv3, Nq3, eh3⟩
  have N3 := Fr.app N1 Nq3
  rw [StrChars.pair_says hbd.1 hbd.2, hnd, hnd] at hv3
  subst hv3
  show own_Fin p e below _ T3 (mkF m 24 #[.val (.ref x0), .val (.int 0)] [(.int c0)])
  exact own_end X3 (v := some (.int (nar .char c0))) (fun h => by rw [Bd.returns] at h; cases h) hlk (fun hr => retN X3 hx (t := .char) Bd.returns (by simp) (hb hby own_d12_24) hr) (by rw [eh3]; exact ⟨by rw [hnd], N3, rfl⟩) (by decide) (by decide)
theorem own_lc_2_0_ef (m : MethodId) (b : Addr) : entryFrame m #[(.ref b), (.int 0)] 2 = mkF m 0 #[.val (.ref b), .val (.int 0)] [] := by  first | (simp [entryFrame, mkF, argsToLocals, Value.category]; done) | rfl
def own_lc_2_0_Q (Z : State) (b : Addr) (kb : ClassId) (u0 : Int32) (u1 : Int32) (zCS : Int32) (fm : Value) (h0 : Heap) (n0 : Nat) (v : Option Value) (h : Heap) (L : List Loc) : Prop := v = some (.int (nar .char (StrChars.chr8 u0))) ∧ Fr n0 L ∧ h = h0
set_option maxRecDepth 65536 in
set_option maxHeartbeats 40000000 in
theorem own_lc_2_0 (l : Launch) (Z : State) (a0 : Array Value) (hw : ∀ d ∈ tables_1, d.before a0 Z = true) (ws : List Jvm.Cond) (b : Addr) (kb : ClassId) (u0 : Int32) (u1 : Int32) (zCS : Int32) (fm : Value) (h0 : Heap) (n0 : Nat) (Z0 : n0 ≤ h0.size) (S_CS : own_A0 Z zCS) (nCS : ¬ zCS = 0) (S_AD : own_A1 Z) (S_HI : own_A2 Z) (S_LO : own_A3 Z) (S_SF : own_A4 Z fm) (hfm : fm.isRef = true) (O0 : Old Z n0 h0) (K_b : Arv Z h0 b kb .byte (2 : Int32) [(.int u0), (.int u1)] (.int 0)) :
    MetFree l own_y10 (head1 (Jvm.Cond.code own_y10 jdk_43_method_2_code 2 (some .char) :: ws) (⟨2, 0, 0, 27⟩ : Room)) (fun aa U => aa = #[(.ref b), (.int 0)] ∧ Z.Warmed39 U.vm ∧ U.heap = h0) (fun _ _ _ _ _ => True) (fun _ U o U' => ∃ v L, o = .returned v ∧ own_lc_2_0_Q Z b kb u0 u1 zCS fm h0 n0 v U'.heap L ∧ FrameEnd U o U' L (⟨2, 0, 0, 27⟩ : Room).cells (⟨2, 0, 0, 27⟩ : Room).slots) := by
  refine MetFree.of_bodySF (plainFor_of_name own_pn_java_lang_StringLatin1) hisR ?_
  intro p e s m args below meth c s₁ Bd hml0 hP hK
  obtain ⟨rfl, hZ, hh⟩ := hP
  have hx := Bd.exec
  have hby := Bd.bytes
  have hml : c.maxLocals = 2 := hml0
  have hown : s.vm.findClass "java/lang/StringLatin1" = some m.cls := findClass_of_methodNamed Bd.named
  have hnm := (name_of_methodNamed Bd.named Bd.method).1
  have hlk := Bd.notSynchronized
  have X0 : Stand p l e (⟨2, 0, 0, 27⟩ : Room) s m #[(.ref b), (.int 0)] below meth c s₁ [] 0 0 := Stand.of_body Bd
  have e0 : s₁.heap = h0 := by rw [← hh, Bd.state]; rfl
  have N0 := Fr.nil n0
  refine own_start (Q := own_lc_2_0_Q Z b kb u0 u1 zCS fm h0 n0) (own_lc_2_0_ef m b) ?_
  refine own_g (mkF m 2 #[.val (.ref b), .val (.int 0)] [(.ref b), (.int 0)]) (fun _ q => XS.iloadN X0.here hx rfl (hb hby own_d14_0) rfl (XS.aloadN X0.here hx rfl (hb hby own_d14_1) rfl rfl q)) ?_
  obtain ⟨cl1, Ar1, q1, S1, P1, H1, G1⟩ := id K_b
  refine own_by (g' := (mkF m 3 #[.val (.ref b), .val (.int 0)] [(.int 2), (.int 0)])) (fun _ kq => X0.arraylength hx (by rw [e0]; exact Ar1.1) (State.isArrayOf_alike hZ.alike Ar1.2.1) (g := (mkF m 2 #[.val (.ref b), .val (.int 0)] [(.ref b), (.int 0)])) rfl rfl (hb hby own_d14_2) _ (by rw [len_of S1 P1]; exact kq)) ?_
  refine own_callS X0 hx hZ (y := own_y6) hown (own_h hw 69 rfl) (own_h hw 70 rfl) (own_h hw 8 rfl) (own_h hw 71 rfl) (by decide) (own_sci_2_0 l Z a0 hw [] zCS fm h0 n0 Z0 S_CS nCS S_AD S_HI S_LO S_SF hfm O0) (by decide) (by decide) e0 (g := (mkF m 3 #[.val (.ref b), .val (.int 0)] [(.int 2), (.int 0)])) rfl (by rw [hml]; rfl) (argsL := [(.int 0), (.int 2)]) (rest := []) (lenOf own_pd__28II_29V rfl) rfl (W := 0) (by show 2 * 0 + _ ≤ _; exact Nat.le_of_eq rfl) (hb hby own_d14_3) rfl (by decide) (by decide) ?_
  rintro rv2 T2 L2 X2 ⟨rfl, Nq2, eh2⟩
  have N2 := Fr.app N0 Nq2
  refine own_g (mkF m 8 #[.val (.ref b), .val (.int 0)] [(.int 0), (.ref b)]) (fun _ q => XS.aloadN X2.here hx rfl (hb hby own_d14_6) rfl rfl (XS.iloadN X2.here hx rfl (hb hby own_d14_7) rfl q)) ?_
  obtain ⟨cl3, Ar3, q3, S3, P3, H3, G3⟩ := id K_b
  have hin3 : ¬ ((0 : Int32) < 0 ∨ cl3.slots.size ≤ ((0 : Int32)).toNatClampNeg) := inb_of S3 ⟨by decide, by decide⟩
  refine own_by (g' := (mkF m 9 #[.val (.ref b), .val (.int 0)] [(.int u0)])) (fun _ kq => X2.baloadBytes hx (j := (0 : Int32)) (v := (.int u0)) (by rw [eh2]; exact Ar3.1) (State.isArrayOf_alike hZ.alike Ar3.2.1) Ar3.2.2 hin3 (H3.at hin3 rfl) (g := (mkF m 8 #[.val (.ref b), .val (.int 0)] [(.int 0), (.ref b)])) rfl rfl (hb hby own_d14_8) _ kq) ?_
  refine own_g (mkF m 14 #[.val (.ref b), .val (.int 0)] [(.int ((u0 &&& (255 : Int32)).toUInt32.toUInt16.toUInt32.toInt32))]) (fun _ q => XS.sipush X2.here hx rfl (hb hby own_d14_9) (XS.iand X2.here hx rfl (hb hby own_d14_12) rfl (XS.i2c X2.here hx rfl (hb hby own_d14_13) rfl q))) ?_
  exact own_end X2 (v := some (.int (nar .char ((u0 &&& (255 : Int32)).toUInt32.toUInt16.toUInt32.toInt32)))) (fun h => by rw [Bd.returns] at h; cases h) hlk (fun hr => retN X2 hx (t := .char) Bd.returns (by simp) (hb hby own_d14_14) hr) (by rw [eh2]; exact ⟨rfl, N2, rfl⟩) (by decide) (by decide)
theorem own_uc_2_0_ef (m : MethodId) (b : Addr) : entryFrame m #[(.ref b), (.int 0)] 2 = mkF m 0 #[.val (.ref b), .val (.int 0)] [] := by  first | (simp [entryFrame, mkF, argsToLocals, Value.category]; done) | rfl
def own_uc_2_0_Q (Z : State) (b : Addr) (kb : ClassId) (u0 : Int32) (u1 : Int32) (u2 : Int32) (u3 : Int32) (zCS : Int32) (fm : Value) (h0 : Heap) (n0 : Nat) (v : Option Value) (h : Heap) (L : List Loc) : Prop := v = some (.int (nar .char (nar .char (StrChars.pairCh u0 u1)))) ∧ Fr n0 L ∧ h = h0
set_option maxRecDepth 65536 in
set_option maxHeartbeats 40000000 in
theorem own_uc_2_0 (l : Launch) (Z : State) (a0 : Array Value) (hw : ∀ d ∈ tables_1, d.before a0 Z = true) (ws : List Jvm.Cond) (b : Addr) (kb : ClassId) (u0 : Int32) (u1 : Int32) (u2 : Int32) (u3 : Int32) (zCS : Int32) (fm : Value) (h0 : Heap) (n0 : Nat) (Z0 : n0 ≤ h0.size) (S_CS : own_A0 Z zCS) (nCS : ¬ zCS = 0) (S_AD : own_A1 Z) (S_HI : own_A2 Z) (S_LO : own_A3 Z) (S_SF : own_A4 Z fm) (hfm : fm.isRef = true) (O0 : Old Z n0 h0) (K_b : Arv Z h0 b kb .byte (4 : Int32) [(.int u0), (.int u1), (.int u2), (.int u3)] (.int 0)) :
    MetFree l own_y11 (head1 (Jvm.Cond.code own_y11 jdk_52_method_83_code 2 (some .char) :: ws) (⟨3, 0, 0, 40⟩ : Room)) (fun aa U => aa = #[(.ref b), (.int 0)] ∧ Z.Warmed39 U.vm ∧ U.heap = h0) (fun _ _ _ _ _ => True) (fun _ U o U' => ∃ v L, o = .returned v ∧ own_uc_2_0_Q Z b kb u0 u1 u2 u3 zCS fm h0 n0 v U'.heap L ∧ FrameEnd U o U' L (⟨3, 0, 0, 40⟩ : Room).cells (⟨3, 0, 0, 40⟩ : Room).slots) := by
  refine MetFree.of_bodySF (plainFor_of_name own_pn_java_lang_StringUTF16) hisR ?_
  intro p e s m args below meth c s₁ Bd hml0 hP hK
  obtain ⟨rfl, hZ, hh⟩ := hP
  have hx := Bd.exec
  have hby := Bd.bytes
  have hml : c.maxLocals = 2 := hml0
  have hown : s.vm.findClass "java/lang/StringUTF16" = some m.cls := findClass_of_methodNamed Bd.named
  have hnm := (name_of_methodNamed Bd.named Bd.method).1
  have hlk := Bd.notSynchronized
  have X0 : Stand p l e (⟨3, 0, 0, 40⟩ : Room) s m #[(.ref b), (.int 0)] below meth c s₁ [] 0 0 := Stand.of_body Bd
  have e0 : s₁.heap = h0 := by rw [← hh, Bd.state]; rfl
  have N0 := Fr.nil n0
  refine own_start (Q := own_uc_2_0_Q Z b kb u0 u1 u2 u3 zCS fm h0 n0) (own_uc_2_0_ef m b) ?_
  refine own_g (mkF m 2 #[.val (.ref b), .val (.int 0)] [(.ref b), (.int 0)]) (fun _ q => XS.iloadN X0.here hx rfl (hb hby own_d22_0) rfl (XS.aloadN X0.here hx rfl (hb hby own_d22_1) rfl rfl q)) ?_
  refine own_callS X0 hx hZ (y := own_y12) hown (own_h hw 100 rfl) (own_h hw 101 rfl) (own_h hw 44 rfl) (own_h hw 102 rfl) (by decide) (own_uci_2_0 l Z a0 hw [] b kb _ _ zCS fm h0 n0 Z0 S_CS nCS S_AD S_HI S_LO S_SF hfm O0 K_b) (by decide) (by decide) e0 (g := (mkF m 2 #[.val (.ref b), .val (.int 0)] [(.ref b), (.int 0)])) rfl (by rw [hml]; rfl) (argsL := [(.int 0), (.ref b)]) (rest := []) (lenOf own_pd__28I_5bB_29V rfl) rfl (W := 0) (by show 2 * 0 + _ ≤ _; exact Nat.le_of_eq rfl) (hb hby own_d22_2) rfl (by decide) (by decide) ?_
  rintro rv1 T1 L1 X1 ⟨rfl, Nq1, eh1⟩
  have N1 := Fr.app N0 Nq1
  refine own_g (mkF m 7 #[.val (.ref b), .val (.int 0)] [(.int 0), (.ref b)]) (fun _ q => XS.aloadN X1.here hx rfl (hb hby own_d22_5) rfl rfl (XS.iloadN X1.here hx rfl (hb hby own_d22_6) rfl q)) ?_
  refine own_callS X1 hx hZ (y := own_y16) hown (own_h hw 94 rfl) (own_h hw 95 rfl) (own_h hw 44 rfl) (own_h hw 96 rfl) (by decide) (own_get_2_0 l Z a0 hw [] b kb u0 u1 u2 u3 zCS fm h0 n0 Z0 S_CS nCS S_AD S_HI S_LO S_SF hfm O0 K_b) (by decide) (by decide) eh1 (g := (mkF m 7 #[.val (.ref b), .val (.int 0)] [(.int 0), (.ref b)])) rfl (by rw [hml]; rfl) (argsL := [(.ref b), (.int 0)]) (rest := []) (lenOf own_pd__28_5bBI_29C rfl) rfl (W := 0) (by show 2 * 0 + _ ≤ _; exact Nat.le_of_eq rfl) (hb hby own_d22_7) rfl (by decide) (by decide) ?_
  rintro rv2 T2 L2 X2 ⟨rfl, Nq2, eh2⟩
  have N2 := Fr.app N1 Nq2
  show own_Fin p e below _ T2 (mkF m 10 #[.val (.ref b), .val (.int 0)] [(.int (nar .char (StrChars.pairCh u0 u1)))])
  exact own_end X2 (v := some (.int (nar .char (nar .char (StrChars.pairCh u0 u1))))) (fun h => by rw [Bd.returns] at h; cases h) hlk (fun hr => retN X2 hx (t := .char) Bd.returns (by simp) (hb hby own_d22_10) hr) (by rw [eh2]; exact ⟨rfl, N2, rfl⟩) (by decide) (by decide)
theorem own_ch_0_2_0_ef (m : MethodId) (x0 : Addr) : entryFrame m #[(.ref x0), (.int 0)] 2 = mkF m 0 #[.val (.ref x0), .val (.int 0)] [] := by  first | (simp [entryFrame, mkF, argsToLocals, Value.category]; done) | rfl
def own_ch_0_2_0_Q (Z : State) (x0 : Addr) (t : Addr) (kb : ClassId) (c0 : Int32) (c1 : Int32) (zCS : Int32) (fm : Value) (h0 : Heap) (n0 : Nat) (v : Option Value) (h : Heap) (L : List Loc) : Prop := v = some (.int c0) ∧ Fr n0 L ∧ h = h0
set_option maxRecDepth 65536 in
set_option maxHeartbeats 40000000 in
theorem own_ch_0_2_0 (l : Launch) (Z : State) (a0 : Array Value) (hw : ∀ d ∈ tables_1, d.before a0 Z = true) (ws : List Jvm.Cond) (x0 : Addr) (t : Addr) (kb : ClassId) (c0 : Int32) (c1 : Int32) (zCS : Int32) (fm : Value) (h0 : Heap) (n0 : Nat) (Z0 : n0 ≤ h0.size) (S_CS : own_A0 Z zCS) (nCS : ¬ zCS = 0) (S_AD : own_A1 Z) (S_HI : own_A2 Z) (S_LO : own_A3 Z) (S_SF : own_A4 Z fm) (hfm : fm.isRef = true) (O0 : Old Z n0 h0) (E_x : Exa Z h0 x0 "java/lang/String") (V_x : Fld Z h0 x0 "java/lang/String" "value" "[B" (.ref t)) (C_x : Fld Z h0 x0 "java/lang/String" "coder" "B" (.int 0)) (K_t : Arv Z h0 t kb .byte (2 : Int32) [(.int (StrChars.lo8 c0)), (.int (StrChars.lo8 c1))] (.int 0)) (hbd : ¬ c0 < 0 ∧ ¬ (255 : Int32) < c0) (hnd : nar .char c0 = c0) :
    MetFree l own_y5 (head1 (Jvm.Cond.code own_y5 jdk_42_method_56_code 2 (some .char) :: ws) (⟨3, 0, 0, 40⟩ : Room)) (fun aa U => aa = #[(.ref x0), (.int 0)] ∧ Z.Warmed39 U.vm ∧ U.heap = h0) (fun _ _ _ _ _ => True) (fun _ U o U' => ∃ v L, o = .returned v ∧ own_ch_0_2_0_Q Z x0 t kb c0 c1 zCS fm h0 n0 v U'.heap L ∧ FrameEnd U o U' L (⟨3, 0, 0, 40⟩ : Room).cells (⟨3, 0, 0, 40⟩ : Room).slots) := by
  refine MetFree.of_bodySF (plainFor_of_name own_pn_java_lang_String) hisR ?_
  intro p e s m args below meth c s₁ Bd hml0 hP hK
  obtain ⟨rfl, hZ, hh⟩ := hP
  have hx := Bd.exec
  have hby := Bd.bytes
  have hml : c.maxLocals = 2 := hml0
  have hown : s.vm.findClass "java/lang/String" = some m.cls := findClass_of_methodNamed Bd.named
  have hnm := (name_of_methodNamed Bd.named Bd.method).1
  have hlk := Bd.notSynchronized
  have X0 : Stand p l e (⟨3, 0, 0, 40⟩ : Room) s m #[(.ref x0), (.int 0)] below meth c s₁ [] 0 0 := Stand.of_body Bd
  have e0 : s₁.heap = h0 := by rw [← hh, Bd.state]; rfl
  have N0 := Fr.nil n0
  refine own_start (Q := own_ch_0_2_0_Q Z x0 t kb c0 c1 zCS fm h0 n0) (own_ch_0_2_0_ef m x0) ?_
  refine own_g (mkF m 1 #[.val (.ref x0), .val (.int 0)] [(.ref x0)]) (fun _ q => XS.aloadN X0.here hx rfl (hb hby own_d12_0) rfl rfl q) ?_
  refine own_callV X0 hx hZ (y := own_y8) (z := own_y8) hown (own_h hw 60 rfl) (own_h hw 61 rfl) (own_nf (own_h hw 63 rfl)) (own_h hw 63 rfl) (own_h hw 62 rfl) (own_h hw 64 rfl) (own_h hw 8 rfl) (by decide) E_x (own_il_0 l Z a0 hw [] x0  zCS fm h0 n0 Z0 S_CS nCS S_AD S_HI S_LO S_SF hfm O0 C_x) (by decide) (by decide) e0 (g := (mkF m 1 #[.val (.ref x0), .val (.int 0)] [(.ref x0)])) rfl (by rw [hml]; rfl) (argsL := []) (rest := []) (lenOf own_pd__28_29Z rfl) rfl (W := 0) (by show 2 * 0 + _ ≤ _; exact Nat.le_of_eq rfl) (hb hby own_d12_1) rfl (by decide) (by decide) ?_
  rintro rv1 T1 L1 X1 ⟨rfl, Nq1, eh1⟩
  have N1 := Fr.app N0 Nq1
  refine own_g (mkF m 8 #[.val (.ref x0), .val (.int 0)] [(.ref x0)]) (fun _ q => XS.ifNo X1.here hx rfl (hb hby own_d12_4) rfl ((if0 _ _).trans (feq (by decide : ¬ ((1 : Int32) = (0 : Int32)))).1) (XS.aloadN X1.here hx rfl (hb hby own_d12_7) rfl rfl q)) ?_
  obtain ⟨T2, X2, e2, st2⟩ := getF X1 hx hZ hown (host := "") (Or.inl (own_h hw 25 rfl)) Via.refl eh1 V_x (g := (mkF m 8 #[.val (.ref x0), .val (.int 0)] [(.ref x0)])) rfl rfl (hb hby own_d12_8)
  refine own_by (g' := (mkF m 11 #[.val (.ref x0), .val (.int 0)] [(.ref t)])) st2 ?_
  refine own_g (mkF m 12 #[.val (.ref x0), .val (.int 0)] [(.int 0), (.ref t)]) (fun _ q => XS.iloadN X2.here hx rfl (hb hby own_d12_11) rfl q) ?_
  refine own_callS X2 hx hZ (y := own_y10) hown (own_h hw 65 rfl) (own_h hw 66 rfl) (own_h hw 67 rfl) (own_h hw 68 rfl) (by decide) (own_lc_2_0 l Z a0 hw [] t kb (StrChars.lo8 c0) (StrChars.lo8 c1) zCS fm h0 n0 Z0 S_CS nCS S_AD S_HI S_LO S_SF hfm O0 K_t) (by decide) (by decide) e2 (g := (mkF m 12 #[.val (.ref x0), .val (.int 0)] [(.int 0), (.ref t)])) rfl (by rw [hml]; rfl) (argsL := [(.ref t), (.int 0)]) (rest := []) (lenOf own_pd__28_5bBI_29C rfl) rfl (W := 0) (by show 2 * 0 + _ ≤ _; exact Nat.le_of_eq rfl) (hb hby own_d12_12) rfl (by decide) (by decide) ?_
  rintro rv3 T3 L3 X3 ⟨hv3, Nq3, eh3⟩
  have N3 := Fr.app N1 Nq3
  rw [StrChars.chr8_lo8 hbd.1 hbd.2, hnd] at hv3
  subst hv3
  show own_Fin p e below _ T3 (mkF m 15 #[.val (.ref x0), .val (.int 0)] [(.int c0)])
  exact own_end X3 (v := some (.int (nar .char c0))) (fun h => by rw [Bd.returns] at h; cases h) hlk (fun hr => retN X3 hx (t := .char) Bd.returns (by simp) (hb hby own_d12_15) hr) (by rw [eh3]; exact ⟨by rw [hnd], N3, rfl⟩) (by decide) (by decide)
theorem own_ch_1_2_0_ef (m : MethodId) (x0 : Addr) : entryFrame m #[(.ref x0), (.int 0)] 2 = mkF m 0 #[.val (.ref x0), .val (.int 0)] [] := by  first | (simp [entryFrame, mkF, argsToLocals, Value.category]; done) | rfl
def own_ch_1_2_0_Q (Z : State) (x0 : Addr) (t : Addr) (kb : ClassId) (c0 : Int32) (c1 : Int32) (zCS : Int32) (fm : Value) (h0 : Heap) (n0 : Nat) (v : Option Value) (h : Heap) (L : List Loc) : Prop := v = some (.int c0) ∧ Fr n0 L ∧ h = h0
set_option maxRecDepth 65536 in
set_option maxHeartbeats 40000000 in
theorem own_ch_1_2_0 (l : Launch) (Z : State) (a0 : Array Value) (hw : ∀ d ∈ tables_1, d.before a0 Z = true) (ws : List Jvm.Cond) (x0 : Addr) (t : Addr) (kb : ClassId) (c0 : Int32) (c1 : Int32) (zCS : Int32) (fm : Value) (h0 : Heap) (n0 : Nat) (Z0 : n0 ≤ h0.size) (S_CS : own_A0 Z zCS) (nCS : ¬ zCS = 0) (S_AD : own_A1 Z) (S_HI : own_A2 Z) (S_LO : own_A3 Z) (S_SF : own_A4 Z fm) (hfm : fm.isRef = true) (O0 : Old Z n0 h0) (E_x : Exa Z h0 x0 "java/lang/String") (V_x : Fld Z h0 x0 "java/lang/String" "value" "[B" (.ref t)) (C_x : Fld Z h0 x0 "java/lang/String" "coder" "B" (.int 1)) (K_t : Arv Z h0 t kb .byte (4 : Int32) [(.int (StrChars.lo8 c0)), (.int (StrChars.hi8 c0)), (.int (StrChars.lo8 c1)), (.int (StrChars.hi8 c1))] (.int 0)) (hbd : ¬ c0 < 0 ∧ ¬ (65535 : Int32) < c0) (hnd : nar .char c0 = c0) :
    MetFree l own_y5 (head1 (Jvm.Cond.code own_y5 jdk_42_method_56_code 2 (some .char) :: ws) (⟨4, 0, 0, 53⟩ : Room)) (fun aa U => aa = #[(.ref x0), (.int 0)] ∧ Z.Warmed39 U.vm ∧ U.heap = h0) (fun _ _ _ _ _ => True) (fun _ U o U' => ∃ v L, o = .returned v ∧ own_ch_1_2_0_Q Z x0 t kb c0 c1 zCS fm h0 n0 v U'.heap L ∧ FrameEnd U o U' L (⟨4, 0, 0, 53⟩ : Room).cells (⟨4, 0, 0, 53⟩ : Room).slots) := by
  refine MetFree.of_bodySF (plainFor_of_name own_pn_java_lang_String) hisR ?_
  intro p e s m args below meth c s₁ Bd hml0 hP hK
  obtain ⟨rfl, hZ, hh⟩ := hP
  have hx := Bd.exec
  have hby := Bd.bytes
  have hml : c.maxLocals = 2 := hml0
  have hown : s.vm.findClass "java/lang/String" = some m.cls := findClass_of_methodNamed Bd.named
  have hnm := (name_of_methodNamed Bd.named Bd.method).1
  have hlk := Bd.notSynchronized
  have X0 : Stand p l e (⟨4, 0, 0, 53⟩ : Room) s m #[(.ref x0), (.int 0)] below meth c s₁ [] 0 0 := Stand.of_body Bd
  have e0 : s₁.heap = h0 := by rw [← hh, Bd.state]; rfl
  have N0 := Fr.nil n0
  refine own_start (Q := own_ch_1_2_0_Q Z x0 t kb c0 c1 zCS fm h0 n0) (own_ch_1_2_0_ef m x0) ?_
  refine own_g (mkF m 1 #[.val (.ref x0), .val (.int 0)] [(.ref x0)]) (fun _ q => XS.aloadN X0.here hx rfl (hb hby own_d12_0) rfl rfl q) ?_
  refine own_callV X0 hx hZ (y := own_y8) (z := own_y8) hown (own_h hw 60 rfl) (own_h hw 61 rfl) (own_nf (own_h hw 63 rfl)) (own_h hw 63 rfl) (own_h hw 62 rfl) (own_h hw 64 rfl) (own_h hw 8 rfl) (by decide) E_x (own_il_1 l Z a0 hw [] x0  zCS fm h0 n0 Z0 S_CS nCS S_AD S_HI S_LO S_SF hfm O0 C_x) (by decide) (by decide) e0 (g := (mkF m 1 #[.val (.ref x0), .val (.int 0)] [(.ref x0)])) rfl (by rw [hml]; rfl) (argsL := []) (rest := []) (lenOf own_pd__28_29Z rfl) rfl (W := 0) (by show 2 * 0 + _ ≤ _; exact Nat.le_of_eq rfl) (hb hby own_d12_1) rfl (by decide) (by decide) ?_
  rintro rv1 T1 L1 X1 ⟨rfl, Nq1, eh1⟩
  have N1 := Fr.app N0 Nq1
  refine own_g (mkF m 17 #[.val (.ref x0), .val (.int 0)] [(.ref x0)]) (fun _ q => XS.ifYes X1.here hx rfl (pc0 := 4) (pc' := 16) rfl (hb hby own_d12_4) rfl ((if0 _ _).trans (teq (by decide : (0 : Int32) = (0 : Int32))).1) (by decide) (by decide) (XS.aloadN X1.here hx rfl (hb hby own_d12_16) rfl rfl q)) ?_
  obtain ⟨T2, X2, e2, st2⟩ := getF X1 hx hZ hown (host := "") (Or.inl (own_h hw 25 rfl)) Via.refl eh1 V_x (g := (mkF m 17 #[.val (.ref x0), .val (.int 0)] [(.ref x0)])) rfl rfl (hb hby own_d12_17)
  refine own_by (g' := (mkF m 20 #[.val (.ref x0), .val (.int 0)] [(.ref t)])) st2 ?_
  refine own_g (mkF m 21 #[.val (.ref x0), .val (.int 0)] [(.int 0), (.ref t)]) (fun _ q => XS.iloadN X2.here hx rfl (hb hby own_d12_20) rfl q) ?_
  refine own_callS X2 hx hZ (y := own_y11) hown (own_h hw 97 rfl) (own_h hw 98 rfl) (own_h hw 44 rfl) (own_h hw 99 rfl) (by decide) (own_uc_2_0 l Z a0 hw [] t kb (StrChars.lo8 c0) (StrChars.hi8 c0) (StrChars.lo8 c1) (StrChars.hi8 c1) zCS fm h0 n0 Z0 S_CS nCS S_AD S_HI S_LO S_SF hfm O0 K_t) (by decide) (by decide) e2 (g := (mkF m 21 #[.val (.ref x0), .val (.int 0)] [(.int 0), (.ref t)])) rfl (by rw [hml]; rfl) (argsL := [(.ref t), (.int 0)]) (rest := []) (lenOf own_pd__28_5bBI_29C rfl) rfl (W := 0) (by show 2 * 0 + _ ≤ _; exact Nat.le_of_eq rfl) (hb hby own_d12_21) rfl (by decide) (by decide) ?_
  rintro rv3 T3 L3 X3 ⟨hv3, Nq3, eh3⟩
  have N3 := Fr.app N1 Nq3
  rw [StrChars.pair_says hbd.1 hbd.2, hnd, hnd] at hv3
  subst hv3
  show own_Fin p e below _ T3 (mkF m 24 #[.val (.ref x0), .val (.int 0)] [(.int c0)])
  exact own_end X3 (v := some (.int (nar .char c0))) (fun h => by rw [Bd.returns] at h; cases h) hlk (fun hr => retN X3 hx (t := .char) Bd.returns (by simp) (hb hby own_d12_24) hr) (by rw [eh3]; exact ⟨by rw [hnd], N3, rfl⟩) (by decide) (by decide)
theorem own_lc_2_1_ef (m : MethodId) (b : Addr) : entryFrame m #[(.ref b), (.int 1)] 2 = mkF m 0 #[.val (.ref b), .val (.int 1)] [] := by  first | (simp [entryFrame, mkF, argsToLocals, Value.category]; done) | rfl
def own_lc_2_1_Q (Z : State) (b : Addr) (kb : ClassId) (u0 : Int32) (u1 : Int32) (zCS : Int32) (fm : Value) (h0 : Heap) (n0 : Nat) (v : Option Value) (h : Heap) (L : List Loc) : Prop := v = some (.int (nar .char (StrChars.chr8 u1))) ∧ Fr n0 L ∧ h = h0
set_option maxRecDepth 65536 in
set_option maxHeartbeats 40000000 in
theorem own_lc_2_1 (l : Launch) (Z : State) (a0 : Array Value) (hw : ∀ d ∈ tables_1, d.before a0 Z = true) (ws : List Jvm.Cond) (b : Addr) (kb : ClassId) (u0 : Int32) (u1 : Int32) (zCS : Int32) (fm : Value) (h0 : Heap) (n0 : Nat) (Z0 : n0 ≤ h0.size) (S_CS : own_A0 Z zCS) (nCS : ¬ zCS = 0) (S_AD : own_A1 Z) (S_HI : own_A2 Z) (S_LO : own_A3 Z) (S_SF : own_A4 Z fm) (hfm : fm.isRef = true) (O0 : Old Z n0 h0) (K_b : Arv Z h0 b kb .byte (2 : Int32) [(.int u0), (.int u1)] (.int 0)) :
    MetFree l own_y10 (head1 (Jvm.Cond.code own_y10 jdk_43_method_2_code 2 (some .char) :: ws) (⟨2, 0, 0, 27⟩ : Room)) (fun aa U => aa = #[(.ref b), (.int 1)] ∧ Z.Warmed39 U.vm ∧ U.heap = h0) (fun _ _ _ _ _ => True) (fun _ U o U' => ∃ v L, o = .returned v ∧ own_lc_2_1_Q Z b kb u0 u1 zCS fm h0 n0 v U'.heap L ∧ FrameEnd U o U' L (⟨2, 0, 0, 27⟩ : Room).cells (⟨2, 0, 0, 27⟩ : Room).slots) := by
  refine MetFree.of_bodySF (plainFor_of_name own_pn_java_lang_StringLatin1) hisR ?_
  intro p e s m args below meth c s₁ Bd hml0 hP hK
  obtain ⟨rfl, hZ, hh⟩ := hP
  have hx := Bd.exec
  have hby := Bd.bytes
  have hml : c.maxLocals = 2 := hml0
  have hown : s.vm.findClass "java/lang/StringLatin1" = some m.cls := findClass_of_methodNamed Bd.named
  have hnm := (name_of_methodNamed Bd.named Bd.method).1
  have hlk := Bd.notSynchronized
  have X0 : Stand p l e (⟨2, 0, 0, 27⟩ : Room) s m #[(.ref b), (.int 1)] below meth c s₁ [] 0 0 := Stand.of_body Bd
  have e0 : s₁.heap = h0 := by rw [← hh, Bd.state]; rfl
  have N0 := Fr.nil n0
  refine own_start (Q := own_lc_2_1_Q Z b kb u0 u1 zCS fm h0 n0) (own_lc_2_1_ef m b) ?_
  refine own_g (mkF m 2 #[.val (.ref b), .val (.int 1)] [(.ref b), (.int 1)]) (fun _ q => XS.iloadN X0.here hx rfl (hb hby own_d14_0) rfl (XS.aloadN X0.here hx rfl (hb hby own_d14_1) rfl rfl q)) ?_
  obtain ⟨cl1, Ar1, q1, S1, P1, H1, G1⟩ := id K_b
  refine own_by (g' := (mkF m 3 #[.val (.ref b), .val (.int 1)] [(.int 2), (.int 1)])) (fun _ kq => X0.arraylength hx (by rw [e0]; exact Ar1.1) (State.isArrayOf_alike hZ.alike Ar1.2.1) (g := (mkF m 2 #[.val (.ref b), .val (.int 1)] [(.ref b), (.int 1)])) rfl rfl (hb hby own_d14_2) _ (by rw [len_of S1 P1]; exact kq)) ?_
  refine own_callS X0 hx hZ (y := own_y6) hown (own_h hw 69 rfl) (own_h hw 70 rfl) (own_h hw 8 rfl) (own_h hw 71 rfl) (by decide) (own_sci_2_1 l Z a0 hw [] zCS fm h0 n0 Z0 S_CS nCS S_AD S_HI S_LO S_SF hfm O0) (by decide) (by decide) e0 (g := (mkF m 3 #[.val (.ref b), .val (.int 1)] [(.int 2), (.int 1)])) rfl (by rw [hml]; rfl) (argsL := [(.int 1), (.int 2)]) (rest := []) (lenOf own_pd__28II_29V rfl) rfl (W := 0) (by show 2 * 0 + _ ≤ _; exact Nat.le_of_eq rfl) (hb hby own_d14_3) rfl (by decide) (by decide) ?_
  rintro rv2 T2 L2 X2 ⟨rfl, Nq2, eh2⟩
  have N2 := Fr.app N0 Nq2
  refine own_g (mkF m 8 #[.val (.ref b), .val (.int 1)] [(.int 1), (.ref b)]) (fun _ q => XS.aloadN X2.here hx rfl (hb hby own_d14_6) rfl rfl (XS.iloadN X2.here hx rfl (hb hby own_d14_7) rfl q)) ?_
  obtain ⟨cl3, Ar3, q3, S3, P3, H3, G3⟩ := id K_b
  have hin3 : ¬ ((1 : Int32) < 0 ∨ cl3.slots.size ≤ ((1 : Int32)).toNatClampNeg) := inb_of S3 ⟨by decide, by decide⟩
  refine own_by (g' := (mkF m 9 #[.val (.ref b), .val (.int 1)] [(.int u1)])) (fun _ kq => X2.baloadBytes hx (j := (1 : Int32)) (v := (.int u1)) (by rw [eh2]; exact Ar3.1) (State.isArrayOf_alike hZ.alike Ar3.2.1) Ar3.2.2 hin3 (H3.at hin3 rfl) (g := (mkF m 8 #[.val (.ref b), .val (.int 1)] [(.int 1), (.ref b)])) rfl rfl (hb hby own_d14_8) _ kq) ?_
  refine own_g (mkF m 14 #[.val (.ref b), .val (.int 1)] [(.int ((u1 &&& (255 : Int32)).toUInt32.toUInt16.toUInt32.toInt32))]) (fun _ q => XS.sipush X2.here hx rfl (hb hby own_d14_9) (XS.iand X2.here hx rfl (hb hby own_d14_12) rfl (XS.i2c X2.here hx rfl (hb hby own_d14_13) rfl q))) ?_
  exact own_end X2 (v := some (.int (nar .char ((u1 &&& (255 : Int32)).toUInt32.toUInt16.toUInt32.toInt32)))) (fun h => by rw [Bd.returns] at h; cases h) hlk (fun hr => retN X2 hx (t := .char) Bd.returns (by simp) (hb hby own_d14_14) hr) (by rw [eh2]; exact ⟨rfl, N2, rfl⟩) (by decide) (by decide)
theorem own_uc_2_1_ef (m : MethodId) (b : Addr) : entryFrame m #[(.ref b), (.int 1)] 2 = mkF m 0 #[.val (.ref b), .val (.int 1)] [] := by  first | (simp [entryFrame, mkF, argsToLocals, Value.category]; done) | rfl
def own_uc_2_1_Q (Z : State) (b : Addr) (kb : ClassId) (u0 : Int32) (u1 : Int32) (u2 : Int32) (u3 : Int32) (zCS : Int32) (fm : Value) (h0 : Heap) (n0 : Nat) (v : Option Value) (h : Heap) (L : List Loc) : Prop := v = some (.int (nar .char (nar .char (StrChars.pairCh u2 u3)))) ∧ Fr n0 L ∧ h = h0
set_option maxRecDepth 65536 in
set_option maxHeartbeats 40000000 in
theorem own_uc_2_1 (l : Launch) (Z : State) (a0 : Array Value) (hw : ∀ d ∈ tables_1, d.before a0 Z = true) (ws : List Jvm.Cond) (b : Addr) (kb : ClassId) (u0 : Int32) (u1 : Int32) (u2 : Int32) (u3 : Int32) (zCS : Int32) (fm : Value) (h0 : Heap) (n0 : Nat) (Z0 : n0 ≤ h0.size) (S_CS : own_A0 Z zCS) (nCS : ¬ zCS = 0) (S_AD : own_A1 Z) (S_HI : own_A2 Z) (S_LO : own_A3 Z) (S_SF : own_A4 Z fm) (hfm : fm.isRef = true) (O0 : Old Z n0 h0) (K_b : Arv Z h0 b kb .byte (4 : Int32) [(.int u0), (.int u1), (.int u2), (.int u3)] (.int 0)) :
    MetFree l own_y11 (head1 (Jvm.Cond.code own_y11 jdk_52_method_83_code 2 (some .char) :: ws) (⟨3, 0, 0, 40⟩ : Room)) (fun aa U => aa = #[(.ref b), (.int 1)] ∧ Z.Warmed39 U.vm ∧ U.heap = h0) (fun _ _ _ _ _ => True) (fun _ U o U' => ∃ v L, o = .returned v ∧ own_uc_2_1_Q Z b kb u0 u1 u2 u3 zCS fm h0 n0 v U'.heap L ∧ FrameEnd U o U' L (⟨3, 0, 0, 40⟩ : Room).cells (⟨3, 0, 0, 40⟩ : Room).slots) := by
  refine MetFree.of_bodySF (plainFor_of_name own_pn_java_lang_StringUTF16) hisR ?_
  intro p e s m args below meth c s₁ Bd hml0 hP hK
  obtain ⟨rfl, hZ, hh⟩ := hP
  have hx := Bd.exec
  have hby := Bd.bytes
  have hml : c.maxLocals = 2 := hml0
  have hown : s.vm.findClass "java/lang/StringUTF16" = some m.cls := findClass_of_methodNamed Bd.named
  have hnm := (name_of_methodNamed Bd.named Bd.method).1
  have hlk := Bd.notSynchronized
  have X0 : Stand p l e (⟨3, 0, 0, 40⟩ : Room) s m #[(.ref b), (.int 1)] below meth c s₁ [] 0 0 := Stand.of_body Bd
  have e0 : s₁.heap = h0 := by rw [← hh, Bd.state]; rfl
  have N0 := Fr.nil n0
  refine own_start (Q := own_uc_2_1_Q Z b kb u0 u1 u2 u3 zCS fm h0 n0) (own_uc_2_1_ef m b) ?_
  refine own_g (mkF m 2 #[.val (.ref b), .val (.int 1)] [(.ref b), (.int 1)]) (fun _ q => XS.iloadN X0.here hx rfl (hb hby own_d22_0) rfl (XS.aloadN X0.here hx rfl (hb hby own_d22_1) rfl rfl q)) ?_
  refine own_callS X0 hx hZ (y := own_y12) hown (own_h hw 100 rfl) (own_h hw 101 rfl) (own_h hw 44 rfl) (own_h hw 102 rfl) (by decide) (own_uci_2_1 l Z a0 hw [] b kb _ _ zCS fm h0 n0 Z0 S_CS nCS S_AD S_HI S_LO S_SF hfm O0 K_b) (by decide) (by decide) e0 (g := (mkF m 2 #[.val (.ref b), .val (.int 1)] [(.ref b), (.int 1)])) rfl (by rw [hml]; rfl) (argsL := [(.int 1), (.ref b)]) (rest := []) (lenOf own_pd__28I_5bB_29V rfl) rfl (W := 0) (by show 2 * 0 + _ ≤ _; exact Nat.le_of_eq rfl) (hb hby own_d22_2) rfl (by decide) (by decide) ?_
  rintro rv1 T1 L1 X1 ⟨rfl, Nq1, eh1⟩
  have N1 := Fr.app N0 Nq1
  refine own_g (mkF m 7 #[.val (.ref b), .val (.int 1)] [(.int 1), (.ref b)]) (fun _ q => XS.aloadN X1.here hx rfl (hb hby own_d22_5) rfl rfl (XS.iloadN X1.here hx rfl (hb hby own_d22_6) rfl q)) ?_
  refine own_callS X1 hx hZ (y := own_y16) hown (own_h hw 94 rfl) (own_h hw 95 rfl) (own_h hw 44 rfl) (own_h hw 96 rfl) (by decide) (own_get_2_1 l Z a0 hw [] b kb u0 u1 u2 u3 zCS fm h0 n0 Z0 S_CS nCS S_AD S_HI S_LO S_SF hfm O0 K_b) (by decide) (by decide) eh1 (g := (mkF m 7 #[.val (.ref b), .val (.int 1)] [(.int 1), (.ref b)])) rfl (by rw [hml]; rfl) (argsL := [(.ref b), (.int 1)]) (rest := []) (lenOf own_pd__28_5bBI_29C rfl) rfl (W := 0) (by show 2 * 0 + _ ≤ _; exact Nat.le_of_eq rfl) (hb hby own_d22_7) rfl (by decide) (by decide) ?_
  rintro rv2 T2 L2 X2 ⟨rfl, Nq2, eh2⟩
  have N2 := Fr.app N1 Nq2
  show own_Fin p e below _ T2 (mkF m 10 #[.val (.ref b), .val (.int 1)] [(.int (nar .char (StrChars.pairCh u2 u3)))])
  exact own_end X2 (v := some (.int (nar .char (nar .char (StrChars.pairCh u2 u3))))) (fun h => by rw [Bd.returns] at h; cases h) hlk (fun hr => retN X2 hx (t := .char) Bd.returns (by simp) (hb hby own_d22_10) hr) (by rw [eh2]; exact ⟨rfl, N2, rfl⟩) (by decide) (by decide)
theorem own_ch_0_2_1_ef (m : MethodId) (x0 : Addr) : entryFrame m #[(.ref x0), (.int 1)] 2 = mkF m 0 #[.val (.ref x0), .val (.int 1)] [] := by  first | (simp [entryFrame, mkF, argsToLocals, Value.category]; done) | rfl
def own_ch_0_2_1_Q (Z : State) (x0 : Addr) (t : Addr) (kb : ClassId) (c0 : Int32) (c1 : Int32) (zCS : Int32) (fm : Value) (h0 : Heap) (n0 : Nat) (v : Option Value) (h : Heap) (L : List Loc) : Prop := v = some (.int c1) ∧ Fr n0 L ∧ h = h0
set_option maxRecDepth 65536 in
set_option maxHeartbeats 40000000 in
theorem own_ch_0_2_1 (l : Launch) (Z : State) (a0 : Array Value) (hw : ∀ d ∈ tables_1, d.before a0 Z = true) (ws : List Jvm.Cond) (x0 : Addr) (t : Addr) (kb : ClassId) (c0 : Int32) (c1 : Int32) (zCS : Int32) (fm : Value) (h0 : Heap) (n0 : Nat) (Z0 : n0 ≤ h0.size) (S_CS : own_A0 Z zCS) (nCS : ¬ zCS = 0) (S_AD : own_A1 Z) (S_HI : own_A2 Z) (S_LO : own_A3 Z) (S_SF : own_A4 Z fm) (hfm : fm.isRef = true) (O0 : Old Z n0 h0) (E_x : Exa Z h0 x0 "java/lang/String") (V_x : Fld Z h0 x0 "java/lang/String" "value" "[B" (.ref t)) (C_x : Fld Z h0 x0 "java/lang/String" "coder" "B" (.int 0)) (K_t : Arv Z h0 t kb .byte (2 : Int32) [(.int (StrChars.lo8 c0)), (.int (StrChars.lo8 c1))] (.int 0)) (hbd : ¬ c1 < 0 ∧ ¬ (255 : Int32) < c1) (hnd : nar .char c1 = c1) :
    MetFree l own_y5 (head1 (Jvm.Cond.code own_y5 jdk_42_method_56_code 2 (some .char) :: ws) (⟨3, 0, 0, 40⟩ : Room)) (fun aa U => aa = #[(.ref x0), (.int 1)] ∧ Z.Warmed39 U.vm ∧ U.heap = h0) (fun _ _ _ _ _ => True) (fun _ U o U' => ∃ v L, o = .returned v ∧ own_ch_0_2_1_Q Z x0 t kb c0 c1 zCS fm h0 n0 v U'.heap L ∧ FrameEnd U o U' L (⟨3, 0, 0, 40⟩ : Room).cells (⟨3, 0, 0, 40⟩ : Room).slots) := by
  refine MetFree.of_bodySF (plainFor_of_name own_pn_java_lang_String) hisR ?_
  intro p e s m args below meth c s₁ Bd hml0 hP hK
  obtain ⟨rfl, hZ, hh⟩ := hP
  have hx := Bd.exec
  have hby := Bd.bytes
  have hml : c.maxLocals = 2 := hml0
  have hown : s.vm.findClass "java/lang/String" = some m.cls := findClass_of_methodNamed Bd.named
  have hnm := (name_of_methodNamed Bd.named Bd.method).1
  have hlk := Bd.notSynchronized
  have X0 : Stand p l e (⟨3, 0, 0, 40⟩ : Room) s m #[(.ref x0), (.int 1)] below meth c s₁ [] 0 0 := Stand.of_body Bd
  have e0 : s₁.heap = h0 := by rw [← hh, Bd.state]; rfl
  have N0 := Fr.nil n0
  refine own_start (Q := own_ch_0_2_1_Q Z x0 t kb c0 c1 zCS fm h0 n0) (own_ch_0_2_1_ef m x0) ?_
  refine own_g (mkF m 1 #[.val (.ref x0), .val (.int 1)] [(.ref x0)]) (fun _ q => XS.aloadN X0.here hx rfl (hb hby own_d12_0) rfl rfl q) ?_
  refine own_callV X0 hx hZ (y := own_y8) (z := own_y8) hown (own_h hw 60 rfl) (own_h hw 61 rfl) (own_nf (own_h hw 63 rfl)) (own_h hw 63 rfl) (own_h hw 62 rfl) (own_h hw 64 rfl) (own_h hw 8 rfl) (by decide) E_x (own_il_0 l Z a0 hw [] x0  zCS fm h0 n0 Z0 S_CS nCS S_AD S_HI S_LO S_SF hfm O0 C_x) (by decide) (by decide) e0 (g := (mkF m 1 #[.val (.ref x0), .val (.int 1)] [(.ref x0)])) rfl (by rw [hml]; rfl) (argsL := []) (rest := []) (lenOf own_pd__28_29Z rfl) rfl (W := 0) (by show 2 * 0 + _ ≤ _; exact Nat.le_of_eq rfl) (hb hby own_d12_1) rfl (by decide) (by decide) ?_
  rintro rv1 T1 L1 X1 ⟨rfl, Nq1, eh1⟩
  have N1 := Fr.app N0 Nq1
  refine own_g (mkF m 8 #[.val (.ref x0), .val (.int 1)] [(.ref x0)]) (fun _ q => XS.ifNo X1.here hx rfl (hb hby own_d12_4) rfl ((if0 _ _).trans (feq (by decide : ¬ ((1 : Int32) = (0 : Int32)))).1) (XS.aloadN X1.here hx rfl (hb hby own_d12_7) rfl rfl q)) ?_
  obtain ⟨T2, X2, e2, st2⟩ := getF X1 hx hZ hown (host := "") (Or.inl (own_h hw 25 rfl)) Via.refl eh1 V_x (g := (mkF m 8 #[.val (.ref x0), .val (.int 1)] [(.ref x0)])) rfl rfl (hb hby own_d12_8)
  refine own_by (g' := (mkF m 11 #[.val (.ref x0), .val (.int 1)] [(.ref t)])) st2 ?_
  refine own_g (mkF m 12 #[.val (.ref x0), .val (.int 1)] [(.int 1), (.ref t)]) (fun _ q => XS.iloadN X2.here hx rfl (hb hby own_d12_11) rfl q) ?_
  refine own_callS X2 hx hZ (y := own_y10) hown (own_h hw 65 rfl) (own_h hw 66 rfl) (own_h hw 67 rfl) (own_h hw 68 rfl) (by decide) (own_lc_2_1 l Z a0 hw [] t kb (StrChars.lo8 c0) (StrChars.lo8 c1) zCS fm h0 n0 Z0 S_CS nCS S_AD S_HI S_LO S_SF hfm O0 K_t) (by decide) (by decide) e2 (g := (mkF m 12 #[.val (.ref x0), .val (.int 1)] [(.int 1), (.ref t)])) rfl (by rw [hml]; rfl) (argsL := [(.ref t), (.int 1)]) (rest := []) (lenOf own_pd__28_5bBI_29C rfl) rfl (W := 0) (by show 2 * 0 + _ ≤ _; exact Nat.le_of_eq rfl) (hb hby own_d12_12) rfl (by decide) (by decide) ?_
  rintro rv3 T3 L3 X3 ⟨hv3, Nq3, eh3⟩
  have N3 := Fr.app N1 Nq3
  rw [StrChars.chr8_lo8 hbd.1 hbd.2, hnd] at hv3
  subst hv3
  show own_Fin p e below _ T3 (mkF m 15 #[.val (.ref x0), .val (.int 1)] [(.int c1)])
  exact own_end X3 (v := some (.int (nar .char c1))) (fun h => by rw [Bd.returns] at h; cases h) hlk (fun hr => retN X3 hx (t := .char) Bd.returns (by simp) (hb hby own_d12_15) hr) (by rw [eh3]; exact ⟨by rw [hnd], N3, rfl⟩) (by decide) (by decide)
theorem own_ch_1_2_1_ef (m : MethodId) (x0 : Addr) : entryFrame m #[(.ref x0), (.int 1)] 2 = mkF m 0 #[.val (.ref x0), .val (.int 1)] [] := by  first | (simp [entryFrame, mkF, argsToLocals, Value.category]; done) | rfl
def own_ch_1_2_1_Q (Z : State) (x0 : Addr) (t : Addr) (kb : ClassId) (c0 : Int32) (c1 : Int32) (zCS : Int32) (fm : Value) (h0 : Heap) (n0 : Nat) (v : Option Value) (h : Heap) (L : List Loc) : Prop := v = some (.int c1) ∧ Fr n0 L ∧ h = h0
set_option maxRecDepth 65536 in
set_option maxHeartbeats 40000000 in
theorem own_ch_1_2_1 (l : Launch) (Z : State) (a0 : Array Value) (hw : ∀ d ∈ tables_1, d.before a0 Z = true) (ws : List Jvm.Cond) (x0 : Addr) (t : Addr) (kb : ClassId) (c0 : Int32) (c1 : Int32) (zCS : Int32) (fm : Value) (h0 : Heap) (n0 : Nat) (Z0 : n0 ≤ h0.size) (S_CS : own_A0 Z zCS) (nCS : ¬ zCS = 0) (S_AD : own_A1 Z) (S_HI : own_A2 Z) (S_LO : own_A3 Z) (S_SF : own_A4 Z fm) (hfm : fm.isRef = true) (O0 : Old Z n0 h0) (E_x : Exa Z h0 x0 "java/lang/String") (V_x : Fld Z h0 x0 "java/lang/String" "value" "[B" (.ref t)) (C_x : Fld Z h0 x0 "java/lang/String" "coder" "B" (.int 1)) (K_t : Arv Z h0 t kb .byte (4 : Int32) [(.int (StrChars.lo8 c0)), (.int (StrChars.hi8 c0)), (.int (StrChars.lo8 c1)), (.int (StrChars.hi8 c1))] (.int 0)) (hbd : ¬ c1 < 0 ∧ ¬ (65535 : Int32) < c1) (hnd : nar .char c1 = c1) :
    MetFree l own_y5 (head1 (Jvm.Cond.code own_y5 jdk_42_method_56_code 2 (some .char) :: ws) (⟨4, 0, 0, 53⟩ : Room)) (fun aa U => aa = #[(.ref x0), (.int 1)] ∧ Z.Warmed39 U.vm ∧ U.heap = h0) (fun _ _ _ _ _ => True) (fun _ U o U' => ∃ v L, o = .returned v ∧ own_ch_1_2_1_Q Z x0 t kb c0 c1 zCS fm h0 n0 v U'.heap L ∧ FrameEnd U o U' L (⟨4, 0, 0, 53⟩ : Room).cells (⟨4, 0, 0, 53⟩ : Room).slots) := by
  refine MetFree.of_bodySF (plainFor_of_name own_pn_java_lang_String) hisR ?_
  intro p e s m args below meth c s₁ Bd hml0 hP hK
  obtain ⟨rfl, hZ, hh⟩ := hP
  have hx := Bd.exec
  have hby := Bd.bytes
  have hml : c.maxLocals = 2 := hml0
  have hown : s.vm.findClass "java/lang/String" = some m.cls := findClass_of_methodNamed Bd.named
  have hnm := (name_of_methodNamed Bd.named Bd.method).1
  have hlk := Bd.notSynchronized
  have X0 : Stand p l e (⟨4, 0, 0, 53⟩ : Room) s m #[(.ref x0), (.int 1)] below meth c s₁ [] 0 0 := Stand.of_body Bd
  have e0 : s₁.heap = h0 := by rw [← hh, Bd.state]; rfl
  have N0 := Fr.nil n0
  refine own_start (Q := own_ch_1_2_1_Q Z x0 t kb c0 c1 zCS fm h0 n0) (own_ch_1_2_1_ef m x0) ?_
  refine own_g (mkF m 1 #[.val (.ref x0), .val (.int 1)] [(.ref x0)]) (fun _ q => XS.aloadN X0.here hx rfl (hb hby own_d12_0) rfl rfl q) ?_
  refine own_callV X0 hx hZ (y := own_y8) (z := own_y8) hown (own_h hw 60 rfl) (own_h hw 61 rfl) (own_nf (own_h hw 63 rfl)) (own_h hw 63 rfl) (own_h hw 62 rfl) (own_h hw 64 rfl) (own_h hw 8 rfl) (by decide) E_x (own_il_1 l Z a0 hw [] x0  zCS fm h0 n0 Z0 S_CS nCS S_AD S_HI S_LO S_SF hfm O0 C_x) (by decide) (by decide) e0 (g := (mkF m 1 #[.val (.ref x0), .val (.int 1)] [(.ref x0)])) rfl (by rw [hml]; rfl) (argsL := []) (rest := []) (lenOf own_pd__28_29Z rfl) rfl (W := 0) (by show 2 * 0 + _ ≤ _; exact Nat.le_of_eq rfl) (hb hby own_d12_1) rfl (by decide) (by decide) ?_
  rintro rv1 T1 L1 X1 ⟨rfl, Nq1, eh1⟩
  have N1 := Fr.app N0 Nq1
  refine own_g (mkF m 17 #[.val (.ref x0), .val (.int 1)] [(.ref x0)]) (fun _ q => XS.ifYes X1.here hx rfl (pc0 := 4) (pc' := 16) rfl (hb hby own_d12_4) rfl ((if0 _ _).trans (teq (by decide : (0 : Int32) = (0 : Int32))).1) (by decide) (by decide) (XS.aloadN X1.here hx rfl (hb hby own_d12_16) rfl rfl q)) ?_
  obtain ⟨T2, X2, e2, st2⟩ := getF X1 hx hZ hown (host := "") (Or.inl (own_h hw 25 rfl)) Via.refl eh1 V_x (g := (mkF m 17 #[.val (.ref x0), .val (.int 1)] [(.ref x0)])) rfl rfl (hb hby own_d12_17)
  refine own_by (g' := (mkF m 20 #[.val (.ref x0), .val (.int 1)] [(.ref t)])) st2 ?_
  refine own_g (mkF m 21 #[.val (.ref x0), .val (.int 1)] [(.int 1), (.ref t)]) (fun _ q => XS.iloadN X2.here hx rfl (hb hby own_d12_20) rfl q) ?_
  refine own_callS X2 hx hZ (y := own_y11) hown (own_h hw 97 rfl) (own_h hw 98 rfl) (own_h hw 44 rfl) (own_h hw 99 rfl) (by decide) (own_uc_2_1 l Z a0 hw [] t kb (StrChars.lo8 c0) (StrChars.hi8 c0) (StrChars.lo8 c1) (StrChars.hi8 c1) zCS fm h0 n0 Z0 S_CS nCS S_AD S_HI S_LO S_SF hfm O0 K_t) (by decide) (by decide) e2 (g := (mkF m 21 #[.val (.ref x0), .val (.int 1)] [(.int 1), (.ref t)])) rfl (by rw [hml]; rfl) (argsL := [(.ref t), (.int 1)]) (rest := []) (lenOf own_pd__28_5bBI_29C rfl) rfl (W := 0) (by show 2 * 0 + _ ≤ _; exact Nat.le_of_eq rfl) (hb hby own_d12_21) rfl (by decide) (by decide) ?_
  rintro rv3 T3 L3 X3 ⟨hv3, Nq3, eh3⟩
  have N3 := Fr.app N1 Nq3
  rw [StrChars.pair_says hbd.1 hbd.2, hnd, hnd] at hv3
  subst hv3
  show own_Fin p e below _ T3 (mkF m 24 #[.val (.ref x0), .val (.int 1)] [(.int c1)])
  exact own_end X3 (v := some (.int (nar .char c1))) (fun h => by rw [Bd.returns] at h; cases h) hlk (fun hr => retN X3 hx (t := .char) Bd.returns (by simp) (hb hby own_d12_24) hr) (by rw [eh3]; exact ⟨by rw [hnd], N3, rfl⟩) (by decide) (by decide)
theorem own_lc_3_0_ef (m : MethodId) (b : Addr) : entryFrame m #[(.ref b), (.int 0)] 2 = mkF m 0 #[.val (.ref b), .val (.int 0)] [] := by  first | (simp [entryFrame, mkF, argsToLocals, Value.category]; done) | rfl
def own_lc_3_0_Q (Z : State) (b : Addr) (kb : ClassId) (u0 : Int32) (u1 : Int32) (u2 : Int32) (zCS : Int32) (fm : Value) (h0 : Heap) (n0 : Nat) (v : Option Value) (h : Heap) (L : List Loc) : Prop := v = some (.int (nar .char (StrChars.chr8 u0))) ∧ Fr n0 L ∧ h = h0
set_option maxRecDepth 65536 in
set_option maxHeartbeats 40000000 in
theorem own_lc_3_0 (l : Launch) (Z : State) (a0 : Array Value) (hw : ∀ d ∈ tables_1, d.before a0 Z = true) (ws : List Jvm.Cond) (b : Addr) (kb : ClassId) (u0 : Int32) (u1 : Int32) (u2 : Int32) (zCS : Int32) (fm : Value) (h0 : Heap) (n0 : Nat) (Z0 : n0 ≤ h0.size) (S_CS : own_A0 Z zCS) (nCS : ¬ zCS = 0) (S_AD : own_A1 Z) (S_HI : own_A2 Z) (S_LO : own_A3 Z) (S_SF : own_A4 Z fm) (hfm : fm.isRef = true) (O0 : Old Z n0 h0) (K_b : Arv Z h0 b kb .byte (3 : Int32) [(.int u0), (.int u1), (.int u2)] (.int 0)) :
    MetFree l own_y10 (head1 (Jvm.Cond.code own_y10 jdk_43_method_2_code 2 (some .char) :: ws) (⟨2, 0, 0, 27⟩ : Room)) (fun aa U => aa = #[(.ref b), (.int 0)] ∧ Z.Warmed39 U.vm ∧ U.heap = h0) (fun _ _ _ _ _ => True) (fun _ U o U' => ∃ v L, o = .returned v ∧ own_lc_3_0_Q Z b kb u0 u1 u2 zCS fm h0 n0 v U'.heap L ∧ FrameEnd U o U' L (⟨2, 0, 0, 27⟩ : Room).cells (⟨2, 0, 0, 27⟩ : Room).slots) := by
  refine MetFree.of_bodySF (plainFor_of_name own_pn_java_lang_StringLatin1) hisR ?_
  intro p e s m args below meth c s₁ Bd hml0 hP hK
  obtain ⟨rfl, hZ, hh⟩ := hP
  have hx := Bd.exec
  have hby := Bd.bytes
  have hml : c.maxLocals = 2 := hml0
  have hown : s.vm.findClass "java/lang/StringLatin1" = some m.cls := findClass_of_methodNamed Bd.named
  have hnm := (name_of_methodNamed Bd.named Bd.method).1
  have hlk := Bd.notSynchronized
  have X0 : Stand p l e (⟨2, 0, 0, 27⟩ : Room) s m #[(.ref b), (.int 0)] below meth c s₁ [] 0 0 := Stand.of_body Bd
  have e0 : s₁.heap = h0 := by rw [← hh, Bd.state]; rfl
  have N0 := Fr.nil n0
  refine own_start (Q := own_lc_3_0_Q Z b kb u0 u1 u2 zCS fm h0 n0) (own_lc_3_0_ef m b) ?_
  refine own_g (mkF m 2 #[.val (.ref b), .val (.int 0)] [(.ref b), (.int 0)]) (fun _ q => XS.iloadN X0.here hx rfl (hb hby own_d14_0) rfl (XS.aloadN X0.here hx rfl (hb hby own_d14_1) rfl rfl q)) ?_
  obtain ⟨cl1, Ar1, q1, S1, P1, H1, G1⟩ := id K_b
  refine own_by (g' := (mkF m 3 #[.val (.ref b), .val (.int 0)] [(.int 3), (.int 0)])) (fun _ kq => X0.arraylength hx (by rw [e0]; exact Ar1.1) (State.isArrayOf_alike hZ.alike Ar1.2.1) (g := (mkF m 2 #[.val (.ref b), .val (.int 0)] [(.ref b), (.int 0)])) rfl rfl (hb hby own_d14_2) _ (by rw [len_of S1 P1]; exact kq)) ?_
  refine own_callS X0 hx hZ (y := own_y6) hown (own_h hw 69 rfl) (own_h hw 70 rfl) (own_h hw 8 rfl) (own_h hw 71 rfl) (by decide) (own_sci_3_0 l Z a0 hw [] zCS fm h0 n0 Z0 S_CS nCS S_AD S_HI S_LO S_SF hfm O0) (by decide) (by decide) e0 (g := (mkF m 3 #[.val (.ref b), .val (.int 0)] [(.int 3), (.int 0)])) rfl (by rw [hml]; rfl) (argsL := [(.int 0), (.int 3)]) (rest := []) (lenOf own_pd__28II_29V rfl) rfl (W := 0) (by show 2 * 0 + _ ≤ _; exact Nat.le_of_eq rfl) (hb hby own_d14_3) rfl (by decide) (by decide) ?_
  rintro rv2 T2 L2 X2 ⟨rfl, Nq2, eh2⟩
  have N2 := Fr.app N0 Nq2
  refine own_g (mkF m 8 #[.val (.ref b), .val (.int 0)] [(.int 0), (.ref b)]) (fun _ q => XS.aloadN X2.here hx rfl (hb hby own_d14_6) rfl rfl (XS.iloadN X2.here hx rfl (hb hby own_d14_7) rfl q)) ?_
  obtain ⟨cl3, Ar3, q3, S3, P3, H3, G3⟩ := id K_b
  have hin3 : ¬ ((0 : Int32) < 0 ∨ cl3.slots.size ≤ ((0 : Int32)).toNatClampNeg) := inb_of S3 ⟨by decide, by decide⟩
  refine own_by (g' := (mkF m 9 #[.val (.ref b), .val (.int 0)] [(.int u0)])) (fun _ kq => X2.baloadBytes hx (j := (0 : Int32)) (v := (.int u0)) (by rw [eh2]; exact Ar3.1) (State.isArrayOf_alike hZ.alike Ar3.2.1) Ar3.2.2 hin3 (H3.at hin3 rfl) (g := (mkF m 8 #[.val (.ref b), .val (.int 0)] [(.int 0), (.ref b)])) rfl rfl (hb hby own_d14_8) _ kq) ?_
  refine own_g (mkF m 14 #[.val (.ref b), .val (.int 0)] [(.int ((u0 &&& (255 : Int32)).toUInt32.toUInt16.toUInt32.toInt32))]) (fun _ q => XS.sipush X2.here hx rfl (hb hby own_d14_9) (XS.iand X2.here hx rfl (hb hby own_d14_12) rfl (XS.i2c X2.here hx rfl (hb hby own_d14_13) rfl q))) ?_
  exact own_end X2 (v := some (.int (nar .char ((u0 &&& (255 : Int32)).toUInt32.toUInt16.toUInt32.toInt32)))) (fun h => by rw [Bd.returns] at h; cases h) hlk (fun hr => retN X2 hx (t := .char) Bd.returns (by simp) (hb hby own_d14_14) hr) (by rw [eh2]; exact ⟨rfl, N2, rfl⟩) (by decide) (by decide)
theorem own_uc_3_0_ef (m : MethodId) (b : Addr) : entryFrame m #[(.ref b), (.int 0)] 2 = mkF m 0 #[.val (.ref b), .val (.int 0)] [] := by  first | (simp [entryFrame, mkF, argsToLocals, Value.category]; done) | rfl
def own_uc_3_0_Q (Z : State) (b : Addr) (kb : ClassId) (u0 : Int32) (u1 : Int32) (u2 : Int32) (u3 : Int32) (u4 : Int32) (u5 : Int32) (zCS : Int32) (fm : Value) (h0 : Heap) (n0 : Nat) (v : Option Value) (h : Heap) (L : List Loc) : Prop := v = some (.int (nar .char (nar .char (StrChars.pairCh u0 u1)))) ∧ Fr n0 L ∧ h = h0
set_option maxRecDepth 65536 in
set_option maxHeartbeats 40000000 in
theorem own_uc_3_0 (l : Launch) (Z : State) (a0 : Array Value) (hw : ∀ d ∈ tables_1, d.before a0 Z = true) (ws : List Jvm.Cond) (b : Addr) (kb : ClassId) (u0 : Int32) (u1 : Int32) (u2 : Int32) (u3 : Int32) (u4 : Int32) (u5 : Int32) (zCS : Int32) (fm : Value) (h0 : Heap) (n0 : Nat) (Z0 : n0 ≤ h0.size) (S_CS : own_A0 Z zCS) (nCS : ¬ zCS = 0) (S_AD : own_A1 Z) (S_HI : own_A2 Z) (S_LO : own_A3 Z) (S_SF : own_A4 Z fm) (hfm : fm.isRef = true) (O0 : Old Z n0 h0) (K_b : Arv Z h0 b kb .byte (6 : Int32) [(.int u0), (.int u1), (.int u2), (.int u3), (.int u4), (.int u5)] (.int 0)) :
    MetFree l own_y11 (head1 (Jvm.Cond.code own_y11 jdk_52_method_83_code 2 (some .char) :: ws) (⟨3, 0, 0, 40⟩ : Room)) (fun aa U => aa = #[(.ref b), (.int 0)] ∧ Z.Warmed39 U.vm ∧ U.heap = h0) (fun _ _ _ _ _ => True) (fun _ U o U' => ∃ v L, o = .returned v ∧ own_uc_3_0_Q Z b kb u0 u1 u2 u3 u4 u5 zCS fm h0 n0 v U'.heap L ∧ FrameEnd U o U' L (⟨3, 0, 0, 40⟩ : Room).cells (⟨3, 0, 0, 40⟩ : Room).slots) := by
  refine MetFree.of_bodySF (plainFor_of_name own_pn_java_lang_StringUTF16) hisR ?_
  intro p e s m args below meth c s₁ Bd hml0 hP hK
  obtain ⟨rfl, hZ, hh⟩ := hP
  have hx := Bd.exec
  have hby := Bd.bytes
  have hml : c.maxLocals = 2 := hml0
  have hown : s.vm.findClass "java/lang/StringUTF16" = some m.cls := findClass_of_methodNamed Bd.named
  have hnm := (name_of_methodNamed Bd.named Bd.method).1
  have hlk := Bd.notSynchronized
  have X0 : Stand p l e (⟨3, 0, 0, 40⟩ : Room) s m #[(.ref b), (.int 0)] below meth c s₁ [] 0 0 := Stand.of_body Bd
  have e0 : s₁.heap = h0 := by rw [← hh, Bd.state]; rfl
  have N0 := Fr.nil n0
  refine own_start (Q := own_uc_3_0_Q Z b kb u0 u1 u2 u3 u4 u5 zCS fm h0 n0) (own_uc_3_0_ef m b) ?_
  refine own_g (mkF m 2 #[.val (.ref b), .val (.int 0)] [(.ref b), (.int 0)]) (fun _ q => XS.iloadN X0.here hx rfl (hb hby own_d22_0) rfl (XS.aloadN X0.here hx rfl (hb hby own_d22_1) rfl rfl q)) ?_
  refine own_callS X0 hx hZ (y := own_y12) hown (own_h hw 100 rfl) (own_h hw 101 rfl) (own_h hw 44 rfl) (own_h hw 102 rfl) (by decide) (own_uci_3_0 l Z a0 hw [] b kb _ _ zCS fm h0 n0 Z0 S_CS nCS S_AD S_HI S_LO S_SF hfm O0 K_b) (by decide) (by decide) e0 (g := (mkF m 2 #[.val (.ref b), .val (.int 0)] [(.ref b), (.int 0)])) rfl (by rw [hml]; rfl) (argsL := [(.int 0), (.ref b)]) (rest := []) (lenOf own_pd__28I_5bB_29V rfl) rfl (W := 0) (by show 2 * 0 + _ ≤ _; exact Nat.le_of_eq rfl) (hb hby own_d22_2) rfl (by decide) (by decide) ?_
  rintro rv1 T1 L1 X1 ⟨rfl, Nq1, eh1⟩
  have N1 := Fr.app N0 Nq1
  refine own_g (mkF m 7 #[.val (.ref b), .val (.int 0)] [(.int 0), (.ref b)]) (fun _ q => XS.aloadN X1.here hx rfl (hb hby own_d22_5) rfl rfl (XS.iloadN X1.here hx rfl (hb hby own_d22_6) rfl q)) ?_
  refine own_callS X1 hx hZ (y := own_y16) hown (own_h hw 94 rfl) (own_h hw 95 rfl) (own_h hw 44 rfl) (own_h hw 96 rfl) (by decide) (own_get_3_0 l Z a0 hw [] b kb u0 u1 u2 u3 u4 u5 zCS fm h0 n0 Z0 S_CS nCS S_AD S_HI S_LO S_SF hfm O0 K_b) (by decide) (by decide) eh1 (g := (mkF m 7 #[.val (.ref b), .val (.int 0)] [(.int 0), (.ref b)])) rfl (by rw [hml]; rfl) (argsL := [(.ref b), (.int 0)]) (rest := []) (lenOf own_pd__28_5bBI_29C rfl) rfl (W := 0) (by show 2 * 0 + _ ≤ _; exact Nat.le_of_eq rfl) (hb hby own_d22_7) rfl (by decide) (by decide) ?_
  rintro rv2 T2 L2 X2 ⟨rfl, Nq2, eh2⟩
  have N2 := Fr.app N1 Nq2
  show own_Fin p e below _ T2 (mkF m 10 #[.val (.ref b), .val (.int 0)] [(.int (nar .char (StrChars.pairCh u0 u1)))])
  exact own_end X2 (v := some (.int (nar .char (nar .char (StrChars.pairCh u0 u1))))) (fun h => by rw [Bd.returns] at h; cases h) hlk (fun hr => retN X2 hx (t := .char) Bd.returns (by simp) (hb hby own_d22_10) hr) (by rw [eh2]; exact ⟨rfl, N2, rfl⟩) (by decide) (by decide)
theorem own_ch_0_3_0_ef (m : MethodId) (x0 : Addr) : entryFrame m #[(.ref x0), (.int 0)] 2 = mkF m 0 #[.val (.ref x0), .val (.int 0)] [] := by  first | (simp [entryFrame, mkF, argsToLocals, Value.category]; done) | rfl
def own_ch_0_3_0_Q (Z : State) (x0 : Addr) (t : Addr) (kb : ClassId) (c0 : Int32) (c1 : Int32) (c2 : Int32) (zCS : Int32) (fm : Value) (h0 : Heap) (n0 : Nat) (v : Option Value) (h : Heap) (L : List Loc) : Prop := v = some (.int c0) ∧ Fr n0 L ∧ h = h0
set_option maxRecDepth 65536 in
set_option maxHeartbeats 40000000 in
theorem own_ch_0_3_0 (l : Launch) (Z : State) (a0 : Array Value) (hw : ∀ d ∈ tables_1, d.before a0 Z = true) (ws : List Jvm.Cond) (x0 : Addr) (t : Addr) (kb : ClassId) (c0 : Int32) (c1 : Int32) (c2 : Int32) (zCS : Int32) (fm : Value) (h0 : Heap) (n0 : Nat) (Z0 : n0 ≤ h0.size) (S_CS : own_A0 Z zCS) (nCS : ¬ zCS = 0) (S_AD : own_A1 Z) (S_HI : own_A2 Z) (S_LO : own_A3 Z) (S_SF : own_A4 Z fm) (hfm : fm.isRef = true) (O0 : Old Z n0 h0) (E_x : Exa Z h0 x0 "java/lang/String") (V_x : Fld Z h0 x0 "java/lang/String" "value" "[B" (.ref t)) (C_x : Fld Z h0 x0 "java/lang/String" "coder" "B" (.int 0)) (K_t : Arv Z h0 t kb .byte (3 : Int32) [(.int (StrChars.lo8 c0)), (.int (StrChars.lo8 c1)), (.int (StrChars.lo8 c2))] (.int 0)) (hbd : ¬ c0 < 0 ∧ ¬ (255 : Int32) < c0) (hnd : nar .char c0 = c0) :
    MetFree l own_y5 (head1 (Jvm.Cond.code own_y5 jdk_42_method_56_code 2 (some .char) :: ws) (⟨3, 0, 0, 40⟩ : Room)) (fun aa U => aa = #[(.ref x0), (.int 0)] ∧ Z.Warmed39 U.vm ∧ U.heap = h0) (fun _ _ _ _ _ => True) (fun _ U o U' => ∃ v L, o = .returned v ∧ own_ch_0_3_0_Q Z x0 t kb c0 c1 c2 zCS fm h0 n0 v U'.heap L ∧ FrameEnd U o U' L (⟨3, 0, 0, 40⟩ : Room).cells (⟨3, 0, 0, 40⟩ : Room).slots) := by
  refine MetFree.of_bodySF (plainFor_of_name own_pn_java_lang_String) hisR ?_
  intro p e s m args below meth c s₁ Bd hml0 hP hK
  obtain ⟨rfl, hZ, hh⟩ := hP
  have hx := Bd.exec
  have hby := Bd.bytes
  have hml : c.maxLocals = 2 := hml0
  have hown : s.vm.findClass "java/lang/String" = some m.cls := findClass_of_methodNamed Bd.named
  have hnm := (name_of_methodNamed Bd.named Bd.method).1
  have hlk := Bd.notSynchronized
  have X0 : Stand p l e (⟨3, 0, 0, 40⟩ : Room) s m #[(.ref x0), (.int 0)] below meth c s₁ [] 0 0 := Stand.of_body Bd
  have e0 : s₁.heap = h0 := by rw [← hh, Bd.state]; rfl
  have N0 := Fr.nil n0
  refine own_start (Q := own_ch_0_3_0_Q Z x0 t kb c0 c1 c2 zCS fm h0 n0) (own_ch_0_3_0_ef m x0) ?_
  refine own_g (mkF m 1 #[.val (.ref x0), .val (.int 0)] [(.ref x0)]) (fun _ q => XS.aloadN X0.here hx rfl (hb hby own_d12_0) rfl rfl q) ?_
  refine own_callV X0 hx hZ (y := own_y8) (z := own_y8) hown (own_h hw 60 rfl) (own_h hw 61 rfl) (own_nf (own_h hw 63 rfl)) (own_h hw 63 rfl) (own_h hw 62 rfl) (own_h hw 64 rfl) (own_h hw 8 rfl) (by decide) E_x (own_il_0 l Z a0 hw [] x0  zCS fm h0 n0 Z0 S_CS nCS S_AD S_HI S_LO S_SF hfm O0 C_x) (by decide) (by decide) e0 (g := (mkF m 1 #[.val (.ref x0), .val (.int 0)] [(.ref x0)])) rfl (by rw [hml]; rfl) (argsL := []) (rest := []) (lenOf own_pd__28_29Z rfl) rfl (W := 0) (by show 2 * 0 + _ ≤ _; exact Nat.le_of_eq rfl) (hb hby own_d12_1) rfl (by decide) (by decide) ?_
  rintro rv1 T1 L1 X1 ⟨rfl, Nq1, eh1⟩
  have N1 := Fr.app N0 Nq1
  refine own_g (mkF m 8 #[.val (.ref x0), .val (.int 0)] [(.ref x0)]) (fun _ q => XS.ifNo X1.here hx rfl (hb hby own_d12_4) rfl ((if0 _ _).trans (feq (by decide : ¬ ((1 : Int32) = (0 : Int32)))).1) (XS.aloadN X1.here hx rfl (hb hby own_d12_7) rfl rfl q)) ?_
  obtain ⟨T2, X2, e2, st2⟩ := getF X1 hx hZ hown (host := "") (Or.inl (own_h hw 25 rfl)) Via.refl eh1 V_x (g := (mkF m 8 #[.val (.ref x0), .val (.int 0)] [(.ref x0)])) rfl rfl (hb hby own_d12_8)
  refine own_by (g' := (mkF m 11 #[.val (.ref x0), .val (.int 0)] [(.ref t)])) st2 ?_
  refine own_g (mkF m 12 #[.val (.ref x0), .val (.int 0)] [(.int 0), (.ref t)]) (fun _ q => XS.iloadN X2.here hx rfl (hb hby own_d12_11) rfl q) ?_
  refine own_callS X2 hx hZ (y := own_y10) hown (own_h hw 65 rfl) (own_h hw 66 rfl) (own_h hw 67 rfl) (own_h hw 68 rfl) (by decide) (own_lc_3_0 l Z a0 hw [] t kb (StrChars.lo8 c0) (StrChars.lo8 c1) (StrChars.lo8 c2) zCS fm h0 n0 Z0 S_CS nCS S_AD S_HI S_LO S_SF hfm O0 K_t) (by decide) (by decide) e2 (g := (mkF m 12 #[.val (.ref x0), .val (.int 0)] [(.int 0), (.ref t)])) rfl (by rw [hml]; rfl) (argsL := [(.ref t), (.int 0)]) (rest := []) (lenOf own_pd__28_5bBI_29C rfl) rfl (W := 0) (by show 2 * 0 + _ ≤ _; exact Nat.le_of_eq rfl) (hb hby own_d12_12) rfl (by decide) (by decide) ?_
  rintro rv3 T3 L3 X3 ⟨hv3, Nq3, eh3⟩
  have N3 := Fr.app N1 Nq3
  rw [StrChars.chr8_lo8 hbd.1 hbd.2, hnd] at hv3
  subst hv3
  show own_Fin p e below _ T3 (mkF m 15 #[.val (.ref x0), .val (.int 0)] [(.int c0)])
  exact own_end X3 (v := some (.int (nar .char c0))) (fun h => by rw [Bd.returns] at h; cases h) hlk (fun hr => retN X3 hx (t := .char) Bd.returns (by simp) (hb hby own_d12_15) hr) (by rw [eh3]; exact ⟨by rw [hnd], N3, rfl⟩) (by decide) (by decide)
theorem own_ch_1_3_0_ef (m : MethodId) (x0 : Addr) : entryFrame m #[(.ref x0), (.int 0)] 2 = mkF m 0 #[.val (.ref x0), .val (.int 0)] [] := by  first | (simp [entryFrame, mkF, argsToLocals, Value.category]; done) | rfl
def own_ch_1_3_0_Q (Z : State) (x0 : Addr) (t : Addr) (kb : ClassId) (c0 : Int32) (c1 : Int32) (c2 : Int32) (zCS : Int32) (fm : Value) (h0 : Heap) (n0 : Nat) (v : Option Value) (h : Heap) (L : List Loc) : Prop := v = some (.int c0) ∧ Fr n0 L ∧ h = h0
set_option maxRecDepth 65536 in
set_option maxHeartbeats 40000000 in
theorem own_ch_1_3_0 (l : Launch) (Z : State) (a0 : Array Value) (hw : ∀ d ∈ tables_1, d.before a0 Z = true) (ws : List Jvm.Cond) (x0 : Addr) (t : Addr) (kb : ClassId) (c0 : Int32) (c1 : Int32) (c2 : Int32) (zCS : Int32) (fm : Value) (h0 : Heap) (n0 : Nat) (Z0 : n0 ≤ h0.size) (S_CS : own_A0 Z zCS) (nCS : ¬ zCS = 0) (S_AD : own_A1 Z) (S_HI : own_A2 Z) (S_LO : own_A3 Z) (S_SF : own_A4 Z fm) (hfm : fm.isRef = true) (O0 : Old Z n0 h0) (E_x : Exa Z h0 x0 "java/lang/String") (V_x : Fld Z h0 x0 "java/lang/String" "value" "[B" (.ref t)) (C_x : Fld Z h0 x0 "java/lang/String" "coder" "B" (.int 1)) (K_t : Arv Z h0 t kb .byte (6 : Int32) [(.int (StrChars.lo8 c0)), (.int (StrChars.hi8 c0)), (.int (StrChars.lo8 c1)), (.int (StrChars.hi8 c1)), (.int (StrChars.lo8 c2)), (.int (StrChars.hi8 c2))] (.int 0)) (hbd : ¬ c0 < 0 ∧ ¬ (65535 : Int32) < c0) (hnd : nar .char c0 = c0) :
    MetFree l own_y5 (head1 (Jvm.Cond.code own_y5 jdk_42_method_56_code 2 (some .char) :: ws) (⟨4, 0, 0, 53⟩ : Room)) (fun aa U => aa = #[(.ref x0), (.int 0)] ∧ Z.Warmed39 U.vm ∧ U.heap = h0) (fun _ _ _ _ _ => True) (fun _ U o U' => ∃ v L, o = .returned v ∧ own_ch_1_3_0_Q Z x0 t kb c0 c1 c2 zCS fm h0 n0 v U'.heap L ∧ FrameEnd U o U' L (⟨4, 0, 0, 53⟩ : Room).cells (⟨4, 0, 0, 53⟩ : Room).slots) := by
  refine MetFree.of_bodySF (plainFor_of_name own_pn_java_lang_String) hisR ?_
  intro p e s m args below meth c s₁ Bd hml0 hP hK
  obtain ⟨rfl, hZ, hh⟩ := hP
  have hx := Bd.exec
  have hby := Bd.bytes
  have hml : c.maxLocals = 2 := hml0
  have hown : s.vm.findClass "java/lang/String" = some m.cls := findClass_of_methodNamed Bd.named
  have hnm := (name_of_methodNamed Bd.named Bd.method).1
  have hlk := Bd.notSynchronized
  have X0 : Stand p l e (⟨4, 0, 0, 53⟩ : Room) s m #[(.ref x0), (.int 0)] below meth c s₁ [] 0 0 := Stand.of_body Bd
  have e0 : s₁.heap = h0 := by rw [← hh, Bd.state]; rfl
  have N0 := Fr.nil n0
  refine own_start (Q := own_ch_1_3_0_Q Z x0 t kb c0 c1 c2 zCS fm h0 n0) (own_ch_1_3_0_ef m x0) ?_
  refine own_g (mkF m 1 #[.val (.ref x0), .val (.int 0)] [(.ref x0)]) (fun _ q => XS.aloadN X0.here hx rfl (hb hby own_d12_0) rfl rfl q) ?_
  refine own_callV X0 hx hZ (y := own_y8) (z := own_y8) hown (own_h hw 60 rfl) (own_h hw 61 rfl) (own_nf (own_h hw 63 rfl)) (own_h hw 63 rfl) (own_h hw 62 rfl) (own_h hw 64 rfl) (own_h hw 8 rfl) (by decide) E_x (own_il_1 l Z a0 hw [] x0  zCS fm h0 n0 Z0 S_CS nCS S_AD S_HI S_LO S_SF hfm O0 C_x) (by decide) (by decide) e0 (g := (mkF m 1 #[.val (.ref x0), .val (.int 0)] [(.ref x0)])) rfl (by rw [hml]; rfl) (argsL := []) (rest := []) (lenOf own_pd__28_29Z rfl) rfl (W := 0) (by show 2 * 0 + _ ≤ _; exact Nat.le_of_eq rfl) (hb hby own_d12_1) rfl (by decide) (by decide) ?_
  rintro rv1 T1 L1 X1 ⟨rfl, Nq1, eh1⟩
  have N1 := Fr.app N0 Nq1
  refine own_g (mkF m 17 #[.val (.ref x0), .val (.int 0)] [(.ref x0)]) (fun _ q => XS.ifYes X1.here hx rfl (pc0 := 4) (pc' := 16) rfl (hb hby own_d12_4) rfl ((if0 _ _).trans (teq (by decide : (0 : Int32) = (0 : Int32))).1) (by decide) (by decide) (XS.aloadN X1.here hx rfl (hb hby own_d12_16) rfl rfl q)) ?_
  obtain ⟨T2, X2, e2, st2⟩ := getF X1 hx hZ hown (host := "") (Or.inl (own_h hw 25 rfl)) Via.refl eh1 V_x (g := (mkF m 17 #[.val (.ref x0), .val (.int 0)] [(.ref x0)])) rfl rfl (hb hby own_d12_17)
  refine own_by (g' := (mkF m 20 #[.val (.ref x0), .val (.int 0)] [(.ref t)])) st2 ?_
  refine own_g (mkF m 21 #[.val (.ref x0), .val (.int 0)] [(.int 0), (.ref t)]) (fun _ q => XS.iloadN X2.here hx rfl (hb hby own_d12_20) rfl q) ?_
  refine own_callS X2 hx hZ (y := own_y11) hown (own_h hw 97 rfl) (own_h hw 98 rfl) (own_h hw 44 rfl) (own_h hw 99 rfl) (by decide) (own_uc_3_0 l Z a0 hw [] t kb (StrChars.lo8 c0) (StrChars.hi8 c0) (StrChars.lo8 c1) (StrChars.hi8 c1) (StrChars.lo8 c2) (StrChars.hi8 c2) zCS fm h0 n0 Z0 S_CS nCS S_AD S_HI S_LO S_SF hfm O0 K_t) (by decide) (by decide) e2 (g := (mkF m 21 #[.val (.ref x0), .val (.int 0)] [(.int 0), (.ref t)])) rfl (by rw [hml]; rfl) (argsL := [(.ref t), (.int 0)]) (rest := []) (lenOf own_pd__28_5bBI_29C rfl) rfl (W := 0) (by show 2 * 0 + _ ≤ _; exact Nat.le_of_eq rfl) (hb hby own_d12_21) rfl (by decide) (by decide) ?_
  rintro rv3 T3 L3 X3 ⟨hv3, Nq3, eh3⟩
  have N3 := Fr.app N1 Nq3
  rw [StrChars.pair_says hbd.1 hbd.2, hnd, hnd] at hv3
  subst hv3
  show own_Fin p e below _ T3 (mkF m 24 #[.val (.ref x0), .val (.int 0)] [(.int c0)])
  exact own_end X3 (v := some (.int (nar .char c0))) (fun h => by rw [Bd.returns] at h; cases h) hlk (fun hr => retN X3 hx (t := .char) Bd.returns (by simp) (hb hby own_d12_24) hr) (by rw [eh3]; exact ⟨by rw [hnd], N3, rfl⟩) (by decide) (by decide)
theorem own_lc_3_1_ef (m : MethodId) (b : Addr) : entryFrame m #[(.ref b), (.int 1)] 2 = mkF m 0 #[.val (.ref b), .val (.int 1)] [] := by  first | (simp [entryFrame, mkF, argsToLocals, Value.category]; done) | rfl
def own_lc_3_1_Q (Z : State) (b : Addr) (kb : ClassId) (u0 : Int32) (u1 : Int32) (u2 : Int32) (zCS : Int32) (fm : Value) (h0 : Heap) (n0 : Nat) (v : Option Value) (h : Heap) (L : List Loc) : Prop := v = some (.int (nar .char (StrChars.chr8 u1))) ∧ Fr n0 L ∧ h = h0
set_option maxRecDepth 65536 in
set_option maxHeartbeats 40000000 in
theorem own_lc_3_1 (l : Launch) (Z : State) (a0 : Array Value) (hw : ∀ d ∈ tables_1, d.before a0 Z = true) (ws : List Jvm.Cond) (b : Addr) (kb : ClassId) (u0 : Int32) (u1 : Int32) (u2 : Int32) (zCS : Int32) (fm : Value) (h0 : Heap) (n0 : Nat) (Z0 : n0 ≤ h0.size) (S_CS : own_A0 Z zCS) (nCS : ¬ zCS = 0) (S_AD : own_A1 Z) (S_HI : own_A2 Z) (S_LO : own_A3 Z) (S_SF : own_A4 Z fm) (hfm : fm.isRef = true) (O0 : Old Z n0 h0) (K_b : Arv Z h0 b kb .byte (3 : Int32) [(.int u0), (.int u1), (.int u2)] (.int 0)) :
    MetFree l own_y10 (head1 (Jvm.Cond.code own_y10 jdk_43_method_2_code 2 (some .char) :: ws) (⟨2, 0, 0, 27⟩ : Room)) (fun aa U => aa = #[(.ref b), (.int 1)] ∧ Z.Warmed39 U.vm ∧ U.heap = h0) (fun _ _ _ _ _ => True) (fun _ U o U' => ∃ v L, o = .returned v ∧ own_lc_3_1_Q Z b kb u0 u1 u2 zCS fm h0 n0 v U'.heap L ∧ FrameEnd U o U' L (⟨2, 0, 0, 27⟩ : Room).cells (⟨2, 0, 0, 27⟩ : Room).slots) := by
  refine MetFree.of_bodySF (plainFor_of_name own_pn_java_lang_StringLatin1) hisR ?_
  intro p e s m args below meth c s₁ Bd hml0 hP hK
  obtain ⟨rfl, hZ, hh⟩ := hP
  have hx := Bd.exec
  have hby := Bd.bytes
  have hml : c.maxLocals = 2 := hml0
  have hown : s.vm.findClass "java/lang/StringLatin1" = some m.cls := findClass_of_methodNamed Bd.named
  have hnm := (name_of_methodNamed Bd.named Bd.method).1
  have hlk := Bd.notSynchronized
  have X0 : Stand p l e (⟨2, 0, 0, 27⟩ : Room) s m #[(.ref b), (.int 1)] below meth c s₁ [] 0 0 := Stand.of_body Bd
  have e0 : s₁.heap = h0 := by rw [← hh, Bd.state]; rfl
  have N0 := Fr.nil n0
  refine own_start (Q := own_lc_3_1_Q Z b kb u0 u1 u2 zCS fm h0 n0) (own_lc_3_1_ef m b) ?_
  refine own_g (mkF m 2 #[.val (.ref b), .val (.int 1)] [(.ref b), (.int 1)]) (fun _ q => XS.iloadN X0.here hx rfl (hb hby own_d14_0) rfl (XS.aloadN X0.here hx rfl (hb hby own_d14_1) rfl rfl q)) ?_
  obtain ⟨cl1, Ar1, q1, S1, P1, H1, G1⟩ := id K_b
  refine own_by (g' := (mkF m 3 #[.val (.ref b), .val (.int 1)] [(.int 3), (.int 1)])) (fun _ kq => X0.arraylength hx (by rw [e0]; exact Ar1.1) (State.isArrayOf_alike hZ.alike Ar1.2.1) (g := (mkF m 2 #[.val (.ref b), .val (.int 1)] [(.ref b), (.int 1)])) rfl rfl (hb hby own_d14_2) _ (by rw [len_of S1 P1]; exact kq)) ?_
  refine own_callS X0 hx hZ (y := own_y6) hown (own_h hw 69 rfl) (own_h hw 70 rfl) (own_h hw 8 rfl) (own_h hw 71 rfl) (by decide) (own_sci_3_1 l Z a0 hw [] zCS fm h0 n0 Z0 S_CS nCS S_AD S_HI S_LO S_SF hfm O0) (by decide) (by decide) e0 (g := (mkF m 3 #[.val (.ref b), .val (.int 1)] [(.int 3), (.int 1)])) rfl (by rw [hml]; rfl) (argsL := [(.int 1), (.int 3)]) (rest := []) (lenOf own_pd__28II_29V rfl) rfl (W := 0) (by show 2 * 0 + _ ≤ _; exact Nat.le_of_eq rfl) (hb hby own_d14_3) rfl (by decide) (by decide) ?_
  rintro rv2 T2 L2 X2 ⟨rfl, Nq2, eh2⟩
  have N2 := Fr.app N0 Nq2
  refine own_g (mkF m 8 #[.val (.ref b), .val (.int 1)] [(.int 1), (.ref b)]) (fun _ q => XS.aloadN X2.here hx rfl (hb hby own_d14_6) rfl rfl (XS.iloadN X2.here hx rfl (hb hby own_d14_7) rfl q)) ?_
  obtain ⟨cl3, Ar3, q3, S3, P3, H3, G3⟩ := id K_b
  have hin3 : ¬ ((1 : Int32) < 0 ∨ cl3.slots.size ≤ ((1 : Int32)).toNatClampNeg) := inb_of S3 ⟨by decide, by decide⟩
  refine own_by (g' := (mkF m 9 #[.val (.ref b), .val (.int 1)] [(.int u1)])) (fun _ kq => X2.baloadBytes hx (j := (1 : Int32)) (v := (.int u1)) (by rw [eh2]; exact Ar3.1) (State.isArrayOf_alike hZ.alike Ar3.2.1) Ar3.2.2 hin3 (H3.at hin3 rfl) (g := (mkF m 8 #[.val (.ref b), .val (.int 1)] [(.int 1), (.ref b)])) rfl rfl (hb hby own_d14_8) _ kq) ?_
  refine own_g (mkF m 14 #[.val (.ref b), .val (.int 1)] [(.int ((u1 &&& (255 : Int32)).toUInt32.toUInt16.toUInt32.toInt32))]) (fun _ q => XS.sipush X2.here hx rfl (hb hby own_d14_9) (XS.iand X2.here hx rfl (hb hby own_d14_12) rfl (XS.i2c X2.here hx rfl (hb hby own_d14_13) rfl q))) ?_
  exact own_end X2 (v := some (.int (nar .char ((u1 &&& (255 : Int32)).toUInt32.toUInt16.toUInt32.toInt32)))) (fun h => by rw [Bd.returns] at h; cases h) hlk (fun hr => retN X2 hx (t := .char) Bd.returns (by simp) (hb hby own_d14_14) hr) (by rw [eh2]; exact ⟨rfl, N2, rfl⟩) (by decide) (by decide)
theorem own_uc_3_1_ef (m : MethodId) (b : Addr) : entryFrame m #[(.ref b), (.int 1)] 2 = mkF m 0 #[.val (.ref b), .val (.int 1)] [] := by  first | (simp [entryFrame, mkF, argsToLocals, Value.category]; done) | rfl
def own_uc_3_1_Q (Z : State) (b : Addr) (kb : ClassId) (u0 : Int32) (u1 : Int32) (u2 : Int32) (u3 : Int32) (u4 : Int32) (u5 : Int32) (zCS : Int32) (fm : Value) (h0 : Heap) (n0 : Nat) (v : Option Value) (h : Heap) (L : List Loc) : Prop := v = some (.int (nar .char (nar .char (StrChars.pairCh u2 u3)))) ∧ Fr n0 L ∧ h = h0
set_option maxRecDepth 65536 in
set_option maxHeartbeats 40000000 in
theorem own_uc_3_1 (l : Launch) (Z : State) (a0 : Array Value) (hw : ∀ d ∈ tables_1, d.before a0 Z = true) (ws : List Jvm.Cond) (b : Addr) (kb : ClassId) (u0 : Int32) (u1 : Int32) (u2 : Int32) (u3 : Int32) (u4 : Int32) (u5 : Int32) (zCS : Int32) (fm : Value) (h0 : Heap) (n0 : Nat) (Z0 : n0 ≤ h0.size) (S_CS : own_A0 Z zCS) (nCS : ¬ zCS = 0) (S_AD : own_A1 Z) (S_HI : own_A2 Z) (S_LO : own_A3 Z) (S_SF : own_A4 Z fm) (hfm : fm.isRef = true) (O0 : Old Z n0 h0) (K_b : Arv Z h0 b kb .byte (6 : Int32) [(.int u0), (.int u1), (.int u2), (.int u3), (.int u4), (.int u5)] (.int 0)) :
    MetFree l own_y11 (head1 (Jvm.Cond.code own_y11 jdk_52_method_83_code 2 (some .char) :: ws) (⟨3, 0, 0, 40⟩ : Room)) (fun aa U => aa = #[(.ref b), (.int 1)] ∧ Z.Warmed39 U.vm ∧ U.heap = h0) (fun _ _ _ _ _ => True) (fun _ U o U' => ∃ v L, o = .returned v ∧ own_uc_3_1_Q Z b kb u0 u1 u2 u3 u4 u5 zCS fm h0 n0 v U'.heap L ∧ FrameEnd U o U' L (⟨3, 0, 0, 40⟩ : Room).cells (⟨3, 0, 0, 40⟩ : Room).slots) := by
  refine MetFree.of_bodySF (plainFor_of_name own_pn_java_lang_StringUTF16) hisR ?_
  intro p e s m args below meth c s₁ Bd hml0 hP hK
  obtain ⟨rfl, hZ, hh⟩ := hP
  have hx := Bd.exec
  have hby := Bd.bytes
  have hml : c.maxLocals = 2 := hml0
  have hown : s.vm.findClass "java/lang/StringUTF16" = some m.cls := findClass_of_methodNamed Bd.named
  have hnm := (name_of_methodNamed Bd.named Bd.method).1
  have hlk := Bd.notSynchronized
  have X0 : Stand p l e (⟨3, 0, 0, 40⟩ : Room) s m #[(.ref b), (.int 1)] below meth c s₁ [] 0 0 := Stand.of_body Bd
  have e0 : s₁.heap = h0 := by rw [← hh, Bd.state]; rfl
  have N0 := Fr.nil n0
  refine own_start (Q := own_uc_3_1_Q Z b kb u0 u1 u2 u3 u4 u5 zCS fm h0 n0) (own_uc_3_1_ef m b) ?_
  refine own_g (mkF m 2 #[.val (.ref b), .val (.int 1)] [(.ref b), (.int 1)]) (fun _ q => XS.iloadN X0.here hx rfl (hb hby own_d22_0) rfl (XS.aloadN X0.here hx rfl (hb hby own_d22_1) rfl rfl q)) ?_
  refine own_callS X0 hx hZ (y := own_y12) hown (own_h hw 100 rfl) (own_h hw 101 rfl) (own_h hw 44 rfl) (own_h hw 102 rfl) (by decide) (own_uci_3_1 l Z a0 hw [] b kb _ _ zCS fm h0 n0 Z0 S_CS nCS S_AD S_HI S_LO S_SF hfm O0 K_b) (by decide) (by decide) e0 (g := (mkF m 2 #[.val (.ref b), .val (.int 1)] [(.ref b), (.int 1)])) rfl (by rw [hml]; rfl) (argsL := [(.int 1), (.ref b)]) (rest := []) (lenOf own_pd__28I_5bB_29V rfl) rfl (W := 0) (by show 2 * 0 + _ ≤ _; exact Nat.le_of_eq rfl) (hb hby own_d22_2) rfl (by decide) (by decide) ?_
  rintro rv1 T1 L1 X1 ⟨rfl, Nq1, eh1⟩
  have N1 := Fr.app N0 Nq1
  refine own_g (mkF m 7 #[.val (.ref b), .val (.int 1)] [(.int 1), (.ref b)]) (fun _ q => XS.aloadN X1.here hx rfl (hb hby own_d22_5) rfl rfl (XS.iloadN X1.here hx rfl (hb hby own_d22_6) rfl q)) ?_
  refine own_callS X1 hx hZ (y := own_y16) hown (own_h hw 94 rfl) (own_h hw 95 rfl) (own_h hw 44 rfl) (own_h hw 96 rfl) (by decide) (own_get_3_1 l Z a0 hw [] b kb u0 u1 u2 u3 u4 u5 zCS fm h0 n0 Z0 S_CS nCS S_AD S_HI S_LO S_SF hfm O0 K_b) (by decide) (by decide) eh1 (g := (mkF m 7 #[.val (.ref b), .val (.int 1)] [(.int 1), (.ref b)])) rfl (by rw [hml]; rfl) (argsL := [(.ref b), (.int 1)]) (rest := []) (lenOf own_pd__28_5bBI_29C rfl) rfl (W := 0) (by show 2 * 0 + _ ≤ _; exact Nat.le_of_eq rfl) (hb hby own_d22_7) rfl (by decide) (by decide) ?_
  rintro rv2 T2 L2 X2 ⟨rfl, Nq2, eh2⟩
  have N2 := Fr.app N1 Nq2
  show own_Fin p e below _ T2 (mkF m 10 #[.val (.ref b), .val (.int 1)] [(.int (nar .char (StrChars.pairCh u2 u3)))])
  exact own_end X2 (v := some (.int (nar .char (nar .char (StrChars.pairCh u2 u3))))) (fun h => by rw [Bd.returns] at h; cases h) hlk (fun hr => retN X2 hx (t := .char) Bd.returns (by simp) (hb hby own_d22_10) hr) (by rw [eh2]; exact ⟨rfl, N2, rfl⟩) (by decide) (by decide)
theorem own_ch_0_3_1_ef (m : MethodId) (x0 : Addr) : entryFrame m #[(.ref x0), (.int 1)] 2 = mkF m 0 #[.val (.ref x0), .val (.int 1)] [] := by  first | (simp [entryFrame, mkF, argsToLocals, Value.category]; done) | rfl
def own_ch_0_3_1_Q (Z : State) (x0 : Addr) (t : Addr) (kb : ClassId) (c0 : Int32) (c1 : Int32) (c2 : Int32) (zCS : Int32) (fm : Value) (h0 : Heap) (n0 : Nat) (v : Option Value) (h : Heap) (L : List Loc) : Prop := v = some (.int c1) ∧ Fr n0 L ∧ h = h0
set_option maxRecDepth 65536 in
set_option maxHeartbeats 40000000 in
theorem own_ch_0_3_1 (l : Launch) (Z : State) (a0 : Array Value) (hw : ∀ d ∈ tables_1, d.before a0 Z = true) (ws : List Jvm.Cond) (x0 : Addr) (t : Addr) (kb : ClassId) (c0 : Int32) (c1 : Int32) (c2 : Int32) (zCS : Int32) (fm : Value) (h0 : Heap) (n0 : Nat) (Z0 : n0 ≤ h0.size) (S_CS : own_A0 Z zCS) (nCS : ¬ zCS = 0) (S_AD : own_A1 Z) (S_HI : own_A2 Z) (S_LO : own_A3 Z) (S_SF : own_A4 Z fm) (hfm : fm.isRef = true) (O0 : Old Z n0 h0) (E_x : Exa Z h0 x0 "java/lang/String") (V_x : Fld Z h0 x0 "java/lang/String" "value" "[B" (.ref t)) (C_x : Fld Z h0 x0 "java/lang/String" "coder" "B" (.int 0)) (K_t : Arv Z h0 t kb .byte (3 : Int32) [(.int (StrChars.lo8 c0)), (.int (StrChars.lo8 c1)), (.int (StrChars.lo8 c2))] (.int 0)) (hbd : ¬ c1 < 0 ∧ ¬ (255 : Int32) < c1) (hnd : nar .char c1 = c1) :
    MetFree l own_y5 (head1 (Jvm.Cond.code own_y5 jdk_42_method_56_code 2 (some .char) :: ws) (⟨3, 0, 0, 40⟩ : Room)) (fun aa U => aa = #[(.ref x0), (.int 1)] ∧ Z.Warmed39 U.vm ∧ U.heap = h0) (fun _ _ _ _ _ => True) (fun _ U o U' => ∃ v L, o = .returned v ∧ own_ch_0_3_1_Q Z x0 t kb c0 c1 c2 zCS fm h0 n0 v U'.heap L ∧ FrameEnd U o U' L (⟨3, 0, 0, 40⟩ : Room).cells (⟨3, 0, 0, 40⟩ : Room).slots) := by
  refine MetFree.of_bodySF (plainFor_of_name own_pn_java_lang_String) hisR ?_
  intro p e s m args below meth c s₁ Bd hml0 hP hK
  obtain ⟨rfl, hZ, hh⟩ := hP
  have hx := Bd.exec
  have hby := Bd.bytes
  have hml : c.maxLocals = 2 := hml0
  have hown : s.vm.findClass "java/lang/String" = some m.cls := findClass_of_methodNamed Bd.named
  have hnm := (name_of_methodNamed Bd.named Bd.method).1
  have hlk := Bd.notSynchronized
  have X0 : Stand p l e (⟨3, 0, 0, 40⟩ : Room) s m #[(.ref x0), (.int 1)] below meth c s₁ [] 0 0 := Stand.of_body Bd
  have e0 : s₁.heap = h0 := by rw [← hh, Bd.state]; rfl
  have N0 := Fr.nil n0
  refine own_start (Q := own_ch_0_3_1_Q Z x0 t kb c0 c1 c2 zCS fm h0 n0) (own_ch_0_3_1_ef m x0) ?_
  refine own_g (mkF m 1 #[.val (.ref x0), .val (.int 1)] [(.ref x0)]) (fun _ q => XS.aloadN X0.here hx rfl (hb hby own_d12_0) rfl rfl q) ?_
  refine own_callV X0 hx hZ (y := own_y8) (z := own_y8) hown (own_h hw 60 rfl) (own_h hw 61 rfl) (own_nf (own_h hw 63 rfl)) (own_h hw 63 rfl) (own_h hw 62 rfl) (own_h hw 64 rfl) (own_h hw 8 rfl) (by decide) E_x (own_il_0 l Z a0 hw [] x0  zCS fm h0 n0 Z0 S_CS nCS S_AD S_HI S_LO S_SF hfm O0 C_x) (by decide) (by decide) e0 (g := (mkF m 1 #[.val (.ref x0), .val (.int 1)] [(.ref x0)])) rfl (by rw [hml]; rfl) (argsL := []) (rest := []) (lenOf own_pd__28_29Z rfl) rfl (W := 0) (by show 2 * 0 + _ ≤ _; exact Nat.le_of_eq rfl) (hb hby own_d12_1) rfl (by decide) (by decide) ?_
  rintro rv1 T1 L1 X1 ⟨rfl, Nq1, eh1⟩
  have N1 := Fr.app N0 Nq1
  refine own_g (mkF m 8 #[.val (.ref x0), .val (.int 1)] [(.ref x0)]) (fun _ q => XS.ifNo X1.here hx rfl (hb hby own_d12_4) rfl ((if0 _ _).trans (feq (by decide : ¬ ((1 : Int32) = (0 : Int32)))).1) (XS.aloadN X1.here hx rfl (hb hby own_d12_7) rfl rfl q)) ?_
  obtain ⟨T2, X2, e2, st2⟩ := getF X1 hx hZ hown (host := "") (Or.inl (own_h hw 25 rfl)) Via.refl eh1 V_x (g := (mkF m 8 #[.val (.ref x0), .val (.int 1)] [(.ref x0)])) rfl rfl (hb hby own_d12_8)
  refine own_by (g' := (mkF m 11 #[.val (.ref x0), .val (.int 1)] [(.ref t)])) st2 ?_
  refine own_g (mkF m 12 #[.val (.ref x0), .val (.int 1)] [(.int 1), (.ref t)]) (fun _ q => XS.iloadN X2.here hx rfl (hb hby own_d12_11) rfl q) ?_
  refine own_callS X2 hx hZ (y := own_y10) hown (own_h hw 65 rfl) (own_h hw 66 rfl) (own_h hw 67 rfl) (own_h hw 68 rfl) (by decide) (own_lc_3_1 l Z a0 hw [] t kb (StrChars.lo8 c0) (StrChars.lo8 c1) (StrChars.lo8 c2) zCS fm h0 n0 Z0 S_CS nCS S_AD S_HI S_LO S_SF hfm O0 K_t) (by decide) (by decide) e2 (g := (mkF m 12 #[.val (.ref x0), .val (.int 1)] [(.int 1), (.ref t)])) rfl (by rw [hml]; rfl) (argsL := [(.ref t), (.int 1)]) (rest := []) (lenOf own_pd__28_5bBI_29C rfl) rfl (W := 0) (by show 2 * 0 + _ ≤ _; exact Nat.le_of_eq rfl) (hb hby own_d12_12) rfl (by decide) (by decide) ?_
  rintro rv3 T3 L3 X3 ⟨hv3, Nq3, eh3⟩
  have N3 := Fr.app N1 Nq3
  rw [StrChars.chr8_lo8 hbd.1 hbd.2, hnd] at hv3
  subst hv3
  show own_Fin p e below _ T3 (mkF m 15 #[.val (.ref x0), .val (.int 1)] [(.int c1)])
  exact own_end X3 (v := some (.int (nar .char c1))) (fun h => by rw [Bd.returns] at h; cases h) hlk (fun hr => retN X3 hx (t := .char) Bd.returns (by simp) (hb hby own_d12_15) hr) (by rw [eh3]; exact ⟨by rw [hnd], N3, rfl⟩) (by decide) (by decide)
theorem own_ch_1_3_1_ef (m : MethodId) (x0 : Addr) : entryFrame m #[(.ref x0), (.int 1)] 2 = mkF m 0 #[.val (.ref x0), .val (.int 1)] [] := by  first | (simp [entryFrame, mkF, argsToLocals, Value.category]; done) | rfl
def own_ch_1_3_1_Q (Z : State) (x0 : Addr) (t : Addr) (kb : ClassId) (c0 : Int32) (c1 : Int32) (c2 : Int32) (zCS : Int32) (fm : Value) (h0 : Heap) (n0 : Nat) (v : Option Value) (h : Heap) (L : List Loc) : Prop := v = some (.int c1) ∧ Fr n0 L ∧ h = h0
set_option maxRecDepth 65536 in
set_option maxHeartbeats 40000000 in
theorem own_ch_1_3_1 (l : Launch) (Z : State) (a0 : Array Value) (hw : ∀ d ∈ tables_1, d.before a0 Z = true) (ws : List Jvm.Cond) (x0 : Addr) (t : Addr) (kb : ClassId) (c0 : Int32) (c1 : Int32) (c2 : Int32) (zCS : Int32) (fm : Value) (h0 : Heap) (n0 : Nat) (Z0 : n0 ≤ h0.size) (S_CS : own_A0 Z zCS) (nCS : ¬ zCS = 0) (S_AD : own_A1 Z) (S_HI : own_A2 Z) (S_LO : own_A3 Z) (S_SF : own_A4 Z fm) (hfm : fm.isRef = true) (O0 : Old Z n0 h0) (E_x : Exa Z h0 x0 "java/lang/String") (V_x : Fld Z h0 x0 "java/lang/String" "value" "[B" (.ref t)) (C_x : Fld Z h0 x0 "java/lang/String" "coder" "B" (.int 1)) (K_t : Arv Z h0 t kb .byte (6 : Int32) [(.int (StrChars.lo8 c0)), (.int (StrChars.hi8 c0)), (.int (StrChars.lo8 c1)), (.int (StrChars.hi8 c1)), (.int (StrChars.lo8 c2)), (.int (StrChars.hi8 c2))] (.int 0)) (hbd : ¬ c1 < 0 ∧ ¬ (65535 : Int32) < c1) (hnd : nar .char c1 = c1) :
    MetFree l own_y5 (head1 (Jvm.Cond.code own_y5 jdk_42_method_56_code 2 (some .char) :: ws) (⟨4, 0, 0, 53⟩ : Room)) (fun aa U => aa = #[(.ref x0), (.int 1)] ∧ Z.Warmed39 U.vm ∧ U.heap = h0) (fun _ _ _ _ _ => True) (fun _ U o U' => ∃ v L, o = .returned v ∧ own_ch_1_3_1_Q Z x0 t kb c0 c1 c2 zCS fm h0 n0 v U'.heap L ∧ FrameEnd U o U' L (⟨4, 0, 0, 53⟩ : Room).cells (⟨4, 0, 0, 53⟩ : Room).slots) := by
  refine MetFree.of_bodySF (plainFor_of_name own_pn_java_lang_String) hisR ?_
  intro p e s m args below meth c s₁ Bd hml0 hP hK
  obtain ⟨rfl, hZ, hh⟩ := hP
  have hx := Bd.exec
  have hby := Bd.bytes
  have hml : c.maxLocals = 2 := hml0
  have hown : s.vm.findClass "java/lang/String" = some m.cls := findClass_of_methodNamed Bd.named
  have hnm := (name_of_methodNamed Bd.named Bd.method).1
  have hlk := Bd.notSynchronized
  have X0 : Stand p l e (⟨4, 0, 0, 53⟩ : Room) s m #[(.ref x0), (.int 1)] below meth c s₁ [] 0 0 := Stand.of_body Bd
  have e0 : s₁.heap = h0 := by rw [← hh, Bd.state]; rfl
  have N0 := Fr.nil n0
  refine own_start (Q := own_ch_1_3_1_Q Z x0 t kb c0 c1 c2 zCS fm h0 n0) (own_ch_1_3_1_ef m x0) ?_
  refine own_g (mkF m 1 #[.val (.ref x0), .val (.int 1)] [(.ref x0)]) (fun _ q => XS.aloadN X0.here hx rfl (hb hby own_d12_0) rfl rfl q) ?_
  refine own_callV X0 hx hZ (y := own_y8) (z := own_y8) hown (own_h hw 60 rfl) (own_h hw 61 rfl) (own_nf (own_h hw 63 rfl)) (own_h hw 63 rfl) (own_h hw 62 rfl) (own_h hw 64 rfl) (own_h hw 8 rfl) (by decide) E_x (own_il_1 l Z a0 hw [] x0  zCS fm h0 n0 Z0 S_CS nCS S_AD S_HI S_LO S_SF hfm O0 C_x) (by decide) (by decide) e0 (g := (mkF m 1 #[.val (.ref x0), .val (.int 1)] [(.ref x0)])) rfl (by rw [hml]; rfl) (argsL := []) (rest := []) (lenOf own_pd__28_29Z rfl) rfl (W := 0) (by show 2 * 0 + _ ≤ _; exact Nat.le_of_eq rfl) (hb hby own_d12_1) rfl (by decide) (by decide) ?_
  rintro rv1 T1 L1 X1 ⟨rfl, Nq1, eh1⟩
  have N1 := Fr.app N0 Nq1
  refine own_g (mkF m 17 #[.val (.ref x0), .val (.int 1)] [(.ref x0)]) (fun _ q => XS.ifYes X1.here hx rfl (pc0 := 4) (pc' := 16) rfl (hb hby own_d12_4) rfl ((if0 _ _).trans (teq (by decide : (0 : Int32) = (0 : Int32))).1) (by decide) (by decide) (XS.aloadN X1.here hx rfl (hb hby own_d12_16) rfl rfl q)) ?_
  obtain ⟨T2, X2, e2, st2⟩ := getF X1 hx hZ hown (host := "") (Or.inl (own_h hw 25 rfl)) Via.refl eh1 V_x (g := (mkF m 17 #[.val (.ref x0), .val (.int 1)] [(.ref x0)])) rfl rfl (hb hby own_d12_17)
  refine own_by (g' := (mkF m 20 #[.val (.ref x0), .val (.int 1)] [(.ref t)])) st2 ?_
  refine own_g (mkF m 21 #[.val (.ref x0), .val (.int 1)] [(.int 1), (.ref t)]) (fun _ q => XS.iloadN X2.here hx rfl (hb hby own_d12_20) rfl q) ?_
  refine own_callS X2 hx hZ (y := own_y11) hown (own_h hw 97 rfl) (own_h hw 98 rfl) (own_h hw 44 rfl) (own_h hw 99 rfl) (by decide) (own_uc_3_1 l Z a0 hw [] t kb (StrChars.lo8 c0) (StrChars.hi8 c0) (StrChars.lo8 c1) (StrChars.hi8 c1) (StrChars.lo8 c2) (StrChars.hi8 c2) zCS fm h0 n0 Z0 S_CS nCS S_AD S_HI S_LO S_SF hfm O0 K_t) (by decide) (by decide) e2 (g := (mkF m 21 #[.val (.ref x0), .val (.int 1)] [(.int 1), (.ref t)])) rfl (by rw [hml]; rfl) (argsL := [(.ref t), (.int 1)]) (rest := []) (lenOf own_pd__28_5bBI_29C rfl) rfl (W := 0) (by show 2 * 0 + _ ≤ _; exact Nat.le_of_eq rfl) (hb hby own_d12_21) rfl (by decide) (by decide) ?_
  rintro rv3 T3 L3 X3 ⟨hv3, Nq3, eh3⟩
  have N3 := Fr.app N1 Nq3
  rw [StrChars.pair_says hbd.1 hbd.2, hnd, hnd] at hv3
  subst hv3
  show own_Fin p e below _ T3 (mkF m 24 #[.val (.ref x0), .val (.int 1)] [(.int c1)])
  exact own_end X3 (v := some (.int (nar .char c1))) (fun h => by rw [Bd.returns] at h; cases h) hlk (fun hr => retN X3 hx (t := .char) Bd.returns (by simp) (hb hby own_d12_24) hr) (by rw [eh3]; exact ⟨by rw [hnd], N3, rfl⟩) (by decide) (by decide)
theorem own_lc_3_2_ef (m : MethodId) (b : Addr) : entryFrame m #[(.ref b), (.int 2)] 2 = mkF m 0 #[.val (.ref b), .val (.int 2)] [] := by  first | (simp [entryFrame, mkF, argsToLocals, Value.category]; done) | rfl
def own_lc_3_2_Q (Z : State) (b : Addr) (kb : ClassId) (u0 : Int32) (u1 : Int32) (u2 : Int32) (zCS : Int32) (fm : Value) (h0 : Heap) (n0 : Nat) (v : Option Value) (h : Heap) (L : List Loc) : Prop := v = some (.int (nar .char (StrChars.chr8 u2))) ∧ Fr n0 L ∧ h = h0
set_option maxRecDepth 65536 in
set_option maxHeartbeats 40000000 in
theorem own_lc_3_2 (l : Launch) (Z : State) (a0 : Array Value) (hw : ∀ d ∈ tables_1, d.before a0 Z = true) (ws : List Jvm.Cond) (b : Addr) (kb : ClassId) (u0 : Int32) (u1 : Int32) (u2 : Int32) (zCS : Int32) (fm : Value) (h0 : Heap) (n0 : Nat) (Z0 : n0 ≤ h0.size) (S_CS : own_A0 Z zCS) (nCS : ¬ zCS = 0) (S_AD : own_A1 Z) (S_HI : own_A2 Z) (S_LO : own_A3 Z) (S_SF : own_A4 Z fm) (hfm : fm.isRef = true) (O0 : Old Z n0 h0) (K_b : Arv Z h0 b kb .byte (3 : Int32) [(.int u0), (.int u1), (.int u2)] (.int 0)) :
    MetFree l own_y10 (head1 (Jvm.Cond.code own_y10 jdk_43_method_2_code 2 (some .char) :: ws) (⟨2, 0, 0, 27⟩ : Room)) (fun aa U => aa = #[(.ref b), (.int 2)] ∧ Z.Warmed39 U.vm ∧ U.heap = h0) (fun _ _ _ _ _ => True) (fun _ U o U' => ∃ v L, o = .returned v ∧ own_lc_3_2_Q Z b kb u0 u1 u2 zCS fm h0 n0 v U'.heap L ∧ FrameEnd U o U' L (⟨2, 0, 0, 27⟩ : Room).cells (⟨2, 0, 0, 27⟩ : Room).slots) := by
  refine MetFree.of_bodySF (plainFor_of_name own_pn_java_lang_StringLatin1) hisR ?_
  intro p e s m args below meth c s₁ Bd hml0 hP hK
  obtain ⟨rfl, hZ, hh⟩ := hP
  have hx := Bd.exec
  have hby := Bd.bytes
  have hml : c.maxLocals = 2 := hml0
  have hown : s.vm.findClass "java/lang/StringLatin1" = some m.cls := findClass_of_methodNamed Bd.named
  have hnm := (name_of_methodNamed Bd.named Bd.method).1
  have hlk := Bd.notSynchronized
  have X0 : Stand p l e (⟨2, 0, 0, 27⟩ : Room) s m #[(.ref b), (.int 2)] below meth c s₁ [] 0 0 := Stand.of_body Bd
  have e0 : s₁.heap = h0 := by rw [← hh, Bd.state]; rfl
  have N0 := Fr.nil n0
  refine own_start (Q := own_lc_3_2_Q Z b kb u0 u1 u2 zCS fm h0 n0) (own_lc_3_2_ef m b) ?_
  refine own_g (mkF m 2 #[.val (.ref b), .val (.int 2)] [(.ref b), (.int 2)]) (fun _ q => XS.iloadN X0.here hx rfl (hb hby own_d14_0) rfl (XS.aloadN X0.here hx rfl (hb hby own_d14_1) rfl rfl q)) ?_
  obtain ⟨cl1, Ar1, q1, S1, P1, H1, G1⟩ := id K_b
  refine own_by (g' := (mkF m 3 #[.val (.ref b), .val (.int 2)] [(.int 3), (.int 2)])) (fun _ kq => X0.arraylength hx (by rw [e0]; exact Ar1.1) (State.isArrayOf_alike hZ.alike Ar1.2.1) (g := (mkF m 2 #[.val (.ref b), .val (.int 2)] [(.ref b), (.int 2)])) rfl rfl (hb hby own_d14_2) _ (by rw [len_of S1 P1]; exact kq)) ?_
  refine own_callS X0 hx hZ (y := own_y6) hown (own_h hw 69 rfl) (own_h hw 70 rfl) (own_h hw 8 rfl) (own_h hw 71 rfl) (by decide) (own_sci_3_2 l Z a0 hw [] zCS fm h0 n0 Z0 S_CS nCS S_AD S_HI S_LO S_SF hfm O0) (by decide) (by decide) e0 (g := (mkF m 3 #[.val (.ref b), .val (.int 2)] [(.int 3), (.int 2)])) rfl (by rw [hml]; rfl) (argsL := [(.int 2), (.int 3)]) (rest := []) (lenOf own_pd__28II_29V rfl) rfl (W := 0) (by show 2 * 0 + _ ≤ _; exact Nat.le_of_eq rfl) (hb hby own_d14_3) rfl (by decide) (by decide) ?_
  rintro rv2 T2 L2 X2 ⟨rfl, Nq2, eh2⟩
  have N2 := Fr.app N0 Nq2
  refine own_g (mkF m 8 #[.val (.ref b), .val (.int 2)] [(.int 2), (.ref b)]) (fun _ q => XS.aloadN X2.here hx rfl (hb hby own_d14_6) rfl rfl (XS.iloadN X2.here hx rfl (hb hby own_d14_7) rfl q)) ?_
  obtain ⟨cl3, Ar3, q3, S3, P3, H3, G3⟩ := id K_b
  have hin3 : ¬ ((2 : Int32) < 0 ∨ cl3.slots.size ≤ ((2 : Int32)).toNatClampNeg) := inb_of S3 ⟨by decide, by decide⟩
  refine own_by (g' := (mkF m 9 #[.val (.ref b), .val (.int 2)] [(.int u2)])) (fun _ kq => X2.baloadBytes hx (j := (2 : Int32)) (v := (.int u2)) (by rw [eh2]; exact Ar3.1) (State.isArrayOf_alike hZ.alike Ar3.2.1) Ar3.2.2 hin3 (H3.at hin3 rfl) (g := (mkF m 8 #[.val (.ref b), .val (.int 2)] [(.int 2), (.ref b)])) rfl rfl (hb hby own_d14_8) _ kq) ?_
  refine own_g (mkF m 14 #[.val (.ref b), .val (.int 2)] [(.int ((u2 &&& (255 : Int32)).toUInt32.toUInt16.toUInt32.toInt32))]) (fun _ q => XS.sipush X2.here hx rfl (hb hby own_d14_9) (XS.iand X2.here hx rfl (hb hby own_d14_12) rfl (XS.i2c X2.here hx rfl (hb hby own_d14_13) rfl q))) ?_
  exact own_end X2 (v := some (.int (nar .char ((u2 &&& (255 : Int32)).toUInt32.toUInt16.toUInt32.toInt32)))) (fun h => by rw [Bd.returns] at h; cases h) hlk (fun hr => retN X2 hx (t := .char) Bd.returns (by simp) (hb hby own_d14_14) hr) (by rw [eh2]; exact ⟨rfl, N2, rfl⟩) (by decide) (by decide)
theorem own_uc_3_2_ef (m : MethodId) (b : Addr) : entryFrame m #[(.ref b), (.int 2)] 2 = mkF m 0 #[.val (.ref b), .val (.int 2)] [] := by  first | (simp [entryFrame, mkF, argsToLocals, Value.category]; done) | rfl
def own_uc_3_2_Q (Z : State) (b : Addr) (kb : ClassId) (u0 : Int32) (u1 : Int32) (u2 : Int32) (u3 : Int32) (u4 : Int32) (u5 : Int32) (zCS : Int32) (fm : Value) (h0 : Heap) (n0 : Nat) (v : Option Value) (h : Heap) (L : List Loc) : Prop := v = some (.int (nar .char (nar .char (StrChars.pairCh u4 u5)))) ∧ Fr n0 L ∧ h = h0
set_option maxRecDepth 65536 in
set_option maxHeartbeats 40000000 in
theorem own_uc_3_2 (l : Launch) (Z : State) (a0 : Array Value) (hw : ∀ d ∈ tables_1, d.before a0 Z = true) (ws : List Jvm.Cond) (b : Addr) (kb : ClassId) (u0 : Int32) (u1 : Int32) (u2 : Int32) (u3 : Int32) (u4 : Int32) (u5 : Int32) (zCS : Int32) (fm : Value) (h0 : Heap) (n0 : Nat) (Z0 : n0 ≤ h0.size) (S_CS : own_A0 Z zCS) (nCS : ¬ zCS = 0) (S_AD : own_A1 Z) (S_HI : own_A2 Z) (S_LO : own_A3 Z) (S_SF : own_A4 Z fm) (hfm : fm.isRef = true) (O0 : Old Z n0 h0) (K_b : Arv Z h0 b kb .byte (6 : Int32) [(.int u0), (.int u1), (.int u2), (.int u3), (.int u4), (.int u5)] (.int 0)) :
    MetFree l own_y11 (head1 (Jvm.Cond.code own_y11 jdk_52_method_83_code 2 (some .char) :: ws) (⟨3, 0, 0, 40⟩ : Room)) (fun aa U => aa = #[(.ref b), (.int 2)] ∧ Z.Warmed39 U.vm ∧ U.heap = h0) (fun _ _ _ _ _ => True) (fun _ U o U' => ∃ v L, o = .returned v ∧ own_uc_3_2_Q Z b kb u0 u1 u2 u3 u4 u5 zCS fm h0 n0 v U'.heap L ∧ FrameEnd U o U' L (⟨3, 0, 0, 40⟩ : Room).cells (⟨3, 0, 0, 40⟩ : Room).slots) := by
  refine MetFree.of_bodySF (plainFor_of_name own_pn_java_lang_StringUTF16) hisR ?_
  intro p e s m args below meth c s₁ Bd hml0 hP hK
  obtain ⟨rfl, hZ, hh⟩ := hP
  have hx := Bd.exec
  have hby := Bd.bytes
  have hml : c.maxLocals = 2 := hml0
  have hown : s.vm.findClass "java/lang/StringUTF16" = some m.cls := findClass_of_methodNamed Bd.named
  have hnm := (name_of_methodNamed Bd.named Bd.method).1
  have hlk := Bd.notSynchronized
  have X0 : Stand p l e (⟨3, 0, 0, 40⟩ : Room) s m #[(.ref b), (.int 2)] below meth c s₁ [] 0 0 := Stand.of_body Bd
  have e0 : s₁.heap = h0 := by rw [← hh, Bd.state]; rfl
  have N0 := Fr.nil n0
  refine own_start (Q := own_uc_3_2_Q Z b kb u0 u1 u2 u3 u4 u5 zCS fm h0 n0) (own_uc_3_2_ef m b) ?_
  refine own_g (mkF m 2 #[.val (.ref b), .val (.int 2)] [(.ref b), (.int 2)]) (fun _ q => XS.iloadN X0.here hx rfl (hb hby own_d22_0) rfl (XS.aloadN X0.here hx rfl (hb hby own_d22_1) rfl rfl q)) ?_
  refine own_callS X0 hx hZ (y := own_y12) hown (own_h hw 100 rfl) (own_h hw 101 rfl) (own_h hw 44 rfl) (own_h hw 102 rfl) (by decide) (own_uci_3_2 l Z a0 hw [] b kb _ _ zCS fm h0 n0 Z0 S_CS nCS S_AD S_HI S_LO S_SF hfm O0 K_b) (by decide) (by decide) e0 (g := (mkF m 2 #[.val (.ref b), .val (.int 2)] [(.ref b), (.int 2)])) rfl (by rw [hml]; rfl) (argsL := [(.int 2), (.ref b)]) (rest := []) (lenOf own_pd__28I_5bB_29V rfl) rfl (W := 0) (by show 2 * 0 + _ ≤ _; exact Nat.le_of_eq rfl) (hb hby own_d22_2) rfl (by decide) (by decide) ?_
  rintro rv1 T1 L1 X1 ⟨rfl, Nq1, eh1⟩
  have N1 := Fr.app N0 Nq1
  refine own_g (mkF m 7 #[.val (.ref b), .val (.int 2)] [(.int 2), (.ref b)]) (fun _ q => XS.aloadN X1.here hx rfl (hb hby own_d22_5) rfl rfl (XS.iloadN X1.here hx rfl (hb hby own_d22_6) rfl q)) ?_
  refine own_callS X1 hx hZ (y := own_y16) hown (own_h hw 94 rfl) (own_h hw 95 rfl) (own_h hw 44 rfl) (own_h hw 96 rfl) (by decide) (own_get_3_2 l Z a0 hw [] b kb u0 u1 u2 u3 u4 u5 zCS fm h0 n0 Z0 S_CS nCS S_AD S_HI S_LO S_SF hfm O0 K_b) (by decide) (by decide) eh1 (g := (mkF m 7 #[.val (.ref b), .val (.int 2)] [(.int 2), (.ref b)])) rfl (by rw [hml]; rfl) (argsL := [(.ref b), (.int 2)]) (rest := []) (lenOf own_pd__28_5bBI_29C rfl) rfl (W := 0) (by show 2 * 0 + _ ≤ _; exact Nat.le_of_eq rfl) (hb hby own_d22_7) rfl (by decide) (by decide) ?_
  rintro rv2 T2 L2 X2 ⟨rfl, Nq2, eh2⟩
  have N2 := Fr.app N1 Nq2
  show own_Fin p e below _ T2 (mkF m 10 #[.val (.ref b), .val (.int 2)] [(.int (nar .char (StrChars.pairCh u4 u5)))])
  exact own_end X2 (v := some (.int (nar .char (nar .char (StrChars.pairCh u4 u5))))) (fun h => by rw [Bd.returns] at h; cases h) hlk (fun hr => retN X2 hx (t := .char) Bd.returns (by simp) (hb hby own_d22_10) hr) (by rw [eh2]; exact ⟨rfl, N2, rfl⟩) (by decide) (by decide)
theorem own_ch_0_3_2_ef (m : MethodId) (x0 : Addr) : entryFrame m #[(.ref x0), (.int 2)] 2 = mkF m 0 #[.val (.ref x0), .val (.int 2)] [] := by  first | (simp [entryFrame, mkF, argsToLocals, Value.category]; done) | rfl
def own_ch_0_3_2_Q (Z : State) (x0 : Addr) (t : Addr) (kb : ClassId) (c0 : Int32) (c1 : Int32) (c2 : Int32) (zCS : Int32) (fm : Value) (h0 : Heap) (n0 : Nat) (v : Option Value) (h : Heap) (L : List Loc) : Prop := v = some (.int c2) ∧ Fr n0 L ∧ h = h0
set_option maxRecDepth 65536 in
set_option maxHeartbeats 40000000 in
theorem own_ch_0_3_2 (l : Launch) (Z : State) (a0 : Array Value) (hw : ∀ d ∈ tables_1, d.before a0 Z = true) (ws : List Jvm.Cond) (x0 : Addr) (t : Addr) (kb : ClassId) (c0 : Int32) (c1 : Int32) (c2 : Int32) (zCS : Int32) (fm : Value) (h0 : Heap) (n0 : Nat) (Z0 : n0 ≤ h0.size) (S_CS : own_A0 Z zCS) (nCS : ¬ zCS = 0) (S_AD : own_A1 Z) (S_HI : own_A2 Z) (S_LO : own_A3 Z) (S_SF : own_A4 Z fm) (hfm : fm.isRef = true) (O0 : Old Z n0 h0) (E_x : Exa Z h0 x0 "java/lang/String") (V_x : Fld Z h0 x0 "java/lang/String" "value" "[B" (.ref t)) (C_x : Fld Z h0 x0 "java/lang/String" "coder" "B" (.int 0)) (K_t : Arv Z h0 t kb .byte (3 : Int32) [(.int (StrChars.lo8 c0)), (.int (StrChars.lo8 c1)), (.int (StrChars.lo8 c2))] (.int 0)) (hbd : ¬ c2 < 0 ∧ ¬ (255 : Int32) < c2) (hnd : nar .char c2 = c2) :
    MetFree l own_y5 (head1 (Jvm.Cond.code own_y5 jdk_42_method_56_code 2 (some .char) :: ws) (⟨3, 0, 0, 40⟩ : Room)) (fun aa U => aa = #[(.ref x0), (.int 2)] ∧ Z.Warmed39 U.vm ∧ U.heap = h0) (fun _ _ _ _ _ => True) (fun _ U o U' => ∃ v L, o = .returned v ∧ own_ch_0_3_2_Q Z x0 t kb c0 c1 c2 zCS fm h0 n0 v U'.heap L ∧ FrameEnd U o U' L (⟨3, 0, 0, 40⟩ : Room).cells (⟨3, 0, 0, 40⟩ : Room).slots) := by
  refine MetFree.of_bodySF (plainFor_of_name own_pn_java_lang_String) hisR ?_
  intro p e s m args below meth c s₁ Bd hml0 hP hK
  obtain ⟨rfl, hZ, hh⟩ := hP
  have hx := Bd.exec
  have hby := Bd.bytes
  have hml : c.maxLocals = 2 := hml0
  have hown : s.vm.findClass "java/lang/String" = some m.cls := findClass_of_methodNamed Bd.named
  have hnm := (name_of_methodNamed Bd.named Bd.method).1
  have hlk := Bd.notSynchronized
  have X0 : Stand p l e (⟨3, 0, 0, 40⟩ : Room) s m #[(.ref x0), (.int 2)] below meth c s₁ [] 0 0 := Stand.of_body Bd
  have e0 : s₁.heap = h0 := by rw [← hh, Bd.state]; rfl
  have N0 := Fr.nil n0
  refine own_start (Q := own_ch_0_3_2_Q Z x0 t kb c0 c1 c2 zCS fm h0 n0) (own_ch_0_3_2_ef m x0) ?_
  refine own_g (mkF m 1 #[.val (.ref x0), .val (.int 2)] [(.ref x0)]) (fun _ q => XS.aloadN X0.here hx rfl (hb hby own_d12_0) rfl rfl q) ?_
  refine own_callV X0 hx hZ (y := own_y8) (z := own_y8) hown (own_h hw 60 rfl) (own_h hw 61 rfl) (own_nf (own_h hw 63 rfl)) (own_h hw 63 rfl) (own_h hw 62 rfl) (own_h hw 64 rfl) (own_h hw 8 rfl) (by decide) E_x (own_il_0 l Z a0 hw [] x0  zCS fm h0 n0 Z0 S_CS nCS S_AD S_HI S_LO S_SF hfm O0 C_x) (by decide) (by decide) e0 (g := (mkF m 1 #[.val (.ref x0), .val (.int 2)] [(.ref x0)])) rfl (by rw [hml]; rfl) (argsL := []) (rest := []) (lenOf own_pd__28_29Z rfl) rfl (W := 0) (by show 2 * 0 + _ ≤ _; exact Nat.le_of_eq rfl) (hb hby own_d12_1) rfl (by decide) (by decide) ?_
  rintro rv1 T1 L1 X1 ⟨rfl, Nq1, eh1⟩
  have N1 := Fr.app N0 Nq1
  refine own_g (mkF m 8 #[.val (.ref x0), .val (.int 2)] [(.ref x0)]) (fun _ q => XS.ifNo X1.here hx rfl (hb hby own_d12_4) rfl ((if0 _ _).trans (feq (by decide : ¬ ((1 : Int32) = (0 : Int32)))).1) (XS.aloadN X1.here hx rfl (hb hby own_d12_7) rfl rfl q)) ?_
  obtain ⟨T2, X2, e2, st2⟩ := getF X1 hx hZ hown (host := "") (Or.inl (own_h hw 25 rfl)) Via.refl eh1 V_x (g := (mkF m 8 #[.val (.ref x0), .val (.int 2)] [(.ref x0)])) rfl rfl (hb hby own_d12_8)
  refine own_by (g' := (mkF m 11 #[.val (.ref x0), .val (.int 2)] [(.ref t)])) st2 ?_
  refine own_g (mkF m 12 #[.val (.ref x0), .val (.int 2)] [(.int 2), (.ref t)]) (fun _ q => XS.iloadN X2.here hx rfl (hb hby own_d12_11) rfl q) ?_
  refine own_callS X2 hx hZ (y := own_y10) hown (own_h hw 65 rfl) (own_h hw 66 rfl) (own_h hw 67 rfl) (own_h hw 68 rfl) (by decide) (own_lc_3_2 l Z a0 hw [] t kb (StrChars.lo8 c0) (StrChars.lo8 c1) (StrChars.lo8 c2) zCS fm h0 n0 Z0 S_CS nCS S_AD S_HI S_LO S_SF hfm O0 K_t) (by decide) (by decide) e2 (g := (mkF m 12 #[.val (.ref x0), .val (.int 2)] [(.int 2), (.ref t)])) rfl (by rw [hml]; rfl) (argsL := [(.ref t), (.int 2)]) (rest := []) (lenOf own_pd__28_5bBI_29C rfl) rfl (W := 0) (by show 2 * 0 + _ ≤ _; exact Nat.le_of_eq rfl) (hb hby own_d12_12) rfl (by decide) (by decide) ?_
  rintro rv3 T3 L3 X3 ⟨hv3, Nq3, eh3⟩
  have N3 := Fr.app N1 Nq3
  rw [StrChars.chr8_lo8 hbd.1 hbd.2, hnd] at hv3
  subst hv3
  show own_Fin p e below _ T3 (mkF m 15 #[.val (.ref x0), .val (.int 2)] [(.int c2)])
  exact own_end X3 (v := some (.int (nar .char c2))) (fun h => by rw [Bd.returns] at h; cases h) hlk (fun hr => retN X3 hx (t := .char) Bd.returns (by simp) (hb hby own_d12_15) hr) (by rw [eh3]; exact ⟨by rw [hnd], N3, rfl⟩) (by decide) (by decide)
theorem own_ch_1_3_2_ef (m : MethodId) (x0 : Addr) : entryFrame m #[(.ref x0), (.int 2)] 2 = mkF m 0 #[.val (.ref x0), .val (.int 2)] [] := by  first | (simp [entryFrame, mkF, argsToLocals, Value.category]; done) | rfl
def own_ch_1_3_2_Q (Z : State) (x0 : Addr) (t : Addr) (kb : ClassId) (c0 : Int32) (c1 : Int32) (c2 : Int32) (zCS : Int32) (fm : Value) (h0 : Heap) (n0 : Nat) (v : Option Value) (h : Heap) (L : List Loc) : Prop := v = some (.int c2) ∧ Fr n0 L ∧ h = h0
set_option maxRecDepth 65536 in
set_option maxHeartbeats 40000000 in
theorem own_ch_1_3_2 (l : Launch) (Z : State) (a0 : Array Value) (hw : ∀ d ∈ tables_1, d.before a0 Z = true) (ws : List Jvm.Cond) (x0 : Addr) (t : Addr) (kb : ClassId) (c0 : Int32) (c1 : Int32) (c2 : Int32) (zCS : Int32) (fm : Value) (h0 : Heap) (n0 : Nat) (Z0 : n0 ≤ h0.size) (S_CS : own_A0 Z zCS) (nCS : ¬ zCS = 0) (S_AD : own_A1 Z) (S_HI : own_A2 Z) (S_LO : own_A3 Z) (S_SF : own_A4 Z fm) (hfm : fm.isRef = true) (O0 : Old Z n0 h0) (E_x : Exa Z h0 x0 "java/lang/String") (V_x : Fld Z h0 x0 "java/lang/String" "value" "[B" (.ref t)) (C_x : Fld Z h0 x0 "java/lang/String" "coder" "B" (.int 1)) (K_t : Arv Z h0 t kb .byte (6 : Int32) [(.int (StrChars.lo8 c0)), (.int (StrChars.hi8 c0)), (.int (StrChars.lo8 c1)), (.int (StrChars.hi8 c1)), (.int (StrChars.lo8 c2)), (.int (StrChars.hi8 c2))] (.int 0)) (hbd : ¬ c2 < 0 ∧ ¬ (65535 : Int32) < c2) (hnd : nar .char c2 = c2) :
    MetFree l own_y5 (head1 (Jvm.Cond.code own_y5 jdk_42_method_56_code 2 (some .char) :: ws) (⟨4, 0, 0, 53⟩ : Room)) (fun aa U => aa = #[(.ref x0), (.int 2)] ∧ Z.Warmed39 U.vm ∧ U.heap = h0) (fun _ _ _ _ _ => True) (fun _ U o U' => ∃ v L, o = .returned v ∧ own_ch_1_3_2_Q Z x0 t kb c0 c1 c2 zCS fm h0 n0 v U'.heap L ∧ FrameEnd U o U' L (⟨4, 0, 0, 53⟩ : Room).cells (⟨4, 0, 0, 53⟩ : Room).slots) := by
  refine MetFree.of_bodySF (plainFor_of_name own_pn_java_lang_String) hisR ?_
  intro p e s m args below meth c s₁ Bd hml0 hP hK
  obtain ⟨rfl, hZ, hh⟩ := hP
  have hx := Bd.exec
  have hby := Bd.bytes
  have hml : c.maxLocals = 2 := hml0
  have hown : s.vm.findClass "java/lang/String" = some m.cls := findClass_of_methodNamed Bd.named
  have hnm := (name_of_methodNamed Bd.named Bd.method).1
  have hlk := Bd.notSynchronized
  have X0 : Stand p l e (⟨4, 0, 0, 53⟩ : Room) s m #[(.ref x0), (.int 2)] below meth c s₁ [] 0 0 := Stand.of_body Bd
  have e0 : s₁.heap = h0 := by rw [← hh, Bd.state]; rfl
  have N0 := Fr.nil n0
  refine own_start (Q := own_ch_1_3_2_Q Z x0 t kb c0 c1 c2 zCS fm h0 n0) (own_ch_1_3_2_ef m x0) ?_
  refine own_g (mkF m 1 #[.val (.ref x0), .val (.int 2)] [(.ref x0)]) (fun _ q => XS.aloadN X0.here hx rfl (hb hby own_d12_0) rfl rfl q) ?_
  refine own_callV X0 hx hZ (y := own_y8) (z := own_y8) hown (own_h hw 60 rfl) (own_h hw 61 rfl) (own_nf (own_h hw 63 rfl)) (own_h hw 63 rfl) (own_h hw 62 rfl) (own_h hw 64 rfl) (own_h hw 8 rfl) (by decide) E_x (own_il_1 l Z a0 hw [] x0  zCS fm h0 n0 Z0 S_CS nCS S_AD S_HI S_LO S_SF hfm O0 C_x) (by decide) (by decide) e0 (g := (mkF m 1 #[.val (.ref x0), .val (.int 2)] [(.ref x0)])) rfl (by rw [hml]; rfl) (argsL := []) (rest := []) (lenOf own_pd__28_29Z rfl) rfl (W := 0) (by show 2 * 0 + _ ≤ _; exact Nat.le_of_eq rfl) (hb hby own_d12_1) rfl (by decide) (by decide) ?_
  rintro rv1 T1 L1 X1 ⟨rfl, Nq1, eh1⟩
  have N1 := Fr.app N0 Nq1
  refine own_g (mkF m 17 #[.val (.ref x0), .val (.int 2)] [(.ref x0)]) (fun _ q => XS.ifYes X1.here hx rfl (pc0 := 4) (pc' := 16) rfl (hb hby own_d12_4) rfl ((if0 _ _).trans (teq (by decide : (0 : Int32) = (0 : Int32))).1) (by decide) (by decide) (XS.aloadN X1.here hx rfl (hb hby own_d12_16) rfl rfl q)) ?_
  obtain ⟨T2, X2, e2, st2⟩ := getF X1 hx hZ hown (host := "") (Or.inl (own_h hw 25 rfl)) Via.refl eh1 V_x (g := (mkF m 17 #[.val (.ref x0), .val (.int 2)] [(.ref x0)])) rfl rfl (hb hby own_d12_17)
  refine own_by (g' := (mkF m 20 #[.val (.ref x0), .val (.int 2)] [(.ref t)])) st2 ?_
  refine own_g (mkF m 21 #[.val (.ref x0), .val (.int 2)] [(.int 2), (.ref t)]) (fun _ q => XS.iloadN X2.here hx rfl (hb hby own_d12_20) rfl q) ?_
  refine own_callS X2 hx hZ (y := own_y11) hown (own_h hw 97 rfl) (own_h hw 98 rfl) (own_h hw 44 rfl) (own_h hw 99 rfl) (by decide) (own_uc_3_2 l Z a0 hw [] t kb (StrChars.lo8 c0) (StrChars.hi8 c0) (StrChars.lo8 c1) (StrChars.hi8 c1) (StrChars.lo8 c2) (StrChars.hi8 c2) zCS fm h0 n0 Z0 S_CS nCS S_AD S_HI S_LO S_SF hfm O0 K_t) (by decide) (by decide) e2 (g := (mkF m 21 #[.val (.ref x0), .val (.int 2)] [(.int 2), (.ref t)])) rfl (by rw [hml]; rfl) (argsL := [(.ref t), (.int 2)]) (rest := []) (lenOf own_pd__28_5bBI_29C rfl) rfl (W := 0) (by show 2 * 0 + _ ≤ _; exact Nat.le_of_eq rfl) (hb hby own_d12_21) rfl (by decide) (by decide) ?_
  rintro rv3 T3 L3 X3 ⟨hv3, Nq3, eh3⟩
  have N3 := Fr.app N1 Nq3
  rw [StrChars.pair_says hbd.1 hbd.2, hnd, hnd] at hv3
  subst hv3
  show own_Fin p e below _ T3 (mkF m 24 #[.val (.ref x0), .val (.int 2)] [(.int c2)])
  exact own_end X3 (v := some (.int (nar .char c2))) (fun h => by rw [Bd.returns] at h; cases h) hlk (fun hr => retN X3 hx (t := .char) Bd.returns (by simp) (hb hby own_d12_24) hr) (by rw [eh3]; exact ⟨by rw [hnd], N3, rfl⟩) (by decide) (by decide)
theorem own_d5_0 : decode prog_31_method_32_code 0 = .ok (.iconst 0, 1) := by decide +kernel
theorem own_d5_1 : decode prog_31_method_32_code 1 = .ok (.istore_n 1, 1) := by decide +kernel
theorem own_d5_2 : decode prog_31_method_32_code 2 = .ok (.iload_n 1, 1) := by decide +kernel
theorem own_d5_3 : decode prog_31_method_32_code 3 = .ok (.aload_n 0, 1) := by decide +kernel
theorem own_d5_4 : decode prog_31_method_32_code 4 = .ok (.invokevirtual 108, 3) := by decide +kernel
theorem own_pd__28_29I : parseMethodDescriptor "()I" = some ⟨[], some .int⟩ := by decide +kernel
theorem own_d5_7 : decode prog_31_method_32_code 7 = .ok (.if_icmp .ge 35, 3) := by decide +kernel
theorem own_d5_42 : decode prog_31_method_32_code 42 = .ok (.iconst 1, 1) := by decide +kernel
theorem own_d5_43 : decode prog_31_method_32_code 43 = .ok (.ireturn, 1) := by decide +kernel
theorem own_fv_0_0_ef (m : MethodId) (x0 : Addr) : entryFrame m #[(.ref x0)] 3 = mkF m 0 #[.val (.ref x0), .unset, .unset] [] := by  first | (simp [entryFrame, mkF, argsToLocals, Value.category]; done) | rfl
def own_fv_0_0_Q (Z : State) (x0 : Addr) (t : Addr) (kb : ClassId) (zCS : Int32) (fm : Value) (h0 : Heap) (n0 : Nat) (v : Option Value) (h : Heap) (L : List Loc) : Prop := v = some (.int (own_b (true))) ∧ Fr n0 L ∧ h = h0
theorem own_pn_com_example_stepgate_stepgate_http_Http1Fields : plainName "com/example/stepgate/stepgate/http/Http1Fields" = true := by first | (simp [plainName, overriddenIn]; done) | decide +kernel
set_option maxRecDepth 65536 in
set_option maxHeartbeats 40000000 in
theorem own_fv_0_0 (l : Launch) (Z : State) (a0 : Array Value) (hw : ∀ d ∈ tables_1, d.before a0 Z = true) (ws : List Jvm.Cond) (x0 : Addr) (t : Addr) (kb : ClassId) (zCS : Int32) (fm : Value) (h0 : Heap) (n0 : Nat) (Z0 : n0 ≤ h0.size) (S_CS : own_A0 Z zCS) (nCS : ¬ zCS = 0) (S_AD : own_A1 Z) (S_HI : own_A2 Z) (S_LO : own_A3 Z) (S_SF : own_A4 Z fm) (hfm : fm.isRef = true) (O0 : Old Z n0 h0) (E_x : Exa Z h0 x0 "java/lang/String") (V_x : Fld Z h0 x0 "java/lang/String" "value" "[B" (.ref t)) (C_x : Fld Z h0 x0 "java/lang/String" "coder" "B" (.int 0)) (K_t : Arv Z h0 t kb .byte (0 : Int32) [] (.int 0)) :
    MetFree l own_y0 (head1 (Jvm.Cond.code own_y0 prog_31_method_32_code 3 (some .boolean) :: ws) (⟨2, 0, 0, 26⟩ : Room)) (fun aa U => aa = #[(.ref x0)] ∧ Z.Warmed39 U.vm ∧ U.heap = h0) (fun _ _ _ _ _ => True) (fun _ U o U' => ∃ v L, o = .returned v ∧ own_fv_0_0_Q Z x0 t kb zCS fm h0 n0 v U'.heap L ∧ FrameEnd U o U' L (⟨2, 0, 0, 26⟩ : Room).cells (⟨2, 0, 0, 26⟩ : Room).slots) := by
  refine MetFree.of_bodySF (plainFor_of_name own_pn_com_example_stepgate_stepgate_http_Http1Fields) hisR ?_
  intro p e s m args below meth c s₁ Bd hml0 hP hK
  obtain ⟨rfl, hZ, hh⟩ := hP
  have hx := Bd.exec
  have hby := Bd.bytes
  have hml : c.maxLocals = 3 := hml0
  have hown : s.vm.findClass "com/example/stepgate/stepgate/http/Http1Fields" = some m.cls := findClass_of_methodNamed Bd.named
  have hnm := (name_of_methodNamed Bd.named Bd.method).1
  have hlk := Bd.notSynchronized
  have X0 : Stand p l e (⟨2, 0, 0, 26⟩ : Room) s m #[(.ref x0)] below meth c s₁ [] 0 0 := Stand.of_body Bd
  have e0 : s₁.heap = h0 := by rw [← hh, Bd.state]; rfl
  have N0 := Fr.nil n0
  refine own_start (Q := own_fv_0_0_Q Z x0 t kb zCS fm h0 n0) (own_fv_0_0_ef m x0) ?_
  refine own_g (mkF m 4 #[.val (.ref x0), .val (.int 0), .unset] [(.ref x0), (.int 0)]) (fun _ q => XS.iconst X0.here hx rfl (hb hby own_d5_0) (XS.istoreN X0.here hx rfl (hb hby own_d5_1) rfl (l' := #[.val (.ref x0), .val (.int 0), .unset]) rfl (XS.iloadN X0.here hx rfl (hb hby own_d5_2) rfl (XS.aloadN X0.here hx rfl (hb hby own_d5_3) rfl rfl q)))) ?_
  refine own_callV X0 hx hZ (y := own_y9) (z := own_y9) hown (own_h hw 31 rfl) (own_h hw 32 rfl) (own_nf (own_h hw 34 rfl)) (own_h hw 34 rfl) (own_h hw 33 rfl) (own_h hw 35 rfl) (own_h hw 8 rfl) (by decide) E_x (own_len_0_0 l Z a0 hw [] x0 t kb  zCS fm h0 n0 Z0 S_CS nCS S_AD S_HI S_LO S_SF hfm O0 E_x V_x C_x K_t) (by decide) (by decide) e0 (g := (mkF m 4 #[.val (.ref x0), .val (.int 0), .unset] [(.ref x0), (.int 0)])) rfl (by rw [hml]; rfl) (argsL := []) (rest := [(.int 0)]) (lenOf own_pd__28_29I rfl) rfl (W := 1) (by show 2 * 0 + _ ≤ _; exact Nat.le_of_eq rfl) (hb hby own_d5_4) rfl (by decide) (by decide) ?_
  rintro rv1 T1 L1 X1 ⟨rfl, Nq1, eh1⟩
  have N1 := Fr.app N0 Nq1
  refine own_g (mkF m 43 #[.val (.ref x0), .val (.int 0), .unset] [(.int 1)]) (fun _ q => XS.icmpYes X1.here hx rfl (pc0 := 7) (pc' := 42) rfl (hb hby own_d5_7) rfl (flt (by decide : ¬ ((0 : Int32) < (0 : Int32)))).2.1 (by decide) (by decide) (XS.iconst X1.here hx rfl (hb hby own_d5_42) q)) ?_
  exact own_end X1 (v := some (.int (nar .boolean (1 : Int32)))) (fun h => by rw [Bd.returns] at h; cases h) hlk (fun hr => retN X1 hx (t := .boolean) Bd.returns (by simp) (hb hby own_d5_43) hr) (by rw [eh1]; exact ⟨by first | rfl | (simp [own_b, own_ok, nar]; done) | (simp [own_b, own_ok, nar]; decide), N1, rfl⟩) (by decide) (by decide)
theorem own_d5_10 : decode prog_31_method_32_code 10 = .ok (.aload_n 0, 1) := by decide +kernel
theorem own_d5_11 : decode prog_31_method_32_code 11 = .ok (.iload_n 1, 1) := by decide +kernel
theorem own_d5_12 : decode prog_31_method_32_code 12 = .ok (.invokevirtual 112, 3) := by decide +kernel
theorem own_pd__28I_29C : parseMethodDescriptor "(I)C" = some ⟨[.int], some .char⟩ := by decide +kernel
theorem own_d5_15 : decode prog_31_method_32_code 15 = .ok (.istore_n 2, 1) := by decide +kernel
theorem own_d5_16 : decode prog_31_method_32_code 16 = .ok (.iload_n 2, 1) := by decide +kernel
theorem own_d5_17 : decode prog_31_method_32_code 17 = .ok (.bipush 32, 2) := by decide +kernel
theorem own_d5_19 : decode prog_31_method_32_code 19 = .ok (.if_icmp .ge 9, 3) := by decide +kernel
theorem own_d5_22 : decode prog_31_method_32_code 22 = .ok (.iload_n 2, 1) := by decide +kernel
theorem own_d5_23 : decode prog_31_method_32_code 23 = .ok (.bipush 9, 2) := by decide +kernel
theorem own_d5_25 : decode prog_31_method_32_code 25 = .ok (.if_icmp .ne 9, 3) := by decide +kernel
theorem own_d5_28 : decode prog_31_method_32_code 28 = .ok (.iload_n 2, 1) := by decide +kernel
theorem own_d5_29 : decode prog_31_method_32_code 29 = .ok (.bipush 127, 2) := by decide +kernel
theorem own_d5_31 : decode prog_31_method_32_code 31 = .ok (.if_icmp .ne 5, 3) := by decide +kernel
theorem own_d5_36 : decode prog_31_method_32_code 36 = .ok (.iinc 1 1, 3) := by decide +kernel
theorem own_d5_39 : decode prog_31_method_32_code 39 = .ok (.goto (-37), 3) := by decide +kernel
theorem own_d5_34 : decode prog_31_method_32_code 34 = .ok (.iconst 0, 1) := by decide +kernel
theorem own_d5_35 : decode prog_31_method_32_code 35 = .ok (.ireturn, 1) := by decide +kernel
theorem own_fv_0_1_ef (m : MethodId) (x0 : Addr) : entryFrame m #[(.ref x0)] 3 = mkF m 0 #[.val (.ref x0), .unset, .unset] [] := by  first | (simp [entryFrame, mkF, argsToLocals, Value.category]; done) | rfl
def own_fv_0_1_Q (Z : State) (x0 : Addr) (t : Addr) (kb : ClassId) (c0 : Int32) (zCS : Int32) (fm : Value) (h0 : Heap) (n0 : Nat) (v : Option Value) (h : Heap) (L : List Loc) : Prop := v = some (.int (own_b (own_ok c0))) ∧ Fr n0 L ∧ h = h0
set_option maxRecDepth 65536 in
set_option maxHeartbeats 40000000 in
theorem own_fv_0_1 (l : Launch) (Z : State) (a0 : Array Value) (hw : ∀ d ∈ tables_1, d.before a0 Z = true) (ws : List Jvm.Cond) (x0 : Addr) (t : Addr) (kb : ClassId) (c0 : Int32) (zCS : Int32) (fm : Value) (h0 : Heap) (n0 : Nat) (Z0 : n0 ≤ h0.size) (S_CS : own_A0 Z zCS) (nCS : ¬ zCS = 0) (S_AD : own_A1 Z) (S_HI : own_A2 Z) (S_LO : own_A3 Z) (S_SF : own_A4 Z fm) (hfm : fm.isRef = true) (O0 : Old Z n0 h0) (E_x : Exa Z h0 x0 "java/lang/String") (V_x : Fld Z h0 x0 "java/lang/String" "value" "[B" (.ref t)) (C_x : Fld Z h0 x0 "java/lang/String" "coder" "B" (.int 0)) (K_t : Arv Z h0 t kb .byte (1 : Int32) [(.int (StrChars.lo8 c0))] (.int 0)) (hb0 : ¬ c0 < 0 ∧ ¬ (255 : Int32) < c0) (hn0 : nar .char c0 = c0) :
    MetFree l own_y0 (head1 (Jvm.Cond.code own_y0 prog_31_method_32_code 3 (some .boolean) :: ws) (⟨4, 0, 0, 53⟩ : Room)) (fun aa U => aa = #[(.ref x0)] ∧ Z.Warmed39 U.vm ∧ U.heap = h0) (fun _ _ _ _ _ => True) (fun _ U o U' => ∃ v L, o = .returned v ∧ own_fv_0_1_Q Z x0 t kb c0 zCS fm h0 n0 v U'.heap L ∧ FrameEnd U o U' L (⟨4, 0, 0, 53⟩ : Room).cells (⟨4, 0, 0, 53⟩ : Room).slots) := by
  refine MetFree.of_bodySF (plainFor_of_name own_pn_com_example_stepgate_stepgate_http_Http1Fields) hisR ?_
  intro p e s m args below meth c s₁ Bd hml0 hP hK
  obtain ⟨rfl, hZ, hh⟩ := hP
  have hx := Bd.exec
  have hby := Bd.bytes
  have hml : c.maxLocals = 3 := hml0
  have hown : s.vm.findClass "com/example/stepgate/stepgate/http/Http1Fields" = some m.cls := findClass_of_methodNamed Bd.named
  have hnm := (name_of_methodNamed Bd.named Bd.method).1
  have hlk := Bd.notSynchronized
  have X0 : Stand p l e (⟨4, 0, 0, 53⟩ : Room) s m #[(.ref x0)] below meth c s₁ [] 0 0 := Stand.of_body Bd
  have e0 : s₁.heap = h0 := by rw [← hh, Bd.state]; rfl
  have N0 := Fr.nil n0
  refine own_start (Q := own_fv_0_1_Q Z x0 t kb c0 zCS fm h0 n0) (own_fv_0_1_ef m x0) ?_
  refine own_g (mkF m 4 #[.val (.ref x0), .val (.int 0), .unset] [(.ref x0), (.int 0)]) (fun _ q => XS.iconst X0.here hx rfl (hb hby own_d5_0) (XS.istoreN X0.here hx rfl (hb hby own_d5_1) rfl (l' := #[.val (.ref x0), .val (.int 0), .unset]) rfl (XS.iloadN X0.here hx rfl (hb hby own_d5_2) rfl (XS.aloadN X0.here hx rfl (hb hby own_d5_3) rfl rfl q)))) ?_
  refine own_callV X0 hx hZ (y := own_y9) (z := own_y9) hown (own_h hw 31 rfl) (own_h hw 32 rfl) (own_nf (own_h hw 34 rfl)) (own_h hw 34 rfl) (own_h hw 33 rfl) (own_h hw 35 rfl) (own_h hw 8 rfl) (by decide) E_x (own_len_0_1 l Z a0 hw [] x0 t kb c0 zCS fm h0 n0 Z0 S_CS nCS S_AD S_HI S_LO S_SF hfm O0 E_x V_x C_x K_t) (by decide) (by decide) e0 (g := (mkF m 4 #[.val (.ref x0), .val (.int 0), .unset] [(.ref x0), (.int 0)])) rfl (by rw [hml]; rfl) (argsL := []) (rest := [(.int 0)]) (lenOf own_pd__28_29I rfl) rfl (W := 1) (by show 2 * 0 + _ ≤ _; exact Nat.le_of_eq rfl) (hb hby own_d5_4) rfl (by decide) (by decide) ?_
  rintro rv1 T1 L1 X1 ⟨rfl, Nq1, eh1⟩
  have N1 := Fr.app N0 Nq1
  refine own_g (mkF m 12 #[.val (.ref x0), .val (.int 0), .unset] [(.int 0), (.ref x0)]) (fun _ q => XS.icmpNo X1.here hx rfl (hb hby own_d5_7) rfl (tlt (by decide : (0 : Int32) < (1 : Int32))).2.1 (XS.aloadN X1.here hx rfl (hb hby own_d5_10) rfl rfl (XS.iloadN X1.here hx rfl (hb hby own_d5_11) rfl q))) ?_
  refine own_callV X1 hx hZ (y := own_y5) (z := own_y5) hown (own_h hw 55 rfl) (own_h hw 56 rfl) (own_nf (own_h hw 58 rfl)) (own_h hw 58 rfl) (own_h hw 57 rfl) (own_h hw 59 rfl) (own_h hw 8 rfl) (by decide) E_x (own_ch_0_1_0 l Z a0 hw [] x0 t kb c0 zCS fm h0 n0 Z0 S_CS nCS S_AD S_HI S_LO S_SF hfm O0 E_x V_x C_x K_t hb0 hn0) (by decide) (by decide) eh1 (g := (mkF m 12 #[.val (.ref x0), .val (.int 0), .unset] [(.int 0), (.ref x0)])) rfl (by rw [hml]; rfl) (argsL := [(.int 0)]) (rest := []) (lenOf own_pd__28I_29C rfl) rfl (W := 0) (by show 2 * 0 + _ ≤ _; exact Nat.le_of_eq rfl) (hb hby own_d5_12) rfl (by decide) (by decide) ?_
  rintro rv2 T2 L2 X2 ⟨rfl, Nq2, eh2⟩
  have N2 := Fr.app N1 Nq2
  refine own_g (mkF m 19 #[.val (.ref x0), .val (.int 0), .val (.int c0)] [(.int 32), (.int c0)]) (fun _ q => XS.istoreN X2.here hx rfl (hb hby own_d5_15) rfl (l' := #[.val (.ref x0), .val (.int 0), .val (.int c0)]) rfl (XS.iloadN X2.here hx rfl (hb hby own_d5_16) rfl (XS.bipush X2.here hx rfl (hb hby own_d5_17) q))) ?_
  by_cases hc3 : c0 < (32 : Int32)
  · refine own_g (mkF m 25 #[.val (.ref x0), .val (.int 0), .val (.int c0)] [(.int 9), (.int c0)]) (fun _ q => XS.icmpNo X2.here hx rfl (hb hby own_d5_19) rfl (tlt hc3).2.1 (XS.iloadN X2.here hx rfl (hb hby own_d5_22) rfl (XS.bipush X2.here hx rfl (hb hby own_d5_23) q))) ?_
    by_cases hc4 : c0 = (9 : Int32)
    · refine own_g (mkF m 4 #[.val (.ref x0), .val (.int 1), .val (.int c0)] [(.ref x0), (.int 1)]) (fun _ q => XS.icmpNo X2.here hx rfl (hb hby own_d5_25) rfl (teq hc4).2 (XS.iloadN X2.here hx rfl (hb hby own_d5_28) rfl (XS.bipush X2.here hx rfl (hb hby own_d5_29) (XS.icmpYes X2.here hx rfl (pc0 := 31) (pc' := 36) rfl (hb hby own_d5_31) rfl (feq (own_clash hc4 (by decide))).2 (by decide) (by decide) (XS.iinc X2.here hx rfl (hb hby own_d5_36) rfl (l' := #[.val (.ref x0), .val (.int 1), .val (.int c0)]) rfl (XS.goto X2.here hx rfl (pc0 := 39) (pc' := 2) rfl (hb hby own_d5_39) (by decide) (by decide) (XS.iloadN X2.here hx rfl (hb hby own_d5_2) rfl (XS.aloadN X2.here hx rfl (hb hby own_d5_3) rfl rfl q)))))))) ?_
      refine own_callV X2 hx hZ (y := own_y9) (z := own_y9) hown (own_h hw 31 rfl) (own_h hw 32 rfl) (own_nf (own_h hw 34 rfl)) (own_h hw 34 rfl) (own_h hw 33 rfl) (own_h hw 35 rfl) (own_h hw 8 rfl) (by decide) E_x (own_len_0_1 l Z a0 hw [] x0 t kb c0 zCS fm h0 n0 Z0 S_CS nCS S_AD S_HI S_LO S_SF hfm O0 E_x V_x C_x K_t) (by decide) (by decide) eh2 (g := (mkF m 4 #[.val (.ref x0), .val (.int 1), .val (.int c0)] [(.ref x0), (.int 1)])) rfl (by rw [hml]; rfl) (argsL := []) (rest := [(.int 1)]) (lenOf own_pd__28_29I rfl) rfl (W := 1) (by show 2 * 0 + _ ≤ _; exact Nat.le_of_eq rfl) (hb hby own_d5_4) rfl (by decide) (by decide) ?_
      rintro rv5 T5 L5 X5 ⟨rfl, Nq5, eh5⟩
      have N5 := Fr.app N2 Nq5
      refine own_g (mkF m 43 #[.val (.ref x0), .val (.int 1), .val (.int c0)] [(.int 1)]) (fun _ q => XS.icmpYes X5.here hx rfl (pc0 := 7) (pc' := 42) rfl (hb hby own_d5_7) rfl (flt (by decide : ¬ ((1 : Int32) < (1 : Int32)))).2.1 (by decide) (by decide) (XS.iconst X5.here hx rfl (hb hby own_d5_42) q)) ?_
      exact own_end X5 (v := some (.int (nar .boolean (1 : Int32)))) (fun h => by rw [Bd.returns] at h; cases h) hlk (fun hr => retN X5 hx (t := .boolean) Bd.returns (by simp) (hb hby own_d5_43) hr) (by rw [eh5]; exact ⟨by first | rfl | (simp [own_b, own_ok, nar, hc3, hc4]; done) | (simp [own_b, own_ok, nar, hc3, hc4]; decide), N5, rfl⟩) (by decide) (by decide)
    · refine own_g (mkF m 35 #[.val (.ref x0), .val (.int 0), .val (.int c0)] [(.int 0)]) (fun _ q => XS.icmpYes X2.here hx rfl (pc0 := 25) (pc' := 34) rfl (hb hby own_d5_25) rfl (feq hc4).2 (by decide) (by decide) (XS.iconst X2.here hx rfl (hb hby own_d5_34) q)) ?_
      exact own_end X2 (v := some (.int (nar .boolean (0 : Int32)))) (fun h => by rw [Bd.returns] at h; cases h) hlk (fun hr => retN X2 hx (t := .boolean) Bd.returns (by simp) (hb hby own_d5_35) hr) (by rw [eh2]; exact ⟨by first | rfl | (simp [own_b, own_ok, nar, hc3, hc4]; done) | (simp [own_b, own_ok, nar, hc3, hc4]; decide), N2, rfl⟩) (by decide) (by decide)
  · refine own_g (mkF m 31 #[.val (.ref x0), .val (.int 0), .val (.int c0)] [(.int 127), (.int c0)]) (fun _ q => XS.icmpYes X2.here hx rfl (pc0 := 19) (pc' := 28) rfl (hb hby own_d5_19) rfl (flt hc3).2.1 (by decide) (by decide) (XS.iloadN X2.here hx rfl (hb hby own_d5_28) rfl (XS.bipush X2.here hx rfl (hb hby own_d5_29) q))) ?_
    by_cases hc6 : c0 = (127 : Int32)
    · refine own_g (mkF m 35 #[.val (.ref x0), .val (.int 0), .val (.int c0)] [(.int 0)]) (fun _ q => XS.icmpNo X2.here hx rfl (hb hby own_d5_31) rfl (teq hc6).2 (XS.iconst X2.here hx rfl (hb hby own_d5_34) q)) ?_
      exact own_end X2 (v := some (.int (nar .boolean (0 : Int32)))) (fun h => by rw [Bd.returns] at h; cases h) hlk (fun hr => retN X2 hx (t := .boolean) Bd.returns (by simp) (hb hby own_d5_35) hr) (by rw [eh2]; exact ⟨by first | rfl | (simp [own_b, own_ok, nar, hc3, hc6]; done) | (simp [own_b, own_ok, nar, hc3, hc6]; decide), N2, rfl⟩) (by decide) (by decide)
    · refine own_g (mkF m 4 #[.val (.ref x0), .val (.int 1), .val (.int c0)] [(.ref x0), (.int 1)]) (fun _ q => XS.icmpYes X2.here hx rfl (pc0 := 31) (pc' := 36) rfl (hb hby own_d5_31) rfl (feq hc6).2 (by decide) (by decide) (XS.iinc X2.here hx rfl (hb hby own_d5_36) rfl (l' := #[.val (.ref x0), .val (.int 1), .val (.int c0)]) rfl (XS.goto X2.here hx rfl (pc0 := 39) (pc' := 2) rfl (hb hby own_d5_39) (by decide) (by decide) (XS.iloadN X2.here hx rfl (hb hby own_d5_2) rfl (XS.aloadN X2.here hx rfl (hb hby own_d5_3) rfl rfl q))))) ?_
      refine own_callV X2 hx hZ (y := own_y9) (z := own_y9) hown (own_h hw 31 rfl) (own_h hw 32 rfl) (own_nf (own_h hw 34 rfl)) (own_h hw 34 rfl) (own_h hw 33 rfl) (own_h hw 35 rfl) (own_h hw 8 rfl) (by decide) E_x (own_len_0_1 l Z a0 hw [] x0 t kb c0 zCS fm h0 n0 Z0 S_CS nCS S_AD S_HI S_LO S_SF hfm O0 E_x V_x C_x K_t) (by decide) (by decide) eh2 (g := (mkF m 4 #[.val (.ref x0), .val (.int 1), .val (.int c0)] [(.ref x0), (.int 1)])) rfl (by rw [hml]; rfl) (argsL := []) (rest := [(.int 1)]) (lenOf own_pd__28_29I rfl) rfl (W := 1) (by show 2 * 0 + _ ≤ _; exact Nat.le_of_eq rfl) (hb hby own_d5_4) rfl (by decide) (by decide) ?_
      rintro rv7 T7 L7 X7 ⟨rfl, Nq7, eh7⟩
      have N7 := Fr.app N2 Nq7
      refine own_g (mkF m 43 #[.val (.ref x0), .val (.int 1), .val (.int c0)] [(.int 1)]) (fun _ q => XS.icmpYes X7.here hx rfl (pc0 := 7) (pc' := 42) rfl (hb hby own_d5_7) rfl (flt (by decide : ¬ ((1 : Int32) < (1 : Int32)))).2.1 (by decide) (by decide) (XS.iconst X7.here hx rfl (hb hby own_d5_42) q)) ?_
      exact own_end X7 (v := some (.int (nar .boolean (1 : Int32)))) (fun h => by rw [Bd.returns] at h; cases h) hlk (fun hr => retN X7 hx (t := .boolean) Bd.returns (by simp) (hb hby own_d5_43) hr) (by rw [eh7]; exact ⟨by first | rfl | (simp [own_b, own_ok, nar, hc3, hc6]; done) | (simp [own_b, own_ok, nar, hc3, hc6]; decide), N7, rfl⟩) (by decide) (by decide)
theorem own_fv_0_2_ef (m : MethodId) (x0 : Addr) : entryFrame m #[(.ref x0)] 3 = mkF m 0 #[.val (.ref x0), .unset, .unset] [] := by  first | (simp [entryFrame, mkF, argsToLocals, Value.category]; done) | rfl
def own_fv_0_2_Q (Z : State) (x0 : Addr) (t : Addr) (kb : ClassId) (c0 : Int32) (c1 : Int32) (zCS : Int32) (fm : Value) (h0 : Heap) (n0 : Nat) (v : Option Value) (h : Heap) (L : List Loc) : Prop := v = some (.int (own_b (own_ok c0 && own_ok c1))) ∧ Fr n0 L ∧ h = h0
set_option maxRecDepth 65536 in
set_option maxHeartbeats 40000000 in
theorem own_fv_0_2 (l : Launch) (Z : State) (a0 : Array Value) (hw : ∀ d ∈ tables_1, d.before a0 Z = true) (ws : List Jvm.Cond) (x0 : Addr) (t : Addr) (kb : ClassId) (c0 : Int32) (c1 : Int32) (zCS : Int32) (fm : Value) (h0 : Heap) (n0 : Nat) (Z0 : n0 ≤ h0.size) (S_CS : own_A0 Z zCS) (nCS : ¬ zCS = 0) (S_AD : own_A1 Z) (S_HI : own_A2 Z) (S_LO : own_A3 Z) (S_SF : own_A4 Z fm) (hfm : fm.isRef = true) (O0 : Old Z n0 h0) (E_x : Exa Z h0 x0 "java/lang/String") (V_x : Fld Z h0 x0 "java/lang/String" "value" "[B" (.ref t)) (C_x : Fld Z h0 x0 "java/lang/String" "coder" "B" (.int 0)) (K_t : Arv Z h0 t kb .byte (2 : Int32) [(.int (StrChars.lo8 c0)), (.int (StrChars.lo8 c1))] (.int 0)) (hb0 : ¬ c0 < 0 ∧ ¬ (255 : Int32) < c0) (hb1 : ¬ c1 < 0 ∧ ¬ (255 : Int32) < c1) (hn0 : nar .char c0 = c0) (hn1 : nar .char c1 = c1) :
    MetFree l own_y0 (head1 (Jvm.Cond.code own_y0 prog_31_method_32_code 3 (some .boolean) :: ws) (⟨4, 0, 0, 53⟩ : Room)) (fun aa U => aa = #[(.ref x0)] ∧ Z.Warmed39 U.vm ∧ U.heap = h0) (fun _ _ _ _ _ => True) (fun _ U o U' => ∃ v L, o = .returned v ∧ own_fv_0_2_Q Z x0 t kb c0 c1 zCS fm h0 n0 v U'.heap L ∧ FrameEnd U o U' L (⟨4, 0, 0, 53⟩ : Room).cells (⟨4, 0, 0, 53⟩ : Room).slots) := by
  refine MetFree.of_bodySF (plainFor_of_name own_pn_com_example_stepgate_stepgate_http_Http1Fields) hisR ?_
  intro p e s m args below meth c s₁ Bd hml0 hP hK
  obtain ⟨rfl, hZ, hh⟩ := hP
  have hx := Bd.exec
  have hby := Bd.bytes
  have hml : c.maxLocals = 3 := hml0
  have hown : s.vm.findClass "com/example/stepgate/stepgate/http/Http1Fields" = some m.cls := findClass_of_methodNamed Bd.named
  have hnm := (name_of_methodNamed Bd.named Bd.method).1
  have hlk := Bd.notSynchronized
  have X0 : Stand p l e (⟨4, 0, 0, 53⟩ : Room) s m #[(.ref x0)] below meth c s₁ [] 0 0 := Stand.of_body Bd
  have e0 : s₁.heap = h0 := by rw [← hh, Bd.state]; rfl
  have N0 := Fr.nil n0
  refine own_start (Q := own_fv_0_2_Q Z x0 t kb c0 c1 zCS fm h0 n0) (own_fv_0_2_ef m x0) ?_
  refine own_g (mkF m 4 #[.val (.ref x0), .val (.int 0), .unset] [(.ref x0), (.int 0)]) (fun _ q => XS.iconst X0.here hx rfl (hb hby own_d5_0) (XS.istoreN X0.here hx rfl (hb hby own_d5_1) rfl (l' := #[.val (.ref x0), .val (.int 0), .unset]) rfl (XS.iloadN X0.here hx rfl (hb hby own_d5_2) rfl (XS.aloadN X0.here hx rfl (hb hby own_d5_3) rfl rfl q)))) ?_
  refine own_callV X0 hx hZ (y := own_y9) (z := own_y9) hown (own_h hw 31 rfl) (own_h hw 32 rfl) (own_nf (own_h hw 34 rfl)) (own_h hw 34 rfl) (own_h hw 33 rfl) (own_h hw 35 rfl) (own_h hw 8 rfl) (by decide) E_x (own_len_0_2 l Z a0 hw [] x0 t kb c0 c1 zCS fm h0 n0 Z0 S_CS nCS S_AD S_HI S_LO S_SF hfm O0 E_x V_x C_x K_t) (by decide) (by decide) e0 (g := (mkF m 4 #[.val (.ref x0), .val (.int 0), .unset] [(.ref x0), (.int 0)])) rfl (by rw [hml]; rfl) (argsL := []) (rest := [(.int 0)]) (lenOf own_pd__28_29I rfl) rfl (W := 1) (by show 2 * 0 + _ ≤ _; exact Nat.le_of_eq rfl) (hb hby own_d5_4) rfl (by decide) (by decide) ?_
  rintro rv1 T1 L1 X1 ⟨rfl, Nq1, eh1⟩
  have N1 := Fr.app N0 Nq1
  refine own_g (mkF m 12 #[.val (.ref x0), .val (.int 0), .unset] [(.int 0), (.ref x0)]) (fun _ q => XS.icmpNo X1.here hx rfl (hb hby own_d5_7) rfl (tlt (by decide : (0 : Int32) < (2 : Int32))).2.1 (XS.aloadN X1.here hx rfl (hb hby own_d5_10) rfl rfl (XS.iloadN X1.here hx rfl (hb hby own_d5_11) rfl q))) ?_
  refine own_callV X1 hx hZ (y := own_y5) (z := own_y5) hown (own_h hw 55 rfl) (own_h hw 56 rfl) (own_nf (own_h hw 58 rfl)) (own_h hw 58 rfl) (own_h hw 57 rfl) (own_h hw 59 rfl) (own_h hw 8 rfl) (by decide) E_x (own_ch_0_2_0 l Z a0 hw [] x0 t kb c0 c1 zCS fm h0 n0 Z0 S_CS nCS S_AD S_HI S_LO S_SF hfm O0 E_x V_x C_x K_t hb0 hn0) (by decide) (by decide) eh1 (g := (mkF m 12 #[.val (.ref x0), .val (.int 0), .unset] [(.int 0), (.ref x0)])) rfl (by rw [hml]; rfl) (argsL := [(.int 0)]) (rest := []) (lenOf own_pd__28I_29C rfl) rfl (W := 0) (by show 2 * 0 + _ ≤ _; exact Nat.le_of_eq rfl) (hb hby own_d5_12) rfl (by decide) (by decide) ?_
  rintro rv2 T2 L2 X2 ⟨rfl, Nq2, eh2⟩
  have N2 := Fr.app N1 Nq2
  refine own_g (mkF m 19 #[.val (.ref x0), .val (.int 0), .val (.int c0)] [(.int 32), (.int c0)]) (fun _ q => XS.istoreN X2.here hx rfl (hb hby own_d5_15) rfl (l' := #[.val (.ref x0), .val (.int 0), .val (.int c0)]) rfl (XS.iloadN X2.here hx rfl (hb hby own_d5_16) rfl (XS.bipush X2.here hx rfl (hb hby own_d5_17) q))) ?_
  by_cases hc3 : c0 < (32 : Int32)
  · refine own_g (mkF m 25 #[.val (.ref x0), .val (.int 0), .val (.int c0)] [(.int 9), (.int c0)]) (fun _ q => XS.icmpNo X2.here hx rfl (hb hby own_d5_19) rfl (tlt hc3).2.1 (XS.iloadN X2.here hx rfl (hb hby own_d5_22) rfl (XS.bipush X2.here hx rfl (hb hby own_d5_23) q))) ?_
    by_cases hc4 : c0 = (9 : Int32)
    · refine own_g (mkF m 4 #[.val (.ref x0), .val (.int 1), .val (.int c0)] [(.ref x0), (.int 1)]) (fun _ q => XS.icmpNo X2.here hx rfl (hb hby own_d5_25) rfl (teq hc4).2 (XS.iloadN X2.here hx rfl (hb hby own_d5_28) rfl (XS.bipush X2.here hx rfl (hb hby own_d5_29) (XS.icmpYes X2.here hx rfl (pc0 := 31) (pc' := 36) rfl (hb hby own_d5_31) rfl (feq (own_clash hc4 (by decide))).2 (by decide) (by decide) (XS.iinc X2.here hx rfl (hb hby own_d5_36) rfl (l' := #[.val (.ref x0), .val (.int 1), .val (.int c0)]) rfl (XS.goto X2.here hx rfl (pc0 := 39) (pc' := 2) rfl (hb hby own_d5_39) (by decide) (by decide) (XS.iloadN X2.here hx rfl (hb hby own_d5_2) rfl (XS.aloadN X2.here hx rfl (hb hby own_d5_3) rfl rfl q)))))))) ?_
      refine own_callV X2 hx hZ (y := own_y9) (z := own_y9) hown (own_h hw 31 rfl) (own_h hw 32 rfl) (own_nf (own_h hw 34 rfl)) (own_h hw 34 rfl) (own_h hw 33 rfl) (own_h hw 35 rfl) (own_h hw 8 rfl) (by decide) E_x (own_len_0_2 l Z a0 hw [] x0 t kb c0 c1 zCS fm h0 n0 Z0 S_CS nCS S_AD S_HI S_LO S_SF hfm O0 E_x V_x C_x K_t) (by decide) (by decide) eh2 (g := (mkF m 4 #[.val (.ref x0), .val (.int 1), .val (.int c0)] [(.ref x0), (.int 1)])) rfl (by rw [hml]; rfl) (argsL := []) (rest := [(.int 1)]) (lenOf own_pd__28_29I rfl) rfl (W := 1) (by show 2 * 0 + _ ≤ _; exact Nat.le_of_eq rfl) (hb hby own_d5_4) rfl (by decide) (by decide) ?_
      rintro rv5 T5 L5 X5 ⟨rfl, Nq5, eh5⟩
      have N5 := Fr.app N2 Nq5
      refine own_g (mkF m 12 #[.val (.ref x0), .val (.int 1), .val (.int c0)] [(.int 1), (.ref x0)]) (fun _ q => XS.icmpNo X5.here hx rfl (hb hby own_d5_7) rfl (tlt (by decide : (1 : Int32) < (2 : Int32))).2.1 (XS.aloadN X5.here hx rfl (hb hby own_d5_10) rfl rfl (XS.iloadN X5.here hx rfl (hb hby own_d5_11) rfl q))) ?_
      refine own_callV X5 hx hZ (y := own_y5) (z := own_y5) hown (own_h hw 55 rfl) (own_h hw 56 rfl) (own_nf (own_h hw 58 rfl)) (own_h hw 58 rfl) (own_h hw 57 rfl) (own_h hw 59 rfl) (own_h hw 8 rfl) (by decide) E_x (own_ch_0_2_1 l Z a0 hw [] x0 t kb c0 c1 zCS fm h0 n0 Z0 S_CS nCS S_AD S_HI S_LO S_SF hfm O0 E_x V_x C_x K_t hb1 hn1) (by decide) (by decide) eh5 (g := (mkF m 12 #[.val (.ref x0), .val (.int 1), .val (.int c0)] [(.int 1), (.ref x0)])) rfl (by rw [hml]; rfl) (argsL := [(.int 1)]) (rest := []) (lenOf own_pd__28I_29C rfl) rfl (W := 0) (by show 2 * 0 + _ ≤ _; exact Nat.le_of_eq rfl) (hb hby own_d5_12) rfl (by decide) (by decide) ?_
      rintro rv6 T6 L6 X6 ⟨rfl, Nq6, eh6⟩
      have N6 := Fr.app N5 Nq6
      refine own_g (mkF m 19 #[.val (.ref x0), .val (.int 1), .val (.int c1)] [(.int 32), (.int c1)]) (fun _ q => XS.istoreN X6.here hx rfl (hb hby own_d5_15) rfl (l' := #[.val (.ref x0), .val (.int 1), .val (.int c1)]) rfl (XS.iloadN X6.here hx rfl (hb hby own_d5_16) rfl (XS.bipush X6.here hx rfl (hb hby own_d5_17) q))) ?_
      by_cases hc7 : c1 < (32 : Int32)
      · refine own_g (mkF m 25 #[.val (.ref x0), .val (.int 1), .val (.int c1)] [(.int 9), (.int c1)]) (fun _ q => XS.icmpNo X6.here hx rfl (hb hby own_d5_19) rfl (tlt hc7).2.1 (XS.iloadN X6.here hx rfl (hb hby own_d5_22) rfl (XS.bipush X6.here hx rfl (hb hby own_d5_23) q))) ?_
        by_cases hc8 : c1 = (9 : Int32)
        · refine own_g (mkF m 4 #[.val (.ref x0), .val (.int 2), .val (.int c1)] [(.ref x0), (.int 2)]) (fun _ q => XS.icmpNo X6.here hx rfl (hb hby own_d5_25) rfl (teq hc8).2 (XS.iloadN X6.here hx rfl (hb hby own_d5_28) rfl (XS.bipush X6.here hx rfl (hb hby own_d5_29) (XS.icmpYes X6.here hx rfl (pc0 := 31) (pc' := 36) rfl (hb hby own_d5_31) rfl (feq (own_clash hc8 (by decide))).2 (by decide) (by decide) (XS.iinc X6.here hx rfl (hb hby own_d5_36) rfl (l' := #[.val (.ref x0), .val (.int 2), .val (.int c1)]) rfl (XS.goto X6.here hx rfl (pc0 := 39) (pc' := 2) rfl (hb hby own_d5_39) (by decide) (by decide) (XS.iloadN X6.here hx rfl (hb hby own_d5_2) rfl (XS.aloadN X6.here hx rfl (hb hby own_d5_3) rfl rfl q)))))))) ?_
          refine own_callV X6 hx hZ (y := own_y9) (z := own_y9) hown (own_h hw 31 rfl) (own_h hw 32 rfl) (own_nf (own_h hw 34 rfl)) (own_h hw 34 rfl) (own_h hw 33 rfl) (own_h hw 35 rfl) (own_h hw 8 rfl) (by decide) E_x (own_len_0_2 l Z a0 hw [] x0 t kb c0 c1 zCS fm h0 n0 Z0 S_CS nCS S_AD S_HI S_LO S_SF hfm O0 E_x V_x C_x K_t) (by decide) (by decide) eh6 (g := (mkF m 4 #[.val (.ref x0), .val (.int 2), .val (.int c1)] [(.ref x0), (.int 2)])) rfl (by rw [hml]; rfl) (argsL := []) (rest := [(.int 2)]) (lenOf own_pd__28_29I rfl) rfl (W := 1) (by show 2 * 0 + _ ≤ _; exact Nat.le_of_eq rfl) (hb hby own_d5_4) rfl (by decide) (by decide) ?_
          rintro rv9 T9 L9 X9 ⟨rfl, Nq9, eh9⟩
          have N9 := Fr.app N6 Nq9
          refine own_g (mkF m 43 #[.val (.ref x0), .val (.int 2), .val (.int c1)] [(.int 1)]) (fun _ q => XS.icmpYes X9.here hx rfl (pc0 := 7) (pc' := 42) rfl (hb hby own_d5_7) rfl (flt (by decide : ¬ ((2 : Int32) < (2 : Int32)))).2.1 (by decide) (by decide) (XS.iconst X9.here hx rfl (hb hby own_d5_42) q)) ?_
          exact own_end X9 (v := some (.int (nar .boolean (1 : Int32)))) (fun h => by rw [Bd.returns] at h; cases h) hlk (fun hr => retN X9 hx (t := .boolean) Bd.returns (by simp) (hb hby own_d5_43) hr) (by rw [eh9]; exact ⟨by first | rfl | (simp [own_b, own_ok, nar, hc3, hc4, hc7, hc8]; done) | (simp [own_b, own_ok, nar, hc3, hc4, hc7, hc8]; decide), N9, rfl⟩) (by decide) (by decide)
        · refine own_g (mkF m 35 #[.val (.ref x0), .val (.int 1), .val (.int c1)] [(.int 0)]) (fun _ q => XS.icmpYes X6.here hx rfl (pc0 := 25) (pc' := 34) rfl (hb hby own_d5_25) rfl (feq hc8).2 (by decide) (by decide) (XS.iconst X6.here hx rfl (hb hby own_d5_34) q)) ?_
          exact own_end X6 (v := some (.int (nar .boolean (0 : Int32)))) (fun h => by rw [Bd.returns] at h; cases h) hlk (fun hr => retN X6 hx (t := .boolean) Bd.returns (by simp) (hb hby own_d5_35) hr) (by rw [eh6]; exact ⟨by first | rfl | (simp [own_b, own_ok, nar, hc3, hc4, hc7, hc8]; done) | (simp [own_b, own_ok, nar, hc3, hc4, hc7, hc8]; decide), N6, rfl⟩) (by decide) (by decide)
      · refine own_g (mkF m 31 #[.val (.ref x0), .val (.int 1), .val (.int c1)] [(.int 127), (.int c1)]) (fun _ q => XS.icmpYes X6.here hx rfl (pc0 := 19) (pc' := 28) rfl (hb hby own_d5_19) rfl (flt hc7).2.1 (by decide) (by decide) (XS.iloadN X6.here hx rfl (hb hby own_d5_28) rfl (XS.bipush X6.here hx rfl (hb hby own_d5_29) q))) ?_
        by_cases hc10 : c1 = (127 : Int32)
        · refine own_g (mkF m 35 #[.val (.ref x0), .val (.int 1), .val (.int c1)] [(.int 0)]) (fun _ q => XS.icmpNo X6.here hx rfl (hb hby own_d5_31) rfl (teq hc10).2 (XS.iconst X6.here hx rfl (hb hby own_d5_34) q)) ?_
          exact own_end X6 (v := some (.int (nar .boolean (0 : Int32)))) (fun h => by rw [Bd.returns] at h; cases h) hlk (fun hr => retN X6 hx (t := .boolean) Bd.returns (by simp) (hb hby own_d5_35) hr) (by rw [eh6]; exact ⟨by first | rfl | (simp [own_b, own_ok, nar, hc3, hc4, hc7, hc10]; done) | (simp [own_b, own_ok, nar, hc3, hc4, hc7, hc10]; decide), N6, rfl⟩) (by decide) (by decide)
        · refine own_g (mkF m 4 #[.val (.ref x0), .val (.int 2), .val (.int c1)] [(.ref x0), (.int 2)]) (fun _ q => XS.icmpYes X6.here hx rfl (pc0 := 31) (pc' := 36) rfl (hb hby own_d5_31) rfl (feq hc10).2 (by decide) (by decide) (XS.iinc X6.here hx rfl (hb hby own_d5_36) rfl (l' := #[.val (.ref x0), .val (.int 2), .val (.int c1)]) rfl (XS.goto X6.here hx rfl (pc0 := 39) (pc' := 2) rfl (hb hby own_d5_39) (by decide) (by decide) (XS.iloadN X6.here hx rfl (hb hby own_d5_2) rfl (XS.aloadN X6.here hx rfl (hb hby own_d5_3) rfl rfl q))))) ?_
          refine own_callV X6 hx hZ (y := own_y9) (z := own_y9) hown (own_h hw 31 rfl) (own_h hw 32 rfl) (own_nf (own_h hw 34 rfl)) (own_h hw 34 rfl) (own_h hw 33 rfl) (own_h hw 35 rfl) (own_h hw 8 rfl) (by decide) E_x (own_len_0_2 l Z a0 hw [] x0 t kb c0 c1 zCS fm h0 n0 Z0 S_CS nCS S_AD S_HI S_LO S_SF hfm O0 E_x V_x C_x K_t) (by decide) (by decide) eh6 (g := (mkF m 4 #[.val (.ref x0), .val (.int 2), .val (.int c1)] [(.ref x0), (.int 2)])) rfl (by rw [hml]; rfl) (argsL := []) (rest := [(.int 2)]) (lenOf own_pd__28_29I rfl) rfl (W := 1) (by show 2 * 0 + _ ≤ _; exact Nat.le_of_eq rfl) (hb hby own_d5_4) rfl (by decide) (by decide) ?_
          rintro rv11 T11 L11 X11 ⟨rfl, Nq11, eh11⟩
          have N11 := Fr.app N6 Nq11
          refine own_g (mkF m 43 #[.val (.ref x0), .val (.int 2), .val (.int c1)] [(.int 1)]) (fun _ q => XS.icmpYes X11.here hx rfl (pc0 := 7) (pc' := 42) rfl (hb hby own_d5_7) rfl (flt (by decide : ¬ ((2 : Int32) < (2 : Int32)))).2.1 (by decide) (by decide) (XS.iconst X11.here hx rfl (hb hby own_d5_42) q)) ?_
          exact own_end X11 (v := some (.int (nar .boolean (1 : Int32)))) (fun h => by rw [Bd.returns] at h; cases h) hlk (fun hr => retN X11 hx (t := .boolean) Bd.returns (by simp) (hb hby own_d5_43) hr) (by rw [eh11]; exact ⟨by first | rfl | (simp [own_b, own_ok, nar, hc3, hc4, hc7, hc10]; done) | (simp [own_b, own_ok, nar, hc3, hc4, hc7, hc10]; decide), N11, rfl⟩) (by decide) (by decide)
    · refine own_g (mkF m 35 #[.val (.ref x0), .val (.int 0), .val (.int c0)] [(.int 0)]) (fun _ q => XS.icmpYes X2.here hx rfl (pc0 := 25) (pc' := 34) rfl (hb hby own_d5_25) rfl (feq hc4).2 (by decide) (by decide) (XS.iconst X2.here hx rfl (hb hby own_d5_34) q)) ?_
      exact own_end X2 (v := some (.int (nar .boolean (0 : Int32)))) (fun h => by rw [Bd.returns] at h; cases h) hlk (fun hr => retN X2 hx (t := .boolean) Bd.returns (by simp) (hb hby own_d5_35) hr) (by rw [eh2]; exact ⟨by first | rfl | (simp [own_b, own_ok, nar, hc3, hc4]; done) | (simp [own_b, own_ok, nar, hc3, hc4]; decide), N2, rfl⟩) (by decide) (by decide)
  · refine own_g (mkF m 31 #[.val (.ref x0), .val (.int 0), .val (.int c0)] [(.int 127), (.int c0)]) (fun _ q => XS.icmpYes X2.here hx rfl (pc0 := 19) (pc' := 28) rfl (hb hby own_d5_19) rfl (flt hc3).2.1 (by decide) (by decide) (XS.iloadN X2.here hx rfl (hb hby own_d5_28) rfl (XS.bipush X2.here hx rfl (hb hby own_d5_29) q))) ?_
    by_cases hc12 : c0 = (127 : Int32)
    · refine own_g (mkF m 35 #[.val (.ref x0), .val (.int 0), .val (.int c0)] [(.int 0)]) (fun _ q => XS.icmpNo X2.here hx rfl (hb hby own_d5_31) rfl (teq hc12).2 (XS.iconst X2.here hx rfl (hb hby own_d5_34) q)) ?_
      exact own_end X2 (v := some (.int (nar .boolean (0 : Int32)))) (fun h => by rw [Bd.returns] at h; cases h) hlk (fun hr => retN X2 hx (t := .boolean) Bd.returns (by simp) (hb hby own_d5_35) hr) (by rw [eh2]; exact ⟨by first | rfl | (simp [own_b, own_ok, nar, hc3, hc12]; done) | (simp [own_b, own_ok, nar, hc3, hc12]; decide), N2, rfl⟩) (by decide) (by decide)
    · refine own_g (mkF m 4 #[.val (.ref x0), .val (.int 1), .val (.int c0)] [(.ref x0), (.int 1)]) (fun _ q => XS.icmpYes X2.here hx rfl (pc0 := 31) (pc' := 36) rfl (hb hby own_d5_31) rfl (feq hc12).2 (by decide) (by decide) (XS.iinc X2.here hx rfl (hb hby own_d5_36) rfl (l' := #[.val (.ref x0), .val (.int 1), .val (.int c0)]) rfl (XS.goto X2.here hx rfl (pc0 := 39) (pc' := 2) rfl (hb hby own_d5_39) (by decide) (by decide) (XS.iloadN X2.here hx rfl (hb hby own_d5_2) rfl (XS.aloadN X2.here hx rfl (hb hby own_d5_3) rfl rfl q))))) ?_
      refine own_callV X2 hx hZ (y := own_y9) (z := own_y9) hown (own_h hw 31 rfl) (own_h hw 32 rfl) (own_nf (own_h hw 34 rfl)) (own_h hw 34 rfl) (own_h hw 33 rfl) (own_h hw 35 rfl) (own_h hw 8 rfl) (by decide) E_x (own_len_0_2 l Z a0 hw [] x0 t kb c0 c1 zCS fm h0 n0 Z0 S_CS nCS S_AD S_HI S_LO S_SF hfm O0 E_x V_x C_x K_t) (by decide) (by decide) eh2 (g := (mkF m 4 #[.val (.ref x0), .val (.int 1), .val (.int c0)] [(.ref x0), (.int 1)])) rfl (by rw [hml]; rfl) (argsL := []) (rest := [(.int 1)]) (lenOf own_pd__28_29I rfl) rfl (W := 1) (by show 2 * 0 + _ ≤ _; exact Nat.le_of_eq rfl) (hb hby own_d5_4) rfl (by decide) (by decide) ?_
      rintro rv13 T13 L13 X13 ⟨rfl, Nq13, eh13⟩
      have N13 := Fr.app N2 Nq13
      refine own_g (mkF m 12 #[.val (.ref x0), .val (.int 1), .val (.int c0)] [(.int 1), (.ref x0)]) (fun _ q => XS.icmpNo X13.here hx rfl (hb hby own_d5_7) rfl (tlt (by decide : (1 : Int32) < (2 : Int32))).2.1 (XS.aloadN X13.here hx rfl (hb hby own_d5_10) rfl rfl (XS.iloadN X13.here hx rfl (hb hby own_d5_11) rfl q))) ?_
      refine own_callV X13 hx hZ (y := own_y5) (z := own_y5) hown (own_h hw 55 rfl) (own_h hw 56 rfl) (own_nf (own_h hw 58 rfl)) (own_h hw 58 rfl) (own_h hw 57 rfl) (own_h hw 59 rfl) (own_h hw 8 rfl) (by decide) E_x (own_ch_0_2_1 l Z a0 hw [] x0 t kb c0 c1 zCS fm h0 n0 Z0 S_CS nCS S_AD S_HI S_LO S_SF hfm O0 E_x V_x C_x K_t hb1 hn1) (by decide) (by decide) eh13 (g := (mkF m 12 #[.val (.ref x0), .val (.int 1), .val (.int c0)] [(.int 1), (.ref x0)])) rfl (by rw [hml]; rfl) (argsL := [(.int 1)]) (rest := []) (lenOf own_pd__28I_29C rfl) rfl (W := 0) (by show 2 * 0 + _ ≤ _; exact Nat.le_of_eq rfl) (hb hby own_d5_12) rfl (by decide) (by decide) ?_
      rintro rv14 T14 L14 X14 ⟨rfl, Nq14, eh14⟩
      have N14 := Fr.app N13 Nq14
      refine own_g (mkF m 19 #[.val (.ref x0), .val (.int 1), .val (.int c1)] [(.int 32), (.int c1)]) (fun _ q => XS.istoreN X14.here hx rfl (hb hby own_d5_15) rfl (l' := #[.val (.ref x0), .val (.int 1), .val (.int c1)]) rfl (XS.iloadN X14.here hx rfl (hb hby own_d5_16) rfl (XS.bipush X14.here hx rfl (hb hby own_d5_17) q))) ?_
      by_cases hc15 : c1 < (32 : Int32)
      · refine own_g (mkF m 25 #[.val (.ref x0), .val (.int 1), .val (.int c1)] [(.int 9), (.int c1)]) (fun _ q => XS.icmpNo X14.here hx rfl (hb hby own_d5_19) rfl (tlt hc15).2.1 (XS.iloadN X14.here hx rfl (hb hby own_d5_22) rfl (XS.bipush X14.here hx rfl (hb hby own_d5_23) q))) ?_
        by_cases hc16 : c1 = (9 : Int32)
        · refine own_g (mkF m 4 #[.val (.ref x0), .val (.int 2), .val (.int c1)] [(.ref x0), (.int 2)]) (fun _ q => XS.icmpNo X14.here hx rfl (hb hby own_d5_25) rfl (teq hc16).2 (XS.iloadN X14.here hx rfl (hb hby own_d5_28) rfl (XS.bipush X14.here hx rfl (hb hby own_d5_29) (XS.icmpYes X14.here hx rfl (pc0 := 31) (pc' := 36) rfl (hb hby own_d5_31) rfl (feq (own_clash hc16 (by decide))).2 (by decide) (by decide) (XS.iinc X14.here hx rfl (hb hby own_d5_36) rfl (l' := #[.val (.ref x0), .val (.int 2), .val (.int c1)]) rfl (XS.goto X14.here hx rfl (pc0 := 39) (pc' := 2) rfl (hb hby own_d5_39) (by decide) (by decide) (XS.iloadN X14.here hx rfl (hb hby own_d5_2) rfl (XS.aloadN X14.here hx rfl (hb hby own_d5_3) rfl rfl q)))))))) ?_
          refine own_callV X14 hx hZ (y := own_y9) (z := own_y9) hown (own_h hw 31 rfl) (own_h hw 32 rfl) (own_nf (own_h hw 34 rfl)) (own_h hw 34 rfl) (own_h hw 33 rfl) (own_h hw 35 rfl) (own_h hw 8 rfl) (by decide) E_x (own_len_0_2 l Z a0 hw [] x0 t kb c0 c1 zCS fm h0 n0 Z0 S_CS nCS S_AD S_HI S_LO S_SF hfm O0 E_x V_x C_x K_t) (by decide) (by decide) eh14 (g := (mkF m 4 #[.val (.ref x0), .val (.int 2), .val (.int c1)] [(.ref x0), (.int 2)])) rfl (by rw [hml]; rfl) (argsL := []) (rest := [(.int 2)]) (lenOf own_pd__28_29I rfl) rfl (W := 1) (by show 2 * 0 + _ ≤ _; exact Nat.le_of_eq rfl) (hb hby own_d5_4) rfl (by decide) (by decide) ?_
          rintro rv17 T17 L17 X17 ⟨rfl, Nq17, eh17⟩
          have N17 := Fr.app N14 Nq17
          refine own_g (mkF m 43 #[.val (.ref x0), .val (.int 2), .val (.int c1)] [(.int 1)]) (fun _ q => XS.icmpYes X17.here hx rfl (pc0 := 7) (pc' := 42) rfl (hb hby own_d5_7) rfl (flt (by decide : ¬ ((2 : Int32) < (2 : Int32)))).2.1 (by decide) (by decide) (XS.iconst X17.here hx rfl (hb hby own_d5_42) q)) ?_
          exact own_end X17 (v := some (.int (nar .boolean (1 : Int32)))) (fun h => by rw [Bd.returns] at h; cases h) hlk (fun hr => retN X17 hx (t := .boolean) Bd.returns (by simp) (hb hby own_d5_43) hr) (by rw [eh17]; exact ⟨by first | rfl | (simp [own_b, own_ok, nar, hc3, hc12, hc15, hc16]; done) | (simp [own_b, own_ok, nar, hc3, hc12, hc15, hc16]; decide), N17, rfl⟩) (by decide) (by decide)
        · refine own_g (mkF m 35 #[.val (.ref x0), .val (.int 1), .val (.int c1)] [(.int 0)]) (fun _ q => XS.icmpYes X14.here hx rfl (pc0 := 25) (pc' := 34) rfl (hb hby own_d5_25) rfl (feq hc16).2 (by decide) (by decide) (XS.iconst X14.here hx rfl (hb hby own_d5_34) q)) ?_
          exact own_end X14 (v := some (.int (nar .boolean (0 : Int32)))) (fun h => by rw [Bd.returns] at h; cases h) hlk (fun hr => retN X14 hx (t := .boolean) Bd.returns (by simp) (hb hby own_d5_35) hr) (by rw [eh14]; exact ⟨by first | rfl | (simp [own_b, own_ok, nar, hc3, hc12, hc15, hc16]; done) | (simp [own_b, own_ok, nar, hc3, hc12, hc15, hc16]; decide), N14, rfl⟩) (by decide) (by decide)
      · refine own_g (mkF m 31 #[.val (.ref x0), .val (.int 1), .val (.int c1)] [(.int 127), (.int c1)]) (fun _ q => XS.icmpYes X14.here hx rfl (pc0 := 19) (pc' := 28) rfl (hb hby own_d5_19) rfl (flt hc15).2.1 (by decide) (by decide) (XS.iloadN X14.here hx rfl (hb hby own_d5_28) rfl (XS.bipush X14.here hx rfl (hb hby own_d5_29) q))) ?_
        by_cases hc18 : c1 = (127 : Int32)
        · refine own_g (mkF m 35 #[.val (.ref x0), .val (.int 1), .val (.int c1)] [(.int 0)]) (fun _ q => XS.icmpNo X14.here hx rfl (hb hby own_d5_31) rfl (teq hc18).2 (XS.iconst X14.here hx rfl (hb hby own_d5_34) q)) ?_
          exact own_end X14 (v := some (.int (nar .boolean (0 : Int32)))) (fun h => by rw [Bd.returns] at h; cases h) hlk (fun hr => retN X14 hx (t := .boolean) Bd.returns (by simp) (hb hby own_d5_35) hr) (by rw [eh14]; exact ⟨by first | rfl | (simp [own_b, own_ok, nar, hc3, hc12, hc15, hc18]; done) | (simp [own_b, own_ok, nar, hc3, hc12, hc15, hc18]; decide), N14, rfl⟩) (by decide) (by decide)
        · refine own_g (mkF m 4 #[.val (.ref x0), .val (.int 2), .val (.int c1)] [(.ref x0), (.int 2)]) (fun _ q => XS.icmpYes X14.here hx rfl (pc0 := 31) (pc' := 36) rfl (hb hby own_d5_31) rfl (feq hc18).2 (by decide) (by decide) (XS.iinc X14.here hx rfl (hb hby own_d5_36) rfl (l' := #[.val (.ref x0), .val (.int 2), .val (.int c1)]) rfl (XS.goto X14.here hx rfl (pc0 := 39) (pc' := 2) rfl (hb hby own_d5_39) (by decide) (by decide) (XS.iloadN X14.here hx rfl (hb hby own_d5_2) rfl (XS.aloadN X14.here hx rfl (hb hby own_d5_3) rfl rfl q))))) ?_
          refine own_callV X14 hx hZ (y := own_y9) (z := own_y9) hown (own_h hw 31 rfl) (own_h hw 32 rfl) (own_nf (own_h hw 34 rfl)) (own_h hw 34 rfl) (own_h hw 33 rfl) (own_h hw 35 rfl) (own_h hw 8 rfl) (by decide) E_x (own_len_0_2 l Z a0 hw [] x0 t kb c0 c1 zCS fm h0 n0 Z0 S_CS nCS S_AD S_HI S_LO S_SF hfm O0 E_x V_x C_x K_t) (by decide) (by decide) eh14 (g := (mkF m 4 #[.val (.ref x0), .val (.int 2), .val (.int c1)] [(.ref x0), (.int 2)])) rfl (by rw [hml]; rfl) (argsL := []) (rest := [(.int 2)]) (lenOf own_pd__28_29I rfl) rfl (W := 1) (by show 2 * 0 + _ ≤ _; exact Nat.le_of_eq rfl) (hb hby own_d5_4) rfl (by decide) (by decide) ?_
          rintro rv19 T19 L19 X19 ⟨rfl, Nq19, eh19⟩
          have N19 := Fr.app N14 Nq19
          refine own_g (mkF m 43 #[.val (.ref x0), .val (.int 2), .val (.int c1)] [(.int 1)]) (fun _ q => XS.icmpYes X19.here hx rfl (pc0 := 7) (pc' := 42) rfl (hb hby own_d5_7) rfl (flt (by decide : ¬ ((2 : Int32) < (2 : Int32)))).2.1 (by decide) (by decide) (XS.iconst X19.here hx rfl (hb hby own_d5_42) q)) ?_
          exact own_end X19 (v := some (.int (nar .boolean (1 : Int32)))) (fun h => by rw [Bd.returns] at h; cases h) hlk (fun hr => retN X19 hx (t := .boolean) Bd.returns (by simp) (hb hby own_d5_43) hr) (by rw [eh19]; exact ⟨by first | rfl | (simp [own_b, own_ok, nar, hc3, hc12, hc15, hc18]; done) | (simp [own_b, own_ok, nar, hc3, hc12, hc15, hc18]; decide), N19, rfl⟩) (by decide) (by decide)
theorem own_fv_0_3_ef (m : MethodId) (x0 : Addr) : entryFrame m #[(.ref x0)] 3 = mkF m 0 #[.val (.ref x0), .unset, .unset] [] := by  first | (simp [entryFrame, mkF, argsToLocals, Value.category]; done) | rfl
def own_fv_0_3_Q (Z : State) (x0 : Addr) (t : Addr) (kb : ClassId) (c0 : Int32) (c1 : Int32) (c2 : Int32) (zCS : Int32) (fm : Value) (h0 : Heap) (n0 : Nat) (v : Option Value) (h : Heap) (L : List Loc) : Prop := v = some (.int (own_b (own_ok c0 && own_ok c1 && own_ok c2))) ∧ Fr n0 L ∧ h = h0
set_option maxRecDepth 65536 in
set_option maxHeartbeats 40000000 in
theorem own_fv_0_3 (l : Launch) (Z : State) (a0 : Array Value) (hw : ∀ d ∈ tables_1, d.before a0 Z = true) (ws : List Jvm.Cond) (x0 : Addr) (t : Addr) (kb : ClassId) (c0 : Int32) (c1 : Int32) (c2 : Int32) (zCS : Int32) (fm : Value) (h0 : Heap) (n0 : Nat) (Z0 : n0 ≤ h0.size) (S_CS : own_A0 Z zCS) (nCS : ¬ zCS = 0) (S_AD : own_A1 Z) (S_HI : own_A2 Z) (S_LO : own_A3 Z) (S_SF : own_A4 Z fm) (hfm : fm.isRef = true) (O0 : Old Z n0 h0) (E_x : Exa Z h0 x0 "java/lang/String") (V_x : Fld Z h0 x0 "java/lang/String" "value" "[B" (.ref t)) (C_x : Fld Z h0 x0 "java/lang/String" "coder" "B" (.int 0)) (K_t : Arv Z h0 t kb .byte (3 : Int32) [(.int (StrChars.lo8 c0)), (.int (StrChars.lo8 c1)), (.int (StrChars.lo8 c2))] (.int 0)) (hb0 : ¬ c0 < 0 ∧ ¬ (255 : Int32) < c0) (hb1 : ¬ c1 < 0 ∧ ¬ (255 : Int32) < c1) (hb2 : ¬ c2 < 0 ∧ ¬ (255 : Int32) < c2) (hn0 : nar .char c0 = c0) (hn1 : nar .char c1 = c1) (hn2 : nar .char c2 = c2) :
    MetFree l own_y0 (head1 (Jvm.Cond.code own_y0 prog_31_method_32_code 3 (some .boolean) :: ws) (⟨4, 0, 0, 53⟩ : Room)) (fun aa U => aa = #[(.ref x0)] ∧ Z.Warmed39 U.vm ∧ U.heap = h0) (fun _ _ _ _ _ => True) (fun _ U o U' => ∃ v L, o = .returned v ∧ own_fv_0_3_Q Z x0 t kb c0 c1 c2 zCS fm h0 n0 v U'.heap L ∧ FrameEnd U o U' L (⟨4, 0, 0, 53⟩ : Room).cells (⟨4, 0, 0, 53⟩ : Room).slots) := by
  refine MetFree.of_bodySF (plainFor_of_name own_pn_com_example_stepgate_stepgate_http_Http1Fields) hisR ?_
  intro p e s m args below meth c s₁ Bd hml0 hP hK
  obtain ⟨rfl, hZ, hh⟩ := hP
  have hx := Bd.exec
  have hby := Bd.bytes
  have hml : c.maxLocals = 3 := hml0
  have hown : s.vm.findClass "com/example/stepgate/stepgate/http/Http1Fields" = some m.cls := findClass_of_methodNamed Bd.named
  have hnm := (name_of_methodNamed Bd.named Bd.method).1
  have hlk := Bd.notSynchronized
  have X0 : Stand p l e (⟨4, 0, 0, 53⟩ : Room) s m #[(.ref x0)] below meth c s₁ [] 0 0 := Stand.of_body Bd
  have e0 : s₁.heap = h0 := by rw [← hh, Bd.state]; rfl
  have N0 := Fr.nil n0
  refine own_start (Q := own_fv_0_3_Q Z x0 t kb c0 c1 c2 zCS fm h0 n0) (own_fv_0_3_ef m x0) ?_
  refine own_g (mkF m 4 #[.val (.ref x0), .val (.int 0), .unset] [(.ref x0), (.int 0)]) (fun _ q => XS.iconst X0.here hx rfl (hb hby own_d5_0) (XS.istoreN X0.here hx rfl (hb hby own_d5_1) rfl (l' := #[.val (.ref x0), .val (.int 0), .unset]) rfl (XS.iloadN X0.here hx rfl (hb hby own_d5_2) rfl (XS.aloadN X0.here hx rfl (hb hby own_d5_3) rfl rfl q)))) ?_
  refine own_callV X0 hx hZ (y := own_y9) (z := own_y9) hown (own_h hw 31 rfl) (own_h hw 32 rfl) (own_nf (own_h hw 34 rfl)) (own_h hw 34 rfl) (own_h hw 33 rfl) (own_h hw 35 rfl) (own_h hw 8 rfl) (by decide) E_x (own_len_0_3 l Z a0 hw [] x0 t kb c0 c1 c2 zCS fm h0 n0 Z0 S_CS nCS S_AD S_HI S_LO S_SF hfm O0 E_x V_x C_x K_t) (by decide) (by decide) e0 (g := (mkF m 4 #[.val (.ref x0), .val (.int 0), .unset] [(.ref x0), (.int 0)])) rfl (by rw [hml]; rfl) (argsL := []) (rest := [(.int 0)]) (lenOf own_pd__28_29I rfl) rfl (W := 1) (by show 2 * 0 + _ ≤ _; exact Nat.le_of_eq rfl) (hb hby own_d5_4) rfl (by decide) (by decide) ?_
  rintro rv1 T1 L1 X1 ⟨rfl, Nq1, eh1⟩
  have N1 := Fr.app N0 Nq1
  refine own_g (mkF m 12 #[.val (.ref x0), .val (.int 0), .unset] [(.int 0), (.ref x0)]) (fun _ q => XS.icmpNo X1.here hx rfl (hb hby own_d5_7) rfl (tlt (by decide : (0 : Int32) < (3 : Int32))).2.1 (XS.aloadN X1.here hx rfl (hb hby own_d5_10) rfl rfl (XS.iloadN X1.here hx rfl (hb hby own_d5_11) rfl q))) ?_
  refine own_callV X1 hx hZ (y := own_y5) (z := own_y5) hown (own_h hw 55 rfl) (own_h hw 56 rfl) (own_nf (own_h hw 58 rfl)) (own_h hw 58 rfl) (own_h hw 57 rfl) (own_h hw 59 rfl) (own_h hw 8 rfl) (by decide) E_x (own_ch_0_3_0 l Z a0 hw [] x0 t kb c0 c1 c2 zCS fm h0 n0 Z0 S_CS nCS S_AD S_HI S_LO S_SF hfm O0 E_x V_x C_x K_t hb0 hn0) (by decide) (by decide) eh1 (g := (mkF m 12 #[.val (.ref x0), .val (.int 0), .unset] [(.int 0), (.ref x0)])) rfl (by rw [hml]; rfl) (argsL := [(.int 0)]) (rest := []) (lenOf own_pd__28I_29C rfl) rfl (W := 0) (by show 2 * 0 + _ ≤ _; exact Nat.le_of_eq rfl) (hb hby own_d5_12) rfl (by decide) (by decide) ?_
  rintro rv2 T2 L2 X2 ⟨rfl, Nq2, eh2⟩
  have N2 := Fr.app N1 Nq2
  refine own_g (mkF m 19 #[.val (.ref x0), .val (.int 0), .val (.int c0)] [(.int 32), (.int c0)]) (fun _ q => XS.istoreN X2.here hx rfl (hb hby own_d5_15) rfl (l' := #[.val (.ref x0), .val (.int 0), .val (.int c0)]) rfl (XS.iloadN X2.here hx rfl (hb hby own_d5_16) rfl (XS.bipush X2.here hx rfl (hb hby own_d5_17) q))) ?_
  by_cases hc3 : c0 < (32 : Int32)
  · refine own_g (mkF m 25 #[.val (.ref x0), .val (.int 0), .val (.int c0)] [(.int 9), (.int c0)]) (fun _ q => XS.icmpNo X2.here hx rfl (hb hby own_d5_19) rfl (tlt hc3).2.1 (XS.iloadN X2.here hx rfl (hb hby own_d5_22) rfl (XS.bipush X2.here hx rfl (hb hby own_d5_23) q))) ?_
    by_cases hc4 : c0 = (9 : Int32)
    · refine own_g (mkF m 4 #[.val (.ref x0), .val (.int 1), .val (.int c0)] [(.ref x0), (.int 1)]) (fun _ q => XS.icmpNo X2.here hx rfl (hb hby own_d5_25) rfl (teq hc4).2 (XS.iloadN X2.here hx rfl (hb hby own_d5_28) rfl (XS.bipush X2.here hx rfl (hb hby own_d5_29) (XS.icmpYes X2.here hx rfl (pc0 := 31) (pc' := 36) rfl (hb hby own_d5_31) rfl (feq (own_clash hc4 (by decide))).2 (by decide) (by decide) (XS.iinc X2.here hx rfl (hb hby own_d5_36) rfl (l' := #[.val (.ref x0), .val (.int 1), .val (.int c0)]) rfl (XS.goto X2.here hx rfl (pc0 := 39) (pc' := 2) rfl (hb hby own_d5_39) (by decide) (by decide) (XS.iloadN X2.here hx rfl (hb hby own_d5_2) rfl (XS.aloadN X2.here hx rfl (hb hby own_d5_3) rfl rfl q)))))))) ?_
      refine own_callV X2 hx hZ (y := own_y9) (z := own_y9) hown (own_h hw 31 rfl) (own_h hw 32 rfl) (own_nf (own_h hw 34 rfl)) (own_h hw 34 rfl) (own_h hw 33 rfl) (own_h hw 35 rfl) (own_h hw 8 rfl) (by decide) E_x (own_len_0_3 l Z a0 hw [] x0 t kb c0 c1 c2 zCS fm h0 n0 Z0 S_CS nCS S_AD S_HI S_LO S_SF hfm O0 E_x V_x C_x K_t) (by decide) (by decide) eh2 (g := (mkF m 4 #[.val (.ref x0), .val (.int 1), .val (.int c0)] [(.ref x0), (.int 1)])) rfl (by rw [hml]; rfl) (argsL := []) (rest := [(.int 1)]) (lenOf own_pd__28_29I rfl) rfl (W := 1) (by show 2 * 0 + _ ≤ _; exact Nat.le_of_eq rfl) (hb hby own_d5_4) rfl (by decide) (by decide) ?_
      rintro rv5 T5 L5 X5 ⟨rfl, Nq5, eh5⟩
      have N5 := Fr.app N2 Nq5
      refine own_g (mkF m 12 #[.val (.ref x0), .val (.int 1), .val (.int c0)] [(.int 1), (.ref x0)]) (fun _ q => XS.icmpNo X5.here hx rfl (hb hby own_d5_7) rfl (tlt (by decide : (1 : Int32) < (3 : Int32))).2.1 (XS.aloadN X5.here hx rfl (hb hby own_d5_10) rfl rfl (XS.iloadN X5.here hx rfl (hb hby own_d5_11) rfl q))) ?_
      refine own_callV X5 hx hZ (y := own_y5) (z := own_y5) hown (own_h hw 55 rfl) (own_h hw 56 rfl) (own_nf (own_h hw 58 rfl)) (own_h hw 58 rfl) (own_h hw 57 rfl) (own_h hw 59 rfl) (own_h hw 8 rfl) (by decide) E_x (own_ch_0_3_1 l Z a0 hw [] x0 t kb c0 c1 c2 zCS fm h0 n0 Z0 S_CS nCS S_AD S_HI S_LO S_SF hfm O0 E_x V_x C_x K_t hb1 hn1) (by decide) (by decide) eh5 (g := (mkF m 12 #[.val (.ref x0), .val (.int 1), .val (.int c0)] [(.int 1), (.ref x0)])) rfl (by rw [hml]; rfl) (argsL := [(.int 1)]) (rest := []) (lenOf own_pd__28I_29C rfl) rfl (W := 0) (by show 2 * 0 + _ ≤ _; exact Nat.le_of_eq rfl) (hb hby own_d5_12) rfl (by decide) (by decide) ?_
      rintro rv6 T6 L6 X6 ⟨rfl, Nq6, eh6⟩
      have N6 := Fr.app N5 Nq6
      refine own_g (mkF m 19 #[.val (.ref x0), .val (.int 1), .val (.int c1)] [(.int 32), (.int c1)]) (fun _ q => XS.istoreN X6.here hx rfl (hb hby own_d5_15) rfl (l' := #[.val (.ref x0), .val (.int 1), .val (.int c1)]) rfl (XS.iloadN X6.here hx rfl (hb hby own_d5_16) rfl (XS.bipush X6.here hx rfl (hb hby own_d5_17) q))) ?_
      by_cases hc7 : c1 < (32 : Int32)
      · refine own_g (mkF m 25 #[.val (.ref x0), .val (.int 1), .val (.int c1)] [(.int 9), (.int c1)]) (fun _ q => XS.icmpNo X6.here hx rfl (hb hby own_d5_19) rfl (tlt hc7).2.1 (XS.iloadN X6.here hx rfl (hb hby own_d5_22) rfl (XS.bipush X6.here hx rfl (hb hby own_d5_23) q))) ?_
        by_cases hc8 : c1 = (9 : Int32)
        · refine own_g (mkF m 4 #[.val (.ref x0), .val (.int 2), .val (.int c1)] [(.ref x0), (.int 2)]) (fun _ q => XS.icmpNo X6.here hx rfl (hb hby own_d5_25) rfl (teq hc8).2 (XS.iloadN X6.here hx rfl (hb hby own_d5_28) rfl (XS.bipush X6.here hx rfl (hb hby own_d5_29) (XS.icmpYes X6.here hx rfl (pc0 := 31) (pc' := 36) rfl (hb hby own_d5_31) rfl (feq (own_clash hc8 (by decide))).2 (by decide) (by decide) (XS.iinc X6.here hx rfl (hb hby own_d5_36) rfl (l' := #[.val (.ref x0), .val (.int 2), .val (.int c1)]) rfl (XS.goto X6.here hx rfl (pc0 := 39) (pc' := 2) rfl (hb hby own_d5_39) (by decide) (by decide) (XS.iloadN X6.here hx rfl (hb hby own_d5_2) rfl (XS.aloadN X6.here hx rfl (hb hby own_d5_3) rfl rfl q)))))))) ?_
          refine own_callV X6 hx hZ (y := own_y9) (z := own_y9) hown (own_h hw 31 rfl) (own_h hw 32 rfl) (own_nf (own_h hw 34 rfl)) (own_h hw 34 rfl) (own_h hw 33 rfl) (own_h hw 35 rfl) (own_h hw 8 rfl) (by decide) E_x (own_len_0_3 l Z a0 hw [] x0 t kb c0 c1 c2 zCS fm h0 n0 Z0 S_CS nCS S_AD S_HI S_LO S_SF hfm O0 E_x V_x C_x K_t) (by decide) (by decide) eh6 (g := (mkF m 4 #[.val (.ref x0), .val (.int 2), .val (.int c1)] [(.ref x0), (.int 2)])) rfl (by rw [hml]; rfl) (argsL := []) (rest := [(.int 2)]) (lenOf own_pd__28_29I rfl) rfl (W := 1) (by show 2 * 0 + _ ≤ _; exact Nat.le_of_eq rfl) (hb hby own_d5_4) rfl (by decide) (by decide) ?_
          rintro rv9 T9 L9 X9 ⟨rfl, Nq9, eh9⟩
          have N9 := Fr.app N6 Nq9
          refine own_g (mkF m 12 #[.val (.ref x0), .val (.int 2), .val (.int c1)] [(.int 2), (.ref x0)]) (fun _ q => XS.icmpNo X9.here hx rfl (hb hby own_d5_7) rfl (tlt (by decide : (2 : Int32) < (3 : Int32))).2.1 (XS.aloadN X9.here hx rfl (hb hby own_d5_10) rfl rfl (XS.iloadN X9.here hx rfl (hb hby own_d5_11) rfl q))) ?_
          refine own_callV X9 hx hZ (y := own_y5) (z := own_y5) hown (own_h hw 55 rfl) (own_h hw 56 rfl) (own_nf (own_h hw 58 rfl)) (own_h hw 58 rfl) (own_h hw 57 rfl) (own_h hw 59 rfl) (own_h hw 8 rfl) (by decide) E_x (own_ch_0_3_2 l Z a0 hw [] x0 t kb c0 c1 c2 zCS fm h0 n0 Z0 S_CS nCS S_AD S_HI S_LO S_SF hfm O0 E_x V_x C_x K_t hb2 hn2) (by decide) (by decide) eh9 (g := (mkF m 12 #[.val (.ref x0), .val (.int 2), .val (.int c1)] [(.int 2), (.ref x0)])) rfl (by rw [hml]; rfl) (argsL := [(.int 2)]) (rest := []) (lenOf own_pd__28I_29C rfl) rfl (W := 0) (by show 2 * 0 + _ ≤ _; exact Nat.le_of_eq rfl) (hb hby own_d5_12) rfl (by decide) (by decide) ?_
          rintro rv10 T10 L10 X10 ⟨rfl, Nq10, eh10⟩
          have N10 := Fr.app N9 Nq10
          refine own_g (mkF m 19 #[.val (.ref x0), .val (.int 2), .val (.int c2)] [(.int 32), (.int c2)]) (fun _ q => XS.istoreN X10.here hx rfl (hb hby own_d5_15) rfl (l' := #[.val (.ref x0), .val (.int 2), .val (.int c2)]) rfl (XS.iloadN X10.here hx rfl (hb hby own_d5_16) rfl (XS.bipush X10.here hx rfl (hb hby own_d5_17) q))) ?_
          by_cases hc11 : c2 < (32 : Int32)
          · refine own_g (mkF m 25 #[.val (.ref x0), .val (.int 2), .val (.int c2)] [(.int 9), (.int c2)]) (fun _ q => XS.icmpNo X10.here hx rfl (hb hby own_d5_19) rfl (tlt hc11).2.1 (XS.iloadN X10.here hx rfl (hb hby own_d5_22) rfl (XS.bipush X10.here hx rfl (hb hby own_d5_23) q))) ?_
            by_cases hc12 : c2 = (9 : Int32)
            · refine own_g (mkF m 4 #[.val (.ref x0), .val (.int 3), .val (.int c2)] [(.ref x0), (.int 3)]) (fun _ q => XS.icmpNo X10.here hx rfl (hb hby own_d5_25) rfl (teq hc12).2 (XS.iloadN X10.here hx rfl (hb hby own_d5_28) rfl (XS.bipush X10.here hx rfl (hb hby own_d5_29) (XS.icmpYes X10.here hx rfl (pc0 := 31) (pc' := 36) rfl (hb hby own_d5_31) rfl (feq (own_clash hc12 (by decide))).2 (by decide) (by decide) (XS.iinc X10.here hx rfl (hb hby own_d5_36) rfl (l' := #[.val (.ref x0), .val (.int 3), .val (.int c2)]) rfl (XS.goto X10.here hx rfl (pc0 := 39) (pc' := 2) rfl (hb hby own_d5_39) (by decide) (by decide) (XS.iloadN X10.here hx rfl (hb hby own_d5_2) rfl (XS.aloadN X10.here hx rfl (hb hby own_d5_3) rfl rfl q)))))))) ?_
              refine own_callV X10 hx hZ (y := own_y9) (z := own_y9) hown (own_h hw 31 rfl) (own_h hw 32 rfl) (own_nf (own_h hw 34 rfl)) (own_h hw 34 rfl) (own_h hw 33 rfl) (own_h hw 35 rfl) (own_h hw 8 rfl) (by decide) E_x (own_len_0_3 l Z a0 hw [] x0 t kb c0 c1 c2 zCS fm h0 n0 Z0 S_CS nCS S_AD S_HI S_LO S_SF hfm O0 E_x V_x C_x K_t) (by decide) (by decide) eh10 (g := (mkF m 4 #[.val (.ref x0), .val (.int 3), .val (.int c2)] [(.ref x0), (.int 3)])) rfl (by rw [hml]; rfl) (argsL := []) (rest := [(.int 3)]) (lenOf own_pd__28_29I rfl) rfl (W := 1) (by show 2 * 0 + _ ≤ _; exact Nat.le_of_eq rfl) (hb hby own_d5_4) rfl (by decide) (by decide) ?_
              rintro rv13 T13 L13 X13 ⟨rfl, Nq13, eh13⟩
              have N13 := Fr.app N10 Nq13
              refine own_g (mkF m 43 #[.val (.ref x0), .val (.int 3), .val (.int c2)] [(.int 1)]) (fun _ q => XS.icmpYes X13.here hx rfl (pc0 := 7) (pc' := 42) rfl (hb hby own_d5_7) rfl (flt (by decide : ¬ ((3 : Int32) < (3 : Int32)))).2.1 (by decide) (by decide) (XS.iconst X13.here hx rfl (hb hby own_d5_42) q)) ?_
              exact own_end X13 (v := some (.int (nar .boolean (1 : Int32)))) (fun h => by rw [Bd.returns] at h; cases h) hlk (fun hr => retN X13 hx (t := .boolean) Bd.returns (by simp) (hb hby own_d5_43) hr) (by rw [eh13]; exact ⟨by first | rfl | (simp [own_b, own_ok, nar, hc3, hc4, hc7, hc8, hc11, hc12]; done) | (simp [own_b, own_ok, nar, hc3, hc4, hc7, hc8, hc11, hc12]; decide), N13, rfl⟩) (by decide) (by decide)
            · refine own_g (mkF m 35 #[.val (.ref x0), .val (.int 2), .val (.int c2)] [(.int 0)]) (fun _ q => XS.icmpYes X10.here hx rfl (pc0 := 25) (pc' := 34) rfl (hb hby own_d5_25) rfl (feq hc12).2 (by decide) (by decide) (XS.iconst X10.here hx rfl (hb hby own_d5_34) q)) ?_
              exact own_end X10 (v := some (.int (nar .boolean (0 : Int32)))) (fun h => by rw [Bd.returns] at h; cases h) hlk (fun hr => retN X10 hx (t := .boolean) Bd.returns (by simp) (hb hby own_d5_35) hr) (by rw [eh10]; exact ⟨by first | rfl | (simp [own_b, own_ok, nar, hc3, hc4, hc7, hc8, hc11, hc12]; done) | (simp [own_b, own_ok, nar, hc3, hc4, hc7, hc8, hc11, hc12]; decide), N10, rfl⟩) (by decide) (by decide)
          · refine own_g (mkF m 31 #[.val (.ref x0), .val (.int 2), .val (.int c2)] [(.int 127), (.int c2)]) (fun _ q => XS.icmpYes X10.here hx rfl (pc0 := 19) (pc' := 28) rfl (hb hby own_d5_19) rfl (flt hc11).2.1 (by decide) (by decide) (XS.iloadN X10.here hx rfl (hb hby own_d5_28) rfl (XS.bipush X10.here hx rfl (hb hby own_d5_29) q))) ?_
            by_cases hc14 : c2 = (127 : Int32)
            · refine own_g (mkF m 35 #[.val (.ref x0), .val (.int 2), .val (.int c2)] [(.int 0)]) (fun _ q => XS.icmpNo X10.here hx rfl (hb hby own_d5_31) rfl (teq hc14).2 (XS.iconst X10.here hx rfl (hb hby own_d5_34) q)) ?_
              exact own_end X10 (v := some (.int (nar .boolean (0 : Int32)))) (fun h => by rw [Bd.returns] at h; cases h) hlk (fun hr => retN X10 hx (t := .boolean) Bd.returns (by simp) (hb hby own_d5_35) hr) (by rw [eh10]; exact ⟨by first | rfl | (simp [own_b, own_ok, nar, hc3, hc4, hc7, hc8, hc11, hc14]; done) | (simp [own_b, own_ok, nar, hc3, hc4, hc7, hc8, hc11, hc14]; decide), N10, rfl⟩) (by decide) (by decide)
            · refine own_g (mkF m 4 #[.val (.ref x0), .val (.int 3), .val (.int c2)] [(.ref x0), (.int 3)]) (fun _ q => XS.icmpYes X10.here hx rfl (pc0 := 31) (pc' := 36) rfl (hb hby own_d5_31) rfl (feq hc14).2 (by decide) (by decide) (XS.iinc X10.here hx rfl (hb hby own_d5_36) rfl (l' := #[.val (.ref x0), .val (.int 3), .val (.int c2)]) rfl (XS.goto X10.here hx rfl (pc0 := 39) (pc' := 2) rfl (hb hby own_d5_39) (by decide) (by decide) (XS.iloadN X10.here hx rfl (hb hby own_d5_2) rfl (XS.aloadN X10.here hx rfl (hb hby own_d5_3) rfl rfl q))))) ?_
              refine own_callV X10 hx hZ (y := own_y9) (z := own_y9) hown (own_h hw 31 rfl) (own_h hw 32 rfl) (own_nf (own_h hw 34 rfl)) (own_h hw 34 rfl) (own_h hw 33 rfl) (own_h hw 35 rfl) (own_h hw 8 rfl) (by decide) E_x (own_len_0_3 l Z a0 hw [] x0 t kb c0 c1 c2 zCS fm h0 n0 Z0 S_CS nCS S_AD S_HI S_LO S_SF hfm O0 E_x V_x C_x K_t) (by decide) (by decide) eh10 (g := (mkF m 4 #[.val (.ref x0), .val (.int 3), .val (.int c2)] [(.ref x0), (.int 3)])) rfl (by rw [hml]; rfl) (argsL := []) (rest := [(.int 3)]) (lenOf own_pd__28_29I rfl) rfl (W := 1) (by show 2 * 0 + _ ≤ _; exact Nat.le_of_eq rfl) (hb hby own_d5_4) rfl (by decide) (by decide) ?_
              rintro rv15 T15 L15 X15 ⟨rfl, Nq15, eh15⟩
              have N15 := Fr.app N10 Nq15
              refine own_g (mkF m 43 #[.val (.ref x0), .val (.int 3), .val (.int c2)] [(.int 1)]) (fun _ q => XS.icmpYes X15.here hx rfl (pc0 := 7) (pc' := 42) rfl (hb hby own_d5_7) rfl (flt (by decide : ¬ ((3 : Int32) < (3 : Int32)))).2.1 (by decide) (by decide) (XS.iconst X15.here hx rfl (hb hby own_d5_42) q)) ?_
              exact own_end X15 (v := some (.int (nar .boolean (1 : Int32)))) (fun h => by rw [Bd.returns] at h; cases h) hlk (fun hr => retN X15 hx (t := .boolean) Bd.returns (by simp) (hb hby own_d5_43) hr) (by rw [eh15]; exact ⟨by first | rfl | (simp [own_b, own_ok, nar, hc3, hc4, hc7, hc8, hc11, hc14]; done) | (simp [own_b, own_ok, nar, hc3, hc4, hc7, hc8, hc11, hc14]; decide), N15, rfl⟩) (by decide) (by decide)
        · refine own_g (mkF m 35 #[.val (.ref x0), .val (.int 1), .val (.int c1)] [(.int 0)]) (fun _ q => XS.icmpYes X6.here hx rfl (pc0 := 25) (pc' := 34) rfl (hb hby own_d5_25) rfl (feq hc8).2 (by decide) (by decide) (XS.iconst X6.here hx rfl (hb hby own_d5_34) q)) ?_
          exact own_end X6 (v := some (.int (nar .boolean (0 : Int32)))) (fun h => by rw [Bd.returns] at h; cases h) hlk (fun hr => retN X6 hx (t := .boolean) Bd.returns (by simp) (hb hby own_d5_35) hr) (by rw [eh6]; exact ⟨by first | rfl | (simp [own_b, own_ok, nar, hc3, hc4, hc7, hc8]; done) | (simp [own_b, own_ok, nar, hc3, hc4, hc7, hc8]; decide), N6, rfl⟩) (by decide) (by decide)
      · refine own_g (mkF m 31 #[.val (.ref x0), .val (.int 1), .val (.int c1)] [(.int 127), (.int c1)]) (fun _ q => XS.icmpYes X6.here hx rfl (pc0 := 19) (pc' := 28) rfl (hb hby own_d5_19) rfl (flt hc7).2.1 (by decide) (by decide) (XS.iloadN X6.here hx rfl (hb hby own_d5_28) rfl (XS.bipush X6.here hx rfl (hb hby own_d5_29) q))) ?_
        by_cases hc16 : c1 = (127 : Int32)
        · refine own_g (mkF m 35 #[.val (.ref x0), .val (.int 1), .val (.int c1)] [(.int 0)]) (fun _ q => XS.icmpNo X6.here hx rfl (hb hby own_d5_31) rfl (teq hc16).2 (XS.iconst X6.here hx rfl (hb hby own_d5_34) q)) ?_
          exact own_end X6 (v := some (.int (nar .boolean (0 : Int32)))) (fun h => by rw [Bd.returns] at h; cases h) hlk (fun hr => retN X6 hx (t := .boolean) Bd.returns (by simp) (hb hby own_d5_35) hr) (by rw [eh6]; exact ⟨by first | rfl | (simp [own_b, own_ok, nar, hc3, hc4, hc7, hc16]; done) | (simp [own_b, own_ok, nar, hc3, hc4, hc7, hc16]; decide), N6, rfl⟩) (by decide) (by decide)
        · refine own_g (mkF m 4 #[.val (.ref x0), .val (.int 2), .val (.int c1)] [(.ref x0), (.int 2)]) (fun _ q => XS.icmpYes X6.here hx rfl (pc0 := 31) (pc' := 36) rfl (hb hby own_d5_31) rfl (feq hc16).2 (by decide) (by decide) (XS.iinc X6.here hx rfl (hb hby own_d5_36) rfl (l' := #[.val (.ref x0), .val (.int 2), .val (.int c1)]) rfl (XS.goto X6.here hx rfl (pc0 := 39) (pc' := 2) rfl (hb hby own_d5_39) (by decide) (by decide) (XS.iloadN X6.here hx rfl (hb hby own_d5_2) rfl (XS.aloadN X6.here hx rfl (hb hby own_d5_3) rfl rfl q))))) ?_
          refine own_callV X6 hx hZ (y := own_y9) (z := own_y9) hown (own_h hw 31 rfl) (own_h hw 32 rfl) (own_nf (own_h hw 34 rfl)) (own_h hw 34 rfl) (own_h hw 33 rfl) (own_h hw 35 rfl) (own_h hw 8 rfl) (by decide) E_x (own_len_0_3 l Z a0 hw [] x0 t kb c0 c1 c2 zCS fm h0 n0 Z0 S_CS nCS S_AD S_HI S_LO S_SF hfm O0 E_x V_x C_x K_t) (by decide) (by decide) eh6 (g := (mkF m 4 #[.val (.ref x0), .val (.int 2), .val (.int c1)] [(.ref x0), (.int 2)])) rfl (by rw [hml]; rfl) (argsL := []) (rest := [(.int 2)]) (lenOf own_pd__28_29I rfl) rfl (W := 1) (by show 2 * 0 + _ ≤ _; exact Nat.le_of_eq rfl) (hb hby own_d5_4) rfl (by decide) (by decide) ?_
          rintro rv17 T17 L17 X17 ⟨rfl, Nq17, eh17⟩
          have N17 := Fr.app N6 Nq17
          refine own_g (mkF m 12 #[.val (.ref x0), .val (.int 2), .val (.int c1)] [(.int 2), (.ref x0)]) (fun _ q => XS.icmpNo X17.here hx rfl (hb hby own_d5_7) rfl (tlt (by decide : (2 : Int32) < (3 : Int32))).2.1 (XS.aloadN X17.here hx rfl (hb hby own_d5_10) rfl rfl (XS.iloadN X17.here hx rfl (hb hby own_d5_11) rfl q))) ?_
          refine own_callV X17 hx hZ (y := own_y5) (z := own_y5) hown (own_h hw 55 rfl) (own_h hw 56 rfl) (own_nf (own_h hw 58 rfl)) (own_h hw 58 rfl) (own_h hw 57 rfl) (own_h hw 59 rfl) (own_h hw 8 rfl) (by decide) E_x (own_ch_0_3_2 l Z a0 hw [] x0 t kb c0 c1 c2 zCS fm h0 n0 Z0 S_CS nCS S_AD S_HI S_LO S_SF hfm O0 E_x V_x C_x K_t hb2 hn2) (by decide) (by decide) eh17 (g := (mkF m 12 #[.val (.ref x0), .val (.int 2), .val (.int c1)] [(.int 2), (.ref x0)])) rfl (by rw [hml]; rfl) (argsL := [(.int 2)]) (rest := []) (lenOf own_pd__28I_29C rfl) rfl (W := 0) (by show 2 * 0 + _ ≤ _; exact Nat.le_of_eq rfl) (hb hby own_d5_12) rfl (by decide) (by decide) ?_
          rintro rv18 T18 L18 X18 ⟨rfl, Nq18, eh18⟩
          have N18 := Fr.app N17 Nq18
          refine own_g (mkF m 19 #[.val (.ref x0), .val (.int 2), .val (.int c2)] [(.int 32), (.int c2)]) (fun _ q => XS.istoreN X18.here hx rfl (hb hby own_d5_15) rfl (l' := #[.val (.ref x0), .val (.int 2), .val (.int c2)]) rfl (XS.iloadN X18.here hx rfl (hb hby own_d5_16) rfl (XS.bipush X18.here hx rfl (hb hby own_d5_17) q))) ?_
          by_cases hc19 : c2 < (32 : Int32)
          · refine own_g (mkF m 25 #[.val (.ref x0), .val (.int 2), .val (.int c2)] [(.int 9), (.int c2)]) (fun _ q => XS.icmpNo X18.here hx rfl (hb hby own_d5_19) rfl (tlt hc19).2.1 (XS.iloadN X18.here hx rfl (hb hby own_d5_22) rfl (XS.bipush X18.here hx rfl (hb hby own_d5_23) q))) ?_
            by_cases hc20 : c2 = (9 : Int32)
            · refine own_g (mkF m 4 #[.val (.ref x0), .val (.int 3), .val (.int c2)] [(.ref x0), (.int 3)]) (fun _ q => XS.icmpNo X18.here hx rfl (hb hby own_d5_25) rfl (teq hc20).2 (XS.iloadN X18.here hx rfl (hb hby own_d5_28) rfl (XS.bipush X18.here hx rfl (hb hby own_d5_29) (XS.icmpYes X18.here hx rfl (pc0 := 31) (pc' := 36) rfl (hb hby own_d5_31) rfl (feq (own_clash hc20 (by decide))).2 (by decide) (by decide) (XS.iinc X18.here hx rfl (hb hby own_d5_36) rfl (l' := #[.val (.ref x0), .val (.int 3), .val (.int c2)]) rfl (XS.goto X18.here hx rfl (pc0 := 39) (pc' := 2) rfl (hb hby own_d5_39) (by decide) (by decide) (XS.iloadN X18.here hx rfl (hb hby own_d5_2) rfl (XS.aloadN X18.here hx rfl (hb hby own_d5_3) rfl rfl q)))))))) ?_
              refine own_callV X18 hx hZ (y := own_y9) (z := own_y9) hown (own_h hw 31 rfl) (own_h hw 32 rfl) (own_nf (own_h hw 34 rfl)) (own_h hw 34 rfl) (own_h hw 33 rfl) (own_h hw 35 rfl) (own_h hw 8 rfl) (by decide) E_x (own_len_0_3 l Z a0 hw [] x0 t kb c0 c1 c2 zCS fm h0 n0 Z0 S_CS nCS S_AD S_HI S_LO S_SF hfm O0 E_x V_x C_x K_t) (by decide) (by decide) eh18 (g := (mkF m 4 #[.val (.ref x0), .val (.int 3), .val (.int c2)] [(.ref x0), (.int 3)])) rfl (by rw [hml]; rfl) (argsL := []) (rest := [(.int 3)]) (lenOf own_pd__28_29I rfl) rfl (W := 1) (by show 2 * 0 + _ ≤ _; exact Nat.le_of_eq rfl) (hb hby own_d5_4) rfl (by decide) (by decide) ?_
              rintro rv21 T21 L21 X21 ⟨rfl, Nq21, eh21⟩
              have N21 := Fr.app N18 Nq21
              refine own_g (mkF m 43 #[.val (.ref x0), .val (.int 3), .val (.int c2)] [(.int 1)]) (fun _ q => XS.icmpYes X21.here hx rfl (pc0 := 7) (pc' := 42) rfl (hb hby own_d5_7) rfl (flt (by decide : ¬ ((3 : Int32) < (3 : Int32)))).2.1 (by decide) (by decide) (XS.iconst X21.here hx rfl (hb hby own_d5_42) q)) ?_
              exact own_end X21 (v := some (.int (nar .boolean (1 : Int32)))) (fun h => by rw [Bd.returns] at h; cases h) hlk (fun hr => retN X21 hx (t := .boolean) Bd.returns (by simp) (hb hby own_d5_43) hr) (by rw [eh21]; exact ⟨by first | rfl | (simp [own_b, own_ok, nar, hc3, hc4, hc7, hc16, hc19, hc20]; done) | (simp [own_b, own_ok, nar, hc3, hc4, hc7, hc16, hc19, hc20]; decide), N21, rfl⟩) (by decide) (by decide)
            · refine own_g (mkF m 35 #[.val (.ref x0), .val (.int 2), .val (.int c2)] [(.int 0)]) (fun _ q => XS.icmpYes X18.here hx rfl (pc0 := 25) (pc' := 34) rfl (hb hby own_d5_25) rfl (feq hc20).2 (by decide) (by decide) (XS.iconst X18.here hx rfl (hb hby own_d5_34) q)) ?_
              exact own_end X18 (v := some (.int (nar .boolean (0 : Int32)))) (fun h => by rw [Bd.returns] at h; cases h) hlk (fun hr => retN X18 hx (t := .boolean) Bd.returns (by simp) (hb hby own_d5_35) hr) (by rw [eh18]; exact ⟨by first | rfl | (simp [own_b, own_ok, nar, hc3, hc4, hc7, hc16, hc19, hc20]; done) | (simp [own_b, own_ok, nar, hc3, hc4, hc7, hc16, hc19, hc20]; decide), N18, rfl⟩) (by decide) (by decide)
          · refine own_g (mkF m 31 #[.val (.ref x0), .val (.int 2), .val (.int c2)] [(.int 127), (.int c2)]) (fun _ q => XS.icmpYes X18.here hx rfl (pc0 := 19) (pc' := 28) rfl (hb hby own_d5_19) rfl (flt hc19).2.1 (by decide) (by decide) (XS.iloadN X18.here hx rfl (hb hby own_d5_28) rfl (XS.bipush X18.here hx rfl (hb hby own_d5_29) q))) ?_
            by_cases hc22 : c2 = (127 : Int32)
            · refine own_g (mkF m 35 #[.val (.ref x0), .val (.int 2), .val (.int c2)] [(.int 0)]) (fun _ q => XS.icmpNo X18.here hx rfl (hb hby own_d5_31) rfl (teq hc22).2 (XS.iconst X18.here hx rfl (hb hby own_d5_34) q)) ?_
              exact own_end X18 (v := some (.int (nar .boolean (0 : Int32)))) (fun h => by rw [Bd.returns] at h; cases h) hlk (fun hr => retN X18 hx (t := .boolean) Bd.returns (by simp) (hb hby own_d5_35) hr) (by rw [eh18]; exact ⟨by first | rfl | (simp [own_b, own_ok, nar, hc3, hc4, hc7, hc16, hc19, hc22]; done) | (simp [own_b, own_ok, nar, hc3, hc4, hc7, hc16, hc19, hc22]; decide), N18, rfl⟩) (by decide) (by decide)
            · refine own_g (mkF m 4 #[.val (.ref x0), .val (.int 3), .val (.int c2)] [(.ref x0), (.int 3)]) (fun _ q => XS.icmpYes X18.here hx rfl (pc0 := 31) (pc' := 36) rfl (hb hby own_d5_31) rfl (feq hc22).2 (by decide) (by decide) (XS.iinc X18.here hx rfl (hb hby own_d5_36) rfl (l' := #[.val (.ref x0), .val (.int 3), .val (.int c2)]) rfl (XS.goto X18.here hx rfl (pc0 := 39) (pc' := 2) rfl (hb hby own_d5_39) (by decide) (by decide) (XS.iloadN X18.here hx rfl (hb hby own_d5_2) rfl (XS.aloadN X18.here hx rfl (hb hby own_d5_3) rfl rfl q))))) ?_
              refine own_callV X18 hx hZ (y := own_y9) (z := own_y9) hown (own_h hw 31 rfl) (own_h hw 32 rfl) (own_nf (own_h hw 34 rfl)) (own_h hw 34 rfl) (own_h hw 33 rfl) (own_h hw 35 rfl) (own_h hw 8 rfl) (by decide) E_x (own_len_0_3 l Z a0 hw [] x0 t kb c0 c1 c2 zCS fm h0 n0 Z0 S_CS nCS S_AD S_HI S_LO S_SF hfm O0 E_x V_x C_x K_t) (by decide) (by decide) eh18 (g := (mkF m 4 #[.val (.ref x0), .val (.int 3), .val (.int c2)] [(.ref x0), (.int 3)])) rfl (by rw [hml]; rfl) (argsL := []) (rest := [(.int 3)]) (lenOf own_pd__28_29I rfl) rfl (W := 1) (by show 2 * 0 + _ ≤ _; exact Nat.le_of_eq rfl) (hb hby own_d5_4) rfl (by decide) (by decide) ?_
              rintro rv23 T23 L23 X23 ⟨rfl, Nq23, eh23⟩
              have N23 := Fr.app N18 Nq23
              refine own_g (mkF m 43 #[.val (.ref x0), .val (.int 3), .val (.int c2)] [(.int 1)]) (fun _ q => XS.icmpYes X23.here hx rfl (pc0 := 7) (pc' := 42) rfl (hb hby own_d5_7) rfl (flt (by decide : ¬ ((3 : Int32) < (3 : Int32)))).2.1 (by decide) (by decide) (XS.iconst X23.here hx rfl (hb hby own_d5_42) q)) ?_
              exact own_end X23 (v := some (.int (nar .boolean (1 : Int32)))) (fun h => by rw [Bd.returns] at h; cases h) hlk (fun hr => retN X23 hx (t := .boolean) Bd.returns (by simp) (hb hby own_d5_43) hr) (by rw [eh23]; exact ⟨by first | rfl | (simp [own_b, own_ok, nar, hc3, hc4, hc7, hc16, hc19, hc22]; done) | (simp [own_b, own_ok, nar, hc3, hc4, hc7, hc16, hc19, hc22]; decide), N23, rfl⟩) (by decide) (by decide)
    · refine own_g (mkF m 35 #[.val (.ref x0), .val (.int 0), .val (.int c0)] [(.int 0)]) (fun _ q => XS.icmpYes X2.here hx rfl (pc0 := 25) (pc' := 34) rfl (hb hby own_d5_25) rfl (feq hc4).2 (by decide) (by decide) (XS.iconst X2.here hx rfl (hb hby own_d5_34) q)) ?_
      exact own_end X2 (v := some (.int (nar .boolean (0 : Int32)))) (fun h => by rw [Bd.returns] at h; cases h) hlk (fun hr => retN X2 hx (t := .boolean) Bd.returns (by simp) (hb hby own_d5_35) hr) (by rw [eh2]; exact ⟨by first | rfl | (simp [own_b, own_ok, nar, hc3, hc4]; done) | (simp [own_b, own_ok, nar, hc3, hc4]; decide), N2, rfl⟩) (by decide) (by decide)
  · refine own_g (mkF m 31 #[.val (.ref x0), .val (.int 0), .val (.int c0)] [(.int 127), (.int c0)]) (fun _ q => XS.icmpYes X2.here hx rfl (pc0 := 19) (pc' := 28) rfl (hb hby own_d5_19) rfl (flt hc3).2.1 (by decide) (by decide) (XS.iloadN X2.here hx rfl (hb hby own_d5_28) rfl (XS.bipush X2.here hx rfl (hb hby own_d5_29) q))) ?_
    by_cases hc24 : c0 = (127 : Int32)
    · refine own_g (mkF m 35 #[.val (.ref x0), .val (.int 0), .val (.int c0)] [(.int 0)]) (fun _ q => XS.icmpNo X2.here hx rfl (hb hby own_d5_31) rfl (teq hc24).2 (XS.iconst X2.here hx rfl (hb hby own_d5_34) q)) ?_
      exact own_end X2 (v := some (.int (nar .boolean (0 : Int32)))) (fun h => by rw [Bd.returns] at h; cases h) hlk (fun hr => retN X2 hx (t := .boolean) Bd.returns (by simp) (hb hby own_d5_35) hr) (by rw [eh2]; exact ⟨by first | rfl | (simp [own_b, own_ok, nar, hc3, hc24]; done) | (simp [own_b, own_ok, nar, hc3, hc24]; decide), N2, rfl⟩) (by decide) (by decide)
    · refine own_g (mkF m 4 #[.val (.ref x0), .val (.int 1), .val (.int c0)] [(.ref x0), (.int 1)]) (fun _ q => XS.icmpYes X2.here hx rfl (pc0 := 31) (pc' := 36) rfl (hb hby own_d5_31) rfl (feq hc24).2 (by decide) (by decide) (XS.iinc X2.here hx rfl (hb hby own_d5_36) rfl (l' := #[.val (.ref x0), .val (.int 1), .val (.int c0)]) rfl (XS.goto X2.here hx rfl (pc0 := 39) (pc' := 2) rfl (hb hby own_d5_39) (by decide) (by decide) (XS.iloadN X2.here hx rfl (hb hby own_d5_2) rfl (XS.aloadN X2.here hx rfl (hb hby own_d5_3) rfl rfl q))))) ?_
      refine own_callV X2 hx hZ (y := own_y9) (z := own_y9) hown (own_h hw 31 rfl) (own_h hw 32 rfl) (own_nf (own_h hw 34 rfl)) (own_h hw 34 rfl) (own_h hw 33 rfl) (own_h hw 35 rfl) (own_h hw 8 rfl) (by decide) E_x (own_len_0_3 l Z a0 hw [] x0 t kb c0 c1 c2 zCS fm h0 n0 Z0 S_CS nCS S_AD S_HI S_LO S_SF hfm O0 E_x V_x C_x K_t) (by decide) (by decide) eh2 (g := (mkF m 4 #[.val (.ref x0), .val (.int 1), .val (.int c0)] [(.ref x0), (.int 1)])) rfl (by rw [hml]; rfl) (argsL := []) (rest := [(.int 1)]) (lenOf own_pd__28_29I rfl) rfl (W := 1) (by show 2 * 0 + _ ≤ _; exact Nat.le_of_eq rfl) (hb hby own_d5_4) rfl (by decide) (by decide) ?_
      rintro rv25 T25 L25 X25 ⟨rfl, Nq25, eh25⟩
      have N25 := Fr.app N2 Nq25
      refine own_g (mkF m 12 #[.val (.ref x0), .val (.int 1), .val (.int c0)] [(.int 1), (.ref x0)]) (fun _ q => XS.icmpNo X25.here hx rfl (hb hby own_d5_7) rfl (tlt (by decide : (1 : Int32) < (3 : Int32))).2.1 (XS.aloadN X25.here hx rfl (hb hby own_d5_10) rfl rfl (XS.iloadN X25.here hx rfl (hb hby own_d5_11) rfl q))) ?_
      refine own_callV X25 hx hZ (y := own_y5) (z := own_y5) hown (own_h hw 55 rfl) (own_h hw 56 rfl) (own_nf (own_h hw 58 rfl)) (own_h hw 58 rfl) (own_h hw 57 rfl) (own_h hw 59 rfl) (own_h hw 8 rfl) (by decide) E_x (own_ch_0_3_1 l Z a0 hw [] x0 t kb c0 c1 c2 zCS fm h0 n0 Z0 S_CS nCS S_AD S_HI S_LO S_SF hfm O0 E_x V_x C_x K_t hb1 hn1) (by decide) (by decide) eh25 (g := (mkF m 12 #[.val (.ref x0), .val (.int 1), .val (.int c0)] [(.int 1), (.ref x0)])) rfl (by rw [hml]; rfl) (argsL := [(.int 1)]) (rest := []) (lenOf own_pd__28I_29C rfl) rfl (W := 0) (by show 2 * 0 + _ ≤ _; exact Nat.le_of_eq rfl) (hb hby own_d5_12) rfl (by decide) (by decide) ?_
      rintro rv26 T26 L26 X26 ⟨rfl, Nq26, eh26⟩
      have N26 := Fr.app N25 Nq26
      refine own_g (mkF m 19 #[.val (.ref x0), .val (.int 1), .val (.int c1)] [(.int 32), (.int c1)]) (fun _ q => XS.istoreN X26.here hx rfl (hb hby own_d5_15) rfl (l' := #[.val (.ref x0), .val (.int 1), .val (.int c1)]) rfl (XS.iloadN X26.here hx rfl (hb hby own_d5_16) rfl (XS.bipush X26.here hx rfl (hb hby own_d5_17) q))) ?_
      by_cases hc27 : c1 < (32 : Int32)
      · refine own_g (mkF m 25 #[.val (.ref x0), .val (.int 1), .val (.int c1)] [(.int 9), (.int c1)]) (fun _ q => XS.icmpNo X26.here hx rfl (hb hby own_d5_19) rfl (tlt hc27).2.1 (XS.iloadN X26.here hx rfl (hb hby own_d5_22) rfl (XS.bipush X26.here hx rfl (hb hby own_d5_23) q))) ?_
        by_cases hc28 : c1 = (9 : Int32)
        · refine own_g (mkF m 4 #[.val (.ref x0), .val (.int 2), .val (.int c1)] [(.ref x0), (.int 2)]) (fun _ q => XS.icmpNo X26.here hx rfl (hb hby own_d5_25) rfl (teq hc28).2 (XS.iloadN X26.here hx rfl (hb hby own_d5_28) rfl (XS.bipush X26.here hx rfl (hb hby own_d5_29) (XS.icmpYes X26.here hx rfl (pc0 := 31) (pc' := 36) rfl (hb hby own_d5_31) rfl (feq (own_clash hc28 (by decide))).2 (by decide) (by decide) (XS.iinc X26.here hx rfl (hb hby own_d5_36) rfl (l' := #[.val (.ref x0), .val (.int 2), .val (.int c1)]) rfl (XS.goto X26.here hx rfl (pc0 := 39) (pc' := 2) rfl (hb hby own_d5_39) (by decide) (by decide) (XS.iloadN X26.here hx rfl (hb hby own_d5_2) rfl (XS.aloadN X26.here hx rfl (hb hby own_d5_3) rfl rfl q)))))))) ?_
          refine own_callV X26 hx hZ (y := own_y9) (z := own_y9) hown (own_h hw 31 rfl) (own_h hw 32 rfl) (own_nf (own_h hw 34 rfl)) (own_h hw 34 rfl) (own_h hw 33 rfl) (own_h hw 35 rfl) (own_h hw 8 rfl) (by decide) E_x (own_len_0_3 l Z a0 hw [] x0 t kb c0 c1 c2 zCS fm h0 n0 Z0 S_CS nCS S_AD S_HI S_LO S_SF hfm O0 E_x V_x C_x K_t) (by decide) (by decide) eh26 (g := (mkF m 4 #[.val (.ref x0), .val (.int 2), .val (.int c1)] [(.ref x0), (.int 2)])) rfl (by rw [hml]; rfl) (argsL := []) (rest := [(.int 2)]) (lenOf own_pd__28_29I rfl) rfl (W := 1) (by show 2 * 0 + _ ≤ _; exact Nat.le_of_eq rfl) (hb hby own_d5_4) rfl (by decide) (by decide) ?_
          rintro rv29 T29 L29 X29 ⟨rfl, Nq29, eh29⟩
          have N29 := Fr.app N26 Nq29
          refine own_g (mkF m 12 #[.val (.ref x0), .val (.int 2), .val (.int c1)] [(.int 2), (.ref x0)]) (fun _ q => XS.icmpNo X29.here hx rfl (hb hby own_d5_7) rfl (tlt (by decide : (2 : Int32) < (3 : Int32))).2.1 (XS.aloadN X29.here hx rfl (hb hby own_d5_10) rfl rfl (XS.iloadN X29.here hx rfl (hb hby own_d5_11) rfl q))) ?_
          refine own_callV X29 hx hZ (y := own_y5) (z := own_y5) hown (own_h hw 55 rfl) (own_h hw 56 rfl) (own_nf (own_h hw 58 rfl)) (own_h hw 58 rfl) (own_h hw 57 rfl) (own_h hw 59 rfl) (own_h hw 8 rfl) (by decide) E_x (own_ch_0_3_2 l Z a0 hw [] x0 t kb c0 c1 c2 zCS fm h0 n0 Z0 S_CS nCS S_AD S_HI S_LO S_SF hfm O0 E_x V_x C_x K_t hb2 hn2) (by decide) (by decide) eh29 (g := (mkF m 12 #[.val (.ref x0), .val (.int 2), .val (.int c1)] [(.int 2), (.ref x0)])) rfl (by rw [hml]; rfl) (argsL := [(.int 2)]) (rest := []) (lenOf own_pd__28I_29C rfl) rfl (W := 0) (by show 2 * 0 + _ ≤ _; exact Nat.le_of_eq rfl) (hb hby own_d5_12) rfl (by decide) (by decide) ?_
          rintro rv30 T30 L30 X30 ⟨rfl, Nq30, eh30⟩
          have N30 := Fr.app N29 Nq30
          refine own_g (mkF m 19 #[.val (.ref x0), .val (.int 2), .val (.int c2)] [(.int 32), (.int c2)]) (fun _ q => XS.istoreN X30.here hx rfl (hb hby own_d5_15) rfl (l' := #[.val (.ref x0), .val (.int 2), .val (.int c2)]) rfl (XS.iloadN X30.here hx rfl (hb hby own_d5_16) rfl (XS.bipush X30.here hx rfl (hb hby own_d5_17) q))) ?_
          by_cases hc31 : c2 < (32 : Int32)
          · refine own_g (mkF m 25 #[.val (.ref x0), .val (.int 2), .val (.int c2)] [(.int 9), (.int c2)]) (fun _ q => XS.icmpNo X30.here hx rfl (hb hby own_d5_19) rfl (tlt hc31).2.1 (XS.iloadN X30.here hx rfl (hb hby own_d5_22) rfl (XS.bipush X30.here hx rfl (hb hby own_d5_23) q))) ?_
            by_cases hc32 : c2 = (9 : Int32)
            · refine own_g (mkF m 4 #[.val (.ref x0), .val (.int 3), .val (.int c2)] [(.ref x0), (.int 3)]) (fun _ q => XS.icmpNo X30.here hx rfl (hb hby own_d5_25) rfl (teq hc32).2 (XS.iloadN X30.here hx rfl (hb hby own_d5_28) rfl (XS.bipush X30.here hx rfl (hb hby own_d5_29) (XS.icmpYes X30.here hx rfl (pc0 := 31) (pc' := 36) rfl (hb hby own_d5_31) rfl (feq (own_clash hc32 (by decide))).2 (by decide) (by decide) (XS.iinc X30.here hx rfl (hb hby own_d5_36) rfl (l' := #[.val (.ref x0), .val (.int 3), .val (.int c2)]) rfl (XS.goto X30.here hx rfl (pc0 := 39) (pc' := 2) rfl (hb hby own_d5_39) (by decide) (by decide) (XS.iloadN X30.here hx rfl (hb hby own_d5_2) rfl (XS.aloadN X30.here hx rfl (hb hby own_d5_3) rfl rfl q)))))))) ?_
              refine own_callV X30 hx hZ (y := own_y9) (z := own_y9) hown (own_h hw 31 rfl) (own_h hw 32 rfl) (own_nf (own_h hw 34 rfl)) (own_h hw 34 rfl) (own_h hw 33 rfl) (own_h hw 35 rfl) (own_h hw 8 rfl) (by decide) E_x (own_len_0_3 l Z a0 hw [] x0 t kb c0 c1 c2 zCS fm h0 n0 Z0 S_CS nCS S_AD S_HI S_LO S_SF hfm O0 E_x V_x C_x K_t) (by decide) (by decide) eh30 (g := (mkF m 4 #[.val (.ref x0), .val (.int 3), .val (.int c2)] [(.ref x0), (.int 3)])) rfl (by rw [hml]; rfl) (argsL := []) (rest := [(.int 3)]) (lenOf own_pd__28_29I rfl) rfl (W := 1) (by show 2 * 0 + _ ≤ _; exact Nat.le_of_eq rfl) (hb hby own_d5_4) rfl (by decide) (by decide) ?_
              rintro rv33 T33 L33 X33 ⟨rfl, Nq33, eh33⟩
              have N33 := Fr.app N30 Nq33
              refine own_g (mkF m 43 #[.val (.ref x0), .val (.int 3), .val (.int c2)] [(.int 1)]) (fun _ q => XS.icmpYes X33.here hx rfl (pc0 := 7) (pc' := 42) rfl (hb hby own_d5_7) rfl (flt (by decide : ¬ ((3 : Int32) < (3 : Int32)))).2.1 (by decide) (by decide) (XS.iconst X33.here hx rfl (hb hby own_d5_42) q)) ?_
              exact own_end X33 (v := some (.int (nar .boolean (1 : Int32)))) (fun h => by rw [Bd.returns] at h; cases h) hlk (fun hr => retN X33 hx (t := .boolean) Bd.returns (by simp) (hb hby own_d5_43) hr) (by rw [eh33]; exact ⟨by first | rfl | (simp [own_b, own_ok, nar, hc3, hc24, hc27, hc28, hc31, hc32]; done) | (simp [own_b, own_ok, nar, hc3, hc24, hc27, hc28, hc31, hc32]; decide), N33, rfl⟩) (by decide) (by decide)
            · refine own_g (mkF m 35 #[.val (.ref x0), .val (.int 2), .val (.int c2)] [(.int 0)]) (fun _ q => XS.icmpYes X30.here hx rfl (pc0 := 25) (pc' := 34) rfl (hb hby own_d5_25) rfl (feq hc32).2 (by decide) (by decide) (XS.iconst X30.here hx rfl (hb hby own_d5_34) q)) ?_
              exact own_end X30 (v := some (.int (nar .boolean (0 : Int32)))) (fun h => by rw [Bd.returns] at h; cases h) hlk (fun hr => retN X30 hx (t := .boolean) Bd.returns (by simp) (hb hby own_d5_35) hr) (by rw [eh30]; exact ⟨by first | rfl | (simp [own_b, own_ok, nar, hc3, hc24, hc27, hc28, hc31, hc32]; done) | (simp [own_b, own_ok, nar, hc3, hc24, hc27, hc28, hc31, hc32]; decide), N30, rfl⟩) (by decide) (by decide)
          · refine own_g (mkF m 31 #[.val (.ref x0), .val (.int 2), .val (.int c2)] [(.int 127), (.int c2)]) (fun _ q => XS.icmpYes X30.here hx rfl (pc0 := 19) (pc' := 28) rfl (hb hby own_d5_19) rfl (flt hc31).2.1 (by decide) (by decide) (XS.iloadN X30.here hx rfl (hb hby own_d5_28) rfl (XS.bipush X30.here hx rfl (hb hby own_d5_29) q))) ?_
            by_cases hc34 : c2 = (127 : Int32)
            · refine own_g (mkF m 35 #[.val (.ref x0), .val (.int 2), .val (.int c2)] [(.int 0)]) (fun _ q => XS.icmpNo X30.here hx rfl (hb hby own_d5_31) rfl (teq hc34).2 (XS.iconst X30.here hx rfl (hb hby own_d5_34) q)) ?_
              exact own_end X30 (v := some (.int (nar .boolean (0 : Int32)))) (fun h => by rw [Bd.returns] at h; cases h) hlk (fun hr => retN X30 hx (t := .boolean) Bd.returns (by simp) (hb hby own_d5_35) hr) (by rw [eh30]; exact ⟨by first | rfl | (simp [own_b, own_ok, nar, hc3, hc24, hc27, hc28, hc31, hc34]; done) | (simp [own_b, own_ok, nar, hc3, hc24, hc27, hc28, hc31, hc34]; decide), N30, rfl⟩) (by decide) (by decide)
            · refine own_g (mkF m 4 #[.val (.ref x0), .val (.int 3), .val (.int c2)] [(.ref x0), (.int 3)]) (fun _ q => XS.icmpYes X30.here hx rfl (pc0 := 31) (pc' := 36) rfl (hb hby own_d5_31) rfl (feq hc34).2 (by decide) (by decide) (XS.iinc X30.here hx rfl (hb hby own_d5_36) rfl (l' := #[.val (.ref x0), .val (.int 3), .val (.int c2)]) rfl (XS.goto X30.here hx rfl (pc0 := 39) (pc' := 2) rfl (hb hby own_d5_39) (by decide) (by decide) (XS.iloadN X30.here hx rfl (hb hby own_d5_2) rfl (XS.aloadN X30.here hx rfl (hb hby own_d5_3) rfl rfl q))))) ?_
              refine own_callV X30 hx hZ (y := own_y9) (z := own_y9) hown (own_h hw 31 rfl) (own_h hw 32 rfl) (own_nf (own_h hw 34 rfl)) (own_h hw 34 rfl) (own_h hw 33 rfl) (own_h hw 35 rfl) (own_h hw 8 rfl) (by decide) E_x (own_len_0_3 l Z a0 hw [] x0 t kb c0 c1 c2 zCS fm h0 n0 Z0 S_CS nCS S_AD S_HI S_LO S_SF hfm O0 E_x V_x C_x K_t) (by decide) (by decide) eh30 (g := (mkF m 4 #[.val (.ref x0), .val (.int 3), .val (.int c2)] [(.ref x0), (.int 3)])) rfl (by rw [hml]; rfl) (argsL := []) (rest := [(.int 3)]) (lenOf own_pd__28_29I rfl) rfl (W := 1) (by show 2 * 0 + _ ≤ _; exact Nat.le_of_eq rfl) (hb hby own_d5_4) rfl (by decide) (by decide) ?_
              rintro rv35 T35 L35 X35 ⟨rfl, Nq35, eh35⟩
              have N35 := Fr.app N30 Nq35
              refine own_g (mkF m 43 #[.val (.ref x0), .val (.int 3), .val (.int c2)] [(.int 1)]) (fun _ q => XS.icmpYes X35.here hx rfl (pc0 := 7) (pc' := 42) rfl (hb hby own_d5_7) rfl (flt (by decide : ¬ ((3 : Int32) < (3 : Int32)))).2.1 (by decide) (by decide) (XS.iconst X35.here hx rfl (hb hby own_d5_42) q)) ?_
              exact own_end X35 (v := some (.int (nar .boolean (1 : Int32)))) (fun h => by rw [Bd.returns] at h; cases h) hlk (fun hr => retN X35 hx (t := .boolean) Bd.returns (by simp) (hb hby own_d5_43) hr) (by rw [eh35]; exact ⟨by first | rfl | (simp [own_b, own_ok, nar, hc3, hc24, hc27, hc28, hc31, hc34]; done) | (simp [own_b, own_ok, nar, hc3, hc24, hc27, hc28, hc31, hc34]; decide), N35, rfl⟩) (by decide) (by decide)
        · refine own_g (mkF m 35 #[.val (.ref x0), .val (.int 1), .val (.int c1)] [(.int 0)]) (fun _ q => XS.icmpYes X26.here hx rfl (pc0 := 25) (pc' := 34) rfl (hb hby own_d5_25) rfl (feq hc28).2 (by decide) (by decide) (XS.iconst X26.here hx rfl (hb hby own_d5_34) q)) ?_
          exact own_end X26 (v := some (.int (nar .boolean (0 : Int32)))) (fun h => by rw [Bd.returns] at h; cases h) hlk (fun hr => retN X26 hx (t := .boolean) Bd.returns (by simp) (hb hby own_d5_35) hr) (by rw [eh26]; exact ⟨by first | rfl | (simp [own_b, own_ok, nar, hc3, hc24, hc27, hc28]; done) | (simp [own_b, own_ok, nar, hc3, hc24, hc27, hc28]; decide), N26, rfl⟩) (by decide) (by decide)
      · refine own_g (mkF m 31 #[.val (.ref x0), .val (.int 1), .val (.int c1)] [(.int 127), (.int c1)]) (fun _ q => XS.icmpYes X26.here hx rfl (pc0 := 19) (pc' := 28) rfl (hb hby own_d5_19) rfl (flt hc27).2.1 (by decide) (by decide) (XS.iloadN X26.here hx rfl (hb hby own_d5_28) rfl (XS.bipush X26.here hx rfl (hb hby own_d5_29) q))) ?_
        by_cases hc36 : c1 = (127 : Int32)
        · refine own_g (mkF m 35 #[.val (.ref x0), .val (.int 1), .val (.int c1)] [(.int 0)]) (fun _ q => XS.icmpNo X26.here hx rfl (hb hby own_d5_31) rfl (teq hc36).2 (XS.iconst X26.here hx rfl (hb hby own_d5_34) q)) ?_
          exact own_end X26 (v := some (.int (nar .boolean (0 : Int32)))) (fun h => by rw [Bd.returns] at h; cases h) hlk (fun hr => retN X26 hx (t := .boolean) Bd.returns (by simp) (hb hby own_d5_35) hr) (by rw [eh26]; exact ⟨by first | rfl | (simp [own_b, own_ok, nar, hc3, hc24, hc27, hc36]; done) | (simp [own_b, own_ok, nar, hc3, hc24, hc27, hc36]; decide), N26, rfl⟩) (by decide) (by decide)
        · refine own_g (mkF m 4 #[.val (.ref x0), .val (.int 2), .val (.int c1)] [(.ref x0), (.int 2)]) (fun _ q => XS.icmpYes X26.here hx rfl (pc0 := 31) (pc' := 36) rfl (hb hby own_d5_31) rfl (feq hc36).2 (by decide) (by decide) (XS.iinc X26.here hx rfl (hb hby own_d5_36) rfl (l' := #[.val (.ref x0), .val (.int 2), .val (.int c1)]) rfl (XS.goto X26.here hx rfl (pc0 := 39) (pc' := 2) rfl (hb hby own_d5_39) (by decide) (by decide) (XS.iloadN X26.here hx rfl (hb hby own_d5_2) rfl (XS.aloadN X26.here hx rfl (hb hby own_d5_3) rfl rfl q))))) ?_
          refine own_callV X26 hx hZ (y := own_y9) (z := own_y9) hown (own_h hw 31 rfl) (own_h hw 32 rfl) (own_nf (own_h hw 34 rfl)) (own_h hw 34 rfl) (own_h hw 33 rfl) (own_h hw 35 rfl) (own_h hw 8 rfl) (by decide) E_x (own_len_0_3 l Z a0 hw [] x0 t kb c0 c1 c2 zCS fm h0 n0 Z0 S_CS nCS S_AD S_HI S_LO S_SF hfm O0 E_x V_x C_x K_t) (by decide) (by decide) eh26 (g := (mkF m 4 #[.val (.ref x0), .val (.int 2), .val (.int c1)] [(.ref x0), (.int 2)])) rfl (by rw [hml]; rfl) (argsL := []) (rest := [(.int 2)]) (lenOf own_pd__28_29I rfl) rfl (W := 1) (by show 2 * 0 + _ ≤ _; exact Nat.le_of_eq rfl) (hb hby own_d5_4) rfl (by decide) (by decide) ?_
          rintro rv37 T37 L37 X37 ⟨rfl, Nq37, eh37⟩
          have N37 := Fr.app N26 Nq37
          refine own_g (mkF m 12 #[.val (.ref x0), .val (.int 2), .val (.int c1)] [(.int 2), (.ref x0)]) (fun _ q => XS.icmpNo X37.here hx rfl (hb hby own_d5_7) rfl (tlt (by decide : (2 : Int32) < (3 : Int32))).2.1 (XS.aloadN X37.here hx rfl (hb hby own_d5_10) rfl rfl (XS.iloadN X37.here hx rfl (hb hby own_d5_11) rfl q))) ?_
          refine own_callV X37 hx hZ (y := own_y5) (z := own_y5) hown (own_h hw 55 rfl) (own_h hw 56 rfl) (own_nf (own_h hw 58 rfl)) (own_h hw 58 rfl) (own_h hw 57 rfl) (own_h hw 59 rfl) (own_h hw 8 rfl) (by decide) E_x (own_ch_0_3_2 l Z a0 hw [] x0 t kb c0 c1 c2 zCS fm h0 n0 Z0 S_CS nCS S_AD S_HI S_LO S_SF hfm O0 E_x V_x C_x K_t hb2 hn2) (by decide) (by decide) eh37 (g := (mkF m 12 #[.val (.ref x0), .val (.int 2), .val (.int c1)] [(.int 2), (.ref x0)])) rfl (by rw [hml]; rfl) (argsL := [(.int 2)]) (rest := []) (lenOf own_pd__28I_29C rfl) rfl (W := 0) (by show 2 * 0 + _ ≤ _; exact Nat.le_of_eq rfl) (hb hby own_d5_12) rfl (by decide) (by decide) ?_
          rintro rv38 T38 L38 X38 ⟨rfl, Nq38, eh38⟩
          have N38 := Fr.app N37 Nq38
          refine own_g (mkF m 19 #[.val (.ref x0), .val (.int 2), .val (.int c2)] [(.int 32), (.int c2)]) (fun _ q => XS.istoreN X38.here hx rfl (hb hby own_d5_15) rfl (l' := #[.val (.ref x0), .val (.int 2), .val (.int c2)]) rfl (XS.iloadN X38.here hx rfl (hb hby own_d5_16) rfl (XS.bipush X38.here hx rfl (hb hby own_d5_17) q))) ?_
          by_cases hc39 : c2 < (32 : Int32)
          · refine own_g (mkF m 25 #[.val (.ref x0), .val (.int 2), .val (.int c2)] [(.int 9), (.int c2)]) (fun _ q => XS.icmpNo X38.here hx rfl (hb hby own_d5_19) rfl (tlt hc39).2.1 (XS.iloadN X38.here hx rfl (hb hby own_d5_22) rfl (XS.bipush X38.here hx rfl (hb hby own_d5_23) q))) ?_
            by_cases hc40 : c2 = (9 : Int32)
            · refine own_g (mkF m 4 #[.val (.ref x0), .val (.int 3), .val (.int c2)] [(.ref x0), (.int 3)]) (fun _ q => XS.icmpNo X38.here hx rfl (hb hby own_d5_25) rfl (teq hc40).2 (XS.iloadN X38.here hx rfl (hb hby own_d5_28) rfl (XS.bipush X38.here hx rfl (hb hby own_d5_29) (XS.icmpYes X38.here hx rfl (pc0 := 31) (pc' := 36) rfl (hb hby own_d5_31) rfl (feq (own_clash hc40 (by decide))).2 (by decide) (by decide) (XS.iinc X38.here hx rfl (hb hby own_d5_36) rfl (l' := #[.val (.ref x0), .val (.int 3), .val (.int c2)]) rfl (XS.goto X38.here hx rfl (pc0 := 39) (pc' := 2) rfl (hb hby own_d5_39) (by decide) (by decide) (XS.iloadN X38.here hx rfl (hb hby own_d5_2) rfl (XS.aloadN X38.here hx rfl (hb hby own_d5_3) rfl rfl q)))))))) ?_
              refine own_callV X38 hx hZ (y := own_y9) (z := own_y9) hown (own_h hw 31 rfl) (own_h hw 32 rfl) (own_nf (own_h hw 34 rfl)) (own_h hw 34 rfl) (own_h hw 33 rfl) (own_h hw 35 rfl) (own_h hw 8 rfl) (by decide) E_x (own_len_0_3 l Z a0 hw [] x0 t kb c0 c1 c2 zCS fm h0 n0 Z0 S_CS nCS S_AD S_HI S_LO S_SF hfm O0 E_x V_x C_x K_t) (by decide) (by decide) eh38 (g := (mkF m 4 #[.val (.ref x0), .val (.int 3), .val (.int c2)] [(.ref x0), (.int 3)])) rfl (by rw [hml]; rfl) (argsL := []) (rest := [(.int 3)]) (lenOf own_pd__28_29I rfl) rfl (W := 1) (by show 2 * 0 + _ ≤ _; exact Nat.le_of_eq rfl) (hb hby own_d5_4) rfl (by decide) (by decide) ?_
              rintro rv41 T41 L41 X41 ⟨rfl, Nq41, eh41⟩
              have N41 := Fr.app N38 Nq41
              refine own_g (mkF m 43 #[.val (.ref x0), .val (.int 3), .val (.int c2)] [(.int 1)]) (fun _ q => XS.icmpYes X41.here hx rfl (pc0 := 7) (pc' := 42) rfl (hb hby own_d5_7) rfl (flt (by decide : ¬ ((3 : Int32) < (3 : Int32)))).2.1 (by decide) (by decide) (XS.iconst X41.here hx rfl (hb hby own_d5_42) q)) ?_
              exact own_end X41 (v := some (.int (nar .boolean (1 : Int32)))) (fun h => by rw [Bd.returns] at h; cases h) hlk (fun hr => retN X41 hx (t := .boolean) Bd.returns (by simp) (hb hby own_d5_43) hr) (by rw [eh41]; exact ⟨by first | rfl | (simp [own_b, own_ok, nar, hc3, hc24, hc27, hc36, hc39, hc40]; done) | (simp [own_b, own_ok, nar, hc3, hc24, hc27, hc36, hc39, hc40]; decide), N41, rfl⟩) (by decide) (by decide)
            · refine own_g (mkF m 35 #[.val (.ref x0), .val (.int 2), .val (.int c2)] [(.int 0)]) (fun _ q => XS.icmpYes X38.here hx rfl (pc0 := 25) (pc' := 34) rfl (hb hby own_d5_25) rfl (feq hc40).2 (by decide) (by decide) (XS.iconst X38.here hx rfl (hb hby own_d5_34) q)) ?_
              exact own_end X38 (v := some (.int (nar .boolean (0 : Int32)))) (fun h => by rw [Bd.returns] at h; cases h) hlk (fun hr => retN X38 hx (t := .boolean) Bd.returns (by simp) (hb hby own_d5_35) hr) (by rw [eh38]; exact ⟨by first | rfl | (simp [own_b, own_ok, nar, hc3, hc24, hc27, hc36, hc39, hc40]; done) | (simp [own_b, own_ok, nar, hc3, hc24, hc27, hc36, hc39, hc40]; decide), N38, rfl⟩) (by decide) (by decide)
          · refine own_g (mkF m 31 #[.val (.ref x0), .val (.int 2), .val (.int c2)] [(.int 127), (.int c2)]) (fun _ q => XS.icmpYes X38.here hx rfl (pc0 := 19) (pc' := 28) rfl (hb hby own_d5_19) rfl (flt hc39).2.1 (by decide) (by decide) (XS.iloadN X38.here hx rfl (hb hby own_d5_28) rfl (XS.bipush X38.here hx rfl (hb hby own_d5_29) q))) ?_
            by_cases hc42 : c2 = (127 : Int32)
            · refine own_g (mkF m 35 #[.val (.ref x0), .val (.int 2), .val (.int c2)] [(.int 0)]) (fun _ q => XS.icmpNo X38.here hx rfl (hb hby own_d5_31) rfl (teq hc42).2 (XS.iconst X38.here hx rfl (hb hby own_d5_34) q)) ?_
              exact own_end X38 (v := some (.int (nar .boolean (0 : Int32)))) (fun h => by rw [Bd.returns] at h; cases h) hlk (fun hr => retN X38 hx (t := .boolean) Bd.returns (by simp) (hb hby own_d5_35) hr) (by rw [eh38]; exact ⟨by first | rfl | (simp [own_b, own_ok, nar, hc3, hc24, hc27, hc36, hc39, hc42]; done) | (simp [own_b, own_ok, nar, hc3, hc24, hc27, hc36, hc39, hc42]; decide), N38, rfl⟩) (by decide) (by decide)
            · refine own_g (mkF m 4 #[.val (.ref x0), .val (.int 3), .val (.int c2)] [(.ref x0), (.int 3)]) (fun _ q => XS.icmpYes X38.here hx rfl (pc0 := 31) (pc' := 36) rfl (hb hby own_d5_31) rfl (feq hc42).2 (by decide) (by decide) (XS.iinc X38.here hx rfl (hb hby own_d5_36) rfl (l' := #[.val (.ref x0), .val (.int 3), .val (.int c2)]) rfl (XS.goto X38.here hx rfl (pc0 := 39) (pc' := 2) rfl (hb hby own_d5_39) (by decide) (by decide) (XS.iloadN X38.here hx rfl (hb hby own_d5_2) rfl (XS.aloadN X38.here hx rfl (hb hby own_d5_3) rfl rfl q))))) ?_
              refine own_callV X38 hx hZ (y := own_y9) (z := own_y9) hown (own_h hw 31 rfl) (own_h hw 32 rfl) (own_nf (own_h hw 34 rfl)) (own_h hw 34 rfl) (own_h hw 33 rfl) (own_h hw 35 rfl) (own_h hw 8 rfl) (by decide) E_x (own_len_0_3 l Z a0 hw [] x0 t kb c0 c1 c2 zCS fm h0 n0 Z0 S_CS nCS S_AD S_HI S_LO S_SF hfm O0 E_x V_x C_x K_t) (by decide) (by decide) eh38 (g := (mkF m 4 #[.val (.ref x0), .val (.int 3), .val (.int c2)] [(.ref x0), (.int 3)])) rfl (by rw [hml]; rfl) (argsL := []) (rest := [(.int 3)]) (lenOf own_pd__28_29I rfl) rfl (W := 1) (by show 2 * 0 + _ ≤ _; exact Nat.le_of_eq rfl) (hb hby own_d5_4) rfl (by decide) (by decide) ?_
              rintro rv43 T43 L43 X43 ⟨rfl, Nq43, eh43⟩
              have N43 := Fr.app N38 Nq43
              refine own_g (mkF m 43 #[.val (.ref x0), .val (.int 3), .val (.int c2)] [(.int 1)]) (fun _ q => XS.icmpYes X43.here hx rfl (pc0 := 7) (pc' := 42) rfl (hb hby own_d5_7) rfl (flt (by decide : ¬ ((3 : Int32) < (3 : Int32)))).2.1 (by decide) (by decide) (XS.iconst X43.here hx rfl (hb hby own_d5_42) q)) ?_
              exact own_end X43 (v := some (.int (nar .boolean (1 : Int32)))) (fun h => by rw [Bd.returns] at h; cases h) hlk (fun hr => retN X43 hx (t := .boolean) Bd.returns (by simp) (hb hby own_d5_43) hr) (by rw [eh43]; exact ⟨by first | rfl | (simp [own_b, own_ok, nar, hc3, hc24, hc27, hc36, hc39, hc42]; done) | (simp [own_b, own_ok, nar, hc3, hc24, hc27, hc36, hc39, hc42]; decide), N43, rfl⟩) (by decide) (by decide)
theorem own_fv_1_1_ef (m : MethodId) (x0 : Addr) : entryFrame m #[(.ref x0)] 3 = mkF m 0 #[.val (.ref x0), .unset, .unset] [] := by  first | (simp [entryFrame, mkF, argsToLocals, Value.category]; done) | rfl
def own_fv_1_1_Q (Z : State) (x0 : Addr) (t : Addr) (kb : ClassId) (c0 : Int32) (zCS : Int32) (fm : Value) (h0 : Heap) (n0 : Nat) (v : Option Value) (h : Heap) (L : List Loc) : Prop := v = some (.int (own_b (own_ok c0))) ∧ Fr n0 L ∧ h = h0
set_option maxRecDepth 65536 in
set_option maxHeartbeats 40000000 in
theorem own_fv_1_1 (l : Launch) (Z : State) (a0 : Array Value) (hw : ∀ d ∈ tables_1, d.before a0 Z = true) (ws : List Jvm.Cond) (x0 : Addr) (t : Addr) (kb : ClassId) (c0 : Int32) (zCS : Int32) (fm : Value) (h0 : Heap) (n0 : Nat) (Z0 : n0 ≤ h0.size) (S_CS : own_A0 Z zCS) (nCS : ¬ zCS = 0) (S_AD : own_A1 Z) (S_HI : own_A2 Z) (S_LO : own_A3 Z) (S_SF : own_A4 Z fm) (hfm : fm.isRef = true) (O0 : Old Z n0 h0) (E_x : Exa Z h0 x0 "java/lang/String") (V_x : Fld Z h0 x0 "java/lang/String" "value" "[B" (.ref t)) (C_x : Fld Z h0 x0 "java/lang/String" "coder" "B" (.int 1)) (K_t : Arv Z h0 t kb .byte (2 : Int32) [(.int (StrChars.lo8 c0)), (.int (StrChars.hi8 c0))] (.int 0)) (hb0 : ¬ c0 < 0 ∧ ¬ (65535 : Int32) < c0) (hn0 : nar .char c0 = c0) :
    MetFree l own_y0 (head1 (Jvm.Cond.code own_y0 prog_31_method_32_code 3 (some .boolean) :: ws) (⟨5, 0, 0, 66⟩ : Room)) (fun aa U => aa = #[(.ref x0)] ∧ Z.Warmed39 U.vm ∧ U.heap = h0) (fun _ _ _ _ _ => True) (fun _ U o U' => ∃ v L, o = .returned v ∧ own_fv_1_1_Q Z x0 t kb c0 zCS fm h0 n0 v U'.heap L ∧ FrameEnd U o U' L (⟨5, 0, 0, 66⟩ : Room).cells (⟨5, 0, 0, 66⟩ : Room).slots) := by
  refine MetFree.of_bodySF (plainFor_of_name own_pn_com_example_stepgate_stepgate_http_Http1Fields) hisR ?_
  intro p e s m args below meth c s₁ Bd hml0 hP hK
  obtain ⟨rfl, hZ, hh⟩ := hP
  have hx := Bd.exec
  have hby := Bd.bytes
  have hml : c.maxLocals = 3 := hml0
  have hown : s.vm.findClass "com/example/stepgate/stepgate/http/Http1Fields" = some m.cls := findClass_of_methodNamed Bd.named
  have hnm := (name_of_methodNamed Bd.named Bd.method).1
  have hlk := Bd.notSynchronized
  have X0 : Stand p l e (⟨5, 0, 0, 66⟩ : Room) s m #[(.ref x0)] below meth c s₁ [] 0 0 := Stand.of_body Bd
  have e0 : s₁.heap = h0 := by rw [← hh, Bd.state]; rfl
  have N0 := Fr.nil n0
  refine own_start (Q := own_fv_1_1_Q Z x0 t kb c0 zCS fm h0 n0) (own_fv_1_1_ef m x0) ?_
  refine own_g (mkF m 4 #[.val (.ref x0), .val (.int 0), .unset] [(.ref x0), (.int 0)]) (fun _ q => XS.iconst X0.here hx rfl (hb hby own_d5_0) (XS.istoreN X0.here hx rfl (hb hby own_d5_1) rfl (l' := #[.val (.ref x0), .val (.int 0), .unset]) rfl (XS.iloadN X0.here hx rfl (hb hby own_d5_2) rfl (XS.aloadN X0.here hx rfl (hb hby own_d5_3) rfl rfl q)))) ?_
  refine own_callV X0 hx hZ (y := own_y9) (z := own_y9) hown (own_h hw 31 rfl) (own_h hw 32 rfl) (own_nf (own_h hw 34 rfl)) (own_h hw 34 rfl) (own_h hw 33 rfl) (own_h hw 35 rfl) (own_h hw 8 rfl) (by decide) E_x (own_len_1_1 l Z a0 hw [] x0 t kb c0 zCS fm h0 n0 Z0 S_CS nCS S_AD S_HI S_LO S_SF hfm O0 E_x V_x C_x K_t) (by decide) (by decide) e0 (g := (mkF m 4 #[.val (.ref x0), .val (.int 0), .unset] [(.ref x0), (.int 0)])) rfl (by rw [hml]; rfl) (argsL := []) (rest := [(.int 0)]) (lenOf own_pd__28_29I rfl) rfl (W := 1) (by show 2 * 0 + _ ≤ _; exact Nat.le_of_eq rfl) (hb hby own_d5_4) rfl (by decide) (by decide) ?_
  rintro rv1 T1 L1 X1 ⟨rfl, Nq1, eh1⟩
  have N1 := Fr.app N0 Nq1
  refine own_g (mkF m 12 #[.val (.ref x0), .val (.int 0), .unset] [(.int 0), (.ref x0)]) (fun _ q => XS.icmpNo X1.here hx rfl (hb hby own_d5_7) rfl (tlt (by decide : (0 : Int32) < (1 : Int32))).2.1 (XS.aloadN X1.here hx rfl (hb hby own_d5_10) rfl rfl (XS.iloadN X1.here hx rfl (hb hby own_d5_11) rfl q))) ?_
  refine own_callV X1 hx hZ (y := own_y5) (z := own_y5) hown (own_h hw 55 rfl) (own_h hw 56 rfl) (own_nf (own_h hw 58 rfl)) (own_h hw 58 rfl) (own_h hw 57 rfl) (own_h hw 59 rfl) (own_h hw 8 rfl) (by decide) E_x (own_ch_1_1_0 l Z a0 hw [] x0 t kb c0 zCS fm h0 n0 Z0 S_CS nCS S_AD S_HI S_LO S_SF hfm O0 E_x V_x C_x K_t hb0 hn0) (by decide) (by decide) eh1 (g := (mkF m 12 #[.val (.ref x0), .val (.int 0), .unset] [(.int 0), (.ref x0)])) rfl (by rw [hml]; rfl) (argsL := [(.int 0)]) (rest := []) (lenOf own_pd__28I_29C rfl) rfl (W := 0) (by show 2 * 0 + _ ≤ _; exact Nat.le_of_eq rfl) (hb hby own_d5_12) rfl (by decide) (by decide) ?_
  rintro rv2 T2 L2 X2 ⟨rfl, Nq2, eh2⟩
  have N2 := Fr.app N1 Nq2
  refine own_g (mkF m 19 #[.val (.ref x0), .val (.int 0), .val (.int c0)] [(.int 32), (.int c0)]) (fun _ q => XS.istoreN X2.here hx rfl (hb hby own_d5_15) rfl (l' := #[.val (.ref x0), .val (.int 0), .val (.int c0)]) rfl (XS.iloadN X2.here hx rfl (hb hby own_d5_16) rfl (XS.bipush X2.here hx rfl (hb hby own_d5_17) q))) ?_
  by_cases hc3 : c0 < (32 : Int32)
  · refine own_g (mkF m 25 #[.val (.ref x0), .val (.int 0), .val (.int c0)] [(.int 9), (.int c0)]) (fun _ q => XS.icmpNo X2.here hx rfl (hb hby own_d5_19) rfl (tlt hc3).2.1 (XS.iloadN X2.here hx rfl (hb hby own_d5_22) rfl (XS.bipush X2.here hx rfl (hb hby own_d5_23) q))) ?_
    by_cases hc4 : c0 = (9 : Int32)
    · refine own_g (mkF m 4 #[.val (.ref x0), .val (.int 1), .val (.int c0)] [(.ref x0), (.int 1)]) (fun _ q => XS.icmpNo X2.here hx rfl (hb hby own_d5_25) rfl (teq hc4).2 (XS.iloadN X2.here hx rfl (hb hby own_d5_28) rfl (XS.bipush X2.here hx rfl (hb hby own_d5_29) (XS.icmpYes X2.here hx rfl (pc0 := 31) (pc' := 36) rfl (hb hby own_d5_31) rfl (feq (own_clash hc4 (by decide))).2 (by decide) (by decide) (XS.iinc X2.here hx rfl (hb hby own_d5_36) rfl (l' := #[.val (.ref x0), .val (.int 1), .val (.int c0)]) rfl (XS.goto X2.here hx rfl (pc0 := 39) (pc' := 2) rfl (hb hby own_d5_39) (by decide) (by decide) (XS.iloadN X2.here hx rfl (hb hby own_d5_2) rfl (XS.aloadN X2.here hx rfl (hb hby own_d5_3) rfl rfl q)))))))) ?_
      refine own_callV X2 hx hZ (y := own_y9) (z := own_y9) hown (own_h hw 31 rfl) (own_h hw 32 rfl) (own_nf (own_h hw 34 rfl)) (own_h hw 34 rfl) (own_h hw 33 rfl) (own_h hw 35 rfl) (own_h hw 8 rfl) (by decide) E_x (own_len_1_1 l Z a0 hw [] x0 t kb c0 zCS fm h0 n0 Z0 S_CS nCS S_AD S_HI S_LO S_SF hfm O0 E_x V_x C_x K_t) (by decide) (by decide) eh2 (g := (mkF m 4 #[.val (.ref x0), .val (.int 1), .val (.int c0)] [(.ref x0), (.int 1)])) rfl (by rw [hml]; rfl) (argsL := []) (rest := [(.int 1)]) (lenOf own_pd__28_29I rfl) rfl (W := 1) (by show 2 * 0 + _ ≤ _; exact Nat.le_of_eq rfl) (hb hby own_d5_4) rfl (by decide) (by decide) ?_
      rintro rv5 T5 L5 X5 ⟨rfl, Nq5, eh5⟩
      have N5 := Fr.app N2 Nq5
      refine own_g (mkF m 43 #[.val (.ref x0), .val (.int 1), .val (.int c0)] [(.int 1)]) (fun _ q => XS.icmpYes X5.here hx rfl (pc0 := 7) (pc' := 42) rfl (hb hby own_d5_7) rfl (flt (by decide : ¬ ((1 : Int32) < (1 : Int32)))).2.1 (by decide) (by decide) (XS.iconst X5.here hx rfl (hb hby own_d5_42) q)) ?_
      exact own_end X5 (v := some (.int (nar .boolean (1 : Int32)))) (fun h => by rw [Bd.returns] at h; cases h) hlk (fun hr => retN X5 hx (t := .boolean) Bd.returns (by simp) (hb hby own_d5_43) hr) (by rw [eh5]; exact ⟨by first | rfl | (simp [own_b, own_ok, nar, hc3, hc4]; done) | (simp [own_b, own_ok, nar, hc3, hc4]; decide), N5, rfl⟩) (by decide) (by decide)
    · refine own_g (mkF m 35 #[.val (.ref x0), .val (.int 0), .val (.int c0)] [(.int 0)]) (fun _ q => XS.icmpYes X2.here hx rfl (pc0 := 25) (pc' := 34) rfl (hb hby own_d5_25) rfl (feq hc4).2 (by decide) (by decide) (XS.iconst X2.here hx rfl (hb hby own_d5_34) q)) ?_
      exact own_end X2 (v := some (.int (nar .boolean (0 : Int32)))) (fun h => by rw [Bd.returns] at h; cases h) hlk (fun hr => retN X2 hx (t := .boolean) Bd.returns (by simp) (hb hby own_d5_35) hr) (by rw [eh2]; exact ⟨by first | rfl | (simp [own_b, own_ok, nar, hc3, hc4]; done) | (simp [own_b, own_ok, nar, hc3, hc4]; decide), N2, rfl⟩) (by decide) (by decide)
  · refine own_g (mkF m 31 #[.val (.ref x0), .val (.int 0), .val (.int c0)] [(.int 127), (.int c0)]) (fun _ q => XS.icmpYes X2.here hx rfl (pc0 := 19) (pc' := 28) rfl (hb hby own_d5_19) rfl (flt hc3).2.1 (by decide) (by decide) (XS.iloadN X2.here hx rfl (hb hby own_d5_28) rfl (XS.bipush X2.here hx rfl (hb hby own_d5_29) q))) ?_
    by_cases hc6 : c0 = (127 : Int32)
    · refine own_g (mkF m 35 #[.val (.ref x0), .val (.int 0), .val (.int c0)] [(.int 0)]) (fun _ q => XS.icmpNo X2.here hx rfl (hb hby own_d5_31) rfl (teq hc6).2 (XS.iconst X2.here hx rfl (hb hby own_d5_34) q)) ?_
      exact own_end X2 (v := some (.int (nar .boolean (0 : Int32)))) (fun h => by rw [Bd.returns] at h; cases h) hlk (fun hr => retN X2 hx (t := .boolean) Bd.returns (by simp) (hb hby own_d5_35) hr) (by rw [eh2]; exact ⟨by first | rfl | (simp [own_b, own_ok, nar, hc3, hc6]; done) | (simp [own_b, own_ok, nar, hc3, hc6]; decide), N2, rfl⟩) (by decide) (by decide)
    · refine own_g (mkF m 4 #[.val (.ref x0), .val (.int 1), .val (.int c0)] [(.ref x0), (.int 1)]) (fun _ q => XS.icmpYes X2.here hx rfl (pc0 := 31) (pc' := 36) rfl (hb hby own_d5_31) rfl (feq hc6).2 (by decide) (by decide) (XS.iinc X2.here hx rfl (hb hby own_d5_36) rfl (l' := #[.val (.ref x0), .val (.int 1), .val (.int c0)]) rfl (XS.goto X2.here hx rfl (pc0 := 39) (pc' := 2) rfl (hb hby own_d5_39) (by decide) (by decide) (XS.iloadN X2.here hx rfl (hb hby own_d5_2) rfl (XS.aloadN X2.here hx rfl (hb hby own_d5_3) rfl rfl q))))) ?_
      refine own_callV X2 hx hZ (y := own_y9) (z := own_y9) hown (own_h hw 31 rfl) (own_h hw 32 rfl) (own_nf (own_h hw 34 rfl)) (own_h hw 34 rfl) (own_h hw 33 rfl) (own_h hw 35 rfl) (own_h hw 8 rfl) (by decide) E_x (own_len_1_1 l Z a0 hw [] x0 t kb c0 zCS fm h0 n0 Z0 S_CS nCS S_AD S_HI S_LO S_SF hfm O0 E_x V_x C_x K_t) (by decide) (by decide) eh2 (g := (mkF m 4 #[.val (.ref x0), .val (.int 1), .val (.int c0)] [(.ref x0), (.int 1)])) rfl (by rw [hml]; rfl) (argsL := []) (rest := [(.int 1)]) (lenOf own_pd__28_29I rfl) rfl (W := 1) (by show 2 * 0 + _ ≤ _; exact Nat.le_of_eq rfl) (hb hby own_d5_4) rfl (by decide) (by decide) ?_
      rintro rv7 T7 L7 X7 ⟨rfl, Nq7, eh7⟩
      have N7 := Fr.app N2 Nq7
      refine own_g (mkF m 43 #[.val (.ref x0), .val (.int 1), .val (.int c0)] [(.int 1)]) (fun _ q => XS.icmpYes X7.here hx rfl (pc0 := 7) (pc' := 42) rfl (hb hby own_d5_7) rfl (flt (by decide : ¬ ((1 : Int32) < (1 : Int32)))).2.1 (by decide) (by decide) (XS.iconst X7.here hx rfl (hb hby own_d5_42) q)) ?_
      exact own_end X7 (v := some (.int (nar .boolean (1 : Int32)))) (fun h => by rw [Bd.returns] at h; cases h) hlk (fun hr => retN X7 hx (t := .boolean) Bd.returns (by simp) (hb hby own_d5_43) hr) (by rw [eh7]; exact ⟨by first | rfl | (simp [own_b, own_ok, nar, hc3, hc6]; done) | (simp [own_b, own_ok, nar, hc3, hc6]; decide), N7, rfl⟩) (by decide) (by decide)
theorem own_fv_1_2_ef (m : MethodId) (x0 : Addr) : entryFrame m #[(.ref x0)] 3 = mkF m 0 #[.val (.ref x0), .unset, .unset] [] := by  first | (simp [entryFrame, mkF, argsToLocals, Value.category]; done) | rfl
def own_fv_1_2_Q (Z : State) (x0 : Addr) (t : Addr) (kb : ClassId) (c0 : Int32) (c1 : Int32) (zCS : Int32) (fm : Value) (h0 : Heap) (n0 : Nat) (v : Option Value) (h : Heap) (L : List Loc) : Prop := v = some (.int (own_b (own_ok c0 && own_ok c1))) ∧ Fr n0 L ∧ h = h0
set_option maxRecDepth 65536 in
set_option maxHeartbeats 40000000 in
theorem own_fv_1_2 (l : Launch) (Z : State) (a0 : Array Value) (hw : ∀ d ∈ tables_1, d.before a0 Z = true) (ws : List Jvm.Cond) (x0 : Addr) (t : Addr) (kb : ClassId) (c0 : Int32) (c1 : Int32) (zCS : Int32) (fm : Value) (h0 : Heap) (n0 : Nat) (Z0 : n0 ≤ h0.size) (S_CS : own_A0 Z zCS) (nCS : ¬ zCS = 0) (S_AD : own_A1 Z) (S_HI : own_A2 Z) (S_LO : own_A3 Z) (S_SF : own_A4 Z fm) (hfm : fm.isRef = true) (O0 : Old Z n0 h0) (E_x : Exa Z h0 x0 "java/lang/String") (V_x : Fld Z h0 x0 "java/lang/String" "value" "[B" (.ref t)) (C_x : Fld Z h0 x0 "java/lang/String" "coder" "B" (.int 1)) (K_t : Arv Z h0 t kb .byte (4 : Int32) [(.int (StrChars.lo8 c0)), (.int (StrChars.hi8 c0)), (.int (StrChars.lo8 c1)), (.int (StrChars.hi8 c1))] (.int 0)) (hb0 : ¬ c0 < 0 ∧ ¬ (65535 : Int32) < c0) (hb1 : ¬ c1 < 0 ∧ ¬ (65535 : Int32) < c1) (hn0 : nar .char c0 = c0) (hn1 : nar .char c1 = c1) :
    MetFree l own_y0 (head1 (Jvm.Cond.code own_y0 prog_31_method_32_code 3 (some .boolean) :: ws) (⟨5, 0, 0, 66⟩ : Room)) (fun aa U => aa = #[(.ref x0)] ∧ Z.Warmed39 U.vm ∧ U.heap = h0) (fun _ _ _ _ _ => True) (fun _ U o U' => ∃ v L, o = .returned v ∧ own_fv_1_2_Q Z x0 t kb c0 c1 zCS fm h0 n0 v U'.heap L ∧ FrameEnd U o U' L (⟨5, 0, 0, 66⟩ : Room).cells (⟨5, 0, 0, 66⟩ : Room).slots) := by
  refine MetFree.of_bodySF (plainFor_of_name own_pn_com_example_stepgate_stepgate_http_Http1Fields) hisR ?_
  intro p e s m args below meth c s₁ Bd hml0 hP hK
  obtain ⟨rfl, hZ, hh⟩ := hP
  have hx := Bd.exec
  have hby := Bd.bytes
  have hml : c.maxLocals = 3 := hml0
  have hown : s.vm.findClass "com/example/stepgate/stepgate/http/Http1Fields" = some m.cls := findClass_of_methodNamed Bd.named
  have hnm := (name_of_methodNamed Bd.named Bd.method).1
  have hlk := Bd.notSynchronized
  have X0 : Stand p l e (⟨5, 0, 0, 66⟩ : Room) s m #[(.ref x0)] below meth c s₁ [] 0 0 := Stand.of_body Bd
  have e0 : s₁.heap = h0 := by rw [← hh, Bd.state]; rfl
  have N0 := Fr.nil n0
  refine own_start (Q := own_fv_1_2_Q Z x0 t kb c0 c1 zCS fm h0 n0) (own_fv_1_2_ef m x0) ?_
  refine own_g (mkF m 4 #[.val (.ref x0), .val (.int 0), .unset] [(.ref x0), (.int 0)]) (fun _ q => XS.iconst X0.here hx rfl (hb hby own_d5_0) (XS.istoreN X0.here hx rfl (hb hby own_d5_1) rfl (l' := #[.val (.ref x0), .val (.int 0), .unset]) rfl (XS.iloadN X0.here hx rfl (hb hby own_d5_2) rfl (XS.aloadN X0.here hx rfl (hb hby own_d5_3) rfl rfl q)))) ?_
  refine own_callV X0 hx hZ (y := own_y9) (z := own_y9) hown (own_h hw 31 rfl) (own_h hw 32 rfl) (own_nf (own_h hw 34 rfl)) (own_h hw 34 rfl) (own_h hw 33 rfl) (own_h hw 35 rfl) (own_h hw 8 rfl) (by decide) E_x (own_len_1_2 l Z a0 hw [] x0 t kb c0 c1 zCS fm h0 n0 Z0 S_CS nCS S_AD S_HI S_LO S_SF hfm O0 E_x V_x C_x K_t) (by decide) (by decide) e0 (g := (mkF m 4 #[.val (.ref x0), .val (.int 0), .unset] [(.ref x0), (.int 0)])) rfl (by rw [hml]; rfl) (argsL := []) (rest := [(.int 0)]) (lenOf own_pd__28_29I rfl) rfl (W := 1) (by show 2 * 0 + _ ≤ _; exact Nat.le_of_eq rfl) (hb hby own_d5_4) rfl (by decide) (by decide) ?_
  rintro rv1 T1 L1 X1 ⟨rfl, Nq1, eh1⟩
  have N1 := Fr.app N0 Nq1
  refine own_g (mkF m 12 #[.val (.ref x0), .val (.int 0), .unset] [(.int 0), (.ref x0)]) (fun _ q => XS.icmpNo X1.here hx rfl (hb hby own_d5_7) rfl (tlt (by decide : (0 : Int32) < (2 : Int32))).2.1 (XS.aloadN X1.here hx rfl (hb hby own_d5_10) rfl rfl (XS.iloadN X1.here hx rfl (hb hby own_d5_11) rfl q))) ?_
  refine own_callV X1 hx hZ (y := own_y5) (z := own_y5) hown (own_h hw 55 rfl) (own_h hw 56 rfl) (own_nf (own_h hw 58 rfl)) (own_h hw 58 rfl) (own_h hw 57 rfl) (own_h hw 59 rfl) (own_h hw 8 rfl) (by decide) E_x (own_ch_1_2_0 l Z a0 hw [] x0 t kb c0 c1 zCS fm h0 n0 Z0 S_CS nCS S_AD S_HI S_LO S_SF hfm O0 E_x V_x C_x K_t hb0 hn0) (by decide) (by decide) eh1 (g := (mkF m 12 #[.val (.ref x0), .val (.int 0), .unset] [(.int 0), (.ref x0)])) rfl (by rw [hml]; rfl) (argsL := [(.int 0)]) (rest := []) (lenOf own_pd__28I_29C rfl) rfl (W := 0) (by show 2 * 0 + _ ≤ _; exact Nat.le_of_eq rfl) (hb hby own_d5_12) rfl (by decide) (by decide) ?_
  rintro rv2 T2 L2 X2 ⟨rfl, Nq2, eh2⟩
  have N2 := Fr.app N1 Nq2
  refine own_g (mkF m 19 #[.val (.ref x0), .val (.int 0), .val (.int c0)] [(.int 32), (.int c0)]) (fun _ q => XS.istoreN X2.here hx rfl (hb hby own_d5_15) rfl (l' := #[.val (.ref x0), .val (.int 0), .val (.int c0)]) rfl (XS.iloadN X2.here hx rfl (hb hby own_d5_16) rfl (XS.bipush X2.here hx rfl (hb hby own_d5_17) q))) ?_
  by_cases hc3 : c0 < (32 : Int32)
  · refine own_g (mkF m 25 #[.val (.ref x0), .val (.int 0), .val (.int c0)] [(.int 9), (.int c0)]) (fun _ q => XS.icmpNo X2.here hx rfl (hb hby own_d5_19) rfl (tlt hc3).2.1 (XS.iloadN X2.here hx rfl (hb hby own_d5_22) rfl (XS.bipush X2.here hx rfl (hb hby own_d5_23) q))) ?_
    by_cases hc4 : c0 = (9 : Int32)
    · refine own_g (mkF m 4 #[.val (.ref x0), .val (.int 1), .val (.int c0)] [(.ref x0), (.int 1)]) (fun _ q => XS.icmpNo X2.here hx rfl (hb hby own_d5_25) rfl (teq hc4).2 (XS.iloadN X2.here hx rfl (hb hby own_d5_28) rfl (XS.bipush X2.here hx rfl (hb hby own_d5_29) (XS.icmpYes X2.here hx rfl (pc0 := 31) (pc' := 36) rfl (hb hby own_d5_31) rfl (feq (own_clash hc4 (by decide))).2 (by decide) (by decide) (XS.iinc X2.here hx rfl (hb hby own_d5_36) rfl (l' := #[.val (.ref x0), .val (.int 1), .val (.int c0)]) rfl (XS.goto X2.here hx rfl (pc0 := 39) (pc' := 2) rfl (hb hby own_d5_39) (by decide) (by decide) (XS.iloadN X2.here hx rfl (hb hby own_d5_2) rfl (XS.aloadN X2.here hx rfl (hb hby own_d5_3) rfl rfl q)))))))) ?_
      refine own_callV X2 hx hZ (y := own_y9) (z := own_y9) hown (own_h hw 31 rfl) (own_h hw 32 rfl) (own_nf (own_h hw 34 rfl)) (own_h hw 34 rfl) (own_h hw 33 rfl) (own_h hw 35 rfl) (own_h hw 8 rfl) (by decide) E_x (own_len_1_2 l Z a0 hw [] x0 t kb c0 c1 zCS fm h0 n0 Z0 S_CS nCS S_AD S_HI S_LO S_SF hfm O0 E_x V_x C_x K_t) (by decide) (by decide) eh2 (g := (mkF m 4 #[.val (.ref x0), .val (.int 1), .val (.int c0)] [(.ref x0), (.int 1)])) rfl (by rw [hml]; rfl) (argsL := []) (rest := [(.int 1)]) (lenOf own_pd__28_29I rfl) rfl (W := 1) (by show 2 * 0 + _ ≤ _; exact Nat.le_of_eq rfl) (hb hby own_d5_4) rfl (by decide) (by decide) ?_
      rintro rv5 T5 L5 X5 ⟨rfl, Nq5, eh5⟩
      have N5 := Fr.app N2 Nq5
      refine own_g (mkF m 12 #[.val (.ref x0), .val (.int 1), .val (.int c0)] [(.int 1), (.ref x0)]) (fun _ q => XS.icmpNo X5.here hx rfl (hb hby own_d5_7) rfl (tlt (by decide : (1 : Int32) < (2 : Int32))).2.1 (XS.aloadN X5.here hx rfl (hb hby own_d5_10) rfl rfl (XS.iloadN X5.here hx rfl (hb hby own_d5_11) rfl q))) ?_
      refine own_callV X5 hx hZ (y := own_y5) (z := own_y5) hown (own_h hw 55 rfl) (own_h hw 56 rfl) (own_nf (own_h hw 58 rfl)) (own_h hw 58 rfl) (own_h hw 57 rfl) (own_h hw 59 rfl) (own_h hw 8 rfl) (by decide) E_x (own_ch_1_2_1 l Z a0 hw [] x0 t kb c0 c1 zCS fm h0 n0 Z0 S_CS nCS S_AD S_HI S_LO S_SF hfm O0 E_x V_x C_x K_t hb1 hn1) (by decide) (by decide) eh5 (g := (mkF m 12 #[.val (.ref x0), .val (.int 1), .val (.int c0)] [(.int 1), (.ref x0)])) rfl (by rw [hml]; rfl) (argsL := [(.int 1)]) (rest := []) (lenOf own_pd__28I_29C rfl) rfl (W := 0) (by show 2 * 0 + _ ≤ _; exact Nat.le_of_eq rfl) (hb hby own_d5_12) rfl (by decide) (by decide) ?_
      rintro rv6 T6 L6 X6 ⟨rfl, Nq6, eh6⟩
      have N6 := Fr.app N5 Nq6
      refine own_g (mkF m 19 #[.val (.ref x0), .val (.int 1), .val (.int c1)] [(.int 32), (.int c1)]) (fun _ q => XS.istoreN X6.here hx rfl (hb hby own_d5_15) rfl (l' := #[.val (.ref x0), .val (.int 1), .val (.int c1)]) rfl (XS.iloadN X6.here hx rfl (hb hby own_d5_16) rfl (XS.bipush X6.here hx rfl (hb hby own_d5_17) q))) ?_
      by_cases hc7 : c1 < (32 : Int32)
      · refine own_g (mkF m 25 #[.val (.ref x0), .val (.int 1), .val (.int c1)] [(.int 9), (.int c1)]) (fun _ q => XS.icmpNo X6.here hx rfl (hb hby own_d5_19) rfl (tlt hc7).2.1 (XS.iloadN X6.here hx rfl (hb hby own_d5_22) rfl (XS.bipush X6.here hx rfl (hb hby own_d5_23) q))) ?_
        by_cases hc8 : c1 = (9 : Int32)
        · refine own_g (mkF m 4 #[.val (.ref x0), .val (.int 2), .val (.int c1)] [(.ref x0), (.int 2)]) (fun _ q => XS.icmpNo X6.here hx rfl (hb hby own_d5_25) rfl (teq hc8).2 (XS.iloadN X6.here hx rfl (hb hby own_d5_28) rfl (XS.bipush X6.here hx rfl (hb hby own_d5_29) (XS.icmpYes X6.here hx rfl (pc0 := 31) (pc' := 36) rfl (hb hby own_d5_31) rfl (feq (own_clash hc8 (by decide))).2 (by decide) (by decide) (XS.iinc X6.here hx rfl (hb hby own_d5_36) rfl (l' := #[.val (.ref x0), .val (.int 2), .val (.int c1)]) rfl (XS.goto X6.here hx rfl (pc0 := 39) (pc' := 2) rfl (hb hby own_d5_39) (by decide) (by decide) (XS.iloadN X6.here hx rfl (hb hby own_d5_2) rfl (XS.aloadN X6.here hx rfl (hb hby own_d5_3) rfl rfl q)))))))) ?_
          refine own_callV X6 hx hZ (y := own_y9) (z := own_y9) hown (own_h hw 31 rfl) (own_h hw 32 rfl) (own_nf (own_h hw 34 rfl)) (own_h hw 34 rfl) (own_h hw 33 rfl) (own_h hw 35 rfl) (own_h hw 8 rfl) (by decide) E_x (own_len_1_2 l Z a0 hw [] x0 t kb c0 c1 zCS fm h0 n0 Z0 S_CS nCS S_AD S_HI S_LO S_SF hfm O0 E_x V_x C_x K_t) (by decide) (by decide) eh6 (g := (mkF m 4 #[.val (.ref x0), .val (.int 2), .val (.int c1)] [(.ref x0), (.int 2)])) rfl (by rw [hml]; rfl) (argsL := []) (rest := [(.int 2)]) (lenOf own_pd__28_29I rfl) rfl (W := 1) (by show 2 * 0 + _ ≤ _; exact Nat.le_of_eq rfl) (hb hby own_d5_4) rfl (by decide) (by decide) ?_
          rintro rv9 T9 L9 X9 ⟨rfl, Nq9, eh9⟩
          have N9 := Fr.app N6 Nq9
          refine own_g (mkF m 43 #[.val (.ref x0), .val (.int 2), .val (.int c1)] [(.int 1)]) (fun _ q => XS.icmpYes X9.here hx rfl (pc0 := 7) (pc' := 42) rfl (hb hby own_d5_7) rfl (flt (by decide : ¬ ((2 : Int32) < (2 : Int32)))).2.1 (by decide) (by decide) (XS.iconst X9.here hx rfl (hb hby own_d5_42) q)) ?_
          exact own_end X9 (v := some (.int (nar .boolean (1 : Int32)))) (fun h => by rw [Bd.returns] at h; cases h) hlk (fun hr => retN X9 hx (t := .boolean) Bd.returns (by simp) (hb hby own_d5_43) hr) (by rw [eh9]; exact ⟨by first | rfl | (simp [own_b, own_ok, nar, hc3, hc4, hc7, hc8]; done) | (simp [own_b, own_ok, nar, hc3, hc4, hc7, hc8]; decide), N9, rfl⟩) (by decide) (by decide)
        · refine own_g (mkF m 35 #[.val (.ref x0), .val (.int 1), .val (.int c1)] [(.int 0)]) (fun _ q => XS.icmpYes X6.here hx rfl (pc0 := 25) (pc' := 34) rfl (hb hby own_d5_25) rfl (feq hc8).2 (by decide) (by decide) (XS.iconst X6.here hx rfl (hb hby own_d5_34) q)) ?_
          exact own_end X6 (v := some (.int (nar .boolean (0 : Int32)))) (fun h => by rw [Bd.returns] at h; cases h) hlk (fun hr => retN X6 hx (t := .boolean) Bd.returns (by simp) (hb hby own_d5_35) hr) (by rw [eh6]; exact ⟨by first | rfl | (simp [own_b, own_ok, nar, hc3, hc4, hc7, hc8]; done) | (simp [own_b, own_ok, nar, hc3, hc4, hc7, hc8]; decide), N6, rfl⟩) (by decide) (by decide)
      · refine own_g (mkF m 31 #[.val (.ref x0), .val (.int 1), .val (.int c1)] [(.int 127), (.int c1)]) (fun _ q => XS.icmpYes X6.here hx rfl (pc0 := 19) (pc' := 28) rfl (hb hby own_d5_19) rfl (flt hc7).2.1 (by decide) (by decide) (XS.iloadN X6.here hx rfl (hb hby own_d5_28) rfl (XS.bipush X6.here hx rfl (hb hby own_d5_29) q))) ?_
        by_cases hc10 : c1 = (127 : Int32)
        · refine own_g (mkF m 35 #[.val (.ref x0), .val (.int 1), .val (.int c1)] [(.int 0)]) (fun _ q => XS.icmpNo X6.here hx rfl (hb hby own_d5_31) rfl (teq hc10).2 (XS.iconst X6.here hx rfl (hb hby own_d5_34) q)) ?_
          exact own_end X6 (v := some (.int (nar .boolean (0 : Int32)))) (fun h => by rw [Bd.returns] at h; cases h) hlk (fun hr => retN X6 hx (t := .boolean) Bd.returns (by simp) (hb hby own_d5_35) hr) (by rw [eh6]; exact ⟨by first | rfl | (simp [own_b, own_ok, nar, hc3, hc4, hc7, hc10]; done) | (simp [own_b, own_ok, nar, hc3, hc4, hc7, hc10]; decide), N6, rfl⟩) (by decide) (by decide)
        · refine own_g (mkF m 4 #[.val (.ref x0), .val (.int 2), .val (.int c1)] [(.ref x0), (.int 2)]) (fun _ q => XS.icmpYes X6.here hx rfl (pc0 := 31) (pc' := 36) rfl (hb hby own_d5_31) rfl (feq hc10).2 (by decide) (by decide) (XS.iinc X6.here hx rfl (hb hby own_d5_36) rfl (l' := #[.val (.ref x0), .val (.int 2), .val (.int c1)]) rfl (XS.goto X6.here hx rfl (pc0 := 39) (pc' := 2) rfl (hb hby own_d5_39) (by decide) (by decide) (XS.iloadN X6.here hx rfl (hb hby own_d5_2) rfl (XS.aloadN X6.here hx rfl (hb hby own_d5_3) rfl rfl q))))) ?_
          refine own_callV X6 hx hZ (y := own_y9) (z := own_y9) hown (own_h hw 31 rfl) (own_h hw 32 rfl) (own_nf (own_h hw 34 rfl)) (own_h hw 34 rfl) (own_h hw 33 rfl) (own_h hw 35 rfl) (own_h hw 8 rfl) (by decide) E_x (own_len_1_2 l Z a0 hw [] x0 t kb c0 c1 zCS fm h0 n0 Z0 S_CS nCS S_AD S_HI S_LO S_SF hfm O0 E_x V_x C_x K_t) (by decide) (by decide) eh6 (g := (mkF m 4 #[.val (.ref x0), .val (.int 2), .val (.int c1)] [(.ref x0), (.int 2)])) rfl (by rw [hml]; rfl) (argsL := []) (rest := [(.int 2)]) (lenOf own_pd__28_29I rfl) rfl (W := 1) (by show 2 * 0 + _ ≤ _; exact Nat.le_of_eq rfl) (hb hby own_d5_4) rfl (by decide) (by decide) ?_
          rintro rv11 T11 L11 X11 ⟨rfl, Nq11, eh11⟩
          have N11 := Fr.app N6 Nq11
          refine own_g (mkF m 43 #[.val (.ref x0), .val (.int 2), .val (.int c1)] [(.int 1)]) (fun _ q => XS.icmpYes X11.here hx rfl (pc0 := 7) (pc' := 42) rfl (hb hby own_d5_7) rfl (flt (by decide : ¬ ((2 : Int32) < (2 : Int32)))).2.1 (by decide) (by decide) (XS.iconst X11.here hx rfl (hb hby own_d5_42) q)) ?_
          exact own_end X11 (v := some (.int (nar .boolean (1 : Int32)))) (fun h => by rw [Bd.returns] at h; cases h) hlk (fun hr => retN X11 hx (t := .boolean) Bd.returns (by simp) (hb hby own_d5_43) hr) (by rw [eh11]; exact ⟨by first | rfl | (simp [own_b, own_ok, nar, hc3, hc4, hc7, hc10]; done) | (simp [own_b, own_ok, nar, hc3, hc4, hc7, hc10]; decide), N11, rfl⟩) (by decide) (by decide)
    · refine own_g (mkF m 35 #[.val (.ref x0), .val (.int 0), .val (.int c0)] [(.int 0)]) (fun _ q => XS.icmpYes X2.here hx rfl (pc0 := 25) (pc' := 34) rfl (hb hby own_d5_25) rfl (feq hc4).2 (by decide) (by decide) (XS.iconst X2.here hx rfl (hb hby own_d5_34) q)) ?_
      exact own_end X2 (v := some (.int (nar .boolean (0 : Int32)))) (fun h => by rw [Bd.returns] at h; cases h) hlk (fun hr => retN X2 hx (t := .boolean) Bd.returns (by simp) (hb hby own_d5_35) hr) (by rw [eh2]; exact ⟨by first | rfl | (simp [own_b, own_ok, nar, hc3, hc4]; done) | (simp [own_b, own_ok, nar, hc3, hc4]; decide), N2, rfl⟩) (by decide) (by decide)
  · refine own_g (mkF m 31 #[.val (.ref x0), .val (.int 0), .val (.int c0)] [(.int 127), (.int c0)]) (fun _ q => XS.icmpYes X2.here hx rfl (pc0 := 19) (pc' := 28) rfl (hb hby own_d5_19) rfl (flt hc3).2.1 (by decide) (by decide) (XS.iloadN X2.here hx rfl (hb hby own_d5_28) rfl (XS.bipush X2.here hx rfl (hb hby own_d5_29) q))) ?_
    by_cases hc12 : c0 = (127 : Int32)
    · refine own_g (mkF m 35 #[.val (.ref x0), .val (.int 0), .val (.int c0)] [(.int 0)]) (fun _ q => XS.icmpNo X2.here hx rfl (hb hby own_d5_31) rfl (teq hc12).2 (XS.iconst X2.here hx rfl (hb hby own_d5_34) q)) ?_
      exact own_end X2 (v := some (.int (nar .boolean (0 : Int32)))) (fun h => by rw [Bd.returns] at h; cases h) hlk (fun hr => retN X2 hx (t := .boolean) Bd.returns (by simp) (hb hby own_d5_35) hr) (by rw [eh2]; exact ⟨by first | rfl | (simp [own_b, own_ok, nar, hc3, hc12]; done) | (simp [own_b, own_ok, nar, hc3, hc12]; decide), N2, rfl⟩) (by decide) (by decide)
    · refine own_g (mkF m 4 #[.val (.ref x0), .val (.int 1), .val (.int c0)] [(.ref x0), (.int 1)]) (fun _ q => XS.icmpYes X2.here hx rfl (pc0 := 31) (pc' := 36) rfl (hb hby own_d5_31) rfl (feq hc12).2 (by decide) (by decide) (XS.iinc X2.here hx rfl (hb hby own_d5_36) rfl (l' := #[.val (.ref x0), .val (.int 1), .val (.int c0)]) rfl (XS.goto X2.here hx rfl (pc0 := 39) (pc' := 2) rfl (hb hby own_d5_39) (by decide) (by decide) (XS.iloadN X2.here hx rfl (hb hby own_d5_2) rfl (XS.aloadN X2.here hx rfl (hb hby own_d5_3) rfl rfl q))))) ?_
      refine own_callV X2 hx hZ (y := own_y9) (z := own_y9) hown (own_h hw 31 rfl) (own_h hw 32 rfl) (own_nf (own_h hw 34 rfl)) (own_h hw 34 rfl) (own_h hw 33 rfl) (own_h hw 35 rfl) (own_h hw 8 rfl) (by decide) E_x (own_len_1_2 l Z a0 hw [] x0 t kb c0 c1 zCS fm h0 n0 Z0 S_CS nCS S_AD S_HI S_LO S_SF hfm O0 E_x V_x C_x K_t) (by decide) (by decide) eh2 (g := (mkF m 4 #[.val (.ref x0), .val (.int 1), .val (.int c0)] [(.ref x0), (.int 1)])) rfl (by rw [hml]; rfl) (argsL := []) (rest := [(.int 1)]) (lenOf own_pd__28_29I rfl) rfl (W := 1) (by show 2 * 0 + _ ≤ _; exact Nat.le_of_eq rfl) (hb hby own_d5_4) rfl (by decide) (by decide) ?_
      rintro rv13 T13 L13 X13 ⟨rfl, Nq13, eh13⟩
      have N13 := Fr.app N2 Nq13
      refine own_g (mkF m 12 #[.val (.ref x0), .val (.int 1), .val (.int c0)] [(.int 1), (.ref x0)]) (fun _ q => XS.icmpNo X13.here hx rfl (hb hby own_d5_7) rfl (tlt (by decide : (1 : Int32) < (2 : Int32))).2.1 (XS.aloadN X13.here hx rfl (hb hby own_d5_10) rfl rfl (XS.iloadN X13.here hx rfl (hb hby own_d5_11) rfl q))) ?_
      refine own_callV X13 hx hZ (y := own_y5) (z := own_y5) hown (own_h hw 55 rfl) (own_h hw 56 rfl) (own_nf (own_h hw 58 rfl)) (own_h hw 58 rfl) (own_h hw 57 rfl) (own_h hw 59 rfl) (own_h hw 8 rfl) (by decide) E_x (own_ch_1_2_1 l Z a0 hw [] x0 t kb c0 c1 zCS fm h0 n0 Z0 S_CS nCS S_AD S_HI S_LO S_SF hfm O0 E_x V_x C_x K_t hb1 hn1) (by decide) (by decide) eh13 (g := (mkF m 12 #[.val (.ref x0), .val (.int 1), .val (.int c0)] [(.int 1), (.ref x0)])) rfl (by rw [hml]; rfl) (argsL := [(.int 1)]) (rest := []) (lenOf own_pd__28I_29C rfl) rfl (W := 0) (by show 2 * 0 + _ ≤ _; exact Nat.le_of_eq rfl) (hb hby own_d5_12) rfl (by decide) (by decide) ?_
      rintro rv14 T14 L14 X14 ⟨rfl, Nq14, eh14⟩
      have N14 := Fr.app N13 Nq14
      refine own_g (mkF m 19 #[.val (.ref x0), .val (.int 1), .val (.int c1)] [(.int 32), (.int c1)]) (fun _ q => XS.istoreN X14.here hx rfl (hb hby own_d5_15) rfl (l' := #[.val (.ref x0), .val (.int 1), .val (.int c1)]) rfl (XS.iloadN X14.here hx rfl (hb hby own_d5_16) rfl (XS.bipush X14.here hx rfl (hb hby own_d5_17) q))) ?_
      by_cases hc15 : c1 < (32 : Int32)
      · refine own_g (mkF m 25 #[.val (.ref x0), .val (.int 1), .val (.int c1)] [(.int 9), (.int c1)]) (fun _ q => XS.icmpNo X14.here hx rfl (hb hby own_d5_19) rfl (tlt hc15).2.1 (XS.iloadN X14.here hx rfl (hb hby own_d5_22) rfl (XS.bipush X14.here hx rfl (hb hby own_d5_23) q))) ?_
        by_cases hc16 : c1 = (9 : Int32)
        · refine own_g (mkF m 4 #[.val (.ref x0), .val (.int 2), .val (.int c1)] [(.ref x0), (.int 2)]) (fun _ q => XS.icmpNo X14.here hx rfl (hb hby own_d5_25) rfl (teq hc16).2 (XS.iloadN X14.here hx rfl (hb hby own_d5_28) rfl (XS.bipush X14.here hx rfl (hb hby own_d5_29) (XS.icmpYes X14.here hx rfl (pc0 := 31) (pc' := 36) rfl (hb hby own_d5_31) rfl (feq (own_clash hc16 (by decide))).2 (by decide) (by decide) (XS.iinc X14.here hx rfl (hb hby own_d5_36) rfl (l' := #[.val (.ref x0), .val (.int 2), .val (.int c1)]) rfl (XS.goto X14.here hx rfl (pc0 := 39) (pc' := 2) rfl (hb hby own_d5_39) (by decide) (by decide) (XS.iloadN X14.here hx rfl (hb hby own_d5_2) rfl (XS.aloadN X14.here hx rfl (hb hby own_d5_3) rfl rfl q)))))))) ?_
          refine own_callV X14 hx hZ (y := own_y9) (z := own_y9) hown (own_h hw 31 rfl) (own_h hw 32 rfl) (own_nf (own_h hw 34 rfl)) (own_h hw 34 rfl) (own_h hw 33 rfl) (own_h hw 35 rfl) (own_h hw 8 rfl) (by decide) E_x (own_len_1_2 l Z a0 hw [] x0 t kb c0 c1 zCS fm h0 n0 Z0 S_CS nCS S_AD S_HI S_LO S_SF hfm O0 E_x V_x C_x K_t) (by decide) (by decide) eh14 (g := (mkF m 4 #[.val (.ref x0), .val (.int 2), .val (.int c1)] [(.ref x0), (.int 2)])) rfl (by rw [hml]; rfl) (argsL := []) (rest := [(.int 2)]) (lenOf own_pd__28_29I rfl) rfl (W := 1) (by show 2 * 0 + _ ≤ _; exact Nat.le_of_eq rfl) (hb hby own_d5_4) rfl (by decide) (by decide) ?_
          rintro rv17 T17 L17 X17 ⟨rfl, Nq17, eh17⟩
          have N17 := Fr.app N14 Nq17
          refine own_g (mkF m 43 #[.val (.ref x0), .val (.int 2), .val (.int c1)] [(.int 1)]) (fun _ q => XS.icmpYes X17.here hx rfl (pc0 := 7) (pc' := 42) rfl (hb hby own_d5_7) rfl (flt (by decide : ¬ ((2 : Int32) < (2 : Int32)))).2.1 (by decide) (by decide) (XS.iconst X17.here hx rfl (hb hby own_d5_42) q)) ?_
          exact own_end X17 (v := some (.int (nar .boolean (1 : Int32)))) (fun h => by rw [Bd.returns] at h; cases h) hlk (fun hr => retN X17 hx (t := .boolean) Bd.returns (by simp) (hb hby own_d5_43) hr) (by rw [eh17]; exact ⟨by first | rfl | (simp [own_b, own_ok, nar, hc3, hc12, hc15, hc16]; done) | (simp [own_b, own_ok, nar, hc3, hc12, hc15, hc16]; decide), N17, rfl⟩) (by decide) (by decide)
        · refine own_g (mkF m 35 #[.val (.ref x0), .val (.int 1), .val (.int c1)] [(.int 0)]) (fun _ q => XS.icmpYes X14.here hx rfl (pc0 := 25) (pc' := 34) rfl (hb hby own_d5_25) rfl (feq hc16).2 (by decide) (by decide) (XS.iconst X14.here hx rfl (hb hby own_d5_34) q)) ?_
          exact own_end X14 (v := some (.int (nar .boolean (0 : Int32)))) (fun h => by rw [Bd.returns] at h; cases h) hlk (fun hr => retN X14 hx (t := .boolean) Bd.returns (by simp) (hb hby own_d5_35) hr) (by rw [eh14]; exact ⟨by first | rfl | (simp [own_b, own_ok, nar, hc3, hc12, hc15, hc16]; done) | (simp [own_b, own_ok, nar, hc3, hc12, hc15, hc16]; decide), N14, rfl⟩) (by decide) (by decide)
      · refine own_g (mkF m 31 #[.val (.ref x0), .val (.int 1), .val (.int c1)] [(.int 127), (.int c1)]) (fun _ q => XS.icmpYes X14.here hx rfl (pc0 := 19) (pc' := 28) rfl (hb hby own_d5_19) rfl (flt hc15).2.1 (by decide) (by decide) (XS.iloadN X14.here hx rfl (hb hby own_d5_28) rfl (XS.bipush X14.here hx rfl (hb hby own_d5_29) q))) ?_
        by_cases hc18 : c1 = (127 : Int32)
        · refine own_g (mkF m 35 #[.val (.ref x0), .val (.int 1), .val (.int c1)] [(.int 0)]) (fun _ q => XS.icmpNo X14.here hx rfl (hb hby own_d5_31) rfl (teq hc18).2 (XS.iconst X14.here hx rfl (hb hby own_d5_34) q)) ?_
          exact own_end X14 (v := some (.int (nar .boolean (0 : Int32)))) (fun h => by rw [Bd.returns] at h; cases h) hlk (fun hr => retN X14 hx (t := .boolean) Bd.returns (by simp) (hb hby own_d5_35) hr) (by rw [eh14]; exact ⟨by first | rfl | (simp [own_b, own_ok, nar, hc3, hc12, hc15, hc18]; done) | (simp [own_b, own_ok, nar, hc3, hc12, hc15, hc18]; decide), N14, rfl⟩) (by decide) (by decide)
        · refine own_g (mkF m 4 #[.val (.ref x0), .val (.int 2), .val (.int c1)] [(.ref x0), (.int 2)]) (fun _ q => XS.icmpYes X14.here hx rfl (pc0 := 31) (pc' := 36) rfl (hb hby own_d5_31) rfl (feq hc18).2 (by decide) (by decide) (XS.iinc X14.here hx rfl (hb hby own_d5_36) rfl (l' := #[.val (.ref x0), .val (.int 2), .val (.int c1)]) rfl (XS.goto X14.here hx rfl (pc0 := 39) (pc' := 2) rfl (hb hby own_d5_39) (by decide) (by decide) (XS.iloadN X14.here hx rfl (hb hby own_d5_2) rfl (XS.aloadN X14.here hx rfl (hb hby own_d5_3) rfl rfl q))))) ?_
          refine own_callV X14 hx hZ (y := own_y9) (z := own_y9) hown (own_h hw 31 rfl) (own_h hw 32 rfl) (own_nf (own_h hw 34 rfl)) (own_h hw 34 rfl) (own_h hw 33 rfl) (own_h hw 35 rfl) (own_h hw 8 rfl) (by decide) E_x (own_len_1_2 l Z a0 hw [] x0 t kb c0 c1 zCS fm h0 n0 Z0 S_CS nCS S_AD S_HI S_LO S_SF hfm O0 E_x V_x C_x K_t) (by decide) (by decide) eh14 (g := (mkF m 4 #[.val (.ref x0), .val (.int 2), .val (.int c1)] [(.ref x0), (.int 2)])) rfl (by rw [hml]; rfl) (argsL := []) (rest := [(.int 2)]) (lenOf own_pd__28_29I rfl) rfl (W := 1) (by show 2 * 0 + _ ≤ _; exact Nat.le_of_eq rfl) (hb hby own_d5_4) rfl (by decide) (by decide) ?_
          rintro rv19 T19 L19 X19 ⟨rfl, Nq19, eh19⟩
          have N19 := Fr.app N14 Nq19
          refine own_g (mkF m 43 #[.val (.ref x0), .val (.int 2), .val (.int c1)] [(.int 1)]) (fun _ q => XS.icmpYes X19.here hx rfl (pc0 := 7) (pc' := 42) rfl (hb hby own_d5_7) rfl (flt (by decide : ¬ ((2 : Int32) < (2 : Int32)))).2.1 (by decide) (by decide) (XS.iconst X19.here hx rfl (hb hby own_d5_42) q)) ?_
          exact own_end X19 (v := some (.int (nar .boolean (1 : Int32)))) (fun h => by rw [Bd.returns] at h; cases h) hlk (fun hr => retN X19 hx (t := .boolean) Bd.returns (by simp) (hb hby own_d5_43) hr) (by rw [eh19]; exact ⟨by first | rfl | (simp [own_b, own_ok, nar, hc3, hc12, hc15, hc18]; done) | (simp [own_b, own_ok, nar, hc3, hc12, hc15, hc18]; decide), N19, rfl⟩) (by decide) (by decide)
theorem own_fv_1_3_ef (m : MethodId) (x0 : Addr) : entryFrame m #[(.ref x0)] 3 = mkF m 0 #[.val (.ref x0), .unset, .unset] [] := by  first | (simp [entryFrame, mkF, argsToLocals, Value.category]; done) | rfl
def own_fv_1_3_Q (Z : State) (x0 : Addr) (t : Addr) (kb : ClassId) (c0 : Int32) (c1 : Int32) (c2 : Int32) (zCS : Int32) (fm : Value) (h0 : Heap) (n0 : Nat) (v : Option Value) (h : Heap) (L : List Loc) : Prop := v = some (.int (own_b (own_ok c0 && own_ok c1 && own_ok c2))) ∧ Fr n0 L ∧ h = h0
set_option maxRecDepth 65536 in
set_option maxHeartbeats 40000000 in
theorem own_fv_1_3 (l : Launch) (Z : State) (a0 : Array Value) (hw : ∀ d ∈ tables_1, d.before a0 Z = true) (ws : List Jvm.Cond) (x0 : Addr) (t : Addr) (kb : ClassId) (c0 : Int32) (c1 : Int32) (c2 : Int32) (zCS : Int32) (fm : Value) (h0 : Heap) (n0 : Nat) (Z0 : n0 ≤ h0.size) (S_CS : own_A0 Z zCS) (nCS : ¬ zCS = 0) (S_AD : own_A1 Z) (S_HI : own_A2 Z) (S_LO : own_A3 Z) (S_SF : own_A4 Z fm) (hfm : fm.isRef = true) (O0 : Old Z n0 h0) (E_x : Exa Z h0 x0 "java/lang/String") (V_x : Fld Z h0 x0 "java/lang/String" "value" "[B" (.ref t)) (C_x : Fld Z h0 x0 "java/lang/String" "coder" "B" (.int 1)) (K_t : Arv Z h0 t kb .byte (6 : Int32) [(.int (StrChars.lo8 c0)), (.int (StrChars.hi8 c0)), (.int (StrChars.lo8 c1)), (.int (StrChars.hi8 c1)), (.int (StrChars.lo8 c2)), (.int (StrChars.hi8 c2))] (.int 0)) (hb0 : ¬ c0 < 0 ∧ ¬ (65535 : Int32) < c0) (hb1 : ¬ c1 < 0 ∧ ¬ (65535 : Int32) < c1) (hb2 : ¬ c2 < 0 ∧ ¬ (65535 : Int32) < c2) (hn0 : nar .char c0 = c0) (hn1 : nar .char c1 = c1) (hn2 : nar .char c2 = c2) :
    MetFree l own_y0 (head1 (Jvm.Cond.code own_y0 prog_31_method_32_code 3 (some .boolean) :: ws) (⟨5, 0, 0, 66⟩ : Room)) (fun aa U => aa = #[(.ref x0)] ∧ Z.Warmed39 U.vm ∧ U.heap = h0) (fun _ _ _ _ _ => True) (fun _ U o U' => ∃ v L, o = .returned v ∧ own_fv_1_3_Q Z x0 t kb c0 c1 c2 zCS fm h0 n0 v U'.heap L ∧ FrameEnd U o U' L (⟨5, 0, 0, 66⟩ : Room).cells (⟨5, 0, 0, 66⟩ : Room).slots) := by
  refine MetFree.of_bodySF (plainFor_of_name own_pn_com_example_stepgate_stepgate_http_Http1Fields) hisR ?_
  intro p e s m args below meth c s₁ Bd hml0 hP hK
  obtain ⟨rfl, hZ, hh⟩ := hP
  have hx := Bd.exec
  have hby := Bd.bytes
  have hml : c.maxLocals = 3 := hml0
  have hown : s.vm.findClass "com/example/stepgate/stepgate/http/Http1Fields" = some m.cls := findClass_of_methodNamed Bd.named
  have hnm := (name_of_methodNamed Bd.named Bd.method).1
  have hlk := Bd.notSynchronized
  have X0 : Stand p l e (⟨5, 0, 0, 66⟩ : Room) s m #[(.ref x0)] below meth c s₁ [] 0 0 := Stand.of_body Bd
  have e0 : s₁.heap = h0 := by rw [← hh, Bd.state]; rfl
  have N0 := Fr.nil n0
  refine own_start (Q := own_fv_1_3_Q Z x0 t kb c0 c1 c2 zCS fm h0 n0) (own_fv_1_3_ef m x0) ?_
  refine own_g (mkF m 4 #[.val (.ref x0), .val (.int 0), .unset] [(.ref x0), (.int 0)]) (fun _ q => XS.iconst X0.here hx rfl (hb hby own_d5_0) (XS.istoreN X0.here hx rfl (hb hby own_d5_1) rfl (l' := #[.val (.ref x0), .val (.int 0), .unset]) rfl (XS.iloadN X0.here hx rfl (hb hby own_d5_2) rfl (XS.aloadN X0.here hx rfl (hb hby own_d5_3) rfl rfl q)))) ?_
  refine own_callV X0 hx hZ (y := own_y9) (z := own_y9) hown (own_h hw 31 rfl) (own_h hw 32 rfl) (own_nf (own_h hw 34 rfl)) (own_h hw 34 rfl) (own_h hw 33 rfl) (own_h hw 35 rfl) (own_h hw 8 rfl) (by decide) E_x (own_len_1_3 l Z a0 hw [] x0 t kb c0 c1 c2 zCS fm h0 n0 Z0 S_CS nCS S_AD S_HI S_LO S_SF hfm O0 E_x V_x C_x K_t) (by decide) (by decide) e0 (g := (mkF m 4 #[.val (.ref x0), .val (.int 0), .unset] [(.ref x0), (.int 0)])) rfl (by rw [hml]; rfl) (argsL := []) (rest := [(.int 0)]) (lenOf own_pd__28_29I rfl) rfl (W := 1) (by show 2 * 0 + _ ≤ _; exact Nat.le_of_eq rfl) (hb hby own_d5_4) rfl (by decide) (by decide) ?_
  rintro rv1 T1 L1 X1 ⟨rfl, Nq1, eh1⟩
  have N1 := Fr.app N0 Nq1
  refine own_g (mkF m 12 #[.val (.ref x0), .val (.int 0), .unset] [(.int 0), (.ref x0)]) (fun _ q => XS.icmpNo X1.here hx rfl (hb hby own_d5_7) rfl (tlt (by decide : (0 : Int32) < (3 : Int32))).2.1 (XS.aloadN X1.here hx rfl (hb hby own_d5_10) rfl rfl (XS.iloadN X1.here hx rfl (hb hby own_d5_11) rfl q))) ?_
  refine own_callV X1 hx hZ (y := own_y5) (z := own_y5) hown (own_h hw 55 rfl) (own_h hw 56 rfl) (own_nf (own_h hw 58 rfl)) (own_h hw 58 rfl) (own_h hw 57 rfl) (own_h hw 59 rfl) (own_h hw 8 rfl) (by decide) E_x (own_ch_1_3_0 l Z a0 hw [] x0 t kb c0 c1 c2 zCS fm h0 n0 Z0 S_CS nCS S_AD S_HI S_LO S_SF hfm O0 E_x V_x C_x K_t hb0 hn0) (by decide) (by decide) eh1 (g := (mkF m 12 #[.val (.ref x0), .val (.int 0), .unset] [(.int 0), (.ref x0)])) rfl (by rw [hml]; rfl) (argsL := [(.int 0)]) (rest := []) (lenOf own_pd__28I_29C rfl) rfl (W := 0) (by show 2 * 0 + _ ≤ _; exact Nat.le_of_eq rfl) (hb hby own_d5_12) rfl (by decide) (by decide) ?_
  rintro rv2 T2 L2 X2 ⟨rfl, Nq2, eh2⟩
  have N2 := Fr.app N1 Nq2
  refine own_g (mkF m 19 #[.val (.ref x0), .val (.int 0), .val (.int c0)] [(.int 32), (.int c0)]) (fun _ q => XS.istoreN X2.here hx rfl (hb hby own_d5_15) rfl (l' := #[.val (.ref x0), .val (.int 0), .val (.int c0)]) rfl (XS.iloadN X2.here hx rfl (hb hby own_d5_16) rfl (XS.bipush X2.here hx rfl (hb hby own_d5_17) q))) ?_
  by_cases hc3 : c0 < (32 : Int32)
  · refine own_g (mkF m 25 #[.val (.ref x0), .val (.int 0), .val (.int c0)] [(.int 9), (.int c0)]) (fun _ q => XS.icmpNo X2.here hx rfl (hb hby own_d5_19) rfl (tlt hc3).2.1 (XS.iloadN X2.here hx rfl (hb hby own_d5_22) rfl (XS.bipush X2.here hx rfl (hb hby own_d5_23) q))) ?_
    by_cases hc4 : c0 = (9 : Int32)
    · refine own_g (mkF m 4 #[.val (.ref x0), .val (.int 1), .val (.int c0)] [(.ref x0), (.int 1)]) (fun _ q => XS.icmpNo X2.here hx rfl (hb hby own_d5_25) rfl (teq hc4).2 (XS.iloadN X2.here hx rfl (hb hby own_d5_28) rfl (XS.bipush X2.here hx rfl (hb hby own_d5_29) (XS.icmpYes X2.here hx rfl (pc0 := 31) (pc' := 36) rfl (hb hby own_d5_31) rfl (feq (own_clash hc4 (by decide))).2 (by decide) (by decide) (XS.iinc X2.here hx rfl (hb hby own_d5_36) rfl (l' := #[.val (.ref x0), .val (.int 1), .val (.int c0)]) rfl (XS.goto X2.here hx rfl (pc0 := 39) (pc' := 2) rfl (hb hby own_d5_39) (by decide) (by decide) (XS.iloadN X2.here hx rfl (hb hby own_d5_2) rfl (XS.aloadN X2.here hx rfl (hb hby own_d5_3) rfl rfl q)))))))) ?_
      refine own_callV X2 hx hZ (y := own_y9) (z := own_y9) hown (own_h hw 31 rfl) (own_h hw 32 rfl) (own_nf (own_h hw 34 rfl)) (own_h hw 34 rfl) (own_h hw 33 rfl) (own_h hw 35 rfl) (own_h hw 8 rfl) (by decide) E_x (own_len_1_3 l Z a0 hw [] x0 t kb c0 c1 c2 zCS fm h0 n0 Z0 S_CS nCS S_AD S_HI S_LO S_SF hfm O0 E_x V_x C_x K_t) (by decide) (by decide) eh2 (g := (mkF m 4 #[.val (.ref x0), .val (.int 1), .val (.int c0)] [(.ref x0), (.int 1)])) rfl (by rw [hml]; rfl) (argsL := []) (rest := [(.int 1)]) (lenOf own_pd__28_29I rfl) rfl (W := 1) (by show 2 * 0 + _ ≤ _; exact Nat.le_of_eq rfl) (hb hby own_d5_4) rfl (by decide) (by decide) ?_
      rintro rv5 T5 L5 X5 ⟨rfl, Nq5, eh5⟩
      have N5 := Fr.app N2 Nq5
      refine own_g (mkF m 12 #[.val (.ref x0), .val (.int 1), .val (.int c0)] [(.int 1), (.ref x0)]) (fun _ q => XS.icmpNo X5.here hx rfl (hb hby own_d5_7) rfl (tlt (by decide : (1 : Int32) < (3 : Int32))).2.1 (XS.aloadN X5.here hx rfl (hb hby own_d5_10) rfl rfl (XS.iloadN X5.here hx rfl (hb hby own_d5_11) rfl q))) ?_
      refine own_callV X5 hx hZ (y := own_y5) (z := own_y5) hown (own_h hw 55 rfl) (own_h hw 56 rfl) (own_nf (own_h hw 58 rfl)) (own_h hw 58 rfl) (own_h hw 57 rfl) (own_h hw 59 rfl) (own_h hw 8 rfl) (by decide) E_x (own_ch_1_3_1 l Z a0 hw [] x0 t kb c0 c1 c2 zCS fm h0 n0 Z0 S_CS nCS S_AD S_HI S_LO S_SF hfm O0 E_x V_x C_x K_t hb1 hn1) (by decide) (by decide) eh5 (g := (mkF m 12 #[.val (.ref x0), .val (.int 1), .val (.int c0)] [(.int 1), (.ref x0)])) rfl (by rw [hml]; rfl) (argsL := [(.int 1)]) (rest := []) (lenOf own_pd__28I_29C rfl) rfl (W := 0) (by show 2 * 0 + _ ≤ _; exact Nat.le_of_eq rfl) (hb hby own_d5_12) rfl (by decide) (by decide) ?_
      rintro rv6 T6 L6 X6 ⟨rfl, Nq6, eh6⟩
      have N6 := Fr.app N5 Nq6
      refine own_g (mkF m 19 #[.val (.ref x0), .val (.int 1), .val (.int c1)] [(.int 32), (.int c1)]) (fun _ q => XS.istoreN X6.here hx rfl (hb hby own_d5_15) rfl (l' := #[.val (.ref x0), .val (.int 1), .val (.int c1)]) rfl (XS.iloadN X6.here hx rfl (hb hby own_d5_16) rfl (XS.bipush X6.here hx rfl (hb hby own_d5_17) q))) ?_
      by_cases hc7 : c1 < (32 : Int32)
      · refine own_g (mkF m 25 #[.val (.ref x0), .val (.int 1), .val (.int c1)] [(.int 9), (.int c1)]) (fun _ q => XS.icmpNo X6.here hx rfl (hb hby own_d5_19) rfl (tlt hc7).2.1 (XS.iloadN X6.here hx rfl (hb hby own_d5_22) rfl (XS.bipush X6.here hx rfl (hb hby own_d5_23) q))) ?_
        by_cases hc8 : c1 = (9 : Int32)
        · refine own_g (mkF m 4 #[.val (.ref x0), .val (.int 2), .val (.int c1)] [(.ref x0), (.int 2)]) (fun _ q => XS.icmpNo X6.here hx rfl (hb hby own_d5_25) rfl (teq hc8).2 (XS.iloadN X6.here hx rfl (hb hby own_d5_28) rfl (XS.bipush X6.here hx rfl (hb hby own_d5_29) (XS.icmpYes X6.here hx rfl (pc0 := 31) (pc' := 36) rfl (hb hby own_d5_31) rfl (feq (own_clash hc8 (by decide))).2 (by decide) (by decide) (XS.iinc X6.here hx rfl (hb hby own_d5_36) rfl (l' := #[.val (.ref x0), .val (.int 2), .val (.int c1)]) rfl (XS.goto X6.here hx rfl (pc0 := 39) (pc' := 2) rfl (hb hby own_d5_39) (by decide) (by decide) (XS.iloadN X6.here hx rfl (hb hby own_d5_2) rfl (XS.aloadN X6.here hx rfl (hb hby own_d5_3) rfl rfl q)))))))) ?_
          refine own_callV X6 hx hZ (y := own_y9) (z := own_y9) hown (own_h hw 31 rfl) (own_h hw 32 rfl) (own_nf (own_h hw 34 rfl)) (own_h hw 34 rfl) (own_h hw 33 rfl) (own_h hw 35 rfl) (own_h hw 8 rfl) (by decide) E_x (own_len_1_3 l Z a0 hw [] x0 t kb c0 c1 c2 zCS fm h0 n0 Z0 S_CS nCS S_AD S_HI S_LO S_SF hfm O0 E_x V_x C_x K_t) (by decide) (by decide) eh6 (g := (mkF m 4 #[.val (.ref x0), .val (.int 2), .val (.int c1)] [(.ref x0), (.int 2)])) rfl (by rw [hml]; rfl) (argsL := []) (rest := [(.int 2)]) (lenOf own_pd__28_29I rfl) rfl (W := 1) (by show 2 * 0 + _ ≤ _; exact Nat.le_of_eq rfl) (hb hby own_d5_4) rfl (by decide) (by decide) ?_
          rintro rv9 T9 L9 X9 ⟨rfl, Nq9, eh9⟩
          have N9 := Fr.app N6 Nq9
          refine own_g (mkF m 12 #[.val (.ref x0), .val (.int 2), .val (.int c1)] [(.int 2), (.ref x0)]) (fun _ q => XS.icmpNo X9.here hx rfl (hb hby own_d5_7) rfl (tlt (by decide : (2 : Int32) < (3 : Int32))).2.1 (XS.aloadN X9.here hx rfl (hb hby own_d5_10) rfl rfl (XS.iloadN X9.here hx rfl (hb hby own_d5_11) rfl q))) ?_
          refine own_callV X9 hx hZ (y := own_y5) (z := own_y5) hown (own_h hw 55 rfl) (own_h hw 56 rfl) (own_nf (own_h hw 58 rfl)) (own_h hw 58 rfl) (own_h hw 57 rfl) (own_h hw 59 rfl) (own_h hw 8 rfl) (by decide) E_x (own_ch_1_3_2 l Z a0 hw [] x0 t kb c0 c1 c2 zCS fm h0 n0 Z0 S_CS nCS S_AD S_HI S_LO S_SF hfm O0 E_x V_x C_x K_t hb2 hn2) (by decide) (by decide) eh9 (g := (mkF m 12 #[.val (.ref x0), .val (.int 2), .val (.int c1)] [(.int 2), (.ref x0)])) rfl (by rw [hml]; rfl) (argsL := [(.int 2)]) (rest := []) (lenOf own_pd__28I_29C rfl) rfl (W := 0) (by show 2 * 0 + _ ≤ _; exact Nat.le_of_eq rfl) (hb hby own_d5_12) rfl (by decide) (by decide) ?_
          rintro rv10 T10 L10 X10 ⟨rfl, Nq10, eh10⟩
          have N10 := Fr.app N9 Nq10
          refine own_g (mkF m 19 #[.val (.ref x0), .val (.int 2), .val (.int c2)] [(.int 32), (.int c2)]) (fun _ q => XS.istoreN X10.here hx rfl (hb hby own_d5_15) rfl (l' := #[.val (.ref x0), .val (.int 2), .val (.int c2)]) rfl (XS.iloadN X10.here hx rfl (hb hby own_d5_16) rfl (XS.bipush X10.here hx rfl (hb hby own_d5_17) q))) ?_
          by_cases hc11 : c2 < (32 : Int32)
          · refine own_g (mkF m 25 #[.val (.ref x0), .val (.int 2), .val (.int c2)] [(.int 9), (.int c2)]) (fun _ q => XS.icmpNo X10.here hx rfl (hb hby own_d5_19) rfl (tlt hc11).2.1 (XS.iloadN X10.here hx rfl (hb hby own_d5_22) rfl (XS.bipush X10.here hx rfl (hb hby own_d5_23) q))) ?_
            by_cases hc12 : c2 = (9 : Int32)
            · refine own_g (mkF m 4 #[.val (.ref x0), .val (.int 3), .val (.int c2)] [(.ref x0), (.int 3)]) (fun _ q => XS.icmpNo X10.here hx rfl (hb hby own_d5_25) rfl (teq hc12).2 (XS.iloadN X10.here hx rfl (hb hby own_d5_28) rfl (XS.bipush X10.here hx rfl (hb hby own_d5_29) (XS.icmpYes X10.here hx rfl (pc0 := 31) (pc' := 36) rfl (hb hby own_d5_31) rfl (feq (own_clash hc12 (by decide))).2 (by decide) (by decide) (XS.iinc X10.here hx rfl (hb hby own_d5_36) rfl (l' := #[.val (.ref x0), .val (.int 3), .val (.int c2)]) rfl (XS.goto X10.here hx rfl (pc0 := 39) (pc' := 2) rfl (hb hby own_d5_39) (by decide) (by decide) (XS.iloadN X10.here hx rfl (hb hby own_d5_2) rfl (XS.aloadN X10.here hx rfl (hb hby own_d5_3) rfl rfl q)))))))) ?_
              refine own_callV X10 hx hZ (y := own_y9) (z := own_y9) hown (own_h hw 31 rfl) (own_h hw 32 rfl) (own_nf (own_h hw 34 rfl)) (own_h hw 34 rfl) (own_h hw 33 rfl) (own_h hw 35 rfl) (own_h hw 8 rfl) (by decide) E_x (own_len_1_3 l Z a0 hw [] x0 t kb c0 c1 c2 zCS fm h0 n0 Z0 S_CS nCS S_AD S_HI S_LO S_SF hfm O0 E_x V_x C_x K_t) (by decide) (by decide) eh10 (g := (mkF m 4 #[.val (.ref x0), .val (.int 3), .val (.int c2)] [(.ref x0), (.int 3)])) rfl (by rw [hml]; rfl) (argsL := []) (rest := [(.int 3)]) (lenOf own_pd__28_29I rfl) rfl (W := 1) (by show 2 * 0 + _ ≤ _; exact Nat.le_of_eq rfl) (hb hby own_d5_4) rfl (by decide) (by decide) ?_
              rintro rv13 T13 L13 X13 ⟨rfl, Nq13, eh13⟩
              have N13 := Fr.app N10 Nq13
              refine own_g (mkF m 43 #[.val (.ref x0), .val (.int 3), .val (.int c2)] [(.int 1)]) (fun _ q => XS.icmpYes X13.here hx rfl (pc0 := 7) (pc' := 42) rfl (hb hby own_d5_7) rfl (flt (by decide : ¬ ((3 : Int32) < (3 : Int32)))).2.1 (by decide) (by decide) (XS.iconst X13.here hx rfl (hb hby own_d5_42) q)) ?_
              exact own_end X13 (v := some (.int (nar .boolean (1 : Int32)))) (fun h => by rw [Bd.returns] at h; cases h) hlk (fun hr => retN X13 hx (t := .boolean) Bd.returns (by simp) (hb hby own_d5_43) hr) (by rw [eh13]; exact ⟨by first | rfl | (simp [own_b, own_ok, nar, hc3, hc4, hc7, hc8, hc11, hc12]; done) | (simp [own_b, own_ok, nar, hc3, hc4, hc7, hc8, hc11, hc12]; decide), N13, rfl⟩) (by decide) (by decide)
            · refine own_g (mkF m 35 #[.val (.ref x0), .val (.int 2), .val (.int c2)] [(.int 0)]) (fun _ q => XS.icmpYes X10.here hx rfl (pc0 := 25) (pc' := 34) rfl (hb hby own_d5_25) rfl (feq hc12).2 (by decide) (by decide) (XS.iconst X10.here hx rfl (hb hby own_d5_34) q)) ?_
              exact own_end X10 (v := some (.int (nar .boolean (0 : Int32)))) (fun h => by rw [Bd.returns] at h; cases h) hlk (fun hr => retN X10 hx (t := .boolean) Bd.returns (by simp) (hb hby own_d5_35) hr) (by rw [eh10]; exact ⟨by first | rfl | (simp [own_b, own_ok, nar, hc3, hc4, hc7, hc8, hc11, hc12]; done) | (simp [own_b, own_ok, nar, hc3, hc4, hc7, hc8, hc11, hc12]; decide), N10, rfl⟩) (by decide) (by decide)
          · refine own_g (mkF m 31 #[.val (.ref x0), .val (.int 2), .val (.int c2)] [(.int 127), (.int c2)]) (fun _ q => XS.icmpYes X10.here hx rfl (pc0 := 19) (pc' := 28) rfl (hb hby own_d5_19) rfl (flt hc11).2.1 (by decide) (by decide) (XS.iloadN X10.here hx rfl (hb hby own_d5_28) rfl (XS.bipush X10.here hx rfl (hb hby own_d5_29) q))) ?_
            by_cases hc14 : c2 = (127 : Int32)
            · refine own_g (mkF m 35 #[.val (.ref x0), .val (.int 2), .val (.int c2)] [(.int 0)]) (fun _ q => XS.icmpNo X10.here hx rfl (hb hby own_d5_31) rfl (teq hc14).2 (XS.iconst X10.here hx rfl (hb hby own_d5_34) q)) ?_
              exact own_end X10 (v := some (.int (nar .boolean (0 : Int32)))) (fun h => by rw [Bd.returns] at h; cases h) hlk (fun hr => retN X10 hx (t := .boolean) Bd.returns (by simp) (hb hby own_d5_35) hr) (by rw [eh10]; exact ⟨by first | rfl | (simp [own_b, own_ok, nar, hc3, hc4, hc7, hc8, hc11, hc14]; done) | (simp [own_b, own_ok, nar, hc3, hc4, hc7, hc8, hc11, hc14]; decide), N10, rfl⟩) (by decide) (by decide)
            · refine own_g (mkF m 4 #[.val (.ref x0), .val (.int 3), .val (.int c2)] [(.ref x0), (.int 3)]) (fun _ q => XS.icmpYes X10.here hx rfl (pc0 := 31) (pc' := 36) rfl (hb hby own_d5_31) rfl (feq hc14).2 (by decide) (by decide) (XS.iinc X10.here hx rfl (hb hby own_d5_36) rfl (l' := #[.val (.ref x0), .val (.int 3), .val (.int c2)]) rfl (XS.goto X10.here hx rfl (pc0 := 39) (pc' := 2) rfl (hb hby own_d5_39) (by decide) (by decide) (XS.iloadN X10.here hx rfl (hb hby own_d5_2) rfl (XS.aloadN X10.here hx rfl (hb hby own_d5_3) rfl rfl q))))) ?_
              refine own_callV X10 hx hZ (y := own_y9) (z := own_y9) hown (own_h hw 31 rfl) (own_h hw 32 rfl) (own_nf (own_h hw 34 rfl)) (own_h hw 34 rfl) (own_h hw 33 rfl) (own_h hw 35 rfl) (own_h hw 8 rfl) (by decide) E_x (own_len_1_3 l Z a0 hw [] x0 t kb c0 c1 c2 zCS fm h0 n0 Z0 S_CS nCS S_AD S_HI S_LO S_SF hfm O0 E_x V_x C_x K_t) (by decide) (by decide) eh10 (g := (mkF m 4 #[.val (.ref x0), .val (.int 3), .val (.int c2)] [(.ref x0), (.int 3)])) rfl (by rw [hml]; rfl) (argsL := []) (rest := [(.int 3)]) (lenOf own_pd__28_29I rfl) rfl (W := 1) (by show 2 * 0 + _ ≤ _; exact Nat.le_of_eq rfl) (hb hby own_d5_4) rfl (by decide) (by decide) ?_
              rintro rv15 T15 L15 X15 ⟨rfl, Nq15, eh15⟩
              have N15 := Fr.app N10 Nq15
              refine own_g (mkF m 43 #[.val (.ref x0), .val (.int 3), .val (.int c2)] [(.int 1)]) (fun _ q => XS.icmpYes X15.here hx rfl (pc0 := 7) (pc' := 42) rfl (hb hby own_d5_7) rfl (flt (by decide : ¬ ((3 : Int32) < (3 : Int32)))).2.1 (by decide) (by decide) (XS.iconst X15.here hx rfl (hb hby own_d5_42) q)) ?_
              exact own_end X15 (v := some (.int (nar .boolean (1 : Int32)))) (fun h => by rw [Bd.returns] at h; cases h) hlk (fun hr => retN X15 hx (t := .boolean) Bd.returns (by simp) (hb hby own_d5_43) hr) (by rw [eh15]; exact ⟨by first | rfl | (simp [own_b, own_ok, nar, hc3, hc4, hc7, hc8, hc11, hc14]; done) | (simp [own_b, own_ok, nar, hc3, hc4, hc7, hc8, hc11, hc14]; decide), N15, rfl⟩) (by decide) (by decide)
        · refine own_g (mkF m 35 #[.val (.ref x0), .val (.int 1), .val (.int c1)] [(.int 0)]) (fun _ q => XS.icmpYes X6.here hx rfl (pc0 := 25) (pc' := 34) rfl (hb hby own_d5_25) rfl (feq hc8).2 (by decide) (by decide) (XS.iconst X6.here hx rfl (hb hby own_d5_34) q)) ?_
          exact own_end X6 (v := some (.int (nar .boolean (0 : Int32)))) (fun h => by rw [Bd.returns] at h; cases h) hlk (fun hr => retN X6 hx (t := .boolean) Bd.returns (by simp) (hb hby own_d5_35) hr) (by rw [eh6]; exact ⟨by first | rfl | (simp [own_b, own_ok, nar, hc3, hc4, hc7, hc8]; done) | (simp [own_b, own_ok, nar, hc3, hc4, hc7, hc8]; decide), N6, rfl⟩) (by decide) (by decide)
      · refine own_g (mkF m 31 #[.val (.ref x0), .val (.int 1), .val (.int c1)] [(.int 127), (.int c1)]) (fun _ q => XS.icmpYes X6.here hx rfl (pc0 := 19) (pc' := 28) rfl (hb hby own_d5_19) rfl (flt hc7).2.1 (by decide) (by decide) (XS.iloadN X6.here hx rfl (hb hby own_d5_28) rfl (XS.bipush X6.here hx rfl (hb hby own_d5_29) q))) ?_
        by_cases hc16 : c1 = (127 : Int32)
        · refine own_g (mkF m 35 #[.val (.ref x0), .val (.int 1), .val (.int c1)] [(.int 0)]) (fun _ q => XS.icmpNo X6.here hx rfl (hb hby own_d5_31) rfl (teq hc16).2 (XS.iconst X6.here hx rfl (hb hby own_d5_34) q)) ?_
          exact own_end X6 (v := some (.int (nar .boolean (0 : Int32)))) (fun h => by rw [Bd.returns] at h; cases h) hlk (fun hr => retN X6 hx (t := .boolean) Bd.returns (by simp) (hb hby own_d5_35) hr) (by rw [eh6]; exact ⟨by first | rfl | (simp [own_b, own_ok, nar, hc3, hc4, hc7, hc16]; done) | (simp [own_b, own_ok, nar, hc3, hc4, hc7, hc16]; decide), N6, rfl⟩) (by decide) (by decide)
        · refine own_g (mkF m 4 #[.val (.ref x0), .val (.int 2), .val (.int c1)] [(.ref x0), (.int 2)]) (fun _ q => XS.icmpYes X6.here hx rfl (pc0 := 31) (pc' := 36) rfl (hb hby own_d5_31) rfl (feq hc16).2 (by decide) (by decide) (XS.iinc X6.here hx rfl (hb hby own_d5_36) rfl (l' := #[.val (.ref x0), .val (.int 2), .val (.int c1)]) rfl (XS.goto X6.here hx rfl (pc0 := 39) (pc' := 2) rfl (hb hby own_d5_39) (by decide) (by decide) (XS.iloadN X6.here hx rfl (hb hby own_d5_2) rfl (XS.aloadN X6.here hx rfl (hb hby own_d5_3) rfl rfl q))))) ?_
          refine own_callV X6 hx hZ (y := own_y9) (z := own_y9) hown (own_h hw 31 rfl) (own_h hw 32 rfl) (own_nf (own_h hw 34 rfl)) (own_h hw 34 rfl) (own_h hw 33 rfl) (own_h hw 35 rfl) (own_h hw 8 rfl) (by decide) E_x (own_len_1_3 l Z a0 hw [] x0 t kb c0 c1 c2 zCS fm h0 n0 Z0 S_CS nCS S_AD S_HI S_LO S_SF hfm O0 E_x V_x C_x K_t) (by decide) (by decide) eh6 (g := (mkF m 4 #[.val (.ref x0), .val (.int 2), .val (.int c1)] [(.ref x0), (.int 2)])) rfl (by rw [hml]; rfl) (argsL := []) (rest := [(.int 2)]) (lenOf own_pd__28_29I rfl) rfl (W := 1) (by show 2 * 0 + _ ≤ _; exact Nat.le_of_eq rfl) (hb hby own_d5_4) rfl (by decide) (by decide) ?_
          rintro rv17 T17 L17 X17 ⟨rfl, Nq17, eh17⟩
          have N17 := Fr.app N6 Nq17
          refine own_g (mkF m 12 #[.val (.ref x0), .val (.int 2), .val (.int c1)] [(.int 2), (.ref x0)]) (fun _ q => XS.icmpNo X17.here hx rfl (hb hby own_d5_7) rfl (tlt (by decide : (2 : Int32) < (3 : Int32))).2.1 (XS.aloadN X17.here hx rfl (hb hby own_d5_10) rfl rfl (XS.iloadN X17.here hx rfl (hb hby own_d5_11) rfl q))) ?_
          refine own_callV X17 hx hZ (y := own_y5) (z := own_y5) hown (own_h hw 55 rfl) (own_h hw 56 rfl) (own_nf (own_h hw 58 rfl)) (own_h hw 58 rfl) (own_h hw 57 rfl) (own_h hw 59 rfl) (own_h hw 8 rfl) (by decide) E_x (own_ch_1_3_2 l Z a0 hw [] x0 t kb c0 c1 c2 zCS fm h0 n0 Z0 S_CS nCS S_AD S_HI S_LO S_SF hfm O0 E_x V_x C_x K_t hb2 hn2) (by decide) (by decide) eh17 (g := (mkF m 12 #[.val (.ref x0), .val (.int 2), .val (.int c1)] [(.int 2), (.ref x0)])) rfl (by rw [hml]; rfl) (argsL := [(.int 2)]) (rest := []) (lenOf own_pd__28I_29C rfl) rfl (W := 0) (by show 2 * 0 + _ ≤ _; exact Nat.le_of_eq rfl) (hb hby own_d5_12) rfl (by decide) (by decide) ?_
          rintro rv18 T18 L18 X18 ⟨rfl, Nq18, eh18⟩
          have N18 := Fr.app N17 Nq18
          refine own_g (mkF m 19 #[.val (.ref x0), .val (.int 2), .val (.int c2)] [(.int 32), (.int c2)]) (fun _ q => XS.istoreN X18.here hx rfl (hb hby own_d5_15) rfl (l' := #[.val (.ref x0), .val (.int 2), .val (.int c2)]) rfl (XS.iloadN X18.here hx rfl (hb hby own_d5_16) rfl (XS.bipush X18.here hx rfl (hb hby own_d5_17) q))) ?_
          by_cases hc19 : c2 < (32 : Int32)
          · refine own_g (mkF m 25 #[.val (.ref x0), .val (.int 2), .val (.int c2)] [(.int 9), (.int c2)]) (fun _ q => XS.icmpNo X18.here hx rfl (hb hby own_d5_19) rfl (tlt hc19).2.1 (XS.iloadN X18.here hx rfl (hb hby own_d5_22) rfl (XS.bipush X18.here hx rfl (hb hby own_d5_23) q))) ?_
            by_cases hc20 : c2 = (9 : Int32)
            · refine own_g (mkF m 4 #[.val (.ref x0), .val (.int 3), .val (.int c2)] [(.ref x0), (.int 3)]) (fun _ q => XS.icmpNo X18.here hx rfl (hb hby own_d5_25) rfl (teq hc20).2 (XS.iloadN X18.here hx rfl (hb hby own_d5_28) rfl (XS.bipush X18.here hx rfl (hb hby own_d5_29) (XS.icmpYes X18.here hx rfl (pc0 := 31) (pc' := 36) rfl (hb hby own_d5_31) rfl (feq (own_clash hc20 (by decide))).2 (by decide) (by decide) (XS.iinc X18.here hx rfl (hb hby own_d5_36) rfl (l' := #[.val (.ref x0), .val (.int 3), .val (.int c2)]) rfl (XS.goto X18.here hx rfl (pc0 := 39) (pc' := 2) rfl (hb hby own_d5_39) (by decide) (by decide) (XS.iloadN X18.here hx rfl (hb hby own_d5_2) rfl (XS.aloadN X18.here hx rfl (hb hby own_d5_3) rfl rfl q)))))))) ?_
              refine own_callV X18 hx hZ (y := own_y9) (z := own_y9) hown (own_h hw 31 rfl) (own_h hw 32 rfl) (own_nf (own_h hw 34 rfl)) (own_h hw 34 rfl) (own_h hw 33 rfl) (own_h hw 35 rfl) (own_h hw 8 rfl) (by decide) E_x (own_len_1_3 l Z a0 hw [] x0 t kb c0 c1 c2 zCS fm h0 n0 Z0 S_CS nCS S_AD S_HI S_LO S_SF hfm O0 E_x V_x C_x K_t) (by decide) (by decide) eh18 (g := (mkF m 4 #[.val (.ref x0), .val (.int 3), .val (.int c2)] [(.ref x0), (.int 3)])) rfl (by rw [hml]; rfl) (argsL := []) (rest := [(.int 3)]) (lenOf own_pd__28_29I rfl) rfl (W := 1) (by show 2 * 0 + _ ≤ _; exact Nat.le_of_eq rfl) (hb hby own_d5_4) rfl (by decide) (by decide) ?_
              rintro rv21 T21 L21 X21 ⟨rfl, Nq21, eh21⟩
              have N21 := Fr.app N18 Nq21
              refine own_g (mkF m 43 #[.val (.ref x0), .val (.int 3), .val (.int c2)] [(.int 1)]) (fun _ q => XS.icmpYes X21.here hx rfl (pc0 := 7) (pc' := 42) rfl (hb hby own_d5_7) rfl (flt (by decide : ¬ ((3 : Int32) < (3 : Int32)))).2.1 (by decide) (by decide) (XS.iconst X21.here hx rfl (hb hby own_d5_42) q)) ?_
              exact own_end X21 (v := some (.int (nar .boolean (1 : Int32)))) (fun h => by rw [Bd.returns] at h; cases h) hlk (fun hr => retN X21 hx (t := .boolean) Bd.returns (by simp) (hb hby own_d5_43) hr) (by rw [eh21]; exact ⟨by first | rfl | (simp [own_b, own_ok, nar, hc3, hc4, hc7, hc16, hc19, hc20]; done) | (simp [own_b, own_ok, nar, hc3, hc4, hc7, hc16, hc19, hc20]; decide), N21, rfl⟩) (by decide) (by decide)
            · refine own_g (mkF m 35 #[.val (.ref x0), .val (.int 2), .val (.int c2)] [(.int 0)]) (fun _ q => XS.icmpYes X18.here hx rfl (pc0 := 25) (pc' := 34) rfl (hb hby own_d5_25) rfl (feq hc20).2 (by decide) (by decide) (XS.iconst X18.here hx rfl (hb hby own_d5_34) q)) ?_
              exact own_end X18 (v := some (.int (nar .boolean (0 : Int32)))) (fun h => by rw [Bd.returns] at h; cases h) hlk (fun hr => retN X18 hx (t := .boolean) Bd.returns (by simp) (hb hby own_d5_35) hr) (by rw [eh18]; exact ⟨by first | rfl | (simp [own_b, own_ok, nar, hc3, hc4, hc7, hc16, hc19, hc20]; done) | (simp [own_b, own_ok, nar, hc3, hc4, hc7, hc16, hc19, hc20]; decide), N18, rfl⟩) (by decide) (by decide)
          · refine own_g (mkF m 31 #[.val (.ref x0), .val (.int 2), .val (.int c2)] [(.int 127), (.int c2)]) (fun _ q => XS.icmpYes X18.here hx rfl (pc0 := 19) (pc' := 28) rfl (hb hby own_d5_19) rfl (flt hc19).2.1 (by decide) (by decide) (XS.iloadN X18.here hx rfl (hb hby own_d5_28) rfl (XS.bipush X18.here hx rfl (hb hby own_d5_29) q))) ?_
            by_cases hc22 : c2 = (127 : Int32)
            · refine own_g (mkF m 35 #[.val (.ref x0), .val (.int 2), .val (.int c2)] [(.int 0)]) (fun _ q => XS.icmpNo X18.here hx rfl (hb hby own_d5_31) rfl (teq hc22).2 (XS.iconst X18.here hx rfl (hb hby own_d5_34) q)) ?_
              exact own_end X18 (v := some (.int (nar .boolean (0 : Int32)))) (fun h => by rw [Bd.returns] at h; cases h) hlk (fun hr => retN X18 hx (t := .boolean) Bd.returns (by simp) (hb hby own_d5_35) hr) (by rw [eh18]; exact ⟨by first | rfl | (simp [own_b, own_ok, nar, hc3, hc4, hc7, hc16, hc19, hc22]; done) | (simp [own_b, own_ok, nar, hc3, hc4, hc7, hc16, hc19, hc22]; decide), N18, rfl⟩) (by decide) (by decide)
            · refine own_g (mkF m 4 #[.val (.ref x0), .val (.int 3), .val (.int c2)] [(.ref x0), (.int 3)]) (fun _ q => XS.icmpYes X18.here hx rfl (pc0 := 31) (pc' := 36) rfl (hb hby own_d5_31) rfl (feq hc22).2 (by decide) (by decide) (XS.iinc X18.here hx rfl (hb hby own_d5_36) rfl (l' := #[.val (.ref x0), .val (.int 3), .val (.int c2)]) rfl (XS.goto X18.here hx rfl (pc0 := 39) (pc' := 2) rfl (hb hby own_d5_39) (by decide) (by decide) (XS.iloadN X18.here hx rfl (hb hby own_d5_2) rfl (XS.aloadN X18.here hx rfl (hb hby own_d5_3) rfl rfl q))))) ?_
              refine own_callV X18 hx hZ (y := own_y9) (z := own_y9) hown (own_h hw 31 rfl) (own_h hw 32 rfl) (own_nf (own_h hw 34 rfl)) (own_h hw 34 rfl) (own_h hw 33 rfl) (own_h hw 35 rfl) (own_h hw 8 rfl) (by decide) E_x (own_len_1_3 l Z a0 hw [] x0 t kb c0 c1 c2 zCS fm h0 n0 Z0 S_CS nCS S_AD S_HI S_LO S_SF hfm O0 E_x V_x C_x K_t) (by decide) (by decide) eh18 (g := (mkF m 4 #[.val (.ref x0), .val (.int 3), .val (.int c2)] [(.ref x0), (.int 3)])) rfl (by rw [hml]; rfl) (argsL := []) (rest := [(.int 3)]) (lenOf own_pd__28_29I rfl) rfl (W := 1) (by show 2 * 0 + _ ≤ _; exact Nat.le_of_eq rfl) (hb hby own_d5_4) rfl (by decide) (by decide) ?_
              rintro rv23 T23 L23 X23 ⟨rfl, Nq23, eh23⟩
              have N23 := Fr.app N18 Nq23
              refine own_g (mkF m 43 #[.val (.ref x0), .val (.int 3), .val (.int c2)] [(.int 1)]) (fun _ q => XS.icmpYes X23.here hx rfl (pc0 := 7) (pc' := 42) rfl (hb hby own_d5_7) rfl (flt (by decide : ¬ ((3 : Int32) < (3 : Int32)))).2.1 (by decide) (by decide) (XS.iconst X23.here hx rfl (hb hby own_d5_42) q)) ?_
              exact own_end X23 (v := some (.int (nar .boolean (1 : Int32)))) (fun h => by rw [Bd.returns] at h; cases h) hlk (fun hr => retN X23 hx (t := .boolean) Bd.returns (by simp) (hb hby own_d5_43) hr) (by rw [eh23]; exact ⟨by first | rfl | (simp [own_b, own_ok, nar, hc3, hc4, hc7, hc16, hc19, hc22]; done) | (simp [own_b, own_ok, nar, hc3, hc4, hc7, hc16, hc19, hc22]; decide), N23, rfl⟩) (by decide) (by decide)
    · refine own_g (mkF m 35 #[.val (.ref x0), .val (.int 0), .val (.int c0)] [(.int 0)]) (fun _ q => XS.icmpYes X2.here hx rfl (pc0 := 25) (pc' := 34) rfl (hb hby own_d5_25) rfl (feq hc4).2 (by decide) (by decide) (XS.iconst X2.here hx rfl (hb hby own_d5_34) q)) ?_
      exact own_end X2 (v := some (.int (nar .boolean (0 : Int32)))) (fun h => by rw [Bd.returns] at h; cases h) hlk (fun hr => retN X2 hx (t := .boolean) Bd.returns (by simp) (hb hby own_d5_35) hr) (by rw [eh2]; exact ⟨by first | rfl | (simp [own_b, own_ok, nar, hc3, hc4]; done) | (simp [own_b, own_ok, nar, hc3, hc4]; decide), N2, rfl⟩) (by decide) (by decide)
  · refine own_g (mkF m 31 #[.val (.ref x0), .val (.int 0), .val (.int c0)] [(.int 127), (.int c0)]) (fun _ q => XS.icmpYes X2.here hx rfl (pc0 := 19) (pc' := 28) rfl (hb hby own_d5_19) rfl (flt hc3).2.1 (by decide) (by decide) (XS.iloadN X2.here hx rfl (hb hby own_d5_28) rfl (XS.bipush X2.here hx rfl (hb hby own_d5_29) q))) ?_
    by_cases hc24 : c0 = (127 : Int32)
    · refine own_g (mkF m 35 #[.val (.ref x0), .val (.int 0), .val (.int c0)] [(.int 0)]) (fun _ q => XS.icmpNo X2.here hx rfl (hb hby own_d5_31) rfl (teq hc24).2 (XS.iconst X2.here hx rfl (hb hby own_d5_34) q)) ?_
      exact own_end X2 (v := some (.int (nar .boolean (0 : Int32)))) (fun h => by rw [Bd.returns] at h; cases h) hlk (fun hr => retN X2 hx (t := .boolean) Bd.returns (by simp) (hb hby own_d5_35) hr) (by rw [eh2]; exact ⟨by first | rfl | (simp [own_b, own_ok, nar, hc3, hc24]; done) | (simp [own_b, own_ok, nar, hc3, hc24]; decide), N2, rfl⟩) (by decide) (by decide)
    · refine own_g (mkF m 4 #[.val (.ref x0), .val (.int 1), .val (.int c0)] [(.ref x0), (.int 1)]) (fun _ q => XS.icmpYes X2.here hx rfl (pc0 := 31) (pc' := 36) rfl (hb hby own_d5_31) rfl (feq hc24).2 (by decide) (by decide) (XS.iinc X2.here hx rfl (hb hby own_d5_36) rfl (l' := #[.val (.ref x0), .val (.int 1), .val (.int c0)]) rfl (XS.goto X2.here hx rfl (pc0 := 39) (pc' := 2) rfl (hb hby own_d5_39) (by decide) (by decide) (XS.iloadN X2.here hx rfl (hb hby own_d5_2) rfl (XS.aloadN X2.here hx rfl (hb hby own_d5_3) rfl rfl q))))) ?_
      refine own_callV X2 hx hZ (y := own_y9) (z := own_y9) hown (own_h hw 31 rfl) (own_h hw 32 rfl) (own_nf (own_h hw 34 rfl)) (own_h hw 34 rfl) (own_h hw 33 rfl) (own_h hw 35 rfl) (own_h hw 8 rfl) (by decide) E_x (own_len_1_3 l Z a0 hw [] x0 t kb c0 c1 c2 zCS fm h0 n0 Z0 S_CS nCS S_AD S_HI S_LO S_SF hfm O0 E_x V_x C_x K_t) (by decide) (by decide) eh2 (g := (mkF m 4 #[.val (.ref x0), .val (.int 1), .val (.int c0)] [(.ref x0), (.int 1)])) rfl (by rw [hml]; rfl) (argsL := []) (rest := [(.int 1)]) (lenOf own_pd__28_29I rfl) rfl (W := 1) (by show 2 * 0 + _ ≤ _; exact Nat.le_of_eq rfl) (hb hby own_d5_4) rfl (by decide) (by decide) ?_
      rintro rv25 T25 L25 X25 ⟨rfl, Nq25, eh25⟩
      have N25 := Fr.app N2 Nq25
      refine own_g (mkF m 12 #[.val (.ref x0), .val (.int 1), .val (.int c0)] [(.int 1), (.ref x0)]) (fun _ q => XS.icmpNo X25.here hx rfl (hb hby own_d5_7) rfl (tlt (by decide : (1 : Int32) < (3 : Int32))).2.1 (XS.aloadN X25.here hx rfl (hb hby own_d5_10) rfl rfl (XS.iloadN X25.here hx rfl (hb hby own_d5_11) rfl q))) ?_
      refine own_callV X25 hx hZ (y := own_y5) (z := own_y5) hown (own_h hw 55 rfl) (own_h hw 56 rfl) (own_nf (own_h hw 58 rfl)) (own_h hw 58 rfl) (own_h hw 57 rfl) (own_h hw 59 rfl) (own_h hw 8 rfl) (by decide) E_x (own_ch_1_3_1 l Z a0 hw [] x0 t kb c0 c1 c2 zCS fm h0 n0 Z0 S_CS nCS S_AD S_HI S_LO S_SF hfm O0 E_x V_x C_x K_t hb1 hn1) (by decide) (by decide) eh25 (g := (mkF m 12 #[.val (.ref x0), .val (.int 1), .val (.int c0)] [(.int 1), (.ref x0)])) rfl (by rw [hml]; rfl) (argsL := [(.int 1)]) (rest := []) (lenOf own_pd__28I_29C rfl) rfl (W := 0) (by show 2 * 0 + _ ≤ _; exact Nat.le_of_eq rfl) (hb hby own_d5_12) rfl (by decide) (by decide) ?_
      rintro rv26 T26 L26 X26 ⟨rfl, Nq26, eh26⟩
      have N26 := Fr.app N25 Nq26
      refine own_g (mkF m 19 #[.val (.ref x0), .val (.int 1), .val (.int c1)] [(.int 32), (.int c1)]) (fun _ q => XS.istoreN X26.here hx rfl (hb hby own_d5_15) rfl (l' := #[.val (.ref x0), .val (.int 1), .val (.int c1)]) rfl (XS.iloadN X26.here hx rfl (hb hby own_d5_16) rfl (XS.bipush X26.here hx rfl (hb hby own_d5_17) q))) ?_
      by_cases hc27 : c1 < (32 : Int32)
      · refine own_g (mkF m 25 #[.val (.ref x0), .val (.int 1), .val (.int c1)] [(.int 9), (.int c1)]) (fun _ q => XS.icmpNo X26.here hx rfl (hb hby own_d5_19) rfl (tlt hc27).2.1 (XS.iloadN X26.here hx rfl (hb hby own_d5_22) rfl (XS.bipush X26.here hx rfl (hb hby own_d5_23) q))) ?_
        by_cases hc28 : c1 = (9 : Int32)
        · refine own_g (mkF m 4 #[.val (.ref x0), .val (.int 2), .val (.int c1)] [(.ref x0), (.int 2)]) (fun _ q => XS.icmpNo X26.here hx rfl (hb hby own_d5_25) rfl (teq hc28).2 (XS.iloadN X26.here hx rfl (hb hby own_d5_28) rfl (XS.bipush X26.here hx rfl (hb hby own_d5_29) (XS.icmpYes X26.here hx rfl (pc0 := 31) (pc' := 36) rfl (hb hby own_d5_31) rfl (feq (own_clash hc28 (by decide))).2 (by decide) (by decide) (XS.iinc X26.here hx rfl (hb hby own_d5_36) rfl (l' := #[.val (.ref x0), .val (.int 2), .val (.int c1)]) rfl (XS.goto X26.here hx rfl (pc0 := 39) (pc' := 2) rfl (hb hby own_d5_39) (by decide) (by decide) (XS.iloadN X26.here hx rfl (hb hby own_d5_2) rfl (XS.aloadN X26.here hx rfl (hb hby own_d5_3) rfl rfl q)))))))) ?_
          refine own_callV X26 hx hZ (y := own_y9) (z := own_y9) hown (own_h hw 31 rfl) (own_h hw 32 rfl) (own_nf (own_h hw 34 rfl)) (own_h hw 34 rfl) (own_h hw 33 rfl) (own_h hw 35 rfl) (own_h hw 8 rfl) (by decide) E_x (own_len_1_3 l Z a0 hw [] x0 t kb c0 c1 c2 zCS fm h0 n0 Z0 S_CS nCS S_AD S_HI S_LO S_SF hfm O0 E_x V_x C_x K_t) (by decide) (by decide) eh26 (g := (mkF m 4 #[.val (.ref x0), .val (.int 2), .val (.int c1)] [(.ref x0), (.int 2)])) rfl (by rw [hml]; rfl) (argsL := []) (rest := [(.int 2)]) (lenOf own_pd__28_29I rfl) rfl (W := 1) (by show 2 * 0 + _ ≤ _; exact Nat.le_of_eq rfl) (hb hby own_d5_4) rfl (by decide) (by decide) ?_
          rintro rv29 T29 L29 X29 ⟨rfl, Nq29, eh29⟩
          have N29 := Fr.app N26 Nq29
          refine own_g (mkF m 12 #[.val (.ref x0), .val (.int 2), .val (.int c1)] [(.int 2), (.ref x0)]) (fun _ q => XS.icmpNo X29.here hx rfl (hb hby own_d5_7) rfl (tlt (by decide : (2 : Int32) < (3 : Int32))).2.1 (XS.aloadN X29.here hx rfl (hb hby own_d5_10) rfl rfl (XS.iloadN X29.here hx rfl (hb hby own_d5_11) rfl q))) ?_
          refine own_callV X29 hx hZ (y := own_y5) (z := own_y5) hown (own_h hw 55 rfl) (own_h hw 56 rfl) (own_nf (own_h hw 58 rfl)) (own_h hw 58 rfl) (own_h hw 57 rfl) (own_h hw 59 rfl) (own_h hw 8 rfl) (by decide) E_x (own_ch_1_3_2 l Z a0 hw [] x0 t kb c0 c1 c2 zCS fm h0 n0 Z0 S_CS nCS S_AD S_HI S_LO S_SF hfm O0 E_x V_x C_x K_t hb2 hn2) (by decide) (by decide) eh29 (g := (mkF m 12 #[.val (.ref x0), .val (.int 2), .val (.int c1)] [(.int 2), (.ref x0)])) rfl (by rw [hml]; rfl) (argsL := [(.int 2)]) (rest := []) (lenOf own_pd__28I_29C rfl) rfl (W := 0) (by show 2 * 0 + _ ≤ _; exact Nat.le_of_eq rfl) (hb hby own_d5_12) rfl (by decide) (by decide) ?_
          rintro rv30 T30 L30 X30 ⟨rfl, Nq30, eh30⟩
          have N30 := Fr.app N29 Nq30
          refine own_g (mkF m 19 #[.val (.ref x0), .val (.int 2), .val (.int c2)] [(.int 32), (.int c2)]) (fun _ q => XS.istoreN X30.here hx rfl (hb hby own_d5_15) rfl (l' := #[.val (.ref x0), .val (.int 2), .val (.int c2)]) rfl (XS.iloadN X30.here hx rfl (hb hby own_d5_16) rfl (XS.bipush X30.here hx rfl (hb hby own_d5_17) q))) ?_
          by_cases hc31 : c2 < (32 : Int32)
          · refine own_g (mkF m 25 #[.val (.ref x0), .val (.int 2), .val (.int c2)] [(.int 9), (.int c2)]) (fun _ q => XS.icmpNo X30.here hx rfl (hb hby own_d5_19) rfl (tlt hc31).2.1 (XS.iloadN X30.here hx rfl (hb hby own_d5_22) rfl (XS.bipush X30.here hx rfl (hb hby own_d5_23) q))) ?_
            by_cases hc32 : c2 = (9 : Int32)
            · refine own_g (mkF m 4 #[.val (.ref x0), .val (.int 3), .val (.int c2)] [(.ref x0), (.int 3)]) (fun _ q => XS.icmpNo X30.here hx rfl (hb hby own_d5_25) rfl (teq hc32).2 (XS.iloadN X30.here hx rfl (hb hby own_d5_28) rfl (XS.bipush X30.here hx rfl (hb hby own_d5_29) (XS.icmpYes X30.here hx rfl (pc0 := 31) (pc' := 36) rfl (hb hby own_d5_31) rfl (feq (own_clash hc32 (by decide))).2 (by decide) (by decide) (XS.iinc X30.here hx rfl (hb hby own_d5_36) rfl (l' := #[.val (.ref x0), .val (.int 3), .val (.int c2)]) rfl (XS.goto X30.here hx rfl (pc0 := 39) (pc' := 2) rfl (hb hby own_d5_39) (by decide) (by decide) (XS.iloadN X30.here hx rfl (hb hby own_d5_2) rfl (XS.aloadN X30.here hx rfl (hb hby own_d5_3) rfl rfl q)))))))) ?_
              refine own_callV X30 hx hZ (y := own_y9) (z := own_y9) hown (own_h hw 31 rfl) (own_h hw 32 rfl) (own_nf (own_h hw 34 rfl)) (own_h hw 34 rfl) (own_h hw 33 rfl) (own_h hw 35 rfl) (own_h hw 8 rfl) (by decide) E_x (own_len_1_3 l Z a0 hw [] x0 t kb c0 c1 c2 zCS fm h0 n0 Z0 S_CS nCS S_AD S_HI S_LO S_SF hfm O0 E_x V_x C_x K_t) (by decide) (by decide) eh30 (g := (mkF m 4 #[.val (.ref x0), .val (.int 3), .val (.int c2)] [(.ref x0), (.int 3)])) rfl (by rw [hml]; rfl) (argsL := []) (rest := [(.int 3)]) (lenOf own_pd__28_29I rfl) rfl (W := 1) (by show 2 * 0 + _ ≤ _; exact Nat.le_of_eq rfl) (hb hby own_d5_4) rfl (by decide) (by decide) ?_
              rintro rv33 T33 L33 X33 ⟨rfl, Nq33, eh33⟩
              have N33 := Fr.app N30 Nq33
              refine own_g (mkF m 43 #[.val (.ref x0), .val (.int 3), .val (.int c2)] [(.int 1)]) (fun _ q => XS.icmpYes X33.here hx rfl (pc0 := 7) (pc' := 42) rfl (hb hby own_d5_7) rfl (flt (by decide : ¬ ((3 : Int32) < (3 : Int32)))).2.1 (by decide) (by decide) (XS.iconst X33.here hx rfl (hb hby own_d5_42) q)) ?_
              exact own_end X33 (v := some (.int (nar .boolean (1 : Int32)))) (fun h => by rw [Bd.returns] at h; cases h) hlk (fun hr => retN X33 hx (t := .boolean) Bd.returns (by simp) (hb hby own_d5_43) hr) (by rw [eh33]; exact ⟨by first | rfl | (simp [own_b, own_ok, nar, hc3, hc24, hc27, hc28, hc31, hc32]; done) | (simp [own_b, own_ok, nar, hc3, hc24, hc27, hc28, hc31, hc32]; decide), N33, rfl⟩) (by decide) (by decide)
            · refine own_g (mkF m 35 #[.val (.ref x0), .val (.int 2), .val (.int c2)] [(.int 0)]) (fun _ q => XS.icmpYes X30.here hx rfl (pc0 := 25) (pc' := 34) rfl (hb hby own_d5_25) rfl (feq hc32).2 (by decide) (by decide) (XS.iconst X30.here hx rfl (hb hby own_d5_34) q)) ?_
              exact own_end X30 (v := some (.int (nar .boolean (0 : Int32)))) (fun h => by rw [Bd.returns] at h; cases h) hlk (fun hr => retN X30 hx (t := .boolean) Bd.returns (by simp) (hb hby own_d5_35) hr) (by rw [eh30]; exact ⟨by first | rfl | (simp [own_b, own_ok, nar, hc3, hc24, hc27, hc28, hc31, hc32]; done) | (simp [own_b, own_ok, nar, hc3, hc24, hc27, hc28, hc31, hc32]; decide), N30, rfl⟩) (by decide) (by decide)
          · refine own_g (mkF m 31 #[.val (.ref x0), .val (.int 2), .val (.int c2)] [(.int 127), (.int c2)]) (fun _ q => XS.icmpYes X30.here hx rfl (pc0 := 19) (pc' := 28) rfl (hb hby own_d5_19) rfl (flt hc31).2.1 (by decide) (by decide) (XS.iloadN X30.here hx rfl (hb hby own_d5_28) rfl (XS.bipush X30.here hx rfl (hb hby own_d5_29) q))) ?_
            by_cases hc34 : c2 = (127 : Int32)
            · refine own_g (mkF m 35 #[.val (.ref x0), .val (.int 2), .val (.int c2)] [(.int 0)]) (fun _ q => XS.icmpNo X30.here hx rfl (hb hby own_d5_31) rfl (teq hc34).2 (XS.iconst X30.here hx rfl (hb hby own_d5_34) q)) ?_
              exact own_end X30 (v := some (.int (nar .boolean (0 : Int32)))) (fun h => by rw [Bd.returns] at h; cases h) hlk (fun hr => retN X30 hx (t := .boolean) Bd.returns (by simp) (hb hby own_d5_35) hr) (by rw [eh30]; exact ⟨by first | rfl | (simp [own_b, own_ok, nar, hc3, hc24, hc27, hc28, hc31, hc34]; done) | (simp [own_b, own_ok, nar, hc3, hc24, hc27, hc28, hc31, hc34]; decide), N30, rfl⟩) (by decide) (by decide)
            · refine own_g (mkF m 4 #[.val (.ref x0), .val (.int 3), .val (.int c2)] [(.ref x0), (.int 3)]) (fun _ q => XS.icmpYes X30.here hx rfl (pc0 := 31) (pc' := 36) rfl (hb hby own_d5_31) rfl (feq hc34).2 (by decide) (by decide) (XS.iinc X30.here hx rfl (hb hby own_d5_36) rfl (l' := #[.val (.ref x0), .val (.int 3), .val (.int c2)]) rfl (XS.goto X30.here hx rfl (pc0 := 39) (pc' := 2) rfl (hb hby own_d5_39) (by decide) (by decide) (XS.iloadN X30.here hx rfl (hb hby own_d5_2) rfl (XS.aloadN X30.here hx rfl (hb hby own_d5_3) rfl rfl q))))) ?_
              refine own_callV X30 hx hZ (y := own_y9) (z := own_y9) hown (own_h hw 31 rfl) (own_h hw 32 rfl) (own_nf (own_h hw 34 rfl)) (own_h hw 34 rfl) (own_h hw 33 rfl) (own_h hw 35 rfl) (own_h hw 8 rfl) (by decide) E_x (own_len_1_3 l Z a0 hw [] x0 t kb c0 c1 c2 zCS fm h0 n0 Z0 S_CS nCS S_AD S_HI S_LO S_SF hfm O0 E_x V_x C_x K_t) (by decide) (by decide) eh30 (g := (mkF m 4 #[.val (.ref x0), .val (.int 3), .val (.int c2)] [(.ref x0), (.int 3)])) rfl (by rw [hml]; rfl) (argsL := []) (rest := [(.int 3)]) (lenOf own_pd__28_29I rfl) rfl (W := 1) (by show 2 * 0 + _ ≤ _; exact Nat.le_of_eq rfl) (hb hby own_d5_4) rfl (by decide) (by decide) ?_
              rintro rv35 T35 L35 X35 ⟨rfl, Nq35, eh35⟩
              have N35 := Fr.app N30 Nq35
              refine own_g (mkF m 43 #[.val (.ref x0), .val (.int 3), .val (.int c2)] [(.int 1)]) (fun _ q => XS.icmpYes X35.here hx rfl (pc0 := 7) (pc' := 42) rfl (hb hby own_d5_7) rfl (flt (by decide : ¬ ((3 : Int32) < (3 : Int32)))).2.1 (by decide) (by decide) (XS.iconst X35.here hx rfl (hb hby own_d5_42) q)) ?_
              exact own_end X35 (v := some (.int (nar .boolean (1 : Int32)))) (fun h => by rw [Bd.returns] at h; cases h) hlk (fun hr => retN X35 hx (t := .boolean) Bd.returns (by simp) (hb hby own_d5_43) hr) (by rw [eh35]; exact ⟨by first | rfl | (simp [own_b, own_ok, nar, hc3, hc24, hc27, hc28, hc31, hc34]; done) | (simp [own_b, own_ok, nar, hc3, hc24, hc27, hc28, hc31, hc34]; decide), N35, rfl⟩) (by decide) (by decide)
        · refine own_g (mkF m 35 #[.val (.ref x0), .val (.int 1), .val (.int c1)] [(.int 0)]) (fun _ q => XS.icmpYes X26.here hx rfl (pc0 := 25) (pc' := 34) rfl (hb hby own_d5_25) rfl (feq hc28).2 (by decide) (by decide) (XS.iconst X26.here hx rfl (hb hby own_d5_34) q)) ?_
          exact own_end X26 (v := some (.int (nar .boolean (0 : Int32)))) (fun h => by rw [Bd.returns] at h; cases h) hlk (fun hr => retN X26 hx (t := .boolean) Bd.returns (by simp) (hb hby own_d5_35) hr) (by rw [eh26]; exact ⟨by first | rfl | (simp [own_b, own_ok, nar, hc3, hc24, hc27, hc28]; done) | (simp [own_b, own_ok, nar, hc3, hc24, hc27, hc28]; decide), N26, rfl⟩) (by decide) (by decide)
      · refine own_g (mkF m 31 #[.val (.ref x0), .val (.int 1), .val (.int c1)] [(.int 127), (.int c1)]) (fun _ q => XS.icmpYes X26.here hx rfl (pc0 := 19) (pc' := 28) rfl (hb hby own_d5_19) rfl (flt hc27).2.1 (by decide) (by decide) (XS.iloadN X26.here hx rfl (hb hby own_d5_28) rfl (XS.bipush X26.here hx rfl (hb hby own_d5_29) q))) ?_
        by_cases hc36 : c1 = (127 : Int32)
        · refine own_g (mkF m 35 #[.val (.ref x0), .val (.int 1), .val (.int c1)] [(.int 0)]) (fun _ q => XS.icmpNo X26.here hx rfl (hb hby own_d5_31) rfl (teq hc36).2 (XS.iconst X26.here hx rfl (hb hby own_d5_34) q)) ?_
          exact own_end X26 (v := some (.int (nar .boolean (0 : Int32)))) (fun h => by rw [Bd.returns] at h; cases h) hlk (fun hr => retN X26 hx (t := .boolean) Bd.returns (by simp) (hb hby own_d5_35) hr) (by rw [eh26]; exact ⟨by first | rfl | (simp [own_b, own_ok, nar, hc3, hc24, hc27, hc36]; done) | (simp [own_b, own_ok, nar, hc3, hc24, hc27, hc36]; decide), N26, rfl⟩) (by decide) (by decide)
        · refine own_g (mkF m 4 #[.val (.ref x0), .val (.int 2), .val (.int c1)] [(.ref x0), (.int 2)]) (fun _ q => XS.icmpYes X26.here hx rfl (pc0 := 31) (pc' := 36) rfl (hb hby own_d5_31) rfl (feq hc36).2 (by decide) (by decide) (XS.iinc X26.here hx rfl (hb hby own_d5_36) rfl (l' := #[.val (.ref x0), .val (.int 2), .val (.int c1)]) rfl (XS.goto X26.here hx rfl (pc0 := 39) (pc' := 2) rfl (hb hby own_d5_39) (by decide) (by decide) (XS.iloadN X26.here hx rfl (hb hby own_d5_2) rfl (XS.aloadN X26.here hx rfl (hb hby own_d5_3) rfl rfl q))))) ?_
          refine own_callV X26 hx hZ (y := own_y9) (z := own_y9) hown (own_h hw 31 rfl) (own_h hw 32 rfl) (own_nf (own_h hw 34 rfl)) (own_h hw 34 rfl) (own_h hw 33 rfl) (own_h hw 35 rfl) (own_h hw 8 rfl) (by decide) E_x (own_len_1_3 l Z a0 hw [] x0 t kb c0 c1 c2 zCS fm h0 n0 Z0 S_CS nCS S_AD S_HI S_LO S_SF hfm O0 E_x V_x C_x K_t) (by decide) (by decide) eh26 (g := (mkF m 4 #[.val (.ref x0), .val (.int 2), .val (.int c1)] [(.ref x0), (.int 2)])) rfl (by rw [hml]; rfl) (argsL := []) (rest := [(.int 2)]) (lenOf own_pd__28_29I rfl) rfl (W := 1) (by show 2 * 0 + _ ≤ _; exact Nat.le_of_eq rfl) (hb hby own_d5_4) rfl (by decide) (by decide) ?_
          rintro rv37 T37 L37 X37 ⟨rfl, Nq37, eh37⟩
          have N37 := Fr.app N26 Nq37
          refine own_g (mkF m 12 #[.val (.ref x0), .val (.int 2), .val (.int c1)] [(.int 2), (.ref x0)]) (fun _ q => XS.icmpNo X37.here hx rfl (hb hby own_d5_7) rfl (tlt (by decide : (2 : Int32) < (3 : Int32))).2.1 (XS.aloadN X37.here hx rfl (hb hby own_d5_10) rfl rfl (XS.iloadN X37.here hx rfl (hb hby own_d5_11) rfl q))) ?_
          refine own_callV X37 hx hZ (y := own_y5) (z := own_y5) hown (own_h hw 55 rfl) (own_h hw 56 rfl) (own_nf (own_h hw 58 rfl)) (own_h hw 58 rfl) (own_h hw 57 rfl) (own_h hw 59 rfl) (own_h hw 8 rfl) (by decide) E_x (own_ch_1_3_2 l Z a0 hw [] x0 t kb c0 c1 c2 zCS fm h0 n0 Z0 S_CS nCS S_AD S_HI S_LO S_SF hfm O0 E_x V_x C_x K_t hb2 hn2) (by decide) (by decide) eh37 (g := (mkF m 12 #[.val (.ref x0), .val (.int 2), .val (.int c1)] [(.int 2), (.ref x0)])) rfl (by rw [hml]; rfl) (argsL := [(.int 2)]) (rest := []) (lenOf own_pd__28I_29C rfl) rfl (W := 0) (by show 2 * 0 + _ ≤ _; exact Nat.le_of_eq rfl) (hb hby own_d5_12) rfl (by decide) (by decide) ?_
          rintro rv38 T38 L38 X38 ⟨rfl, Nq38, eh38⟩
          have N38 := Fr.app N37 Nq38
          refine own_g (mkF m 19 #[.val (.ref x0), .val (.int 2), .val (.int c2)] [(.int 32), (.int c2)]) (fun _ q => XS.istoreN X38.here hx rfl (hb hby own_d5_15) rfl (l' := #[.val (.ref x0), .val (.int 2), .val (.int c2)]) rfl (XS.iloadN X38.here hx rfl (hb hby own_d5_16) rfl (XS.bipush X38.here hx rfl (hb hby own_d5_17) q))) ?_
          by_cases hc39 : c2 < (32 : Int32)
          · refine own_g (mkF m 25 #[.val (.ref x0), .val (.int 2), .val (.int c2)] [(.int 9), (.int c2)]) (fun _ q => XS.icmpNo X38.here hx rfl (hb hby own_d5_19) rfl (tlt hc39).2.1 (XS.iloadN X38.here hx rfl (hb hby own_d5_22) rfl (XS.bipush X38.here hx rfl (hb hby own_d5_23) q))) ?_
            by_cases hc40 : c2 = (9 : Int32)
            · refine own_g (mkF m 4 #[.val (.ref x0), .val (.int 3), .val (.int c2)] [(.ref x0), (.int 3)]) (fun _ q => XS.icmpNo X38.here hx rfl (hb hby own_d5_25) rfl (teq hc40).2 (XS.iloadN X38.here hx rfl (hb hby own_d5_28) rfl (XS.bipush X38.here hx rfl (hb hby own_d5_29) (XS.icmpYes X38.here hx rfl (pc0 := 31) (pc' := 36) rfl (hb hby own_d5_31) rfl (feq (own_clash hc40 (by decide))).2 (by decide) (by decide) (XS.iinc X38.here hx rfl (hb hby own_d5_36) rfl (l' := #[.val (.ref x0), .val (.int 3), .val (.int c2)]) rfl (XS.goto X38.here hx rfl (pc0 := 39) (pc' := 2) rfl (hb hby own_d5_39) (by decide) (by decide) (XS.iloadN X38.here hx rfl (hb hby own_d5_2) rfl (XS.aloadN X38.here hx rfl (hb hby own_d5_3) rfl rfl q)))))))) ?_
              refine own_callV X38 hx hZ (y := own_y9) (z := own_y9) hown (own_h hw 31 rfl) (own_h hw 32 rfl) (own_nf (own_h hw 34 rfl)) (own_h hw 34 rfl) (own_h hw 33 rfl) (own_h hw 35 rfl) (own_h hw 8 rfl) (by decide) E_x (own_len_1_3 l Z a0 hw [] x0 t kb c0 c1 c2 zCS fm h0 n0 Z0 S_CS nCS S_AD S_HI S_LO S_SF hfm O0 E_x V_x C_x K_t) (by decide) (by decide) eh38 (g := (mkF m 4 #[.val (.ref x0), .val (.int 3), .val (.int c2)] [(.ref x0), (.int 3)])) rfl (by rw [hml]; rfl) (argsL := []) (rest := [(.int 3)]) (lenOf own_pd__28_29I rfl) rfl (W := 1) (by show 2 * 0 + _ ≤ _; exact Nat.le_of_eq rfl) (hb hby own_d5_4) rfl (by decide) (by decide) ?_
              rintro rv41 T41 L41 X41 ⟨rfl, Nq41, eh41⟩
              have N41 := Fr.app N38 Nq41
              refine own_g (mkF m 43 #[.val (.ref x0), .val (.int 3), .val (.int c2)] [(.int 1)]) (fun _ q => XS.icmpYes X41.here hx rfl (pc0 := 7) (pc' := 42) rfl (hb hby own_d5_7) rfl (flt (by decide : ¬ ((3 : Int32) < (3 : Int32)))).2.1 (by decide) (by decide) (XS.iconst X41.here hx rfl (hb hby own_d5_42) q)) ?_
              exact own_end X41 (v := some (.int (nar .boolean (1 : Int32)))) (fun h => by rw [Bd.returns] at h; cases h) hlk (fun hr => retN X41 hx (t := .boolean) Bd.returns (by simp) (hb hby own_d5_43) hr) (by rw [eh41]; exact ⟨by first | rfl | (simp [own_b, own_ok, nar, hc3, hc24, hc27, hc36, hc39, hc40]; done) | (simp [own_b, own_ok, nar, hc3, hc24, hc27, hc36, hc39, hc40]; decide), N41, rfl⟩) (by decide) (by decide)
            · refine own_g (mkF m 35 #[.val (.ref x0), .val (.int 2), .val (.int c2)] [(.int 0)]) (fun _ q => XS.icmpYes X38.here hx rfl (pc0 := 25) (pc' := 34) rfl (hb hby own_d5_25) rfl (feq hc40).2 (by decide) (by decide) (XS.iconst X38.here hx rfl (hb hby own_d5_34) q)) ?_
              exact own_end X38 (v := some (.int (nar .boolean (0 : Int32)))) (fun h => by rw [Bd.returns] at h; cases h) hlk (fun hr => retN X38 hx (t := .boolean) Bd.returns (by simp) (hb hby own_d5_35) hr) (by rw [eh38]; exact ⟨by first | rfl | (simp [own_b, own_ok, nar, hc3, hc24, hc27, hc36, hc39, hc40]; done) | (simp [own_b, own_ok, nar, hc3, hc24, hc27, hc36, hc39, hc40]; decide), N38, rfl⟩) (by decide) (by decide)
          · refine own_g (mkF m 31 #[.val (.ref x0), .val (.int 2), .val (.int c2)] [(.int 127), (.int c2)]) (fun _ q => XS.icmpYes X38.here hx rfl (pc0 := 19) (pc' := 28) rfl (hb hby own_d5_19) rfl (flt hc39).2.1 (by decide) (by decide) (XS.iloadN X38.here hx rfl (hb hby own_d5_28) rfl (XS.bipush X38.here hx rfl (hb hby own_d5_29) q))) ?_
            by_cases hc42 : c2 = (127 : Int32)
            · refine own_g (mkF m 35 #[.val (.ref x0), .val (.int 2), .val (.int c2)] [(.int 0)]) (fun _ q => XS.icmpNo X38.here hx rfl (hb hby own_d5_31) rfl (teq hc42).2 (XS.iconst X38.here hx rfl (hb hby own_d5_34) q)) ?_
              exact own_end X38 (v := some (.int (nar .boolean (0 : Int32)))) (fun h => by rw [Bd.returns] at h; cases h) hlk (fun hr => retN X38 hx (t := .boolean) Bd.returns (by simp) (hb hby own_d5_35) hr) (by rw [eh38]; exact ⟨by first | rfl | (simp [own_b, own_ok, nar, hc3, hc24, hc27, hc36, hc39, hc42]; done) | (simp [own_b, own_ok, nar, hc3, hc24, hc27, hc36, hc39, hc42]; decide), N38, rfl⟩) (by decide) (by decide)
            · refine own_g (mkF m 4 #[.val (.ref x0), .val (.int 3), .val (.int c2)] [(.ref x0), (.int 3)]) (fun _ q => XS.icmpYes X38.here hx rfl (pc0 := 31) (pc' := 36) rfl (hb hby own_d5_31) rfl (feq hc42).2 (by decide) (by decide) (XS.iinc X38.here hx rfl (hb hby own_d5_36) rfl (l' := #[.val (.ref x0), .val (.int 3), .val (.int c2)]) rfl (XS.goto X38.here hx rfl (pc0 := 39) (pc' := 2) rfl (hb hby own_d5_39) (by decide) (by decide) (XS.iloadN X38.here hx rfl (hb hby own_d5_2) rfl (XS.aloadN X38.here hx rfl (hb hby own_d5_3) rfl rfl q))))) ?_
              refine own_callV X38 hx hZ (y := own_y9) (z := own_y9) hown (own_h hw 31 rfl) (own_h hw 32 rfl) (own_nf (own_h hw 34 rfl)) (own_h hw 34 rfl) (own_h hw 33 rfl) (own_h hw 35 rfl) (own_h hw 8 rfl) (by decide) E_x (own_len_1_3 l Z a0 hw [] x0 t kb c0 c1 c2 zCS fm h0 n0 Z0 S_CS nCS S_AD S_HI S_LO S_SF hfm O0 E_x V_x C_x K_t) (by decide) (by decide) eh38 (g := (mkF m 4 #[.val (.ref x0), .val (.int 3), .val (.int c2)] [(.ref x0), (.int 3)])) rfl (by rw [hml]; rfl) (argsL := []) (rest := [(.int 3)]) (lenOf own_pd__28_29I rfl) rfl (W := 1) (by show 2 * 0 + _ ≤ _; exact Nat.le_of_eq rfl) (hb hby own_d5_4) rfl (by decide) (by decide) ?_
              rintro rv43 T43 L43 X43 ⟨rfl, Nq43, eh43⟩
              have N43 := Fr.app N38 Nq43
              refine own_g (mkF m 43 #[.val (.ref x0), .val (.int 3), .val (.int c2)] [(.int 1)]) (fun _ q => XS.icmpYes X43.here hx rfl (pc0 := 7) (pc' := 42) rfl (hb hby own_d5_7) rfl (flt (by decide : ¬ ((3 : Int32) < (3 : Int32)))).2.1 (by decide) (by decide) (XS.iconst X43.here hx rfl (hb hby own_d5_42) q)) ?_
              exact own_end X43 (v := some (.int (nar .boolean (1 : Int32)))) (fun h => by rw [Bd.returns] at h; cases h) hlk (fun hr => retN X43 hx (t := .boolean) Bd.returns (by simp) (hb hby own_d5_43) hr) (by rw [eh43]; exact ⟨by first | rfl | (simp [own_b, own_ok, nar, hc3, hc24, hc27, hc36, hc39, hc42]; done) | (simp [own_b, own_ok, nar, hc3, hc24, hc27, hc36, hc39, hc42]; decide), N43, rfl⟩) (by decide) (by decide)
theorem own_d1_0 : decode method_2_code 0 = .ok (.iload_n 0, 1) := by decide +kernel
theorem own_d1_1 : decode method_2_code 1 = .ok (.ldc 7, 2) := by decide +kernel
theorem own_d1_3 : decode method_2_code 3 = .ok (.iand, 1) := by decide +kernel
theorem own_d1_4 : decode method_2_code 4 = .ok (.ifCond .eq 9, 3) := by decide +kernel
theorem own_d1_13 : decode method_2_code 13 = .ok (.iload_n 0, 1) := by decide +kernel
theorem own_d1_14 : decode method_2_code 14 = .ok (.sipush 255, 3) := by decide +kernel
theorem own_d1_17 : decode method_2_code 17 = .ok (.iand, 1) := by decide +kernel
theorem own_d1_18 : decode method_2_code 18 = .ok (.i2c, 1) := by decide +kernel
theorem own_d1_19 : decode method_2_code 19 = .ok (.ireturn, 1) := by decide +kernel
theorem own_d1_7 : decode method_2_code 7 = .ok (.iload_n 0, 1) := by decide +kernel
theorem own_d1_8 : decode method_2_code 8 = .ok (.ldc 8, 2) := by decide +kernel
theorem own_d1_10 : decode method_2_code 10 = .ok (.iand, 1) := by decide +kernel
theorem own_d1_11 : decode method_2_code 11 = .ok (.i2c, 1) := by decide +kernel
theorem own_d1_12 : decode method_2_code 12 = .ok (.ireturn, 1) := by decide +kernel
theorem own_pk_ef (m : MethodId) (p0 : Int32) : entryFrame m #[(.int p0)] 1 = mkF m 0 #[.val (.int p0)] [] := by  first | (simp [entryFrame, mkF, argsToLocals, Value.category]; done) | rfl
def own_pk_Q (Z : State) (p0 : Int32) (zCS : Int32) (fm : Value) (h0 : Heap) (n0 : Nat) (v : Option Value) (h : Heap) (L : List Loc) : Prop := (∃ r : Int32, v = some (.int r) ∧ nar .char r = r ∧ ¬ r < 0 ∧ ¬ (65535 : Int32) < r) ∧ Fr n0 L ∧ h = h0
theorem own_pn_com_example_stepgate_stepgate_http_Http1FieldsIsFieldValuePinLaw : plainName "com/example/stepgate/stepgate/http/Http1FieldsIsFieldValuePinLaw" = true := by first | (simp [plainName, overriddenIn]; done) | decide +kernel
set_option maxRecDepth 65536 in
set_option maxHeartbeats 40000000 in
theorem own_pk (l : Launch) (Z : State) (a0 : Array Value) (hw : ∀ d ∈ tables_1, d.before a0 Z = true) (ws : List Jvm.Cond) (p0 : Int32) (zCS : Int32) (fm : Value) (h0 : Heap) (n0 : Nat) (Z0 : n0 ≤ h0.size) (S_CS : own_A0 Z zCS) (nCS : ¬ zCS = 0) (S_AD : own_A1 Z) (S_HI : own_A2 Z) (S_LO : own_A3 Z) (S_SF : own_A4 Z fm) (hfm : fm.isRef = true) (O0 : Old Z n0 h0) :
    MetFree l own_y2 (head1 (Jvm.Cond.code own_y2 method_2_code 1 (some .char) :: ws) (⟨0, 0, 0, 0⟩ : Room)) (fun aa U => aa = #[(.int p0)] ∧ Z.Warmed39 U.vm ∧ U.heap = h0) (fun _ _ _ _ _ => True) (fun _ U o U' => ∃ v L, o = .returned v ∧ own_pk_Q Z p0 zCS fm h0 n0 v U'.heap L ∧ FrameEnd U o U' L (⟨0, 0, 0, 0⟩ : Room).cells (⟨0, 0, 0, 0⟩ : Room).slots) := by
  refine MetFree.of_bodySF (plainFor_of_name own_pn_com_example_stepgate_stepgate_http_Http1FieldsIsFieldValuePinLaw) hisR ?_
  intro p e s m args below meth c s₁ Bd hml0 hP hK
  obtain ⟨rfl, hZ, hh⟩ := hP
  have hx := Bd.exec
  have hby := Bd.bytes
  have hml : c.maxLocals = 1 := hml0
  have hown : s.vm.findClass "com/example/stepgate/stepgate/http/Http1FieldsIsFieldValuePinLaw" = some m.cls := findClass_of_methodNamed Bd.named
  have hnm := (name_of_methodNamed Bd.named Bd.method).1
  have hlk := Bd.notSynchronized
  have X0 : Stand p l e (⟨0, 0, 0, 0⟩ : Room) s m #[(.int p0)] below meth c s₁ [] 0 0 := Stand.of_body Bd
  have e0 : s₁.heap = h0 := by rw [← hh, Bd.state]; rfl
  have N0 := Fr.nil n0
  refine own_start (Q := own_pk_Q Z p0 zCS fm h0 n0) (own_pk_ef m p0) ?_
  refine own_g (mkF m 1 #[.val (.int p0)] [(.int p0)]) (fun _ q => XS.iloadN X0.here hx rfl (hb hby own_d1_0) rfl q) ?_
  refine own_by (g' := (mkF m 3 #[.val (.int p0)] [(.int 65536), (.int p0)])) (fun _ kq => X0.ldcInt hx hown (mvT hZ (own_h hw 4 rfl)) (g := (mkF m 1 #[.val (.int p0)] [(.int p0)])) rfl (hb hby own_d1_1) _ kq) ?_
  refine own_g (mkF m 4 #[.val (.int p0)] [(.int (p0 &&& (65536 : Int32)))]) (fun _ q => XS.iand X0.here hx rfl (hb hby own_d1_3) rfl q) ?_
  by_cases hc1 : (p0 &&& (65536 : Int32)) = (0 : Int32)
  · refine own_g (mkF m 19 #[.val (.int p0)] [(.int ((p0 &&& (255 : Int32)).toUInt32.toUInt16.toUInt32.toInt32))]) (fun _ q => XS.ifYes X0.here hx rfl (pc0 := 4) (pc' := 13) rfl (hb hby own_d1_4) rfl ((if0 _ _).trans (teq hc1).1) (by decide) (by decide) (XS.iloadN X0.here hx rfl (hb hby own_d1_13) rfl (XS.sipush X0.here hx rfl (hb hby own_d1_14) (XS.iand X0.here hx rfl (hb hby own_d1_17) rfl (XS.i2c X0.here hx rfl (hb hby own_d1_18) rfl q))))) ?_
    exact own_end X0 (v := some (.int (nar .char ((p0 &&& (255 : Int32)).toUInt32.toUInt16.toUInt32.toInt32)))) (fun h => by rw [Bd.returns] at h; cases h) hlk (fun hr => retN X0 hx (t := .char) Bd.returns (by simp) (hb hby own_d1_19) hr) (by rw [e0]; exact ⟨⟨_, rfl, own_narnar _, own_ch16 _⟩, N0, rfl⟩) (by decide) (by decide)
  · refine own_g (mkF m 8 #[.val (.int p0)] [(.int p0)]) (fun _ q => XS.ifNo X0.here hx rfl (hb hby own_d1_4) rfl ((if0 _ _).trans (feq hc1).1) (XS.iloadN X0.here hx rfl (hb hby own_d1_7) rfl q)) ?_
    refine own_by (g' := (mkF m 10 #[.val (.int p0)] [(.int 65535), (.int p0)])) (fun _ kq => X0.ldcInt hx hown (mvT hZ (own_h hw 77 rfl)) (g := (mkF m 8 #[.val (.int p0)] [(.int p0)])) rfl (hb hby own_d1_8) _ kq) ?_
    refine own_g (mkF m 12 #[.val (.int p0)] [(.int ((p0 &&& (65535 : Int32)).toUInt32.toUInt16.toUInt32.toInt32))]) (fun _ q => XS.iand X0.here hx rfl (hb hby own_d1_10) rfl (XS.i2c X0.here hx rfl (hb hby own_d1_11) rfl q)) ?_
    exact own_end X0 (v := some (.int (nar .char ((p0 &&& (65535 : Int32)).toUInt32.toUInt16.toUInt32.toInt32)))) (fun h => by rw [Bd.returns] at h; cases h) hlk (fun hr => retN X0 hx (t := .char) Bd.returns (by simp) (hb hby own_d1_12) hr) (by rw [e0]; exact ⟨⟨_, rfl, own_narnar _, own_ch16 _⟩, N0, rfl⟩) (by decide) (by decide)
theorem own_d11_0 : decode method_3_code 0 = .ok (.iload_n 0, 1) := by decide +kernel
theorem own_d11_1 : decode method_3_code 1 = .ok (.bipush 9, 2) := by decide +kernel
theorem own_d11_3 : decode method_3_code 3 = .ok (.if_icmp .ne 5, 3) := by decide +kernel
theorem own_d11_6 : decode method_3_code 6 = .ok (.iconst 1, 1) := by decide +kernel
theorem own_d11_7 : decode method_3_code 7 = .ok (.ireturn, 1) := by decide +kernel
theorem own_d11_8 : decode method_3_code 8 = .ok (.iload_n 0, 1) := by decide +kernel
theorem own_d11_9 : decode method_3_code 9 = .ok (.bipush 32, 2) := by decide +kernel
theorem own_d11_11 : decode method_3_code 11 = .ok (.if_icmp .ge 5, 3) := by decide +kernel
theorem own_d11_14 : decode method_3_code 14 = .ok (.iconst 0, 1) := by decide +kernel
theorem own_d11_15 : decode method_3_code 15 = .ok (.ireturn, 1) := by decide +kernel
theorem own_d11_16 : decode method_3_code 16 = .ok (.iload_n 0, 1) := by decide +kernel
theorem own_d11_17 : decode method_3_code 17 = .ok (.bipush 127, 2) := by decide +kernel
theorem own_d11_19 : decode method_3_code 19 = .ok (.if_icmp .ne 5, 3) := by decide +kernel
theorem own_d11_22 : decode method_3_code 22 = .ok (.iconst 0, 1) := by decide +kernel
theorem own_d11_23 : decode method_3_code 23 = .ok (.ireturn, 1) := by decide +kernel
theorem own_d11_24 : decode method_3_code 24 = .ok (.iconst 1, 1) := by decide +kernel
theorem own_d11_25 : decode method_3_code 25 = .ok (.ireturn, 1) := by decide +kernel
theorem own_al_ef (m : MethodId) (c0 : Int32) : entryFrame m #[(.int c0)] 1 = mkF m 0 #[.val (.int c0)] [] := by  first | (simp [entryFrame, mkF, argsToLocals, Value.category]; done) | rfl
def own_al_Q (Z : State) (c0 : Int32) (zCS : Int32) (fm : Value) (h0 : Heap) (n0 : Nat) (v : Option Value) (h : Heap) (L : List Loc) : Prop := v = some (.int (own_b (own_ok c0))) ∧ Fr n0 L ∧ h = h0
set_option maxRecDepth 65536 in
set_option maxHeartbeats 40000000 in
theorem own_al (l : Launch) (Z : State) (a0 : Array Value) (hw : ∀ d ∈ tables_1, d.before a0 Z = true) (ws : List Jvm.Cond) (c0 : Int32) (zCS : Int32) (fm : Value) (h0 : Heap) (n0 : Nat) (Z0 : n0 ≤ h0.size) (S_CS : own_A0 Z zCS) (nCS : ¬ zCS = 0) (S_AD : own_A1 Z) (S_HI : own_A2 Z) (S_LO : own_A3 Z) (S_SF : own_A4 Z fm) (hfm : fm.isRef = true) (O0 : Old Z n0 h0) :
    MetFree l own_y1 (head1 (Jvm.Cond.code own_y1 method_3_code 1 (some .boolean) :: ws) (⟨0, 0, 0, 0⟩ : Room)) (fun aa U => aa = #[(.int c0)] ∧ Z.Warmed39 U.vm ∧ U.heap = h0) (fun _ _ _ _ _ => True) (fun _ U o U' => ∃ v L, o = .returned v ∧ own_al_Q Z c0 zCS fm h0 n0 v U'.heap L ∧ FrameEnd U o U' L (⟨0, 0, 0, 0⟩ : Room).cells (⟨0, 0, 0, 0⟩ : Room).slots) := by
  refine MetFree.of_bodySF (plainFor_of_name own_pn_com_example_stepgate_stepgate_http_Http1FieldsIsFieldValuePinLaw) hisR ?_
  intro p e s m args below meth c s₁ Bd hml0 hP hK
  obtain ⟨rfl, hZ, hh⟩ := hP
  have hx := Bd.exec
  have hby := Bd.bytes
  have hml : c.maxLocals = 1 := hml0
  have hown : s.vm.findClass "com/example/stepgate/stepgate/http/Http1FieldsIsFieldValuePinLaw" = some m.cls := findClass_of_methodNamed Bd.named
  have hnm := (name_of_methodNamed Bd.named Bd.method).1
  have hlk := Bd.notSynchronized
  have X0 : Stand p l e (⟨0, 0, 0, 0⟩ : Room) s m #[(.int c0)] below meth c s₁ [] 0 0 := Stand.of_body Bd
  have e0 : s₁.heap = h0 := by rw [← hh, Bd.state]; rfl
  have N0 := Fr.nil n0
  refine own_start (Q := own_al_Q Z c0 zCS fm h0 n0) (own_al_ef m c0) ?_
  refine own_g (mkF m 3 #[.val (.int c0)] [(.int 9), (.int c0)]) (fun _ q => XS.iloadN X0.here hx rfl (hb hby own_d11_0) rfl (XS.bipush X0.here hx rfl (hb hby own_d11_1) q)) ?_
  by_cases hc1 : c0 = (9 : Int32)
  · refine own_g (mkF m 7 #[.val (.int c0)] [(.int 1)]) (fun _ q => XS.icmpNo X0.here hx rfl (hb hby own_d11_3) rfl (teq hc1).2 (XS.iconst X0.here hx rfl (hb hby own_d11_6) q)) ?_
    exact own_end X0 (v := some (.int (nar .boolean (1 : Int32)))) (fun h => by rw [Bd.returns] at h; cases h) hlk (fun hr => retN X0 hx (t := .boolean) Bd.returns (by simp) (hb hby own_d11_7) hr) (by rw [e0]; exact ⟨by first | rfl | (simp [own_b, own_ok, nar, hc1]; done) | (simp [own_b, own_ok, nar, hc1]; decide), N0, rfl⟩) (by decide) (by decide)
  · refine own_g (mkF m 11 #[.val (.int c0)] [(.int 32), (.int c0)]) (fun _ q => XS.icmpYes X0.here hx rfl (pc0 := 3) (pc' := 8) rfl (hb hby own_d11_3) rfl (feq hc1).2 (by decide) (by decide) (XS.iloadN X0.here hx rfl (hb hby own_d11_8) rfl (XS.bipush X0.here hx rfl (hb hby own_d11_9) q))) ?_
    by_cases hc2 : c0 < (32 : Int32)
    · refine own_g (mkF m 15 #[.val (.int c0)] [(.int 0)]) (fun _ q => XS.icmpNo X0.here hx rfl (hb hby own_d11_11) rfl (tlt hc2).2.1 (XS.iconst X0.here hx rfl (hb hby own_d11_14) q)) ?_
      exact own_end X0 (v := some (.int (nar .boolean (0 : Int32)))) (fun h => by rw [Bd.returns] at h; cases h) hlk (fun hr => retN X0 hx (t := .boolean) Bd.returns (by simp) (hb hby own_d11_15) hr) (by rw [e0]; exact ⟨by first | rfl | (simp [own_b, own_ok, nar, hc1, hc2]; done) | (simp [own_b, own_ok, nar, hc1, hc2]; decide), N0, rfl⟩) (by decide) (by decide)
    · refine own_g (mkF m 19 #[.val (.int c0)] [(.int 127), (.int c0)]) (fun _ q => XS.icmpYes X0.here hx rfl (pc0 := 11) (pc' := 16) rfl (hb hby own_d11_11) rfl (flt hc2).2.1 (by decide) (by decide) (XS.iloadN X0.here hx rfl (hb hby own_d11_16) rfl (XS.bipush X0.here hx rfl (hb hby own_d11_17) q))) ?_
      by_cases hc3 : c0 = (127 : Int32)
      · refine own_g (mkF m 23 #[.val (.int c0)] [(.int 0)]) (fun _ q => XS.icmpNo X0.here hx rfl (hb hby own_d11_19) rfl (teq hc3).2 (XS.iconst X0.here hx rfl (hb hby own_d11_22) q)) ?_
        exact own_end X0 (v := some (.int (nar .boolean (0 : Int32)))) (fun h => by rw [Bd.returns] at h; cases h) hlk (fun hr => retN X0 hx (t := .boolean) Bd.returns (by simp) (hb hby own_d11_23) hr) (by rw [e0]; exact ⟨by first | rfl | (simp [own_b, own_ok, nar, hc1, hc2, hc3]; done) | (simp [own_b, own_ok, nar, hc1, hc2, hc3]; decide), N0, rfl⟩) (by decide) (by decide)
      · refine own_g (mkF m 25 #[.val (.int c0)] [(.int 1)]) (fun _ q => XS.icmpYes X0.here hx rfl (pc0 := 19) (pc' := 24) rfl (hb hby own_d11_19) rfl (feq hc3).2 (by decide) (by decide) (XS.iconst X0.here hx rfl (hb hby own_d11_24) q)) ?_
        exact own_end X0 (v := some (.int (nar .boolean (1 : Int32)))) (fun h => by rw [Bd.returns] at h; cases h) hlk (fun hr => retN X0 hx (t := .boolean) Bd.returns (by simp) (hb hby own_d11_25) hr) (by rw [e0]; exact ⟨by first | rfl | (simp [own_b, own_ok, nar, hc1, hc2, hc3]; done) | (simp [own_b, own_ok, nar, hc1, hc2, hc3]; decide), N0, rfl⟩) (by decide) (by decide)
theorem own_and3 (y : Int32) : 0 ≤ (y &&& (3 : Int32)).toInt ∧ (y &&& (3 : Int32)).toInt ≤ 3 := c_and y 3 (by decide)
theorem own_four {k : Int32} (hr : 0 ≤ k.toInt ∧ k.toInt ≤ 3) : k = (0 : Int32) ∨ k = (1 : Int32) ∨ k = (2 : Int32) ∨ k = (3 : Int32) := by
  by_cases h0 : k = (0 : Int32)
  · exact Or.inl h0
  by_cases h1 : k = (1 : Int32)
  · exact Or.inr (Or.inl h1)
  by_cases h2 : k = (2 : Int32)
  · exact Or.inr (Or.inr (Or.inl h2))
  have a0 := own_neI h0
  have a1 := own_neI h1
  have a2 := own_neI h2
  have e0 : (0 : Int32).toInt = 0 := by decide
  have e1 : (1 : Int32).toInt = 1 := by decide
  have e2 : (2 : Int32).toInt = 2 := by decide
  have e3 : (3 : Int32).toInt = 3 := by decide
  refine Or.inr (Or.inr (Or.inr (own_eqI ?_)))
  omega
theorem own_pd__28_5bC_29V : parseMethodDescriptor "([C)V" = some ⟨[(.array .char)], none⟩ := by decide +kernel
theorem own_pd__28Ljava_2flang_2fString_3b_29Z : parseMethodDescriptor "(Ljava/lang/String;)Z" = some ⟨[(.object "java/lang/String")], some .boolean⟩ := by decide +kernel
theorem own_pd__28C_29Z : parseMethodDescriptor "(C)Z" = some ⟨[.char], some .boolean⟩ := by decide +kernel
theorem own_rm0_ef (m : MethodId) (p0 : Int32) (p1 : Int32) (p2 : Int32) (p3 : Int32) : entryFrame m #[(.int p0), (.int p1), (.int p2), (.int p3)] maxLocals = mkF m 0 #[.val (.int p0), .val (.int p1), .val (.int p2), .val (.int p3), .unset, .unset, .unset, .unset, .unset, .unset, .unset] [] := by  first | (simp [entryFrame, mkF, argsToLocals, Value.category, maxLocals]; done) | rfl
def own_rm0_Q (Z : State) (p0 : Int32) (p1 : Int32) (p2 : Int32) (p3 : Int32) (zCS : Int32) (fm : Value) (h0 : Heap) (n0 : Nat) (v : Option Value) (h : Heap) (L : List Loc) : Prop := v = some (.int 1) ∧ Fr n0 L
set_option maxRecDepth 65536 in
set_option maxHeartbeats 40000000 in
theorem own_rm0 (l : Launch) (Z : State) (a0 : Array Value) (hw : ∀ d ∈ tables_1, d.before a0 Z = true) (ws : List Jvm.Cond) (p0 : Int32) (p1 : Int32) (p2 : Int32) (p3 : Int32) (zCS : Int32) (fm : Value) (h0 : Heap) (n0 : Nat) (Z0 : n0 ≤ h0.size) (S_CS : own_A0 Z zCS) (nCS : ¬ zCS = 0) (S_AD : own_A1 Z) (S_HI : own_A2 Z) (S_LO : own_A3 Z) (S_SF : own_A4 Z fm) (hfm : fm.isRef = true) (O0 : Old Z n0 h0) :
    MetFree l x (head1 (Jvm.Cond.code x code maxLocals ret :: ws) room_1) (fun aa U => aa = #[(.int p0), (.int p1), (.int p2), (.int p3)] ∧ Z.Warmed39 U.vm ∧ U.heap = h0 ∧ CHv Z consts_1 U.vm h0) (fun _ _ _ _ _ => True) (fun _ U o U' => ∃ v L, o = .returned v ∧ own_rm0_Q Z p0 p1 p2 p3 zCS fm h0 n0 v U'.heap L ∧ CHr Z consts_1 U.vm U.heap U'.vm U'.heap ∧ ReturnedEndW U o U' L room_1.cells room_1.slots) := by
  refine MetFree.of_bodySF (plainFor_of_name own_pn_com_example_stepgate_stepgate_http_Http1FieldsIsFieldValuePinLaw) hisR ?_
  intro p e s m args below meth c s₁ Bd hml0 hP hK
  obtain ⟨rfl, hZ, hh, CH0⟩ := hP
  have hx := Bd.exec
  have hby := Bd.bytes
  have hml : c.maxLocals = 11 := hml0
  have hown : s.vm.findClass "com/example/stepgate/stepgate/http/Http1FieldsIsFieldValuePinLaw" = some m.cls := findClass_of_methodNamed Bd.named
  have hnm := (name_of_methodNamed Bd.named Bd.method).1
  have hlk := Bd.notSynchronized
  have X0 : Stand p l e room_1 (s.setVm s.vm) m #[(.int p0), (.int p1), (.int p2), (.int p3)] below meth c s₁ [] 0 0 := Stand.of_body Bd
  have e0 : s₁.heap = h0 := by rw [← hh, Bd.state]; rfl
  have N0 := Fr.nil n0
  have hS : s.Since s.vm 0 := (State.WarmedH.refl s).since 0
  have hk0 : 0 ≤ h0.size := Nat.zero_le _
  have C0 : CHr Z consts_1 s.vm h0 s.vm h0 := CHr.refl CH0
  have hEL := own_hEL hw
  have wS := own_wS hw
  refine own_startW (EL := consts_1) (Q := own_rm0_Q Z p0 p1 p2 p3 zCS fm h0 n0) (own_rm0_ef m p0 p1 p2 p3) ?_
  refine own_g (mkF m 5 #[.val (.int p0), .val (.int p1), .val (.int p2), .val (.int p3), .val (.int (p0 &&& (3 : Int32))), .unset, .unset, .unset, .unset, .unset, .unset] []) (fun _ q => XS.iloadN X0.here hx rfl (hb hby at_0) rfl (XS.iconst X0.here hx rfl (hb hby at_1) (XS.iand X0.here hx rfl (hb hby at_2) rfl (XS.istore X0.here hx rfl (hb hby at_3) rfl (l' := #[.val (.int p0), .val (.int p1), .val (.int p2), .val (.int p3), .val (.int (p0 &&& (3 : Int32))), .unset, .unset, .unset, .unset, .unset, .unset]) rfl q)))) ?_
  have hr := own_and3 p0
  generalize hg_n : (p0 &&& (3 : Int32)) = n at hr ⊢
  rcases own_four hr with rfl | rfl | rfl | rfl
  · skip
    refine own_g (mkF m 6 #[.val (.int p0), .val (.int p1), .val (.int p2), .val (.int p3), .val (.int 0), .unset, .unset, .unset, .unset, .unset, .unset] [(.int p1)]) (fun _ q => XS.iloadN X0.here hx rfl (hb hby at_5) rfl q) ?_
    refine own_callS X0 hx hZ (y := own_y2) hown (own_h hw 0 rfl) (own_h hw 1 rfl) (own_h hw 2 rfl) (own_h hw 3 rfl) (by decide) (own_pk l Z a0 hw [] p1 zCS fm h0 n0 Z0 S_CS nCS S_AD S_HI S_LO S_SF hfm O0) (by decide) (by decide) e0 (g := (mkF m 6 #[.val (.int p0), .val (.int p1), .val (.int p2), .val (.int p3), .val (.int 0), .unset, .unset, .unset, .unset, .unset, .unset] [(.int p1)])) rfl (by rw [hml]; rfl) (argsL := [(.int p1)]) (rest := []) (lenOf own_pd__28I_29C rfl) rfl (W := 0) (by show 2 * 0 + _ ≤ _; exact Nat.le_of_eq rfl) (hb hby at_6) rfl (by decide) (by decide) ?_
    rintro rv1 T1 L1 X1 ⟨⟨c0, rfl, hn0, hb0⟩, Nq1, eh1⟩
    have N1 := Fr.app N0 Nq1
    refine own_g (mkF m 12 #[.val (.int p0), .val (.int p1), .val (.int p2), .val (.int p3), .val (.int 0), .val (.int c0), .unset, .unset, .unset, .unset, .unset] [(.int p2)]) (fun _ q => XS.istore X1.here hx rfl (hb hby at_9) rfl (l' := #[.val (.int p0), .val (.int p1), .val (.int p2), .val (.int p3), .val (.int 0), .val (.int c0), .unset, .unset, .unset, .unset, .unset]) rfl (XS.iloadN X1.here hx rfl (hb hby at_11) rfl q)) ?_
    refine own_callS X1 hx hZ (y := own_y2) hown (own_h hw 0 rfl) (own_h hw 1 rfl) (own_h hw 2 rfl) (own_h hw 3 rfl) (by decide) (own_pk l Z a0 hw [] p2 zCS fm h0 n0 Z0 S_CS nCS S_AD S_HI S_LO S_SF hfm O0) (by decide) (by decide) eh1 (g := (mkF m 12 #[.val (.int p0), .val (.int p1), .val (.int p2), .val (.int p3), .val (.int 0), .val (.int c0), .unset, .unset, .unset, .unset, .unset] [(.int p2)])) rfl (by rw [hml]; rfl) (argsL := [(.int p2)]) (rest := []) (lenOf own_pd__28I_29C rfl) rfl (W := 0) (by show 2 * 0 + _ ≤ _; exact Nat.le_of_eq rfl) (hb hby at_12) rfl (by decide) (by decide) ?_
    rintro rv2 T2 L2 X2 ⟨⟨c1, rfl, hn1, hb1⟩, Nq2, eh2⟩
    have N2 := Fr.app N1 Nq2
    refine own_g (mkF m 18 #[.val (.int p0), .val (.int p1), .val (.int p2), .val (.int p3), .val (.int 0), .val (.int c0), .val (.int c1), .unset, .unset, .unset, .unset] [(.int p3)]) (fun _ q => XS.istore X2.here hx rfl (hb hby at_15) rfl (l' := #[.val (.int p0), .val (.int p1), .val (.int p2), .val (.int p3), .val (.int 0), .val (.int c0), .val (.int c1), .unset, .unset, .unset, .unset]) rfl (XS.iloadN X2.here hx rfl (hb hby at_17) rfl q)) ?_
    refine own_callS X2 hx hZ (y := own_y2) hown (own_h hw 0 rfl) (own_h hw 1 rfl) (own_h hw 2 rfl) (own_h hw 3 rfl) (by decide) (own_pk l Z a0 hw [] p3 zCS fm h0 n0 Z0 S_CS nCS S_AD S_HI S_LO S_SF hfm O0) (by decide) (by decide) eh2 (g := (mkF m 18 #[.val (.int p0), .val (.int p1), .val (.int p2), .val (.int p3), .val (.int 0), .val (.int c0), .val (.int c1), .unset, .unset, .unset, .unset] [(.int p3)])) rfl (by rw [hml]; rfl) (argsL := [(.int p3)]) (rest := []) (lenOf own_pd__28I_29C rfl) rfl (W := 0) (by show 2 * 0 + _ ≤ _; exact Nat.le_of_eq rfl) (hb hby at_18) rfl (by decide) (by decide) ?_
    rintro rv3 T3 L3 X3 ⟨⟨c2, rfl, hn2, hb2⟩, Nq3, eh3⟩
    have N3 := Fr.app N2 Nq3
    refine own_g (mkF m 29 #[.val (.int p0), .val (.int p1), .val (.int p2), .val (.int p3), .val (.int 0), .val (.int c0), .val (.int c1), .val (.int c2), .unset, .unset, .unset] [(.int 0)]) (fun _ q => XS.istore X3.here hx rfl (hb hby at_21) rfl (l' := #[.val (.int p0), .val (.int p1), .val (.int p2), .val (.int p3), .val (.int 0), .val (.int c0), .val (.int c1), .val (.int c2), .unset, .unset, .unset]) rfl (XS.iload X3.here hx rfl (hb hby at_23) rfl (XS.ifNo X3.here hx rfl (hb hby at_25) rfl ((if0 _ _).trans (teq (by decide : (0 : Int32) = (0 : Int32))).2) (XS.iconst X3.here hx rfl (hb hby at_28) q)))) ?_
    obtain ⟨T4, h4, k4, X4, e4, E4, A4, st4⟩ := newP X3 hx hZ (own_h hw 5 rfl) eh3 (g := (mkF m 29 #[.val (.int p0), .val (.int p1), .val (.int p2), .val (.int p3), .val (.int 0), .val (.int c0), .val (.int c1), .val (.int c2), .unset, .unset, .unset] [(.int 0)])) rfl (hb hby at_29) rfl (by decide) (cap := 0) (by decide) (by decide) (by decide) (by decide)
    obtain ⟨b4, g4⟩ : ∃ z, z = h0.size := ⟨_, rfl⟩
    rw [← g4] at A4 st4
    have g_b4 : n0 ≤ b4 := Nat.le_trans Z0 (Nat.le_of_eq g4.symm)
    have sz_b4 : h0.size ≤ b4 := Nat.le_trans (Keep.refl h0 []).1 (Nat.le_of_eq g4.symm)
    have sf_b4 : Safe Z consts_1 s.vm h0 b4 := Safe.new (Nat.le_of_eq g4.symm)
    have C5 := C0.trans (CHr.ext E4 C0.1)
    have V_b4 : Arv Z h4 b4 k4 .char (0 : Int32) [] (.int 0) := Arv.new A4 (by decide)
    refine own_by (g' := (mkF m 31 #[.val (.int p0), .val (.int p1), .val (.int p2), .val (.int p3), .val (.int 0), .val (.int c0), .val (.int c1), .val (.int c2), .unset, .unset, .unset] [(.ref b4)])) st4 ?_
    refine own_g (mkF m 99 #[.val (.int p0), .val (.int p1), .val (.int p2), .val (.int p3), .val (.int 0), .val (.int c0), .val (.int c1), .val (.int c2), .val (.ref b4), .unset, .unset] []) (fun _ q => XS.astore X4.here hx rfl (hb hby at_31) rfl rfl (l' := #[.val (.int p0), .val (.int p1), .val (.int p2), .val (.int p3), .val (.int 0), .val (.int c0), .val (.int c1), .val (.int c2), .val (.ref b4), .unset, .unset]) rfl (XS.goto X4.here hx rfl (pc0 := 33) (pc' := 99) rfl (hb hby at_33) (by decide) (by decide) q)) ?_
    obtain ⟨T6, h6, X6, e6, E6, A6, D6, U6, st6⟩ := newO X4 hx hZ hown (own_h hw 6 rfl) (own_h hw 7 rfl) (own_h hw 8 rfl) e4 (g := (mkF m 99 #[.val (.int p0), .val (.int p1), .val (.int p2), .val (.int p3), .val (.int 0), .val (.int c0), .val (.int c1), .val (.int c2), .val (.ref b4), .unset, .unset] [])) rfl (hb hby at_99) (by decide) (by decide)
    obtain ⟨b6, g6⟩ : ∃ z, z = h4.size := ⟨_, rfl⟩
    rw [← g6] at A6 D6 U6 st6
    have k7_ := ((Keep.refl h0 []).ext E4)
    have g_b6 : n0 ≤ b6 := Nat.le_trans (Nat.le_trans Z0 k7_.1) (Nat.le_of_eq g6.symm)
    have sz_b6 : h0.size ≤ b6 := Nat.le_trans k7_.1 (Nat.le_of_eq g6.symm)
    have sf_b6 : Safe Z consts_1 s.vm h4 b6 := Safe.new (Nat.le_of_eq g6.symm)
    have ne_b4_b6 : b4 ≠ b6 := Nat.ne_of_lt (Nat.lt_of_lt_of_le V_b4.lt (Nat.le_of_eq g6.symm))
    have C8 := C5.trans (CHr.ext E6 C5.1)
    have F_value_b6 : Fld Z h6 b6 "java/lang/String" "value" "[B" .null := D6 (Or.inr (own_h hw 21 rfl)) (ty := (.array .byte)) (by decide)
    have F_coder_b6 : Fld Z h6 b6 "java/lang/String" "coder" "B" (.int 0) := D6 (Or.inr (own_h hw 22 rfl)) (ty := .byte) (by decide)
    refine own_by (g' := (mkF m 102 #[.val (.int p0), .val (.int p1), .val (.int p2), .val (.int p3), .val (.int 0), .val (.int c0), .val (.int c1), .val (.int c2), .val (.ref b4), .unset, .unset] [(.ref b6)])) st6 ?_
    refine own_g (mkF m 105 #[.val (.int p0), .val (.int p1), .val (.int p2), .val (.int p3), .val (.int 0), .val (.int c0), .val (.int c1), .val (.int c2), .val (.ref b4), .unset, .unset] [(.ref b4), (.ref b6), (.ref b6)]) (fun _ q => XS.dup X6.here hx rfl (hb hby at_102) rfl rfl (XS.aload X6.here hx rfl (hb hby at_103) rfl rfl q)) ?_
    have k9_ := (k7_.ext E6)
    have a10_b4 := (V_b4.ext E6)
    have hk12_ := (Nat.le_trans (Nat.le_trans hk0 E4.1) E6.1)
    refine own_callIW X6 hx hZ (y := own_y3) rfl hown (own_h hw 9 rfl) (own_h hw 10 rfl) (own_h hw 11 rfl) (own_h hw 8 rfl) (by decide) hS hk12_ hEL C8.1 (own_rmE7 l Z a0 hw [] b6 b4 k4 (.int 0) h6 n0 (Nat.le_trans Z0 k9_.1) A6 F_value_b6 F_coder_b6 g_b6 a10_b4) (by decide) (by decide) e6 (g := (mkF m 105 #[.val (.int p0), .val (.int p1), .val (.int p2), .val (.int p3), .val (.int 0), .val (.int c0), .val (.int c1), .val (.int c2), .val (.ref b4), .unset, .unset] [(.ref b4), (.ref b6), (.ref b6)])) rfl (by rw [hml]; rfl) (argsL := [(.ref b4)]) (rest := [(.ref b6)]) (lenOf own_pd__28_5bC_29V rfl) rfl (W := 1) (by show 2 * 0 + _ ≤ _; exact Nat.le_of_eq rfl) (hb hby at_105) rfl (by decide) (by decide) ?_
    rintro rv11 T11 L11 X11 hS hZ hown CH11 ⟨rfl, Nq11, Kq11, Eq11, Cq11, tq, kq_, nq11, Vq11, Aq11⟩
    have N11 := Fr.app N3 Nq11
    show own_Fin p e below _ T11 (mkF m 108 #[.val (.int p0), .val (.int p1), .val (.int p2), .val (.int p3), .val (.int 0), .val (.int c0), .val (.int c1), .val (.int c2), .val (.ref b4), .unset, .unset] [(.ref b6)])
    have sf14_b4 := ((sf_b4.ext E4 C0.1).ext E6 C5.1)
    have sf15 := CH11.safe a10_b4.lt sf14_b4
    have sf16_b6 := (sf_b6.ext E6 C5.1)
    have sf17 := CH11.safe A6.lt sf16_b6
    have C13 := C8.trans CH11
    refine own_g (mkF m 140 #[.val (.int p0), .val (.int p1), .val (.int p2), .val (.int p3), .val (.int 0), .val (.int c0), .val (.int c1), .val (.int c2), .val (.ref b4), .val (.ref b6), .unset] [(.int 0)]) (fun _ q => XS.astore X11.here hx rfl (hb hby at_108) rfl rfl (l' := #[.val (.int p0), .val (.int p1), .val (.int p2), .val (.int p3), .val (.int 0), .val (.int c0), .val (.int c1), .val (.int c2), .val (.ref b4), .val (.ref b6), .unset]) rfl (XS.iload X11.here hx rfl (hb hby at_110) rfl (XS.iconst X11.here hx rfl (hb hby at_112) (XS.icmpYes X11.here hx rfl (pc0 := 113) (pc' := 124) rfl (hb hby at_113) rfl (tlt (by decide : (0 : Int32) < (1 : Int32))).1 (by decide) (by decide) (XS.iload X11.here hx rfl (hb hby at_124) rfl (XS.iconst X11.here hx rfl (hb hby at_126) (XS.icmpYes X11.here hx rfl (pc0 := 127) (pc' := 138) rfl (hb hby at_127) rfl (tlt (by decide : (0 : Int32) < (2 : Int32))).1 (by decide) (by decide) (XS.iload X11.here hx rfl (hb hby at_138) rfl q)))))))) ?_
    refine own_g (mkF m 161 #[.val (.int p0), .val (.int p1), .val (.int p2), .val (.int p3), .val (.int 0), .val (.int c0), .val (.int c1), .val (.int c2), .val (.ref b4), .val (.ref b6), .val (.int 1)] [(.ref b6)]) (fun _ q => XS.iconst X11.here hx rfl (hb hby at_140) (XS.icmpYes X11.here hx rfl (pc0 := 141) (pc' := 152) rfl (hb hby at_141) rfl (tlt (by decide : (0 : Int32) < (3 : Int32))).1 (by decide) (by decide) (XS.iconst X11.here hx rfl (hb hby at_152) (XS.goto X11.here hx rfl (pc0 := 153) (pc' := 157) rfl (hb hby at_153) (by decide) (by decide) (XS.istore X11.here hx rfl (hb hby at_157) rfl (l' := #[.val (.int p0), .val (.int p1), .val (.int p2), .val (.int p3), .val (.int 0), .val (.int c0), .val (.int c1), .val (.int c2), .val (.ref b4), .val (.ref b6), .val (.int 1)]) rfl (XS.aload X11.here hx rfl (hb hby at_159) rfl rfl q)))))) ?_
    have k18_ := (k9_.trans Kq11 (allS (Or.inr sz_b6) all0))
    have o19_ := (((O0.ext E4).ext E6).keep Kq11 (allS g_b6 all0))
    refine own_callS X11 hx hZ (y := own_y0) hown (own_h hw 27 rfl) (own_h hw 28 rfl) (own_h hw 29 rfl) (own_h hw 30 rfl) (by decide) (own_fv_0_0 l Z a0 hw [] b6 tq kq_  zCS fm T11.heap n0 (Nat.le_trans Z0 k18_.1) S_CS nCS S_AD S_HI S_LO S_SF hfm o19_ Eq11 Vq11 Cq11 Aq11  ) (by decide) (by decide) rfl (g := (mkF m 161 #[.val (.int p0), .val (.int p1), .val (.int p2), .val (.int p3), .val (.int 0), .val (.int c0), .val (.int c1), .val (.int c2), .val (.ref b4), .val (.ref b6), .val (.int 1)] [(.ref b6)])) rfl (by rw [hml]; rfl) (argsL := [(.ref b6)]) (rest := []) (lenOf own_pd__28Ljava_2flang_2fString_3b_29Z rfl) rfl (W := 0) (by show 2 * 0 + _ ≤ _; exact Nat.le_of_eq rfl) (hb hby at_161) rfl (by decide) (by decide) ?_
    rintro rv20 T20 L20 X20 ⟨hv20, Nq20, eh20⟩
    have N20 := Fr.app N11 Nq20
    simp [own_b] at hv20
    subst hv20
    refine own_g (mkF m 174 #[.val (.int p0), .val (.int p1), .val (.int p2), .val (.int p3), .val (.int 0), .val (.int c0), .val (.int c1), .val (.int c2), .val (.ref b4), .val (.ref b6), .val (.int 1)] [(.int 1)]) (fun _ q => XS.iload X20.here hx rfl (hb hby at_164) rfl (XS.icmpNo X20.here hx rfl (hb hby at_166) rfl (teq (by decide : (1 : Int32) = (1 : Int32))).2 (XS.iconst X20.here hx rfl (hb hby at_169) (XS.goto X20.here hx rfl (pc0 := 170) (pc' := 174) rfl (hb hby at_170) (by decide) (by decide) q)))) ?_
    exact own_endW X20 hS (by rw [eh20]; exact (Nat.le_refl _)) hZ hEL (by rw [hh]; rw [eh20]; exact C13) (v := some (.int (nar .boolean (1 : Int32)))) (fun h => by rw [Bd.returns] at h; cases h) hlk (fun hr => retN X20 hx (t := .boolean) Bd.returns (by simp) (hb hby at_174) hr) (by rw [eh20]; exact ⟨rfl, N20⟩) (by decide) (by decide)
  · skip
    refine own_g (mkF m 6 #[.val (.int p0), .val (.int p1), .val (.int p2), .val (.int p3), .val (.int 1), .unset, .unset, .unset, .unset, .unset, .unset] [(.int p1)]) (fun _ q => XS.iloadN X0.here hx rfl (hb hby at_5) rfl q) ?_
    refine own_callS X0 hx hZ (y := own_y2) hown (own_h hw 0 rfl) (own_h hw 1 rfl) (own_h hw 2 rfl) (own_h hw 3 rfl) (by decide) (own_pk l Z a0 hw [] p1 zCS fm h0 n0 Z0 S_CS nCS S_AD S_HI S_LO S_SF hfm O0) (by decide) (by decide) e0 (g := (mkF m 6 #[.val (.int p0), .val (.int p1), .val (.int p2), .val (.int p3), .val (.int 1), .unset, .unset, .unset, .unset, .unset, .unset] [(.int p1)])) rfl (by rw [hml]; rfl) (argsL := [(.int p1)]) (rest := []) (lenOf own_pd__28I_29C rfl) rfl (W := 0) (by show 2 * 0 + _ ≤ _; exact Nat.le_of_eq rfl) (hb hby at_6) rfl (by decide) (by decide) ?_
    rintro rv21 T21 L21 X21 ⟨⟨c0, rfl, hn0, hb0⟩, Nq21, eh21⟩
    have N21 := Fr.app N0 Nq21
    refine own_g (mkF m 12 #[.val (.int p0), .val (.int p1), .val (.int p2), .val (.int p3), .val (.int 1), .val (.int c0), .unset, .unset, .unset, .unset, .unset] [(.int p2)]) (fun _ q => XS.istore X21.here hx rfl (hb hby at_9) rfl (l' := #[.val (.int p0), .val (.int p1), .val (.int p2), .val (.int p3), .val (.int 1), .val (.int c0), .unset, .unset, .unset, .unset, .unset]) rfl (XS.iloadN X21.here hx rfl (hb hby at_11) rfl q)) ?_
    refine own_callS X21 hx hZ (y := own_y2) hown (own_h hw 0 rfl) (own_h hw 1 rfl) (own_h hw 2 rfl) (own_h hw 3 rfl) (by decide) (own_pk l Z a0 hw [] p2 zCS fm h0 n0 Z0 S_CS nCS S_AD S_HI S_LO S_SF hfm O0) (by decide) (by decide) eh21 (g := (mkF m 12 #[.val (.int p0), .val (.int p1), .val (.int p2), .val (.int p3), .val (.int 1), .val (.int c0), .unset, .unset, .unset, .unset, .unset] [(.int p2)])) rfl (by rw [hml]; rfl) (argsL := [(.int p2)]) (rest := []) (lenOf own_pd__28I_29C rfl) rfl (W := 0) (by show 2 * 0 + _ ≤ _; exact Nat.le_of_eq rfl) (hb hby at_12) rfl (by decide) (by decide) ?_
    rintro rv22 T22 L22 X22 ⟨⟨c1, rfl, hn1, hb1⟩, Nq22, eh22⟩
    have N22 := Fr.app N21 Nq22
    refine own_g (mkF m 18 #[.val (.int p0), .val (.int p1), .val (.int p2), .val (.int p3), .val (.int 1), .val (.int c0), .val (.int c1), .unset, .unset, .unset, .unset] [(.int p3)]) (fun _ q => XS.istore X22.here hx rfl (hb hby at_15) rfl (l' := #[.val (.int p0), .val (.int p1), .val (.int p2), .val (.int p3), .val (.int 1), .val (.int c0), .val (.int c1), .unset, .unset, .unset, .unset]) rfl (XS.iloadN X22.here hx rfl (hb hby at_17) rfl q)) ?_
    refine own_callS X22 hx hZ (y := own_y2) hown (own_h hw 0 rfl) (own_h hw 1 rfl) (own_h hw 2 rfl) (own_h hw 3 rfl) (by decide) (own_pk l Z a0 hw [] p3 zCS fm h0 n0 Z0 S_CS nCS S_AD S_HI S_LO S_SF hfm O0) (by decide) (by decide) eh22 (g := (mkF m 18 #[.val (.int p0), .val (.int p1), .val (.int p2), .val (.int p3), .val (.int 1), .val (.int c0), .val (.int c1), .unset, .unset, .unset, .unset] [(.int p3)])) rfl (by rw [hml]; rfl) (argsL := [(.int p3)]) (rest := []) (lenOf own_pd__28I_29C rfl) rfl (W := 0) (by show 2 * 0 + _ ≤ _; exact Nat.le_of_eq rfl) (hb hby at_18) rfl (by decide) (by decide) ?_
    rintro rv23 T23 L23 X23 ⟨⟨c2, rfl, hn2, hb2⟩, Nq23, eh23⟩
    have N23 := Fr.app N22 Nq23
    refine own_g (mkF m 43 #[.val (.int p0), .val (.int p1), .val (.int p2), .val (.int p3), .val (.int 1), .val (.int c0), .val (.int c1), .val (.int c2), .unset, .unset, .unset] [(.int 1)]) (fun _ q => XS.istore X23.here hx rfl (hb hby at_21) rfl (l' := #[.val (.int p0), .val (.int p1), .val (.int p2), .val (.int p3), .val (.int 1), .val (.int c0), .val (.int c1), .val (.int c2), .unset, .unset, .unset]) rfl (XS.iload X23.here hx rfl (hb hby at_23) rfl (XS.ifYes X23.here hx rfl (pc0 := 25) (pc' := 36) rfl (hb hby at_25) rfl ((if0 _ _).trans (feq (by decide : ¬ ((1 : Int32) = (0 : Int32)))).2) (by decide) (by decide) (XS.iload X23.here hx rfl (hb hby at_36) rfl (XS.iconst X23.here hx rfl (hb hby at_38) (XS.icmpNo X23.here hx rfl (hb hby at_39) rfl (teq (by decide : (1 : Int32) = (1 : Int32))).2 (XS.iconst X23.here hx rfl (hb hby at_42) q))))))) ?_
    obtain ⟨T24, h24, k24, X24, e24, E24, A24, st24⟩ := newP X23 hx hZ (own_h hw 5 rfl) eh23 (g := (mkF m 43 #[.val (.int p0), .val (.int p1), .val (.int p2), .val (.int p3), .val (.int 1), .val (.int c0), .val (.int c1), .val (.int c2), .unset, .unset, .unset] [(.int 1)])) rfl (hb hby at_43) rfl (by decide) (cap := 1) (by decide) (by decide) (by decide) (by decide)
    obtain ⟨b24, g24⟩ : ∃ z, z = h0.size := ⟨_, rfl⟩
    rw [← g24] at A24 st24
    have g_b24 : n0 ≤ b24 := Nat.le_trans Z0 (Nat.le_of_eq g24.symm)
    have sz_b24 : h0.size ≤ b24 := Nat.le_trans (Keep.refl h0 []).1 (Nat.le_of_eq g24.symm)
    have sf_b24 : Safe Z consts_1 s.vm h0 b24 := Safe.new (Nat.le_of_eq g24.symm)
    have C25 := C0.trans (CHr.ext E24 C0.1)
    have V_b24 : Arv Z h24 b24 k24 .char (1 : Int32) [(.int 0)] (.int 0) := (Arv.new A24 (by decide)).pad (pad_rep [] (.int 0) 1)
    refine own_by (g' := (mkF m 45 #[.val (.int p0), .val (.int p1), .val (.int p2), .val (.int p3), .val (.int 1), .val (.int c0), .val (.int c1), .val (.int c2), .unset, .unset, .unset] [(.ref b24)])) st24 ?_
    refine own_g (mkF m 49 #[.val (.int p0), .val (.int p1), .val (.int p2), .val (.int p3), .val (.int 1), .val (.int c0), .val (.int c1), .val (.int c2), .unset, .unset, .unset] [(.int c0), (.int 0), (.ref b24), (.ref b24)]) (fun _ q => XS.dup X24.here hx rfl (hb hby at_45) rfl rfl (XS.iconst X24.here hx rfl (hb hby at_46) (XS.iload X24.here hx rfl (hb hby at_47) rfl q))) ?_
    have sw26 : Safe Z consts_1 s.vm h24 b24 := (Safe.arv hZ.alike V_b24 (by decide))
    obtain ⟨cl27, Ar27, q27, S27, P27, H27, G27⟩ := id V_b24
    have hin27 : ¬ ((0 : Int32) < 0 ∨ cl27.slots.size ≤ ((0 : Int32)).toNatClampNeg) := inb_of S27 ⟨by decide, by decide⟩
    obtain ⟨T28, h28, X28, e28, W28, st28⟩ := stC X24 hx hZ e24 Ar27 (j := (0 : Int32)) hin27 (g := (mkF m 49 #[.val (.int p0), .val (.int p1), .val (.int p2), .val (.int p3), .val (.int 1), .val (.int c0), .val (.int c1), .val (.int c2), .unset, .unset, .unset] [(.int c0), (.int 0), (.ref b24), (.ref b24)])) rfl rfl (hb hby at_49)
    have V28 : Arv Z h28 b24 k24 .char (1 : Int32) [(.int (nar .char c0))] (.int 0) := Arv.set Ar27 q27 S27 P27 H27 G27 (fits_nar_char _) W28 0 rfl (Nat.le_of_ble_eq_true rfl)
    have C29 := C25.trans (CHr.wr W28 sw26 C25.1)
    have N28 := Fr.snoc X28 N23 g_b24
    refine own_by (g' := (mkF m 50 #[.val (.int p0), .val (.int p1), .val (.int p2), .val (.int p3), .val (.int 1), .val (.int c0), .val (.int c1), .val (.int c2), .unset, .unset, .unset] [(.ref b24)])) st28 ?_
    refine own_g (mkF m 99 #[.val (.int p0), .val (.int p1), .val (.int p2), .val (.int p3), .val (.int 1), .val (.int c0), .val (.int c1), .val (.int c2), .val (.ref b24), .unset, .unset] []) (fun _ q => XS.astore X28.here hx rfl (hb hby at_50) rfl rfl (l' := #[.val (.int p0), .val (.int p1), .val (.int p2), .val (.int p3), .val (.int 1), .val (.int c0), .val (.int c1), .val (.int c2), .val (.ref b24), .unset, .unset]) rfl (XS.goto X28.here hx rfl (pc0 := 52) (pc' := 99) rfl (hb hby at_52) (by decide) (by decide) q)) ?_
    obtain ⟨T30, h30, X30, e30, E30, A30, D30, U30, st30⟩ := newO X28 hx hZ hown (own_h hw 6 rfl) (own_h hw 7 rfl) (own_h hw 8 rfl) e28 (g := (mkF m 99 #[.val (.int p0), .val (.int p1), .val (.int p2), .val (.int p3), .val (.int 1), .val (.int c0), .val (.int c1), .val (.int c2), .val (.ref b24), .unset, .unset] [])) rfl (hb hby at_99) (by decide) (by decide)
    obtain ⟨b30, g30⟩ : ∃ z, z = h28.size := ⟨_, rfl⟩
    rw [← g30] at A30 D30 U30 st30
    have k31_ := (((Keep.refl h0 []).ext E24).wr W28 (Or.inr sz_b24))
    have g_b30 : n0 ≤ b30 := Nat.le_trans (Nat.le_trans Z0 k31_.1) (Nat.le_of_eq g30.symm)
    have sz_b30 : h0.size ≤ b30 := Nat.le_trans k31_.1 (Nat.le_of_eq g30.symm)
    have sf_b30 : Safe Z consts_1 s.vm h28 b30 := Safe.new (Nat.le_of_eq g30.symm)
    have ne_b24_b30 : b24 ≠ b30 := Nat.ne_of_lt (Nat.lt_of_lt_of_le V28.lt (Nat.le_of_eq g30.symm))
    have C32 := C29.trans (CHr.ext E30 C29.1)
    have F_value_b30 : Fld Z h30 b30 "java/lang/String" "value" "[B" .null := D30 (Or.inr (own_h hw 21 rfl)) (ty := (.array .byte)) (by decide)
    have F_coder_b30 : Fld Z h30 b30 "java/lang/String" "coder" "B" (.int 0) := D30 (Or.inr (own_h hw 22 rfl)) (ty := .byte) (by decide)
    refine own_by (g' := (mkF m 102 #[.val (.int p0), .val (.int p1), .val (.int p2), .val (.int p3), .val (.int 1), .val (.int c0), .val (.int c1), .val (.int c2), .val (.ref b24), .unset, .unset] [(.ref b30)])) st30 ?_
    refine own_g (mkF m 105 #[.val (.int p0), .val (.int p1), .val (.int p2), .val (.int p3), .val (.int 1), .val (.int c0), .val (.int c1), .val (.int c2), .val (.ref b24), .unset, .unset] [(.ref b24), (.ref b30), (.ref b30)]) (fun _ q => XS.dup X30.here hx rfl (hb hby at_102) rfl rfl (XS.aload X30.here hx rfl (hb hby at_103) rfl rfl q)) ?_
    have a33_b24 := (V28.ext E30)
    have Kc : Arv Z h30 b24 k24 .char (1 : Int32) [(.int c0)] (.int 0) := by have q := a33_b24; rw [hn0] at q; exact q
    have sf34_b30 := (sf_b30.ext E30 C29.1)
    have k35_ := (k31_.ext E30)
    have o36_ := (((O0.ext E24).wr W28 g_b24).ext E30)
    refine own_callI X30 hx hZ (y := own_y3) rfl hown (own_h hw 9 rfl) (own_h hw 10 rfl) (own_h hw 11 rfl) (own_h hw 8 rfl) (by decide) (own_i7_1 l Z a0 hw [] b30 b24 k24 _ c0 zCS fm h30 n0 (Nat.le_trans Z0 k35_.1) S_CS nCS S_AD S_HI S_LO S_SF hfm o36_ A30 F_value_b30 F_coder_b30 g_b30 Kc ne_b24_b30 hb0 hn0) (by decide) (by decide) e30 (g := (mkF m 105 #[.val (.int p0), .val (.int p1), .val (.int p2), .val (.int p3), .val (.int 1), .val (.int c0), .val (.int c1), .val (.int c2), .val (.ref b24), .unset, .unset] [(.ref b24), (.ref b30), (.ref b30)])) rfl (by rw [hml]; rfl) (argsL := [(.ref b24)]) (rest := [(.ref b30)]) (lenOf own_pd__28_5bC_29V rfl) rfl (W := 1) (by show 2 * 0 + _ ≤ _; exact Nat.le_of_eq rfl) (hb hby at_105) rfl (by decide) (by decide) ?_
    rintro rv37 T37 L37 X37 ⟨rfl, Nq37, Kq37, Eq37, tq, kq_, Vq37, hv37⟩
    have N37 := Fr.app N28 Nq37
    show own_Fin p e below _ T37 (mkF m 108 #[.val (.int p0), .val (.int p1), .val (.int p2), .val (.int p3), .val (.int 1), .val (.int c0), .val (.int c1), .val (.int c2), .val (.ref b24), .unset, .unset] [(.ref b30)])
    have C38 := C32.trans (CHr.keep Kq37 (sfS sf34_b30 sf0) C32.1)
    rcases hv37 with ⟨ha0, Cx, Ax⟩ | ⟨Cx, Ax⟩
    · skip
      refine own_g (mkF m 118 #[.val (.int p0), .val (.int p1), .val (.int p2), .val (.int p3), .val (.int 1), .val (.int c0), .val (.int c1), .val (.int c2), .val (.ref b24), .val (.ref b30), .unset] [(.int c0)]) (fun _ q => XS.astore X37.here hx rfl (hb hby at_108) rfl rfl (l' := #[.val (.int p0), .val (.int p1), .val (.int p2), .val (.int p3), .val (.int 1), .val (.int c0), .val (.int c1), .val (.int c2), .val (.ref b24), .val (.ref b30), .unset]) rfl (XS.iload X37.here hx rfl (hb hby at_110) rfl (XS.iconst X37.here hx rfl (hb hby at_112) (XS.icmpNo X37.here hx rfl (hb hby at_113) rfl (flt (by decide : ¬ ((1 : Int32) < (1 : Int32)))).1 (XS.iload X37.here hx rfl (hb hby at_116) rfl q))))) ?_
      have k39_ := (k35_.trans Kq37 (allS (Or.inr sz_b30) all0))
      have o40_ := (o36_.keep Kq37 (allS g_b30 all0))
      refine own_callS X37 hx hZ (y := own_y1) hown (own_h hw 52 rfl) (own_h hw 53 rfl) (own_h hw 2 rfl) (own_h hw 54 rfl) (by decide) (own_al l Z a0 hw [] c0 zCS fm T37.heap n0 (Nat.le_trans Z0 k39_.1) S_CS nCS S_AD S_HI S_LO S_SF hfm o40_) (by decide) (by decide) rfl (g := (mkF m 118 #[.val (.int p0), .val (.int p1), .val (.int p2), .val (.int p3), .val (.int 1), .val (.int c0), .val (.int c1), .val (.int c2), .val (.ref b24), .val (.ref b30), .unset] [(.int c0)])) rfl (by rw [hml]; rfl) (argsL := [(.int c0)]) (rest := []) (lenOf own_pd__28C_29Z rfl) rfl (W := 0) (by show 2 * 0 + _ ≤ _; exact Nat.le_of_eq rfl) (hb hby at_118) rfl (by decide) (by decide) ?_
      rintro rv41 T41 L41 X41 ⟨hv41, Nq41, eh41⟩
      have N41 := Fr.app N37 Nq41
      by_cases hok_c0 : own_ok c0 = true
      · simp [own_b, hok_c0] at hv41
        subst hv41
        refine own_g (mkF m 153 #[.val (.int p0), .val (.int p1), .val (.int p2), .val (.int p3), .val (.int 1), .val (.int c0), .val (.int c1), .val (.int c2), .val (.ref b24), .val (.ref b30), .unset] [(.int 1)]) (fun _ q => XS.ifNo X41.here hx rfl (hb hby at_121) rfl ((if0 _ _).trans (feq (by decide : ¬ ((1 : Int32) = (0 : Int32)))).1) (XS.iload X41.here hx rfl (hb hby at_124) rfl (XS.iconst X41.here hx rfl (hb hby at_126) (XS.icmpYes X41.here hx rfl (pc0 := 127) (pc' := 138) rfl (hb hby at_127) rfl (tlt (by decide : (1 : Int32) < (2 : Int32))).1 (by decide) (by decide) (XS.iload X41.here hx rfl (hb hby at_138) rfl (XS.iconst X41.here hx rfl (hb hby at_140) (XS.icmpYes X41.here hx rfl (pc0 := 141) (pc' := 152) rfl (hb hby at_141) rfl (tlt (by decide : (1 : Int32) < (3 : Int32))).1 (by decide) (by decide) (XS.iconst X41.here hx rfl (hb hby at_152) q)))))))) ?_
        refine own_g (mkF m 161 #[.val (.int p0), .val (.int p1), .val (.int p2), .val (.int p3), .val (.int 1), .val (.int c0), .val (.int c1), .val (.int c2), .val (.ref b24), .val (.ref b30), .val (.int 1)] [(.ref b30)]) (fun _ q => XS.goto X41.here hx rfl (pc0 := 153) (pc' := 157) rfl (hb hby at_153) (by decide) (by decide) (XS.istore X41.here hx rfl (hb hby at_157) rfl (l' := #[.val (.int p0), .val (.int p1), .val (.int p2), .val (.int p3), .val (.int 1), .val (.int c0), .val (.int c1), .val (.int c2), .val (.ref b24), .val (.ref b30), .val (.int 1)]) rfl (XS.aload X41.here hx rfl (hb hby at_159) rfl rfl q))) ?_
        refine own_callS X41 hx hZ (y := own_y0) hown (own_h hw 27 rfl) (own_h hw 28 rfl) (own_h hw 29 rfl) (own_h hw 30 rfl) (by decide) (own_fv_0_1 l Z a0 hw [] b30 tq kq_ c0 zCS fm T37.heap n0 (Nat.le_trans Z0 k39_.1) S_CS nCS S_AD S_HI S_LO S_SF hfm o40_ Eq37 Vq37 Cx Ax ⟨hb0.1, ha0⟩ hn0) (by decide) (by decide) eh41 (g := (mkF m 161 #[.val (.int p0), .val (.int p1), .val (.int p2), .val (.int p3), .val (.int 1), .val (.int c0), .val (.int c1), .val (.int c2), .val (.ref b24), .val (.ref b30), .val (.int 1)] [(.ref b30)])) rfl (by rw [hml]; rfl) (argsL := [(.ref b30)]) (rest := []) (lenOf own_pd__28Ljava_2flang_2fString_3b_29Z rfl) rfl (W := 0) (by show 2 * 0 + _ ≤ _; exact Nat.le_of_eq rfl) (hb hby at_161) rfl (by decide) (by decide) ?_
        rintro rv42 T42 L42 X42 ⟨hv42, Nq42, eh42⟩
        have N42 := Fr.app N41 Nq42
        simp [own_b, hok_c0] at hv42
        subst hv42
        refine own_g (mkF m 174 #[.val (.int p0), .val (.int p1), .val (.int p2), .val (.int p3), .val (.int 1), .val (.int c0), .val (.int c1), .val (.int c2), .val (.ref b24), .val (.ref b30), .val (.int 1)] [(.int 1)]) (fun _ q => XS.iload X42.here hx rfl (hb hby at_164) rfl (XS.icmpNo X42.here hx rfl (hb hby at_166) rfl (teq (by decide : (1 : Int32) = (1 : Int32))).2 (XS.iconst X42.here hx rfl (hb hby at_169) (XS.goto X42.here hx rfl (pc0 := 170) (pc' := 174) rfl (hb hby at_170) (by decide) (by decide) q)))) ?_
        have hk43_ := (Nat.le_trans (Nat.le_trans (Nat.le_trans (Nat.le_trans hk0 E24.1) (Keep.of_wr W28).1) E30.1) Kq37.1)
        exact own_endW X42 hS (by rw [eh42]; exact hk43_) hZ hEL (by rw [hh]; rw [eh42]; exact C38) (v := some (.int (nar .boolean (1 : Int32)))) (fun h => by rw [Bd.returns] at h; cases h) hlk (fun hr => retN X42 hx (t := .boolean) Bd.returns (by simp) (hb hby at_174) hr) (by rw [eh42]; exact ⟨rfl, N42⟩) (by decide) (by decide)
      · simp [own_b, hok_c0] at hv41
        subst hv41
        refine own_g (mkF m 161 #[.val (.int p0), .val (.int p1), .val (.int p2), .val (.int p3), .val (.int 1), .val (.int c0), .val (.int c1), .val (.int c2), .val (.ref b24), .val (.ref b30), .val (.int 0)] [(.ref b30)]) (fun _ q => XS.ifYes X41.here hx rfl (pc0 := 121) (pc' := 156) rfl (hb hby at_121) rfl ((if0 _ _).trans (teq (by decide : (0 : Int32) = (0 : Int32))).1) (by decide) (by decide) (XS.iconst X41.here hx rfl (hb hby at_156) (XS.istore X41.here hx rfl (hb hby at_157) rfl (l' := #[.val (.int p0), .val (.int p1), .val (.int p2), .val (.int p3), .val (.int 1), .val (.int c0), .val (.int c1), .val (.int c2), .val (.ref b24), .val (.ref b30), .val (.int 0)]) rfl (XS.aload X41.here hx rfl (hb hby at_159) rfl rfl q)))) ?_
        refine own_callS X41 hx hZ (y := own_y0) hown (own_h hw 27 rfl) (own_h hw 28 rfl) (own_h hw 29 rfl) (own_h hw 30 rfl) (by decide) (own_fv_0_1 l Z a0 hw [] b30 tq kq_ c0 zCS fm T37.heap n0 (Nat.le_trans Z0 k39_.1) S_CS nCS S_AD S_HI S_LO S_SF hfm o40_ Eq37 Vq37 Cx Ax ⟨hb0.1, ha0⟩ hn0) (by decide) (by decide) eh41 (g := (mkF m 161 #[.val (.int p0), .val (.int p1), .val (.int p2), .val (.int p3), .val (.int 1), .val (.int c0), .val (.int c1), .val (.int c2), .val (.ref b24), .val (.ref b30), .val (.int 0)] [(.ref b30)])) rfl (by rw [hml]; rfl) (argsL := [(.ref b30)]) (rest := []) (lenOf own_pd__28Ljava_2flang_2fString_3b_29Z rfl) rfl (W := 0) (by show 2 * 0 + _ ≤ _; exact Nat.le_of_eq rfl) (hb hby at_161) rfl (by decide) (by decide) ?_
        rintro rv44 T44 L44 X44 ⟨hv44, Nq44, eh44⟩
        have N44 := Fr.app N41 Nq44
        simp [own_b, hok_c0] at hv44
        subst hv44
        refine own_g (mkF m 174 #[.val (.int p0), .val (.int p1), .val (.int p2), .val (.int p3), .val (.int 1), .val (.int c0), .val (.int c1), .val (.int c2), .val (.ref b24), .val (.ref b30), .val (.int 0)] [(.int 1)]) (fun _ q => XS.iload X44.here hx rfl (hb hby at_164) rfl (XS.icmpNo X44.here hx rfl (hb hby at_166) rfl (teq (by decide : (0 : Int32) = (0 : Int32))).2 (XS.iconst X44.here hx rfl (hb hby at_169) (XS.goto X44.here hx rfl (pc0 := 170) (pc' := 174) rfl (hb hby at_170) (by decide) (by decide) q)))) ?_
        have hk45_ := (Nat.le_trans (Nat.le_trans (Nat.le_trans (Nat.le_trans hk0 E24.1) (Keep.of_wr W28).1) E30.1) Kq37.1)
        exact own_endW X44 hS (by rw [eh44]; exact hk45_) hZ hEL (by rw [hh]; rw [eh44]; exact C38) (v := some (.int (nar .boolean (1 : Int32)))) (fun h => by rw [Bd.returns] at h; cases h) hlk (fun hr => retN X44 hx (t := .boolean) Bd.returns (by simp) (hb hby at_174) hr) (by rw [eh44]; exact ⟨rfl, N44⟩) (by decide) (by decide)
    · skip
      refine own_g (mkF m 118 #[.val (.int p0), .val (.int p1), .val (.int p2), .val (.int p3), .val (.int 1), .val (.int c0), .val (.int c1), .val (.int c2), .val (.ref b24), .val (.ref b30), .unset] [(.int c0)]) (fun _ q => XS.astore X37.here hx rfl (hb hby at_108) rfl rfl (l' := #[.val (.int p0), .val (.int p1), .val (.int p2), .val (.int p3), .val (.int 1), .val (.int c0), .val (.int c1), .val (.int c2), .val (.ref b24), .val (.ref b30), .unset]) rfl (XS.iload X37.here hx rfl (hb hby at_110) rfl (XS.iconst X37.here hx rfl (hb hby at_112) (XS.icmpNo X37.here hx rfl (hb hby at_113) rfl (flt (by decide : ¬ ((1 : Int32) < (1 : Int32)))).1 (XS.iload X37.here hx rfl (hb hby at_116) rfl q))))) ?_
      have k46_ := (k35_.trans Kq37 (allS (Or.inr sz_b30) all0))
      have o47_ := (o36_.keep Kq37 (allS g_b30 all0))
      refine own_callS X37 hx hZ (y := own_y1) hown (own_h hw 52 rfl) (own_h hw 53 rfl) (own_h hw 2 rfl) (own_h hw 54 rfl) (by decide) (own_al l Z a0 hw [] c0 zCS fm T37.heap n0 (Nat.le_trans Z0 k46_.1) S_CS nCS S_AD S_HI S_LO S_SF hfm o47_) (by decide) (by decide) rfl (g := (mkF m 118 #[.val (.int p0), .val (.int p1), .val (.int p2), .val (.int p3), .val (.int 1), .val (.int c0), .val (.int c1), .val (.int c2), .val (.ref b24), .val (.ref b30), .unset] [(.int c0)])) rfl (by rw [hml]; rfl) (argsL := [(.int c0)]) (rest := []) (lenOf own_pd__28C_29Z rfl) rfl (W := 0) (by show 2 * 0 + _ ≤ _; exact Nat.le_of_eq rfl) (hb hby at_118) rfl (by decide) (by decide) ?_
      rintro rv48 T48 L48 X48 ⟨hv48, Nq48, eh48⟩
      have N48 := Fr.app N37 Nq48
      by_cases hok_c0 : own_ok c0 = true
      · simp [own_b, hok_c0] at hv48
        subst hv48
        refine own_g (mkF m 153 #[.val (.int p0), .val (.int p1), .val (.int p2), .val (.int p3), .val (.int 1), .val (.int c0), .val (.int c1), .val (.int c2), .val (.ref b24), .val (.ref b30), .unset] [(.int 1)]) (fun _ q => XS.ifNo X48.here hx rfl (hb hby at_121) rfl ((if0 _ _).trans (feq (by decide : ¬ ((1 : Int32) = (0 : Int32)))).1) (XS.iload X48.here hx rfl (hb hby at_124) rfl (XS.iconst X48.here hx rfl (hb hby at_126) (XS.icmpYes X48.here hx rfl (pc0 := 127) (pc' := 138) rfl (hb hby at_127) rfl (tlt (by decide : (1 : Int32) < (2 : Int32))).1 (by decide) (by decide) (XS.iload X48.here hx rfl (hb hby at_138) rfl (XS.iconst X48.here hx rfl (hb hby at_140) (XS.icmpYes X48.here hx rfl (pc0 := 141) (pc' := 152) rfl (hb hby at_141) rfl (tlt (by decide : (1 : Int32) < (3 : Int32))).1 (by decide) (by decide) (XS.iconst X48.here hx rfl (hb hby at_152) q)))))))) ?_
        refine own_g (mkF m 161 #[.val (.int p0), .val (.int p1), .val (.int p2), .val (.int p3), .val (.int 1), .val (.int c0), .val (.int c1), .val (.int c2), .val (.ref b24), .val (.ref b30), .val (.int 1)] [(.ref b30)]) (fun _ q => XS.goto X48.here hx rfl (pc0 := 153) (pc' := 157) rfl (hb hby at_153) (by decide) (by decide) (XS.istore X48.here hx rfl (hb hby at_157) rfl (l' := #[.val (.int p0), .val (.int p1), .val (.int p2), .val (.int p3), .val (.int 1), .val (.int c0), .val (.int c1), .val (.int c2), .val (.ref b24), .val (.ref b30), .val (.int 1)]) rfl (XS.aload X48.here hx rfl (hb hby at_159) rfl rfl q))) ?_
        refine own_callS X48 hx hZ (y := own_y0) hown (own_h hw 27 rfl) (own_h hw 28 rfl) (own_h hw 29 rfl) (own_h hw 30 rfl) (by decide) (own_fv_1_1 l Z a0 hw [] b30 tq kq_ c0 zCS fm T37.heap n0 (Nat.le_trans Z0 k46_.1) S_CS nCS S_AD S_HI S_LO S_SF hfm o47_ Eq37 Vq37 Cx Ax hb0 hn0) (by decide) (by decide) eh48 (g := (mkF m 161 #[.val (.int p0), .val (.int p1), .val (.int p2), .val (.int p3), .val (.int 1), .val (.int c0), .val (.int c1), .val (.int c2), .val (.ref b24), .val (.ref b30), .val (.int 1)] [(.ref b30)])) rfl (by rw [hml]; rfl) (argsL := [(.ref b30)]) (rest := []) (lenOf own_pd__28Ljava_2flang_2fString_3b_29Z rfl) rfl (W := 0) (by show 2 * 0 + _ ≤ _; exact Nat.le_of_eq rfl) (hb hby at_161) rfl (by decide) (by decide) ?_
        rintro rv49 T49 L49 X49 ⟨hv49, Nq49, eh49⟩
        have N49 := Fr.app N48 Nq49
        simp [own_b, hok_c0] at hv49
        subst hv49
        refine own_g (mkF m 174 #[.val (.int p0), .val (.int p1), .val (.int p2), .val (.int p3), .val (.int 1), .val (.int c0), .val (.int c1), .val (.int c2), .val (.ref b24), .val (.ref b30), .val (.int 1)] [(.int 1)]) (fun _ q => XS.iload X49.here hx rfl (hb hby at_164) rfl (XS.icmpNo X49.here hx rfl (hb hby at_166) rfl (teq (by decide : (1 : Int32) = (1 : Int32))).2 (XS.iconst X49.here hx rfl (hb hby at_169) (XS.goto X49.here hx rfl (pc0 := 170) (pc' := 174) rfl (hb hby at_170) (by decide) (by decide) q)))) ?_
        have hk50_ := (Nat.le_trans (Nat.le_trans (Nat.le_trans (Nat.le_trans hk0 E24.1) (Keep.of_wr W28).1) E30.1) Kq37.1)
        exact own_endW X49 hS (by rw [eh49]; exact hk50_) hZ hEL (by rw [hh]; rw [eh49]; exact C38) (v := some (.int (nar .boolean (1 : Int32)))) (fun h => by rw [Bd.returns] at h; cases h) hlk (fun hr => retN X49 hx (t := .boolean) Bd.returns (by simp) (hb hby at_174) hr) (by rw [eh49]; exact ⟨rfl, N49⟩) (by decide) (by decide)
      · simp [own_b, hok_c0] at hv48
        subst hv48
        refine own_g (mkF m 161 #[.val (.int p0), .val (.int p1), .val (.int p2), .val (.int p3), .val (.int 1), .val (.int c0), .val (.int c1), .val (.int c2), .val (.ref b24), .val (.ref b30), .val (.int 0)] [(.ref b30)]) (fun _ q => XS.ifYes X48.here hx rfl (pc0 := 121) (pc' := 156) rfl (hb hby at_121) rfl ((if0 _ _).trans (teq (by decide : (0 : Int32) = (0 : Int32))).1) (by decide) (by decide) (XS.iconst X48.here hx rfl (hb hby at_156) (XS.istore X48.here hx rfl (hb hby at_157) rfl (l' := #[.val (.int p0), .val (.int p1), .val (.int p2), .val (.int p3), .val (.int 1), .val (.int c0), .val (.int c1), .val (.int c2), .val (.ref b24), .val (.ref b30), .val (.int 0)]) rfl (XS.aload X48.here hx rfl (hb hby at_159) rfl rfl q)))) ?_
        refine own_callS X48 hx hZ (y := own_y0) hown (own_h hw 27 rfl) (own_h hw 28 rfl) (own_h hw 29 rfl) (own_h hw 30 rfl) (by decide) (own_fv_1_1 l Z a0 hw [] b30 tq kq_ c0 zCS fm T37.heap n0 (Nat.le_trans Z0 k46_.1) S_CS nCS S_AD S_HI S_LO S_SF hfm o47_ Eq37 Vq37 Cx Ax hb0 hn0) (by decide) (by decide) eh48 (g := (mkF m 161 #[.val (.int p0), .val (.int p1), .val (.int p2), .val (.int p3), .val (.int 1), .val (.int c0), .val (.int c1), .val (.int c2), .val (.ref b24), .val (.ref b30), .val (.int 0)] [(.ref b30)])) rfl (by rw [hml]; rfl) (argsL := [(.ref b30)]) (rest := []) (lenOf own_pd__28Ljava_2flang_2fString_3b_29Z rfl) rfl (W := 0) (by show 2 * 0 + _ ≤ _; exact Nat.le_of_eq rfl) (hb hby at_161) rfl (by decide) (by decide) ?_
        rintro rv51 T51 L51 X51 ⟨hv51, Nq51, eh51⟩
        have N51 := Fr.app N48 Nq51
        simp [own_b, hok_c0] at hv51
        subst hv51
        refine own_g (mkF m 174 #[.val (.int p0), .val (.int p1), .val (.int p2), .val (.int p3), .val (.int 1), .val (.int c0), .val (.int c1), .val (.int c2), .val (.ref b24), .val (.ref b30), .val (.int 0)] [(.int 1)]) (fun _ q => XS.iload X51.here hx rfl (hb hby at_164) rfl (XS.icmpNo X51.here hx rfl (hb hby at_166) rfl (teq (by decide : (0 : Int32) = (0 : Int32))).2 (XS.iconst X51.here hx rfl (hb hby at_169) (XS.goto X51.here hx rfl (pc0 := 170) (pc' := 174) rfl (hb hby at_170) (by decide) (by decide) q)))) ?_
        have hk52_ := (Nat.le_trans (Nat.le_trans (Nat.le_trans (Nat.le_trans hk0 E24.1) (Keep.of_wr W28).1) E30.1) Kq37.1)
        exact own_endW X51 hS (by rw [eh51]; exact hk52_) hZ hEL (by rw [hh]; rw [eh51]; exact C38) (v := some (.int (nar .boolean (1 : Int32)))) (fun h => by rw [Bd.returns] at h; cases h) hlk (fun hr => retN X51 hx (t := .boolean) Bd.returns (by simp) (hb hby at_174) hr) (by rw [eh51]; exact ⟨rfl, N51⟩) (by decide) (by decide)
  · skip
    refine own_g (mkF m 6 #[.val (.int p0), .val (.int p1), .val (.int p2), .val (.int p3), .val (.int 2), .unset, .unset, .unset, .unset, .unset, .unset] [(.int p1)]) (fun _ q => XS.iloadN X0.here hx rfl (hb hby at_5) rfl q) ?_
    refine own_callS X0 hx hZ (y := own_y2) hown (own_h hw 0 rfl) (own_h hw 1 rfl) (own_h hw 2 rfl) (own_h hw 3 rfl) (by decide) (own_pk l Z a0 hw [] p1 zCS fm h0 n0 Z0 S_CS nCS S_AD S_HI S_LO S_SF hfm O0) (by decide) (by decide) e0 (g := (mkF m 6 #[.val (.int p0), .val (.int p1), .val (.int p2), .val (.int p3), .val (.int 2), .unset, .unset, .unset, .unset, .unset, .unset] [(.int p1)])) rfl (by rw [hml]; rfl) (argsL := [(.int p1)]) (rest := []) (lenOf own_pd__28I_29C rfl) rfl (W := 0) (by show 2 * 0 + _ ≤ _; exact Nat.le_of_eq rfl) (hb hby at_6) rfl (by decide) (by decide) ?_
    rintro rv53 T53 L53 X53 ⟨⟨c0, rfl, hn0, hb0⟩, Nq53, eh53⟩
    have N53 := Fr.app N0 Nq53
    refine own_g (mkF m 12 #[.val (.int p0), .val (.int p1), .val (.int p2), .val (.int p3), .val (.int 2), .val (.int c0), .unset, .unset, .unset, .unset, .unset] [(.int p2)]) (fun _ q => XS.istore X53.here hx rfl (hb hby at_9) rfl (l' := #[.val (.int p0), .val (.int p1), .val (.int p2), .val (.int p3), .val (.int 2), .val (.int c0), .unset, .unset, .unset, .unset, .unset]) rfl (XS.iloadN X53.here hx rfl (hb hby at_11) rfl q)) ?_
    refine own_callS X53 hx hZ (y := own_y2) hown (own_h hw 0 rfl) (own_h hw 1 rfl) (own_h hw 2 rfl) (own_h hw 3 rfl) (by decide) (own_pk l Z a0 hw [] p2 zCS fm h0 n0 Z0 S_CS nCS S_AD S_HI S_LO S_SF hfm O0) (by decide) (by decide) eh53 (g := (mkF m 12 #[.val (.int p0), .val (.int p1), .val (.int p2), .val (.int p3), .val (.int 2), .val (.int c0), .unset, .unset, .unset, .unset, .unset] [(.int p2)])) rfl (by rw [hml]; rfl) (argsL := [(.int p2)]) (rest := []) (lenOf own_pd__28I_29C rfl) rfl (W := 0) (by show 2 * 0 + _ ≤ _; exact Nat.le_of_eq rfl) (hb hby at_12) rfl (by decide) (by decide) ?_
    rintro rv54 T54 L54 X54 ⟨⟨c1, rfl, hn1, hb1⟩, Nq54, eh54⟩
    have N54 := Fr.app N53 Nq54
    refine own_g (mkF m 18 #[.val (.int p0), .val (.int p1), .val (.int p2), .val (.int p3), .val (.int 2), .val (.int c0), .val (.int c1), .unset, .unset, .unset, .unset] [(.int p3)]) (fun _ q => XS.istore X54.here hx rfl (hb hby at_15) rfl (l' := #[.val (.int p0), .val (.int p1), .val (.int p2), .val (.int p3), .val (.int 2), .val (.int c0), .val (.int c1), .unset, .unset, .unset, .unset]) rfl (XS.iloadN X54.here hx rfl (hb hby at_17) rfl q)) ?_
    refine own_callS X54 hx hZ (y := own_y2) hown (own_h hw 0 rfl) (own_h hw 1 rfl) (own_h hw 2 rfl) (own_h hw 3 rfl) (by decide) (own_pk l Z a0 hw [] p3 zCS fm h0 n0 Z0 S_CS nCS S_AD S_HI S_LO S_SF hfm O0) (by decide) (by decide) eh54 (g := (mkF m 18 #[.val (.int p0), .val (.int p1), .val (.int p2), .val (.int p3), .val (.int 2), .val (.int c0), .val (.int c1), .unset, .unset, .unset, .unset] [(.int p3)])) rfl (by rw [hml]; rfl) (argsL := [(.int p3)]) (rest := []) (lenOf own_pd__28I_29C rfl) rfl (W := 0) (by show 2 * 0 + _ ≤ _; exact Nat.le_of_eq rfl) (hb hby at_18) rfl (by decide) (by decide) ?_
    rintro rv55 T55 L55 X55 ⟨⟨c2, rfl, hn2, hb2⟩, Nq55, eh55⟩
    have N55 := Fr.app N54 Nq55
    refine own_g (mkF m 58 #[.val (.int p0), .val (.int p1), .val (.int p2), .val (.int p3), .val (.int 2), .val (.int c0), .val (.int c1), .val (.int c2), .unset, .unset, .unset] [(.int 2), (.int 2)]) (fun _ q => XS.istore X55.here hx rfl (hb hby at_21) rfl (l' := #[.val (.int p0), .val (.int p1), .val (.int p2), .val (.int p3), .val (.int 2), .val (.int c0), .val (.int c1), .val (.int c2), .unset, .unset, .unset]) rfl (XS.iload X55.here hx rfl (hb hby at_23) rfl (XS.ifYes X55.here hx rfl (pc0 := 25) (pc' := 36) rfl (hb hby at_25) rfl ((if0 _ _).trans (feq (by decide : ¬ ((2 : Int32) = (0 : Int32)))).2) (by decide) (by decide) (XS.iload X55.here hx rfl (hb hby at_36) rfl (XS.iconst X55.here hx rfl (hb hby at_38) (XS.icmpYes X55.here hx rfl (pc0 := 39) (pc' := 55) rfl (hb hby at_39) rfl (feq (by decide : ¬ ((2 : Int32) = (1 : Int32)))).2 (by decide) (by decide) (XS.iload X55.here hx rfl (hb hby at_55) rfl (XS.iconst X55.here hx rfl (hb hby at_57) q)))))))) ?_
    refine own_g (mkF m 62 #[.val (.int p0), .val (.int p1), .val (.int p2), .val (.int p3), .val (.int 2), .val (.int c0), .val (.int c1), .val (.int c2), .unset, .unset, .unset] [(.int 2)]) (fun _ q => XS.icmpNo X55.here hx rfl (hb hby at_58) rfl (teq (by decide : (2 : Int32) = (2 : Int32))).2 (XS.iconst X55.here hx rfl (hb hby at_61) q)) ?_
    obtain ⟨T56, h56, k56, X56, e56, E56, A56, st56⟩ := newP X55 hx hZ (own_h hw 5 rfl) eh55 (g := (mkF m 62 #[.val (.int p0), .val (.int p1), .val (.int p2), .val (.int p3), .val (.int 2), .val (.int c0), .val (.int c1), .val (.int c2), .unset, .unset, .unset] [(.int 2)])) rfl (hb hby at_62) rfl (by decide) (cap := 2) (by decide) (by decide) (by decide) (by decide)
    obtain ⟨b56, g56⟩ : ∃ z, z = h0.size := ⟨_, rfl⟩
    rw [← g56] at A56 st56
    have g_b56 : n0 ≤ b56 := Nat.le_trans Z0 (Nat.le_of_eq g56.symm)
    have sz_b56 : h0.size ≤ b56 := Nat.le_trans (Keep.refl h0 []).1 (Nat.le_of_eq g56.symm)
    have sf_b56 : Safe Z consts_1 s.vm h0 b56 := Safe.new (Nat.le_of_eq g56.symm)
    have C57 := C0.trans (CHr.ext E56 C0.1)
    have V_b56 : Arv Z h56 b56 k56 .char (2 : Int32) [(.int 0), (.int 0)] (.int 0) := (Arv.new A56 (by decide)).pad (pad_rep [] (.int 0) 2)
    refine own_by (g' := (mkF m 64 #[.val (.int p0), .val (.int p1), .val (.int p2), .val (.int p3), .val (.int 2), .val (.int c0), .val (.int c1), .val (.int c2), .unset, .unset, .unset] [(.ref b56)])) st56 ?_
    refine own_g (mkF m 68 #[.val (.int p0), .val (.int p1), .val (.int p2), .val (.int p3), .val (.int 2), .val (.int c0), .val (.int c1), .val (.int c2), .unset, .unset, .unset] [(.int c0), (.int 0), (.ref b56), (.ref b56)]) (fun _ q => XS.dup X56.here hx rfl (hb hby at_64) rfl rfl (XS.iconst X56.here hx rfl (hb hby at_65) (XS.iload X56.here hx rfl (hb hby at_66) rfl q))) ?_
    have sw58 : Safe Z consts_1 s.vm h56 b56 := (Safe.arv hZ.alike V_b56 (by decide))
    obtain ⟨cl59, Ar59, q59, S59, P59, H59, G59⟩ := id V_b56
    have hin59 : ¬ ((0 : Int32) < 0 ∨ cl59.slots.size ≤ ((0 : Int32)).toNatClampNeg) := inb_of S59 ⟨by decide, by decide⟩
    obtain ⟨T60, h60, X60, e60, W60, st60⟩ := stC X56 hx hZ e56 Ar59 (j := (0 : Int32)) hin59 (g := (mkF m 68 #[.val (.int p0), .val (.int p1), .val (.int p2), .val (.int p3), .val (.int 2), .val (.int c0), .val (.int c1), .val (.int c2), .unset, .unset, .unset] [(.int c0), (.int 0), (.ref b56), (.ref b56)])) rfl rfl (hb hby at_68)
    have V60 : Arv Z h60 b56 k56 .char (2 : Int32) [(.int (nar .char c0)), (.int 0)] (.int 0) := Arv.set Ar59 q59 S59 P59 H59 G59 (fits_nar_char _) W60 0 rfl (Nat.le_of_ble_eq_true rfl)
    have C61 := C57.trans (CHr.wr W60 sw58 C57.1)
    have N60 := Fr.snoc X60 N55 g_b56
    refine own_by (g' := (mkF m 69 #[.val (.int p0), .val (.int p1), .val (.int p2), .val (.int p3), .val (.int 2), .val (.int c0), .val (.int c1), .val (.int c2), .unset, .unset, .unset] [(.ref b56)])) st60 ?_
    refine own_g (mkF m 73 #[.val (.int p0), .val (.int p1), .val (.int p2), .val (.int p3), .val (.int 2), .val (.int c0), .val (.int c1), .val (.int c2), .unset, .unset, .unset] [(.int c1), (.int 1), (.ref b56), (.ref b56)]) (fun _ q => XS.dup X60.here hx rfl (hb hby at_69) rfl rfl (XS.iconst X60.here hx rfl (hb hby at_70) (XS.iload X60.here hx rfl (hb hby at_71) rfl q))) ?_
    have sw62 : Safe Z consts_1 s.vm h60 b56 := (Safe.arv hZ.alike V60 (by decide))
    obtain ⟨cl63, Ar63, q63, S63, P63, H63, G63⟩ := id V60
    have hin63 : ¬ ((1 : Int32) < 0 ∨ cl63.slots.size ≤ ((1 : Int32)).toNatClampNeg) := inb_of S63 ⟨by decide, by decide⟩
    obtain ⟨T64, h64, X64, e64, W64, st64⟩ := stC X60 hx hZ e60 Ar63 (j := (1 : Int32)) hin63 (g := (mkF m 73 #[.val (.int p0), .val (.int p1), .val (.int p2), .val (.int p3), .val (.int 2), .val (.int c0), .val (.int c1), .val (.int c2), .unset, .unset, .unset] [(.int c1), (.int 1), (.ref b56), (.ref b56)])) rfl rfl (hb hby at_73)
    have V64 : Arv Z h64 b56 k56 .char (2 : Int32) [(.int (nar .char c0)), (.int (nar .char c1))] (.int 0) := Arv.set Ar63 q63 S63 P63 H63 G63 (fits_nar_char _) W64 1 rfl (Nat.le_of_ble_eq_true rfl)
    have C65 := C61.trans (CHr.wr W64 sw62 C61.1)
    have N64 := Fr.snoc X64 N60 g_b56
    refine own_by (g' := (mkF m 74 #[.val (.int p0), .val (.int p1), .val (.int p2), .val (.int p3), .val (.int 2), .val (.int c0), .val (.int c1), .val (.int c2), .unset, .unset, .unset] [(.ref b56)])) st64 ?_
    refine own_g (mkF m 99 #[.val (.int p0), .val (.int p1), .val (.int p2), .val (.int p3), .val (.int 2), .val (.int c0), .val (.int c1), .val (.int c2), .val (.ref b56), .unset, .unset] []) (fun _ q => XS.astore X64.here hx rfl (hb hby at_74) rfl rfl (l' := #[.val (.int p0), .val (.int p1), .val (.int p2), .val (.int p3), .val (.int 2), .val (.int c0), .val (.int c1), .val (.int c2), .val (.ref b56), .unset, .unset]) rfl (XS.goto X64.here hx rfl (pc0 := 76) (pc' := 99) rfl (hb hby at_76) (by decide) (by decide) q)) ?_
    obtain ⟨T66, h66, X66, e66, E66, A66, D66, U66, st66⟩ := newO X64 hx hZ hown (own_h hw 6 rfl) (own_h hw 7 rfl) (own_h hw 8 rfl) e64 (g := (mkF m 99 #[.val (.int p0), .val (.int p1), .val (.int p2), .val (.int p3), .val (.int 2), .val (.int c0), .val (.int c1), .val (.int c2), .val (.ref b56), .unset, .unset] [])) rfl (hb hby at_99) (by decide) (by decide)
    obtain ⟨b66, g66⟩ : ∃ z, z = h64.size := ⟨_, rfl⟩
    rw [← g66] at A66 D66 U66 st66
    have k67_ := ((((Keep.refl h0 []).ext E56).wr W60 (Or.inr sz_b56)).wr W64 (Or.inr sz_b56))
    have g_b66 : n0 ≤ b66 := Nat.le_trans (Nat.le_trans Z0 k67_.1) (Nat.le_of_eq g66.symm)
    have sz_b66 : h0.size ≤ b66 := Nat.le_trans k67_.1 (Nat.le_of_eq g66.symm)
    have sf_b66 : Safe Z consts_1 s.vm h64 b66 := Safe.new (Nat.le_of_eq g66.symm)
    have ne_b56_b66 : b56 ≠ b66 := Nat.ne_of_lt (Nat.lt_of_lt_of_le V64.lt (Nat.le_of_eq g66.symm))
    have C68 := C65.trans (CHr.ext E66 C65.1)
    have F_value_b66 : Fld Z h66 b66 "java/lang/String" "value" "[B" .null := D66 (Or.inr (own_h hw 21 rfl)) (ty := (.array .byte)) (by decide)
    have F_coder_b66 : Fld Z h66 b66 "java/lang/String" "coder" "B" (.int 0) := D66 (Or.inr (own_h hw 22 rfl)) (ty := .byte) (by decide)
    refine own_by (g' := (mkF m 102 #[.val (.int p0), .val (.int p1), .val (.int p2), .val (.int p3), .val (.int 2), .val (.int c0), .val (.int c1), .val (.int c2), .val (.ref b56), .unset, .unset] [(.ref b66)])) st66 ?_
    refine own_g (mkF m 105 #[.val (.int p0), .val (.int p1), .val (.int p2), .val (.int p3), .val (.int 2), .val (.int c0), .val (.int c1), .val (.int c2), .val (.ref b56), .unset, .unset] [(.ref b56), (.ref b66), (.ref b66)]) (fun _ q => XS.dup X66.here hx rfl (hb hby at_102) rfl rfl (XS.aload X66.here hx rfl (hb hby at_103) rfl rfl q)) ?_
    have a69_b56 := (V64.ext E66)
    have Kc : Arv Z h66 b56 k56 .char (2 : Int32) [(.int c0), (.int c1)] (.int 0) := by have q := a69_b56; rw [hn0, hn1] at q; exact q
    have sf70_b66 := (sf_b66.ext E66 C65.1)
    have k71_ := (k67_.ext E66)
    have o72_ := ((((O0.ext E56).wr W60 g_b56).wr W64 g_b56).ext E66)
    refine own_callI X66 hx hZ (y := own_y3) rfl hown (own_h hw 9 rfl) (own_h hw 10 rfl) (own_h hw 11 rfl) (own_h hw 8 rfl) (by decide) (own_i7_2 l Z a0 hw [] b66 b56 k56 _ c0 c1 zCS fm h66 n0 (Nat.le_trans Z0 k71_.1) S_CS nCS S_AD S_HI S_LO S_SF hfm o72_ A66 F_value_b66 F_coder_b66 g_b66 Kc ne_b56_b66 hb0 hb1 hn0 hn1) (by decide) (by decide) e66 (g := (mkF m 105 #[.val (.int p0), .val (.int p1), .val (.int p2), .val (.int p3), .val (.int 2), .val (.int c0), .val (.int c1), .val (.int c2), .val (.ref b56), .unset, .unset] [(.ref b56), (.ref b66), (.ref b66)])) rfl (by rw [hml]; rfl) (argsL := [(.ref b56)]) (rest := [(.ref b66)]) (lenOf own_pd__28_5bC_29V rfl) rfl (W := 1) (by show 2 * 0 + _ ≤ _; exact Nat.le_of_eq rfl) (hb hby at_105) rfl (by decide) (by decide) ?_
    rintro rv73 T73 L73 X73 ⟨rfl, Nq73, Kq73, Eq73, tq, kq_, Vq73, hv73⟩
    have N73 := Fr.app N64 Nq73
    show own_Fin p e below _ T73 (mkF m 108 #[.val (.int p0), .val (.int p1), .val (.int p2), .val (.int p3), .val (.int 2), .val (.int c0), .val (.int c1), .val (.int c2), .val (.ref b56), .unset, .unset] [(.ref b66)])
    have C74 := C68.trans (CHr.keep Kq73 (sfS sf70_b66 sf0) C68.1)
    rcases hv73 with ⟨ha0, ha1, Cx, Ax⟩ | ⟨Cx, Ax⟩
    · skip
      refine own_g (mkF m 118 #[.val (.int p0), .val (.int p1), .val (.int p2), .val (.int p3), .val (.int 2), .val (.int c0), .val (.int c1), .val (.int c2), .val (.ref b56), .val (.ref b66), .unset] [(.int c0)]) (fun _ q => XS.astore X73.here hx rfl (hb hby at_108) rfl rfl (l' := #[.val (.int p0), .val (.int p1), .val (.int p2), .val (.int p3), .val (.int 2), .val (.int c0), .val (.int c1), .val (.int c2), .val (.ref b56), .val (.ref b66), .unset]) rfl (XS.iload X73.here hx rfl (hb hby at_110) rfl (XS.iconst X73.here hx rfl (hb hby at_112) (XS.icmpNo X73.here hx rfl (hb hby at_113) rfl (flt (by decide : ¬ ((2 : Int32) < (1 : Int32)))).1 (XS.iload X73.here hx rfl (hb hby at_116) rfl q))))) ?_
      have k75_ := (k71_.trans Kq73 (allS (Or.inr sz_b66) all0))
      have o76_ := (o72_.keep Kq73 (allS g_b66 all0))
      refine own_callS X73 hx hZ (y := own_y1) hown (own_h hw 52 rfl) (own_h hw 53 rfl) (own_h hw 2 rfl) (own_h hw 54 rfl) (by decide) (own_al l Z a0 hw [] c0 zCS fm T73.heap n0 (Nat.le_trans Z0 k75_.1) S_CS nCS S_AD S_HI S_LO S_SF hfm o76_) (by decide) (by decide) rfl (g := (mkF m 118 #[.val (.int p0), .val (.int p1), .val (.int p2), .val (.int p3), .val (.int 2), .val (.int c0), .val (.int c1), .val (.int c2), .val (.ref b56), .val (.ref b66), .unset] [(.int c0)])) rfl (by rw [hml]; rfl) (argsL := [(.int c0)]) (rest := []) (lenOf own_pd__28C_29Z rfl) rfl (W := 0) (by show 2 * 0 + _ ≤ _; exact Nat.le_of_eq rfl) (hb hby at_118) rfl (by decide) (by decide) ?_
      rintro rv77 T77 L77 X77 ⟨hv77, Nq77, eh77⟩
      have N77 := Fr.app N73 Nq77
      by_cases hok_c0 : own_ok c0 = true
      · simp [own_b, hok_c0] at hv77
        subst hv77
        refine own_g (mkF m 132 #[.val (.int p0), .val (.int p1), .val (.int p2), .val (.int p3), .val (.int 2), .val (.int c0), .val (.int c1), .val (.int c2), .val (.ref b56), .val (.ref b66), .unset] [(.int c1)]) (fun _ q => XS.ifNo X77.here hx rfl (hb hby at_121) rfl ((if0 _ _).trans (feq (by decide : ¬ ((1 : Int32) = (0 : Int32)))).1) (XS.iload X77.here hx rfl (hb hby at_124) rfl (XS.iconst X77.here hx rfl (hb hby at_126) (XS.icmpNo X77.here hx rfl (hb hby at_127) rfl (flt (by decide : ¬ ((2 : Int32) < (2 : Int32)))).1 (XS.iload X77.here hx rfl (hb hby at_130) rfl q))))) ?_
        refine own_callS X77 hx hZ (y := own_y1) hown (own_h hw 52 rfl) (own_h hw 53 rfl) (own_h hw 2 rfl) (own_h hw 54 rfl) (by decide) (own_al l Z a0 hw [] c1 zCS fm T73.heap n0 (Nat.le_trans Z0 k75_.1) S_CS nCS S_AD S_HI S_LO S_SF hfm o76_) (by decide) (by decide) eh77 (g := (mkF m 132 #[.val (.int p0), .val (.int p1), .val (.int p2), .val (.int p3), .val (.int 2), .val (.int c0), .val (.int c1), .val (.int c2), .val (.ref b56), .val (.ref b66), .unset] [(.int c1)])) rfl (by rw [hml]; rfl) (argsL := [(.int c1)]) (rest := []) (lenOf own_pd__28C_29Z rfl) rfl (W := 0) (by show 2 * 0 + _ ≤ _; exact Nat.le_of_eq rfl) (hb hby at_132) rfl (by decide) (by decide) ?_
        rintro rv78 T78 L78 X78 ⟨hv78, Nq78, eh78⟩
        have N78 := Fr.app N77 Nq78
        by_cases hok_c1 : own_ok c1 = true
        · simp [own_b, hok_c1] at hv78
          subst hv78
          refine own_g (mkF m 161 #[.val (.int p0), .val (.int p1), .val (.int p2), .val (.int p3), .val (.int 2), .val (.int c0), .val (.int c1), .val (.int c2), .val (.ref b56), .val (.ref b66), .val (.int 1)] [(.ref b66)]) (fun _ q => XS.ifNo X78.here hx rfl (hb hby at_135) rfl ((if0 _ _).trans (feq (by decide : ¬ ((1 : Int32) = (0 : Int32)))).1) (XS.iload X78.here hx rfl (hb hby at_138) rfl (XS.iconst X78.here hx rfl (hb hby at_140) (XS.icmpYes X78.here hx rfl (pc0 := 141) (pc' := 152) rfl (hb hby at_141) rfl (tlt (by decide : (2 : Int32) < (3 : Int32))).1 (by decide) (by decide) (XS.iconst X78.here hx rfl (hb hby at_152) (XS.goto X78.here hx rfl (pc0 := 153) (pc' := 157) rfl (hb hby at_153) (by decide) (by decide) (XS.istore X78.here hx rfl (hb hby at_157) rfl (l' := #[.val (.int p0), .val (.int p1), .val (.int p2), .val (.int p3), .val (.int 2), .val (.int c0), .val (.int c1), .val (.int c2), .val (.ref b56), .val (.ref b66), .val (.int 1)]) rfl (XS.aload X78.here hx rfl (hb hby at_159) rfl rfl q)))))))) ?_
          refine own_callS X78 hx hZ (y := own_y0) hown (own_h hw 27 rfl) (own_h hw 28 rfl) (own_h hw 29 rfl) (own_h hw 30 rfl) (by decide) (own_fv_0_2 l Z a0 hw [] b66 tq kq_ c0 c1 zCS fm T73.heap n0 (Nat.le_trans Z0 k75_.1) S_CS nCS S_AD S_HI S_LO S_SF hfm o76_ Eq73 Vq73 Cx Ax ⟨hb0.1, ha0⟩ ⟨hb1.1, ha1⟩ hn0 hn1) (by decide) (by decide) eh78 (g := (mkF m 161 #[.val (.int p0), .val (.int p1), .val (.int p2), .val (.int p3), .val (.int 2), .val (.int c0), .val (.int c1), .val (.int c2), .val (.ref b56), .val (.ref b66), .val (.int 1)] [(.ref b66)])) rfl (by rw [hml]; rfl) (argsL := [(.ref b66)]) (rest := []) (lenOf own_pd__28Ljava_2flang_2fString_3b_29Z rfl) rfl (W := 0) (by show 2 * 0 + _ ≤ _; exact Nat.le_of_eq rfl) (hb hby at_161) rfl (by decide) (by decide) ?_
          rintro rv79 T79 L79 X79 ⟨hv79, Nq79, eh79⟩
          have N79 := Fr.app N78 Nq79
          simp [own_b, hok_c0, hok_c1] at hv79
          subst hv79
          refine own_g (mkF m 174 #[.val (.int p0), .val (.int p1), .val (.int p2), .val (.int p3), .val (.int 2), .val (.int c0), .val (.int c1), .val (.int c2), .val (.ref b56), .val (.ref b66), .val (.int 1)] [(.int 1)]) (fun _ q => XS.iload X79.here hx rfl (hb hby at_164) rfl (XS.icmpNo X79.here hx rfl (hb hby at_166) rfl (teq (by decide : (1 : Int32) = (1 : Int32))).2 (XS.iconst X79.here hx rfl (hb hby at_169) (XS.goto X79.here hx rfl (pc0 := 170) (pc' := 174) rfl (hb hby at_170) (by decide) (by decide) q)))) ?_
          have hk80_ := (Nat.le_trans (Nat.le_trans (Nat.le_trans (Nat.le_trans (Nat.le_trans hk0 E56.1) (Keep.of_wr W60).1) (Keep.of_wr W64).1) E66.1) Kq73.1)
          exact own_endW X79 hS (by rw [eh79]; exact hk80_) hZ hEL (by rw [hh]; rw [eh79]; exact C74) (v := some (.int (nar .boolean (1 : Int32)))) (fun h => by rw [Bd.returns] at h; cases h) hlk (fun hr => retN X79 hx (t := .boolean) Bd.returns (by simp) (hb hby at_174) hr) (by rw [eh79]; exact ⟨rfl, N79⟩) (by decide) (by decide)
        · simp [own_b, hok_c1] at hv78
          subst hv78
          refine own_g (mkF m 161 #[.val (.int p0), .val (.int p1), .val (.int p2), .val (.int p3), .val (.int 2), .val (.int c0), .val (.int c1), .val (.int c2), .val (.ref b56), .val (.ref b66), .val (.int 0)] [(.ref b66)]) (fun _ q => XS.ifYes X78.here hx rfl (pc0 := 135) (pc' := 156) rfl (hb hby at_135) rfl ((if0 _ _).trans (teq (by decide : (0 : Int32) = (0 : Int32))).1) (by decide) (by decide) (XS.iconst X78.here hx rfl (hb hby at_156) (XS.istore X78.here hx rfl (hb hby at_157) rfl (l' := #[.val (.int p0), .val (.int p1), .val (.int p2), .val (.int p3), .val (.int 2), .val (.int c0), .val (.int c1), .val (.int c2), .val (.ref b56), .val (.ref b66), .val (.int 0)]) rfl (XS.aload X78.here hx rfl (hb hby at_159) rfl rfl q)))) ?_
          refine own_callS X78 hx hZ (y := own_y0) hown (own_h hw 27 rfl) (own_h hw 28 rfl) (own_h hw 29 rfl) (own_h hw 30 rfl) (by decide) (own_fv_0_2 l Z a0 hw [] b66 tq kq_ c0 c1 zCS fm T73.heap n0 (Nat.le_trans Z0 k75_.1) S_CS nCS S_AD S_HI S_LO S_SF hfm o76_ Eq73 Vq73 Cx Ax ⟨hb0.1, ha0⟩ ⟨hb1.1, ha1⟩ hn0 hn1) (by decide) (by decide) eh78 (g := (mkF m 161 #[.val (.int p0), .val (.int p1), .val (.int p2), .val (.int p3), .val (.int 2), .val (.int c0), .val (.int c1), .val (.int c2), .val (.ref b56), .val (.ref b66), .val (.int 0)] [(.ref b66)])) rfl (by rw [hml]; rfl) (argsL := [(.ref b66)]) (rest := []) (lenOf own_pd__28Ljava_2flang_2fString_3b_29Z rfl) rfl (W := 0) (by show 2 * 0 + _ ≤ _; exact Nat.le_of_eq rfl) (hb hby at_161) rfl (by decide) (by decide) ?_
          rintro rv81 T81 L81 X81 ⟨hv81, Nq81, eh81⟩
          have N81 := Fr.app N78 Nq81
          simp [own_b, hok_c0, hok_c1] at hv81
          subst hv81
          refine own_g (mkF m 174 #[.val (.int p0), .val (.int p1), .val (.int p2), .val (.int p3), .val (.int 2), .val (.int c0), .val (.int c1), .val (.int c2), .val (.ref b56), .val (.ref b66), .val (.int 0)] [(.int 1)]) (fun _ q => XS.iload X81.here hx rfl (hb hby at_164) rfl (XS.icmpNo X81.here hx rfl (hb hby at_166) rfl (teq (by decide : (0 : Int32) = (0 : Int32))).2 (XS.iconst X81.here hx rfl (hb hby at_169) (XS.goto X81.here hx rfl (pc0 := 170) (pc' := 174) rfl (hb hby at_170) (by decide) (by decide) q)))) ?_
          have hk82_ := (Nat.le_trans (Nat.le_trans (Nat.le_trans (Nat.le_trans (Nat.le_trans hk0 E56.1) (Keep.of_wr W60).1) (Keep.of_wr W64).1) E66.1) Kq73.1)
          exact own_endW X81 hS (by rw [eh81]; exact hk82_) hZ hEL (by rw [hh]; rw [eh81]; exact C74) (v := some (.int (nar .boolean (1 : Int32)))) (fun h => by rw [Bd.returns] at h; cases h) hlk (fun hr => retN X81 hx (t := .boolean) Bd.returns (by simp) (hb hby at_174) hr) (by rw [eh81]; exact ⟨rfl, N81⟩) (by decide) (by decide)
      · simp [own_b, hok_c0] at hv77
        subst hv77
        refine own_g (mkF m 161 #[.val (.int p0), .val (.int p1), .val (.int p2), .val (.int p3), .val (.int 2), .val (.int c0), .val (.int c1), .val (.int c2), .val (.ref b56), .val (.ref b66), .val (.int 0)] [(.ref b66)]) (fun _ q => XS.ifYes X77.here hx rfl (pc0 := 121) (pc' := 156) rfl (hb hby at_121) rfl ((if0 _ _).trans (teq (by decide : (0 : Int32) = (0 : Int32))).1) (by decide) (by decide) (XS.iconst X77.here hx rfl (hb hby at_156) (XS.istore X77.here hx rfl (hb hby at_157) rfl (l' := #[.val (.int p0), .val (.int p1), .val (.int p2), .val (.int p3), .val (.int 2), .val (.int c0), .val (.int c1), .val (.int c2), .val (.ref b56), .val (.ref b66), .val (.int 0)]) rfl (XS.aload X77.here hx rfl (hb hby at_159) rfl rfl q)))) ?_
        refine own_callS X77 hx hZ (y := own_y0) hown (own_h hw 27 rfl) (own_h hw 28 rfl) (own_h hw 29 rfl) (own_h hw 30 rfl) (by decide) (own_fv_0_2 l Z a0 hw [] b66 tq kq_ c0 c1 zCS fm T73.heap n0 (Nat.le_trans Z0 k75_.1) S_CS nCS S_AD S_HI S_LO S_SF hfm o76_ Eq73 Vq73 Cx Ax ⟨hb0.1, ha0⟩ ⟨hb1.1, ha1⟩ hn0 hn1) (by decide) (by decide) eh77 (g := (mkF m 161 #[.val (.int p0), .val (.int p1), .val (.int p2), .val (.int p3), .val (.int 2), .val (.int c0), .val (.int c1), .val (.int c2), .val (.ref b56), .val (.ref b66), .val (.int 0)] [(.ref b66)])) rfl (by rw [hml]; rfl) (argsL := [(.ref b66)]) (rest := []) (lenOf own_pd__28Ljava_2flang_2fString_3b_29Z rfl) rfl (W := 0) (by show 2 * 0 + _ ≤ _; exact Nat.le_of_eq rfl) (hb hby at_161) rfl (by decide) (by decide) ?_
        rintro rv83 T83 L83 X83 ⟨hv83, Nq83, eh83⟩
        have N83 := Fr.app N77 Nq83
        simp [own_b, hok_c0] at hv83
        subst hv83
        refine own_g (mkF m 174 #[.val (.int p0), .val (.int p1), .val (.int p2), .val (.int p3), .val (.int 2), .val (.int c0), .val (.int c1), .val (.int c2), .val (.ref b56), .val (.ref b66), .val (.int 0)] [(.int 1)]) (fun _ q => XS.iload X83.here hx rfl (hb hby at_164) rfl (XS.icmpNo X83.here hx rfl (hb hby at_166) rfl (teq (by decide : (0 : Int32) = (0 : Int32))).2 (XS.iconst X83.here hx rfl (hb hby at_169) (XS.goto X83.here hx rfl (pc0 := 170) (pc' := 174) rfl (hb hby at_170) (by decide) (by decide) q)))) ?_
        have hk84_ := (Nat.le_trans (Nat.le_trans (Nat.le_trans (Nat.le_trans (Nat.le_trans hk0 E56.1) (Keep.of_wr W60).1) (Keep.of_wr W64).1) E66.1) Kq73.1)
        exact own_endW X83 hS (by rw [eh83]; exact hk84_) hZ hEL (by rw [hh]; rw [eh83]; exact C74) (v := some (.int (nar .boolean (1 : Int32)))) (fun h => by rw [Bd.returns] at h; cases h) hlk (fun hr => retN X83 hx (t := .boolean) Bd.returns (by simp) (hb hby at_174) hr) (by rw [eh83]; exact ⟨rfl, N83⟩) (by decide) (by decide)
    · skip
      refine own_g (mkF m 118 #[.val (.int p0), .val (.int p1), .val (.int p2), .val (.int p3), .val (.int 2), .val (.int c0), .val (.int c1), .val (.int c2), .val (.ref b56), .val (.ref b66), .unset] [(.int c0)]) (fun _ q => XS.astore X73.here hx rfl (hb hby at_108) rfl rfl (l' := #[.val (.int p0), .val (.int p1), .val (.int p2), .val (.int p3), .val (.int 2), .val (.int c0), .val (.int c1), .val (.int c2), .val (.ref b56), .val (.ref b66), .unset]) rfl (XS.iload X73.here hx rfl (hb hby at_110) rfl (XS.iconst X73.here hx rfl (hb hby at_112) (XS.icmpNo X73.here hx rfl (hb hby at_113) rfl (flt (by decide : ¬ ((2 : Int32) < (1 : Int32)))).1 (XS.iload X73.here hx rfl (hb hby at_116) rfl q))))) ?_
      have k85_ := (k71_.trans Kq73 (allS (Or.inr sz_b66) all0))
      have o86_ := (o72_.keep Kq73 (allS g_b66 all0))
      refine own_callS X73 hx hZ (y := own_y1) hown (own_h hw 52 rfl) (own_h hw 53 rfl) (own_h hw 2 rfl) (own_h hw 54 rfl) (by decide) (own_al l Z a0 hw [] c0 zCS fm T73.heap n0 (Nat.le_trans Z0 k85_.1) S_CS nCS S_AD S_HI S_LO S_SF hfm o86_) (by decide) (by decide) rfl (g := (mkF m 118 #[.val (.int p0), .val (.int p1), .val (.int p2), .val (.int p3), .val (.int 2), .val (.int c0), .val (.int c1), .val (.int c2), .val (.ref b56), .val (.ref b66), .unset] [(.int c0)])) rfl (by rw [hml]; rfl) (argsL := [(.int c0)]) (rest := []) (lenOf own_pd__28C_29Z rfl) rfl (W := 0) (by show 2 * 0 + _ ≤ _; exact Nat.le_of_eq rfl) (hb hby at_118) rfl (by decide) (by decide) ?_
      rintro rv87 T87 L87 X87 ⟨hv87, Nq87, eh87⟩
      have N87 := Fr.app N73 Nq87
      by_cases hok_c0 : own_ok c0 = true
      · simp [own_b, hok_c0] at hv87
        subst hv87
        refine own_g (mkF m 132 #[.val (.int p0), .val (.int p1), .val (.int p2), .val (.int p3), .val (.int 2), .val (.int c0), .val (.int c1), .val (.int c2), .val (.ref b56), .val (.ref b66), .unset] [(.int c1)]) (fun _ q => XS.ifNo X87.here hx rfl (hb hby at_121) rfl ((if0 _ _).trans (feq (by decide : ¬ ((1 : Int32) = (0 : Int32)))).1) (XS.iload X87.here hx rfl (hb hby at_124) rfl (XS.iconst X87.here hx rfl (hb hby at_126) (XS.icmpNo X87.here hx rfl (hb hby at_127) rfl (flt (by decide : ¬ ((2 : Int32) < (2 : Int32)))).1 (XS.iload X87.here hx rfl (hb hby at_130) rfl q))))) ?_
        refine own_callS X87 hx hZ (y := own_y1) hown (own_h hw 52 rfl) (own_h hw 53 rfl) (own_h hw 2 rfl) (own_h hw 54 rfl) (by decide) (own_al l Z a0 hw [] c1 zCS fm T73.heap n0 (Nat.le_trans Z0 k85_.1) S_CS nCS S_AD S_HI S_LO S_SF hfm o86_) (by decide) (by decide) eh87 (g := (mkF m 132 #[.val (.int p0), .val (.int p1), .val (.int p2), .val (.int p3), .val (.int 2), .val (.int c0), .val (.int c1), .val (.int c2), .val (.ref b56), .val (.ref b66), .unset] [(.int c1)])) rfl (by rw [hml]; rfl) (argsL := [(.int c1)]) (rest := []) (lenOf own_pd__28C_29Z rfl) rfl (W := 0) (by show 2 * 0 + _ ≤ _; exact Nat.le_of_eq rfl) (hb hby at_132) rfl (by decide) (by decide) ?_
        rintro rv88 T88 L88 X88 ⟨hv88, Nq88, eh88⟩
        have N88 := Fr.app N87 Nq88
        by_cases hok_c1 : own_ok c1 = true
        · simp [own_b, hok_c1] at hv88
          subst hv88
          refine own_g (mkF m 161 #[.val (.int p0), .val (.int p1), .val (.int p2), .val (.int p3), .val (.int 2), .val (.int c0), .val (.int c1), .val (.int c2), .val (.ref b56), .val (.ref b66), .val (.int 1)] [(.ref b66)]) (fun _ q => XS.ifNo X88.here hx rfl (hb hby at_135) rfl ((if0 _ _).trans (feq (by decide : ¬ ((1 : Int32) = (0 : Int32)))).1) (XS.iload X88.here hx rfl (hb hby at_138) rfl (XS.iconst X88.here hx rfl (hb hby at_140) (XS.icmpYes X88.here hx rfl (pc0 := 141) (pc' := 152) rfl (hb hby at_141) rfl (tlt (by decide : (2 : Int32) < (3 : Int32))).1 (by decide) (by decide) (XS.iconst X88.here hx rfl (hb hby at_152) (XS.goto X88.here hx rfl (pc0 := 153) (pc' := 157) rfl (hb hby at_153) (by decide) (by decide) (XS.istore X88.here hx rfl (hb hby at_157) rfl (l' := #[.val (.int p0), .val (.int p1), .val (.int p2), .val (.int p3), .val (.int 2), .val (.int c0), .val (.int c1), .val (.int c2), .val (.ref b56), .val (.ref b66), .val (.int 1)]) rfl (XS.aload X88.here hx rfl (hb hby at_159) rfl rfl q)))))))) ?_
          refine own_callS X88 hx hZ (y := own_y0) hown (own_h hw 27 rfl) (own_h hw 28 rfl) (own_h hw 29 rfl) (own_h hw 30 rfl) (by decide) (own_fv_1_2 l Z a0 hw [] b66 tq kq_ c0 c1 zCS fm T73.heap n0 (Nat.le_trans Z0 k85_.1) S_CS nCS S_AD S_HI S_LO S_SF hfm o86_ Eq73 Vq73 Cx Ax hb0 hb1 hn0 hn1) (by decide) (by decide) eh88 (g := (mkF m 161 #[.val (.int p0), .val (.int p1), .val (.int p2), .val (.int p3), .val (.int 2), .val (.int c0), .val (.int c1), .val (.int c2), .val (.ref b56), .val (.ref b66), .val (.int 1)] [(.ref b66)])) rfl (by rw [hml]; rfl) (argsL := [(.ref b66)]) (rest := []) (lenOf own_pd__28Ljava_2flang_2fString_3b_29Z rfl) rfl (W := 0) (by show 2 * 0 + _ ≤ _; exact Nat.le_of_eq rfl) (hb hby at_161) rfl (by decide) (by decide) ?_
          rintro rv89 T89 L89 X89 ⟨hv89, Nq89, eh89⟩
          have N89 := Fr.app N88 Nq89
          simp [own_b, hok_c0, hok_c1] at hv89
          subst hv89
          refine own_g (mkF m 174 #[.val (.int p0), .val (.int p1), .val (.int p2), .val (.int p3), .val (.int 2), .val (.int c0), .val (.int c1), .val (.int c2), .val (.ref b56), .val (.ref b66), .val (.int 1)] [(.int 1)]) (fun _ q => XS.iload X89.here hx rfl (hb hby at_164) rfl (XS.icmpNo X89.here hx rfl (hb hby at_166) rfl (teq (by decide : (1 : Int32) = (1 : Int32))).2 (XS.iconst X89.here hx rfl (hb hby at_169) (XS.goto X89.here hx rfl (pc0 := 170) (pc' := 174) rfl (hb hby at_170) (by decide) (by decide) q)))) ?_
          have hk90_ := (Nat.le_trans (Nat.le_trans (Nat.le_trans (Nat.le_trans (Nat.le_trans hk0 E56.1) (Keep.of_wr W60).1) (Keep.of_wr W64).1) E66.1) Kq73.1)
          exact own_endW X89 hS (by rw [eh89]; exact hk90_) hZ hEL (by rw [hh]; rw [eh89]; exact C74) (v := some (.int (nar .boolean (1 : Int32)))) (fun h => by rw [Bd.returns] at h; cases h) hlk (fun hr => retN X89 hx (t := .boolean) Bd.returns (by simp) (hb hby at_174) hr) (by rw [eh89]; exact ⟨rfl, N89⟩) (by decide) (by decide)
        · simp [own_b, hok_c1] at hv88
          subst hv88
          refine own_g (mkF m 161 #[.val (.int p0), .val (.int p1), .val (.int p2), .val (.int p3), .val (.int 2), .val (.int c0), .val (.int c1), .val (.int c2), .val (.ref b56), .val (.ref b66), .val (.int 0)] [(.ref b66)]) (fun _ q => XS.ifYes X88.here hx rfl (pc0 := 135) (pc' := 156) rfl (hb hby at_135) rfl ((if0 _ _).trans (teq (by decide : (0 : Int32) = (0 : Int32))).1) (by decide) (by decide) (XS.iconst X88.here hx rfl (hb hby at_156) (XS.istore X88.here hx rfl (hb hby at_157) rfl (l' := #[.val (.int p0), .val (.int p1), .val (.int p2), .val (.int p3), .val (.int 2), .val (.int c0), .val (.int c1), .val (.int c2), .val (.ref b56), .val (.ref b66), .val (.int 0)]) rfl (XS.aload X88.here hx rfl (hb hby at_159) rfl rfl q)))) ?_
          refine own_callS X88 hx hZ (y := own_y0) hown (own_h hw 27 rfl) (own_h hw 28 rfl) (own_h hw 29 rfl) (own_h hw 30 rfl) (by decide) (own_fv_1_2 l Z a0 hw [] b66 tq kq_ c0 c1 zCS fm T73.heap n0 (Nat.le_trans Z0 k85_.1) S_CS nCS S_AD S_HI S_LO S_SF hfm o86_ Eq73 Vq73 Cx Ax hb0 hb1 hn0 hn1) (by decide) (by decide) eh88 (g := (mkF m 161 #[.val (.int p0), .val (.int p1), .val (.int p2), .val (.int p3), .val (.int 2), .val (.int c0), .val (.int c1), .val (.int c2), .val (.ref b56), .val (.ref b66), .val (.int 0)] [(.ref b66)])) rfl (by rw [hml]; rfl) (argsL := [(.ref b66)]) (rest := []) (lenOf own_pd__28Ljava_2flang_2fString_3b_29Z rfl) rfl (W := 0) (by show 2 * 0 + _ ≤ _; exact Nat.le_of_eq rfl) (hb hby at_161) rfl (by decide) (by decide) ?_
          rintro rv91 T91 L91 X91 ⟨hv91, Nq91, eh91⟩
          have N91 := Fr.app N88 Nq91
          simp [own_b, hok_c0, hok_c1] at hv91
          subst hv91
          refine own_g (mkF m 174 #[.val (.int p0), .val (.int p1), .val (.int p2), .val (.int p3), .val (.int 2), .val (.int c0), .val (.int c1), .val (.int c2), .val (.ref b56), .val (.ref b66), .val (.int 0)] [(.int 1)]) (fun _ q => XS.iload X91.here hx rfl (hb hby at_164) rfl (XS.icmpNo X91.here hx rfl (hb hby at_166) rfl (teq (by decide : (0 : Int32) = (0 : Int32))).2 (XS.iconst X91.here hx rfl (hb hby at_169) (XS.goto X91.here hx rfl (pc0 := 170) (pc' := 174) rfl (hb hby at_170) (by decide) (by decide) q)))) ?_
          have hk92_ := (Nat.le_trans (Nat.le_trans (Nat.le_trans (Nat.le_trans (Nat.le_trans hk0 E56.1) (Keep.of_wr W60).1) (Keep.of_wr W64).1) E66.1) Kq73.1)
          exact own_endW X91 hS (by rw [eh91]; exact hk92_) hZ hEL (by rw [hh]; rw [eh91]; exact C74) (v := some (.int (nar .boolean (1 : Int32)))) (fun h => by rw [Bd.returns] at h; cases h) hlk (fun hr => retN X91 hx (t := .boolean) Bd.returns (by simp) (hb hby at_174) hr) (by rw [eh91]; exact ⟨rfl, N91⟩) (by decide) (by decide)
      · simp [own_b, hok_c0] at hv87
        subst hv87
        refine own_g (mkF m 161 #[.val (.int p0), .val (.int p1), .val (.int p2), .val (.int p3), .val (.int 2), .val (.int c0), .val (.int c1), .val (.int c2), .val (.ref b56), .val (.ref b66), .val (.int 0)] [(.ref b66)]) (fun _ q => XS.ifYes X87.here hx rfl (pc0 := 121) (pc' := 156) rfl (hb hby at_121) rfl ((if0 _ _).trans (teq (by decide : (0 : Int32) = (0 : Int32))).1) (by decide) (by decide) (XS.iconst X87.here hx rfl (hb hby at_156) (XS.istore X87.here hx rfl (hb hby at_157) rfl (l' := #[.val (.int p0), .val (.int p1), .val (.int p2), .val (.int p3), .val (.int 2), .val (.int c0), .val (.int c1), .val (.int c2), .val (.ref b56), .val (.ref b66), .val (.int 0)]) rfl (XS.aload X87.here hx rfl (hb hby at_159) rfl rfl q)))) ?_
        refine own_callS X87 hx hZ (y := own_y0) hown (own_h hw 27 rfl) (own_h hw 28 rfl) (own_h hw 29 rfl) (own_h hw 30 rfl) (by decide) (own_fv_1_2 l Z a0 hw [] b66 tq kq_ c0 c1 zCS fm T73.heap n0 (Nat.le_trans Z0 k85_.1) S_CS nCS S_AD S_HI S_LO S_SF hfm o86_ Eq73 Vq73 Cx Ax hb0 hb1 hn0 hn1) (by decide) (by decide) eh87 (g := (mkF m 161 #[.val (.int p0), .val (.int p1), .val (.int p2), .val (.int p3), .val (.int 2), .val (.int c0), .val (.int c1), .val (.int c2), .val (.ref b56), .val (.ref b66), .val (.int 0)] [(.ref b66)])) rfl (by rw [hml]; rfl) (argsL := [(.ref b66)]) (rest := []) (lenOf own_pd__28Ljava_2flang_2fString_3b_29Z rfl) rfl (W := 0) (by show 2 * 0 + _ ≤ _; exact Nat.le_of_eq rfl) (hb hby at_161) rfl (by decide) (by decide) ?_
        rintro rv93 T93 L93 X93 ⟨hv93, Nq93, eh93⟩
        have N93 := Fr.app N87 Nq93
        simp [own_b, hok_c0] at hv93
        subst hv93
        refine own_g (mkF m 174 #[.val (.int p0), .val (.int p1), .val (.int p2), .val (.int p3), .val (.int 2), .val (.int c0), .val (.int c1), .val (.int c2), .val (.ref b56), .val (.ref b66), .val (.int 0)] [(.int 1)]) (fun _ q => XS.iload X93.here hx rfl (hb hby at_164) rfl (XS.icmpNo X93.here hx rfl (hb hby at_166) rfl (teq (by decide : (0 : Int32) = (0 : Int32))).2 (XS.iconst X93.here hx rfl (hb hby at_169) (XS.goto X93.here hx rfl (pc0 := 170) (pc' := 174) rfl (hb hby at_170) (by decide) (by decide) q)))) ?_
        have hk94_ := (Nat.le_trans (Nat.le_trans (Nat.le_trans (Nat.le_trans (Nat.le_trans hk0 E56.1) (Keep.of_wr W60).1) (Keep.of_wr W64).1) E66.1) Kq73.1)
        exact own_endW X93 hS (by rw [eh93]; exact hk94_) hZ hEL (by rw [hh]; rw [eh93]; exact C74) (v := some (.int (nar .boolean (1 : Int32)))) (fun h => by rw [Bd.returns] at h; cases h) hlk (fun hr => retN X93 hx (t := .boolean) Bd.returns (by simp) (hb hby at_174) hr) (by rw [eh93]; exact ⟨rfl, N93⟩) (by decide) (by decide)
  · skip
    refine own_g (mkF m 6 #[.val (.int p0), .val (.int p1), .val (.int p2), .val (.int p3), .val (.int 3), .unset, .unset, .unset, .unset, .unset, .unset] [(.int p1)]) (fun _ q => XS.iloadN X0.here hx rfl (hb hby at_5) rfl q) ?_
    refine own_callS X0 hx hZ (y := own_y2) hown (own_h hw 0 rfl) (own_h hw 1 rfl) (own_h hw 2 rfl) (own_h hw 3 rfl) (by decide) (own_pk l Z a0 hw [] p1 zCS fm h0 n0 Z0 S_CS nCS S_AD S_HI S_LO S_SF hfm O0) (by decide) (by decide) e0 (g := (mkF m 6 #[.val (.int p0), .val (.int p1), .val (.int p2), .val (.int p3), .val (.int 3), .unset, .unset, .unset, .unset, .unset, .unset] [(.int p1)])) rfl (by rw [hml]; rfl) (argsL := [(.int p1)]) (rest := []) (lenOf own_pd__28I_29C rfl) rfl (W := 0) (by show 2 * 0 + _ ≤ _; exact Nat.le_of_eq rfl) (hb hby at_6) rfl (by decide) (by decide) ?_
    rintro rv95 T95 L95 X95 ⟨⟨c0, rfl, hn0, hb0⟩, Nq95, eh95⟩
    have N95 := Fr.app N0 Nq95
    refine own_g (mkF m 12 #[.val (.int p0), .val (.int p1), .val (.int p2), .val (.int p3), .val (.int 3), .val (.int c0), .unset, .unset, .unset, .unset, .unset] [(.int p2)]) (fun _ q => XS.istore X95.here hx rfl (hb hby at_9) rfl (l' := #[.val (.int p0), .val (.int p1), .val (.int p2), .val (.int p3), .val (.int 3), .val (.int c0), .unset, .unset, .unset, .unset, .unset]) rfl (XS.iloadN X95.here hx rfl (hb hby at_11) rfl q)) ?_
    refine own_callS X95 hx hZ (y := own_y2) hown (own_h hw 0 rfl) (own_h hw 1 rfl) (own_h hw 2 rfl) (own_h hw 3 rfl) (by decide) (own_pk l Z a0 hw [] p2 zCS fm h0 n0 Z0 S_CS nCS S_AD S_HI S_LO S_SF hfm O0) (by decide) (by decide) eh95 (g := (mkF m 12 #[.val (.int p0), .val (.int p1), .val (.int p2), .val (.int p3), .val (.int 3), .val (.int c0), .unset, .unset, .unset, .unset, .unset] [(.int p2)])) rfl (by rw [hml]; rfl) (argsL := [(.int p2)]) (rest := []) (lenOf own_pd__28I_29C rfl) rfl (W := 0) (by show 2 * 0 + _ ≤ _; exact Nat.le_of_eq rfl) (hb hby at_12) rfl (by decide) (by decide) ?_
    rintro rv96 T96 L96 X96 ⟨⟨c1, rfl, hn1, hb1⟩, Nq96, eh96⟩
    have N96 := Fr.app N95 Nq96
    refine own_g (mkF m 18 #[.val (.int p0), .val (.int p1), .val (.int p2), .val (.int p3), .val (.int 3), .val (.int c0), .val (.int c1), .unset, .unset, .unset, .unset] [(.int p3)]) (fun _ q => XS.istore X96.here hx rfl (hb hby at_15) rfl (l' := #[.val (.int p0), .val (.int p1), .val (.int p2), .val (.int p3), .val (.int 3), .val (.int c0), .val (.int c1), .unset, .unset, .unset, .unset]) rfl (XS.iloadN X96.here hx rfl (hb hby at_17) rfl q)) ?_
    refine own_callS X96 hx hZ (y := own_y2) hown (own_h hw 0 rfl) (own_h hw 1 rfl) (own_h hw 2 rfl) (own_h hw 3 rfl) (by decide) (own_pk l Z a0 hw [] p3 zCS fm h0 n0 Z0 S_CS nCS S_AD S_HI S_LO S_SF hfm O0) (by decide) (by decide) eh96 (g := (mkF m 18 #[.val (.int p0), .val (.int p1), .val (.int p2), .val (.int p3), .val (.int 3), .val (.int c0), .val (.int c1), .unset, .unset, .unset, .unset] [(.int p3)])) rfl (by rw [hml]; rfl) (argsL := [(.int p3)]) (rest := []) (lenOf own_pd__28I_29C rfl) rfl (W := 0) (by show 2 * 0 + _ ≤ _; exact Nat.le_of_eq rfl) (hb hby at_18) rfl (by decide) (by decide) ?_
    rintro rv97 T97 L97 X97 ⟨⟨c2, rfl, hn2, hb2⟩, Nq97, eh97⟩
    have N97 := Fr.app N96 Nq97
    refine own_g (mkF m 58 #[.val (.int p0), .val (.int p1), .val (.int p2), .val (.int p3), .val (.int 3), .val (.int c0), .val (.int c1), .val (.int c2), .unset, .unset, .unset] [(.int 2), (.int 3)]) (fun _ q => XS.istore X97.here hx rfl (hb hby at_21) rfl (l' := #[.val (.int p0), .val (.int p1), .val (.int p2), .val (.int p3), .val (.int 3), .val (.int c0), .val (.int c1), .val (.int c2), .unset, .unset, .unset]) rfl (XS.iload X97.here hx rfl (hb hby at_23) rfl (XS.ifYes X97.here hx rfl (pc0 := 25) (pc' := 36) rfl (hb hby at_25) rfl ((if0 _ _).trans (feq (by decide : ¬ ((3 : Int32) = (0 : Int32)))).2) (by decide) (by decide) (XS.iload X97.here hx rfl (hb hby at_36) rfl (XS.iconst X97.here hx rfl (hb hby at_38) (XS.icmpYes X97.here hx rfl (pc0 := 39) (pc' := 55) rfl (hb hby at_39) rfl (feq (by decide : ¬ ((3 : Int32) = (1 : Int32)))).2 (by decide) (by decide) (XS.iload X97.here hx rfl (hb hby at_55) rfl (XS.iconst X97.here hx rfl (hb hby at_57) q)))))))) ?_
    refine own_g (mkF m 80 #[.val (.int p0), .val (.int p1), .val (.int p2), .val (.int p3), .val (.int 3), .val (.int c0), .val (.int c1), .val (.int c2), .unset, .unset, .unset] [(.int 3)]) (fun _ q => XS.icmpYes X97.here hx rfl (pc0 := 58) (pc' := 79) rfl (hb hby at_58) rfl (feq (by decide : ¬ ((3 : Int32) = (2 : Int32)))).2 (by decide) (by decide) (XS.iconst X97.here hx rfl (hb hby at_79) q)) ?_
    obtain ⟨T98, h98, k98, X98, e98, E98, A98, st98⟩ := newP X97 hx hZ (own_h hw 5 rfl) eh97 (g := (mkF m 80 #[.val (.int p0), .val (.int p1), .val (.int p2), .val (.int p3), .val (.int 3), .val (.int c0), .val (.int c1), .val (.int c2), .unset, .unset, .unset] [(.int 3)])) rfl (hb hby at_80) rfl (by decide) (cap := 3) (by decide) (by decide) (by decide) (by decide)
    obtain ⟨b98, g98⟩ : ∃ z, z = h0.size := ⟨_, rfl⟩
    rw [← g98] at A98 st98
    have g_b98 : n0 ≤ b98 := Nat.le_trans Z0 (Nat.le_of_eq g98.symm)
    have sz_b98 : h0.size ≤ b98 := Nat.le_trans (Keep.refl h0 []).1 (Nat.le_of_eq g98.symm)
    have sf_b98 : Safe Z consts_1 s.vm h0 b98 := Safe.new (Nat.le_of_eq g98.symm)
    have C99 := C0.trans (CHr.ext E98 C0.1)
    have V_b98 : Arv Z h98 b98 k98 .char (3 : Int32) [(.int 0), (.int 0), (.int 0)] (.int 0) := (Arv.new A98 (by decide)).pad (pad_rep [] (.int 0) 3)
    refine own_by (g' := (mkF m 82 #[.val (.int p0), .val (.int p1), .val (.int p2), .val (.int p3), .val (.int 3), .val (.int c0), .val (.int c1), .val (.int c2), .unset, .unset, .unset] [(.ref b98)])) st98 ?_
    refine own_g (mkF m 86 #[.val (.int p0), .val (.int p1), .val (.int p2), .val (.int p3), .val (.int 3), .val (.int c0), .val (.int c1), .val (.int c2), .unset, .unset, .unset] [(.int c0), (.int 0), (.ref b98), (.ref b98)]) (fun _ q => XS.dup X98.here hx rfl (hb hby at_82) rfl rfl (XS.iconst X98.here hx rfl (hb hby at_83) (XS.iload X98.here hx rfl (hb hby at_84) rfl q))) ?_
    have sw100 : Safe Z consts_1 s.vm h98 b98 := (Safe.arv hZ.alike V_b98 (by decide))
    obtain ⟨cl101, Ar101, q101, S101, P101, H101, G101⟩ := id V_b98
    have hin101 : ¬ ((0 : Int32) < 0 ∨ cl101.slots.size ≤ ((0 : Int32)).toNatClampNeg) := inb_of S101 ⟨by decide, by decide⟩
    obtain ⟨T102, h102, X102, e102, W102, st102⟩ := stC X98 hx hZ e98 Ar101 (j := (0 : Int32)) hin101 (g := (mkF m 86 #[.val (.int p0), .val (.int p1), .val (.int p2), .val (.int p3), .val (.int 3), .val (.int c0), .val (.int c1), .val (.int c2), .unset, .unset, .unset] [(.int c0), (.int 0), (.ref b98), (.ref b98)])) rfl rfl (hb hby at_86)
    have V102 : Arv Z h102 b98 k98 .char (3 : Int32) [(.int (nar .char c0)), (.int 0), (.int 0)] (.int 0) := Arv.set Ar101 q101 S101 P101 H101 G101 (fits_nar_char _) W102 0 rfl (Nat.le_of_ble_eq_true rfl)
    have C103 := C99.trans (CHr.wr W102 sw100 C99.1)
    have N102 := Fr.snoc X102 N97 g_b98
    refine own_by (g' := (mkF m 87 #[.val (.int p0), .val (.int p1), .val (.int p2), .val (.int p3), .val (.int 3), .val (.int c0), .val (.int c1), .val (.int c2), .unset, .unset, .unset] [(.ref b98)])) st102 ?_
    refine own_g (mkF m 91 #[.val (.int p0), .val (.int p1), .val (.int p2), .val (.int p3), .val (.int 3), .val (.int c0), .val (.int c1), .val (.int c2), .unset, .unset, .unset] [(.int c1), (.int 1), (.ref b98), (.ref b98)]) (fun _ q => XS.dup X102.here hx rfl (hb hby at_87) rfl rfl (XS.iconst X102.here hx rfl (hb hby at_88) (XS.iload X102.here hx rfl (hb hby at_89) rfl q))) ?_
    have sw104 : Safe Z consts_1 s.vm h102 b98 := (Safe.arv hZ.alike V102 (by decide))
    obtain ⟨cl105, Ar105, q105, S105, P105, H105, G105⟩ := id V102
    have hin105 : ¬ ((1 : Int32) < 0 ∨ cl105.slots.size ≤ ((1 : Int32)).toNatClampNeg) := inb_of S105 ⟨by decide, by decide⟩
    obtain ⟨T106, h106, X106, e106, W106, st106⟩ := stC X102 hx hZ e102 Ar105 (j := (1 : Int32)) hin105 (g := (mkF m 91 #[.val (.int p0), .val (.int p1), .val (.int p2), .val (.int p3), .val (.int 3), .val (.int c0), .val (.int c1), .val (.int c2), .unset, .unset, .unset] [(.int c1), (.int 1), (.ref b98), (.ref b98)])) rfl rfl (hb hby at_91)
    have V106 : Arv Z h106 b98 k98 .char (3 : Int32) [(.int (nar .char c0)), (.int (nar .char c1)), (.int 0)] (.int 0) := Arv.set Ar105 q105 S105 P105 H105 G105 (fits_nar_char _) W106 1 rfl (Nat.le_of_ble_eq_true rfl)
    have C107 := C103.trans (CHr.wr W106 sw104 C103.1)
    have N106 := Fr.snoc X106 N102 g_b98
    refine own_by (g' := (mkF m 92 #[.val (.int p0), .val (.int p1), .val (.int p2), .val (.int p3), .val (.int 3), .val (.int c0), .val (.int c1), .val (.int c2), .unset, .unset, .unset] [(.ref b98)])) st106 ?_
    refine own_g (mkF m 96 #[.val (.int p0), .val (.int p1), .val (.int p2), .val (.int p3), .val (.int 3), .val (.int c0), .val (.int c1), .val (.int c2), .unset, .unset, .unset] [(.int c2), (.int 2), (.ref b98), (.ref b98)]) (fun _ q => XS.dup X106.here hx rfl (hb hby at_92) rfl rfl (XS.iconst X106.here hx rfl (hb hby at_93) (XS.iload X106.here hx rfl (hb hby at_94) rfl q))) ?_
    have sw108 : Safe Z consts_1 s.vm h106 b98 := (Safe.arv hZ.alike V106 (by decide))
    obtain ⟨cl109, Ar109, q109, S109, P109, H109, G109⟩ := id V106
    have hin109 : ¬ ((2 : Int32) < 0 ∨ cl109.slots.size ≤ ((2 : Int32)).toNatClampNeg) := inb_of S109 ⟨by decide, by decide⟩
    obtain ⟨T110, h110, X110, e110, W110, st110⟩ := stC X106 hx hZ e106 Ar109 (j := (2 : Int32)) hin109 (g := (mkF m 96 #[.val (.int p0), .val (.int p1), .val (.int p2), .val (.int p3), .val (.int 3), .val (.int c0), .val (.int c1), .val (.int c2), .unset, .unset, .unset] [(.int c2), (.int 2), (.ref b98), (.ref b98)])) rfl rfl (hb hby at_96)
    have V110 : Arv Z h110 b98 k98 .char (3 : Int32) [(.int (nar .char c0)), (.int (nar .char c1)), (.int (nar .char c2))] (.int 0) := Arv.set Ar109 q109 S109 P109 H109 G109 (fits_nar_char _) W110 2 rfl (Nat.le_of_ble_eq_true rfl)
    have C111 := C107.trans (CHr.wr W110 sw108 C107.1)
    have N110 := Fr.snoc X110 N106 g_b98
    refine own_by (g' := (mkF m 97 #[.val (.int p0), .val (.int p1), .val (.int p2), .val (.int p3), .val (.int 3), .val (.int c0), .val (.int c1), .val (.int c2), .unset, .unset, .unset] [(.ref b98)])) st110 ?_
    refine own_g (mkF m 99 #[.val (.int p0), .val (.int p1), .val (.int p2), .val (.int p3), .val (.int 3), .val (.int c0), .val (.int c1), .val (.int c2), .val (.ref b98), .unset, .unset] []) (fun _ q => XS.astore X110.here hx rfl (hb hby at_97) rfl rfl (l' := #[.val (.int p0), .val (.int p1), .val (.int p2), .val (.int p3), .val (.int 3), .val (.int c0), .val (.int c1), .val (.int c2), .val (.ref b98), .unset, .unset]) rfl q) ?_
    obtain ⟨T112, h112, X112, e112, E112, A112, D112, U112, st112⟩ := newO X110 hx hZ hown (own_h hw 6 rfl) (own_h hw 7 rfl) (own_h hw 8 rfl) e110 (g := (mkF m 99 #[.val (.int p0), .val (.int p1), .val (.int p2), .val (.int p3), .val (.int 3), .val (.int c0), .val (.int c1), .val (.int c2), .val (.ref b98), .unset, .unset] [])) rfl (hb hby at_99) (by decide) (by decide)
    obtain ⟨b112, g112⟩ : ∃ z, z = h110.size := ⟨_, rfl⟩
    rw [← g112] at A112 D112 U112 st112
    have k113_ := (((((Keep.refl h0 []).ext E98).wr W102 (Or.inr sz_b98)).wr W106 (Or.inr sz_b98)).wr W110 (Or.inr sz_b98))
    have g_b112 : n0 ≤ b112 := Nat.le_trans (Nat.le_trans Z0 k113_.1) (Nat.le_of_eq g112.symm)
    have sz_b112 : h0.size ≤ b112 := Nat.le_trans k113_.1 (Nat.le_of_eq g112.symm)
    have sf_b112 : Safe Z consts_1 s.vm h110 b112 := Safe.new (Nat.le_of_eq g112.symm)
    have ne_b98_b112 : b98 ≠ b112 := Nat.ne_of_lt (Nat.lt_of_lt_of_le V110.lt (Nat.le_of_eq g112.symm))
    have C114 := C111.trans (CHr.ext E112 C111.1)
    have F_value_b112 : Fld Z h112 b112 "java/lang/String" "value" "[B" .null := D112 (Or.inr (own_h hw 21 rfl)) (ty := (.array .byte)) (by decide)
    have F_coder_b112 : Fld Z h112 b112 "java/lang/String" "coder" "B" (.int 0) := D112 (Or.inr (own_h hw 22 rfl)) (ty := .byte) (by decide)
    refine own_by (g' := (mkF m 102 #[.val (.int p0), .val (.int p1), .val (.int p2), .val (.int p3), .val (.int 3), .val (.int c0), .val (.int c1), .val (.int c2), .val (.ref b98), .unset, .unset] [(.ref b112)])) st112 ?_
    refine own_g (mkF m 105 #[.val (.int p0), .val (.int p1), .val (.int p2), .val (.int p3), .val (.int 3), .val (.int c0), .val (.int c1), .val (.int c2), .val (.ref b98), .unset, .unset] [(.ref b98), (.ref b112), (.ref b112)]) (fun _ q => XS.dup X112.here hx rfl (hb hby at_102) rfl rfl (XS.aload X112.here hx rfl (hb hby at_103) rfl rfl q)) ?_
    have a115_b98 := (V110.ext E112)
    have Kc : Arv Z h112 b98 k98 .char (3 : Int32) [(.int c0), (.int c1), (.int c2)] (.int 0) := by have q := a115_b98; rw [hn0, hn1, hn2] at q; exact q
    have sf116_b112 := (sf_b112.ext E112 C111.1)
    have k117_ := (k113_.ext E112)
    have o118_ := (((((O0.ext E98).wr W102 g_b98).wr W106 g_b98).wr W110 g_b98).ext E112)
    refine own_callI X112 hx hZ (y := own_y3) rfl hown (own_h hw 9 rfl) (own_h hw 10 rfl) (own_h hw 11 rfl) (own_h hw 8 rfl) (by decide) (own_i7_3 l Z a0 hw [] b112 b98 k98 _ c0 c1 c2 zCS fm h112 n0 (Nat.le_trans Z0 k117_.1) S_CS nCS S_AD S_HI S_LO S_SF hfm o118_ A112 F_value_b112 F_coder_b112 g_b112 Kc ne_b98_b112 hb0 hb1 hb2 hn0 hn1 hn2) (by decide) (by decide) e112 (g := (mkF m 105 #[.val (.int p0), .val (.int p1), .val (.int p2), .val (.int p3), .val (.int 3), .val (.int c0), .val (.int c1), .val (.int c2), .val (.ref b98), .unset, .unset] [(.ref b98), (.ref b112), (.ref b112)])) rfl (by rw [hml]; rfl) (argsL := [(.ref b98)]) (rest := [(.ref b112)]) (lenOf own_pd__28_5bC_29V rfl) rfl (W := 1) (by show 2 * 0 + _ ≤ _; exact Nat.le_of_eq rfl) (hb hby at_105) rfl (by decide) (by decide) ?_
    rintro rv119 T119 L119 X119 ⟨rfl, Nq119, Kq119, Eq119, tq, kq_, Vq119, hv119⟩
    have N119 := Fr.app N110 Nq119
    show own_Fin p e below _ T119 (mkF m 108 #[.val (.int p0), .val (.int p1), .val (.int p2), .val (.int p3), .val (.int 3), .val (.int c0), .val (.int c1), .val (.int c2), .val (.ref b98), .unset, .unset] [(.ref b112)])
    have C120 := C114.trans (CHr.keep Kq119 (sfS sf116_b112 sf0) C114.1)
    rcases hv119 with ⟨ha0, ha1, ha2, Cx, Ax⟩ | ⟨Cx, Ax⟩
    · skip
      refine own_g (mkF m 118 #[.val (.int p0), .val (.int p1), .val (.int p2), .val (.int p3), .val (.int 3), .val (.int c0), .val (.int c1), .val (.int c2), .val (.ref b98), .val (.ref b112), .unset] [(.int c0)]) (fun _ q => XS.astore X119.here hx rfl (hb hby at_108) rfl rfl (l' := #[.val (.int p0), .val (.int p1), .val (.int p2), .val (.int p3), .val (.int 3), .val (.int c0), .val (.int c1), .val (.int c2), .val (.ref b98), .val (.ref b112), .unset]) rfl (XS.iload X119.here hx rfl (hb hby at_110) rfl (XS.iconst X119.here hx rfl (hb hby at_112) (XS.icmpNo X119.here hx rfl (hb hby at_113) rfl (flt (by decide : ¬ ((3 : Int32) < (1 : Int32)))).1 (XS.iload X119.here hx rfl (hb hby at_116) rfl q))))) ?_
      have k121_ := (k117_.trans Kq119 (allS (Or.inr sz_b112) all0))
      have o122_ := (o118_.keep Kq119 (allS g_b112 all0))
      refine own_callS X119 hx hZ (y := own_y1) hown (own_h hw 52 rfl) (own_h hw 53 rfl) (own_h hw 2 rfl) (own_h hw 54 rfl) (by decide) (own_al l Z a0 hw [] c0 zCS fm T119.heap n0 (Nat.le_trans Z0 k121_.1) S_CS nCS S_AD S_HI S_LO S_SF hfm o122_) (by decide) (by decide) rfl (g := (mkF m 118 #[.val (.int p0), .val (.int p1), .val (.int p2), .val (.int p3), .val (.int 3), .val (.int c0), .val (.int c1), .val (.int c2), .val (.ref b98), .val (.ref b112), .unset] [(.int c0)])) rfl (by rw [hml]; rfl) (argsL := [(.int c0)]) (rest := []) (lenOf own_pd__28C_29Z rfl) rfl (W := 0) (by show 2 * 0 + _ ≤ _; exact Nat.le_of_eq rfl) (hb hby at_118) rfl (by decide) (by decide) ?_
      rintro rv123 T123 L123 X123 ⟨hv123, Nq123, eh123⟩
      have N123 := Fr.app N119 Nq123
      by_cases hok_c0 : own_ok c0 = true
      · simp [own_b, hok_c0] at hv123
        subst hv123
        refine own_g (mkF m 132 #[.val (.int p0), .val (.int p1), .val (.int p2), .val (.int p3), .val (.int 3), .val (.int c0), .val (.int c1), .val (.int c2), .val (.ref b98), .val (.ref b112), .unset] [(.int c1)]) (fun _ q => XS.ifNo X123.here hx rfl (hb hby at_121) rfl ((if0 _ _).trans (feq (by decide : ¬ ((1 : Int32) = (0 : Int32)))).1) (XS.iload X123.here hx rfl (hb hby at_124) rfl (XS.iconst X123.here hx rfl (hb hby at_126) (XS.icmpNo X123.here hx rfl (hb hby at_127) rfl (flt (by decide : ¬ ((3 : Int32) < (2 : Int32)))).1 (XS.iload X123.here hx rfl (hb hby at_130) rfl q))))) ?_
        refine own_callS X123 hx hZ (y := own_y1) hown (own_h hw 52 rfl) (own_h hw 53 rfl) (own_h hw 2 rfl) (own_h hw 54 rfl) (by decide) (own_al l Z a0 hw [] c1 zCS fm T119.heap n0 (Nat.le_trans Z0 k121_.1) S_CS nCS S_AD S_HI S_LO S_SF hfm o122_) (by decide) (by decide) eh123 (g := (mkF m 132 #[.val (.int p0), .val (.int p1), .val (.int p2), .val (.int p3), .val (.int 3), .val (.int c0), .val (.int c1), .val (.int c2), .val (.ref b98), .val (.ref b112), .unset] [(.int c1)])) rfl (by rw [hml]; rfl) (argsL := [(.int c1)]) (rest := []) (lenOf own_pd__28C_29Z rfl) rfl (W := 0) (by show 2 * 0 + _ ≤ _; exact Nat.le_of_eq rfl) (hb hby at_132) rfl (by decide) (by decide) ?_
        rintro rv124 T124 L124 X124 ⟨hv124, Nq124, eh124⟩
        have N124 := Fr.app N123 Nq124
        by_cases hok_c1 : own_ok c1 = true
        · simp [own_b, hok_c1] at hv124
          subst hv124
          refine own_g (mkF m 146 #[.val (.int p0), .val (.int p1), .val (.int p2), .val (.int p3), .val (.int 3), .val (.int c0), .val (.int c1), .val (.int c2), .val (.ref b98), .val (.ref b112), .unset] [(.int c2)]) (fun _ q => XS.ifNo X124.here hx rfl (hb hby at_135) rfl ((if0 _ _).trans (feq (by decide : ¬ ((1 : Int32) = (0 : Int32)))).1) (XS.iload X124.here hx rfl (hb hby at_138) rfl (XS.iconst X124.here hx rfl (hb hby at_140) (XS.icmpNo X124.here hx rfl (hb hby at_141) rfl (flt (by decide : ¬ ((3 : Int32) < (3 : Int32)))).1 (XS.iload X124.here hx rfl (hb hby at_144) rfl q))))) ?_
          refine own_callS X124 hx hZ (y := own_y1) hown (own_h hw 52 rfl) (own_h hw 53 rfl) (own_h hw 2 rfl) (own_h hw 54 rfl) (by decide) (own_al l Z a0 hw [] c2 zCS fm T119.heap n0 (Nat.le_trans Z0 k121_.1) S_CS nCS S_AD S_HI S_LO S_SF hfm o122_) (by decide) (by decide) eh124 (g := (mkF m 146 #[.val (.int p0), .val (.int p1), .val (.int p2), .val (.int p3), .val (.int 3), .val (.int c0), .val (.int c1), .val (.int c2), .val (.ref b98), .val (.ref b112), .unset] [(.int c2)])) rfl (by rw [hml]; rfl) (argsL := [(.int c2)]) (rest := []) (lenOf own_pd__28C_29Z rfl) rfl (W := 0) (by show 2 * 0 + _ ≤ _; exact Nat.le_of_eq rfl) (hb hby at_146) rfl (by decide) (by decide) ?_
          rintro rv125 T125 L125 X125 ⟨hv125, Nq125, eh125⟩
          have N125 := Fr.app N124 Nq125
          by_cases hok_c2 : own_ok c2 = true
          · simp [own_b, hok_c2] at hv125
            subst hv125
            refine own_g (mkF m 161 #[.val (.int p0), .val (.int p1), .val (.int p2), .val (.int p3), .val (.int 3), .val (.int c0), .val (.int c1), .val (.int c2), .val (.ref b98), .val (.ref b112), .val (.int 1)] [(.ref b112)]) (fun _ q => XS.ifNo X125.here hx rfl (hb hby at_149) rfl ((if0 _ _).trans (feq (by decide : ¬ ((1 : Int32) = (0 : Int32)))).1) (XS.iconst X125.here hx rfl (hb hby at_152) (XS.goto X125.here hx rfl (pc0 := 153) (pc' := 157) rfl (hb hby at_153) (by decide) (by decide) (XS.istore X125.here hx rfl (hb hby at_157) rfl (l' := #[.val (.int p0), .val (.int p1), .val (.int p2), .val (.int p3), .val (.int 3), .val (.int c0), .val (.int c1), .val (.int c2), .val (.ref b98), .val (.ref b112), .val (.int 1)]) rfl (XS.aload X125.here hx rfl (hb hby at_159) rfl rfl q))))) ?_
            refine own_callS X125 hx hZ (y := own_y0) hown (own_h hw 27 rfl) (own_h hw 28 rfl) (own_h hw 29 rfl) (own_h hw 30 rfl) (by decide) (own_fv_0_3 l Z a0 hw [] b112 tq kq_ c0 c1 c2 zCS fm T119.heap n0 (Nat.le_trans Z0 k121_.1) S_CS nCS S_AD S_HI S_LO S_SF hfm o122_ Eq119 Vq119 Cx Ax ⟨hb0.1, ha0⟩ ⟨hb1.1, ha1⟩ ⟨hb2.1, ha2⟩ hn0 hn1 hn2) (by decide) (by decide) eh125 (g := (mkF m 161 #[.val (.int p0), .val (.int p1), .val (.int p2), .val (.int p3), .val (.int 3), .val (.int c0), .val (.int c1), .val (.int c2), .val (.ref b98), .val (.ref b112), .val (.int 1)] [(.ref b112)])) rfl (by rw [hml]; rfl) (argsL := [(.ref b112)]) (rest := []) (lenOf own_pd__28Ljava_2flang_2fString_3b_29Z rfl) rfl (W := 0) (by show 2 * 0 + _ ≤ _; exact Nat.le_of_eq rfl) (hb hby at_161) rfl (by decide) (by decide) ?_
            rintro rv126 T126 L126 X126 ⟨hv126, Nq126, eh126⟩
            have N126 := Fr.app N125 Nq126
            simp [own_b, hok_c0, hok_c1, hok_c2] at hv126
            subst hv126
            refine own_g (mkF m 174 #[.val (.int p0), .val (.int p1), .val (.int p2), .val (.int p3), .val (.int 3), .val (.int c0), .val (.int c1), .val (.int c2), .val (.ref b98), .val (.ref b112), .val (.int 1)] [(.int 1)]) (fun _ q => XS.iload X126.here hx rfl (hb hby at_164) rfl (XS.icmpNo X126.here hx rfl (hb hby at_166) rfl (teq (by decide : (1 : Int32) = (1 : Int32))).2 (XS.iconst X126.here hx rfl (hb hby at_169) (XS.goto X126.here hx rfl (pc0 := 170) (pc' := 174) rfl (hb hby at_170) (by decide) (by decide) q)))) ?_
            have hk127_ := (Nat.le_trans (Nat.le_trans (Nat.le_trans (Nat.le_trans (Nat.le_trans (Nat.le_trans hk0 E98.1) (Keep.of_wr W102).1) (Keep.of_wr W106).1) (Keep.of_wr W110).1) E112.1) Kq119.1)
            exact own_endW X126 hS (by rw [eh126]; exact hk127_) hZ hEL (by rw [hh]; rw [eh126]; exact C120) (v := some (.int (nar .boolean (1 : Int32)))) (fun h => by rw [Bd.returns] at h; cases h) hlk (fun hr => retN X126 hx (t := .boolean) Bd.returns (by simp) (hb hby at_174) hr) (by rw [eh126]; exact ⟨rfl, N126⟩) (by decide) (by decide)
          · simp [own_b, hok_c2] at hv125
            subst hv125
            refine own_g (mkF m 161 #[.val (.int p0), .val (.int p1), .val (.int p2), .val (.int p3), .val (.int 3), .val (.int c0), .val (.int c1), .val (.int c2), .val (.ref b98), .val (.ref b112), .val (.int 0)] [(.ref b112)]) (fun _ q => XS.ifYes X125.here hx rfl (pc0 := 149) (pc' := 156) rfl (hb hby at_149) rfl ((if0 _ _).trans (teq (by decide : (0 : Int32) = (0 : Int32))).1) (by decide) (by decide) (XS.iconst X125.here hx rfl (hb hby at_156) (XS.istore X125.here hx rfl (hb hby at_157) rfl (l' := #[.val (.int p0), .val (.int p1), .val (.int p2), .val (.int p3), .val (.int 3), .val (.int c0), .val (.int c1), .val (.int c2), .val (.ref b98), .val (.ref b112), .val (.int 0)]) rfl (XS.aload X125.here hx rfl (hb hby at_159) rfl rfl q)))) ?_
            refine own_callS X125 hx hZ (y := own_y0) hown (own_h hw 27 rfl) (own_h hw 28 rfl) (own_h hw 29 rfl) (own_h hw 30 rfl) (by decide) (own_fv_0_3 l Z a0 hw [] b112 tq kq_ c0 c1 c2 zCS fm T119.heap n0 (Nat.le_trans Z0 k121_.1) S_CS nCS S_AD S_HI S_LO S_SF hfm o122_ Eq119 Vq119 Cx Ax ⟨hb0.1, ha0⟩ ⟨hb1.1, ha1⟩ ⟨hb2.1, ha2⟩ hn0 hn1 hn2) (by decide) (by decide) eh125 (g := (mkF m 161 #[.val (.int p0), .val (.int p1), .val (.int p2), .val (.int p3), .val (.int 3), .val (.int c0), .val (.int c1), .val (.int c2), .val (.ref b98), .val (.ref b112), .val (.int 0)] [(.ref b112)])) rfl (by rw [hml]; rfl) (argsL := [(.ref b112)]) (rest := []) (lenOf own_pd__28Ljava_2flang_2fString_3b_29Z rfl) rfl (W := 0) (by show 2 * 0 + _ ≤ _; exact Nat.le_of_eq rfl) (hb hby at_161) rfl (by decide) (by decide) ?_
            rintro rv128 T128 L128 X128 ⟨hv128, Nq128, eh128⟩
            have N128 := Fr.app N125 Nq128
            simp [own_b, hok_c0, hok_c1, hok_c2] at hv128
            subst hv128
            refine own_g (mkF m 174 #[.val (.int p0), .val (.int p1), .val (.int p2), .val (.int p3), .val (.int 3), .val (.int c0), .val (.int c1), .val (.int c2), .val (.ref b98), .val (.ref b112), .val (.int 0)] [(.int 1)]) (fun _ q => XS.iload X128.here hx rfl (hb hby at_164) rfl (XS.icmpNo X128.here hx rfl (hb hby at_166) rfl (teq (by decide : (0 : Int32) = (0 : Int32))).2 (XS.iconst X128.here hx rfl (hb hby at_169) (XS.goto X128.here hx rfl (pc0 := 170) (pc' := 174) rfl (hb hby at_170) (by decide) (by decide) q)))) ?_
            have hk129_ := (Nat.le_trans (Nat.le_trans (Nat.le_trans (Nat.le_trans (Nat.le_trans (Nat.le_trans hk0 E98.1) (Keep.of_wr W102).1) (Keep.of_wr W106).1) (Keep.of_wr W110).1) E112.1) Kq119.1)
            exact own_endW X128 hS (by rw [eh128]; exact hk129_) hZ hEL (by rw [hh]; rw [eh128]; exact C120) (v := some (.int (nar .boolean (1 : Int32)))) (fun h => by rw [Bd.returns] at h; cases h) hlk (fun hr => retN X128 hx (t := .boolean) Bd.returns (by simp) (hb hby at_174) hr) (by rw [eh128]; exact ⟨rfl, N128⟩) (by decide) (by decide)
        · simp [own_b, hok_c1] at hv124
          subst hv124
          refine own_g (mkF m 161 #[.val (.int p0), .val (.int p1), .val (.int p2), .val (.int p3), .val (.int 3), .val (.int c0), .val (.int c1), .val (.int c2), .val (.ref b98), .val (.ref b112), .val (.int 0)] [(.ref b112)]) (fun _ q => XS.ifYes X124.here hx rfl (pc0 := 135) (pc' := 156) rfl (hb hby at_135) rfl ((if0 _ _).trans (teq (by decide : (0 : Int32) = (0 : Int32))).1) (by decide) (by decide) (XS.iconst X124.here hx rfl (hb hby at_156) (XS.istore X124.here hx rfl (hb hby at_157) rfl (l' := #[.val (.int p0), .val (.int p1), .val (.int p2), .val (.int p3), .val (.int 3), .val (.int c0), .val (.int c1), .val (.int c2), .val (.ref b98), .val (.ref b112), .val (.int 0)]) rfl (XS.aload X124.here hx rfl (hb hby at_159) rfl rfl q)))) ?_
          refine own_callS X124 hx hZ (y := own_y0) hown (own_h hw 27 rfl) (own_h hw 28 rfl) (own_h hw 29 rfl) (own_h hw 30 rfl) (by decide) (own_fv_0_3 l Z a0 hw [] b112 tq kq_ c0 c1 c2 zCS fm T119.heap n0 (Nat.le_trans Z0 k121_.1) S_CS nCS S_AD S_HI S_LO S_SF hfm o122_ Eq119 Vq119 Cx Ax ⟨hb0.1, ha0⟩ ⟨hb1.1, ha1⟩ ⟨hb2.1, ha2⟩ hn0 hn1 hn2) (by decide) (by decide) eh124 (g := (mkF m 161 #[.val (.int p0), .val (.int p1), .val (.int p2), .val (.int p3), .val (.int 3), .val (.int c0), .val (.int c1), .val (.int c2), .val (.ref b98), .val (.ref b112), .val (.int 0)] [(.ref b112)])) rfl (by rw [hml]; rfl) (argsL := [(.ref b112)]) (rest := []) (lenOf own_pd__28Ljava_2flang_2fString_3b_29Z rfl) rfl (W := 0) (by show 2 * 0 + _ ≤ _; exact Nat.le_of_eq rfl) (hb hby at_161) rfl (by decide) (by decide) ?_
          rintro rv130 T130 L130 X130 ⟨hv130, Nq130, eh130⟩
          have N130 := Fr.app N124 Nq130
          simp [own_b, hok_c0, hok_c1] at hv130
          subst hv130
          refine own_g (mkF m 174 #[.val (.int p0), .val (.int p1), .val (.int p2), .val (.int p3), .val (.int 3), .val (.int c0), .val (.int c1), .val (.int c2), .val (.ref b98), .val (.ref b112), .val (.int 0)] [(.int 1)]) (fun _ q => XS.iload X130.here hx rfl (hb hby at_164) rfl (XS.icmpNo X130.here hx rfl (hb hby at_166) rfl (teq (by decide : (0 : Int32) = (0 : Int32))).2 (XS.iconst X130.here hx rfl (hb hby at_169) (XS.goto X130.here hx rfl (pc0 := 170) (pc' := 174) rfl (hb hby at_170) (by decide) (by decide) q)))) ?_
          have hk131_ := (Nat.le_trans (Nat.le_trans (Nat.le_trans (Nat.le_trans (Nat.le_trans (Nat.le_trans hk0 E98.1) (Keep.of_wr W102).1) (Keep.of_wr W106).1) (Keep.of_wr W110).1) E112.1) Kq119.1)
          exact own_endW X130 hS (by rw [eh130]; exact hk131_) hZ hEL (by rw [hh]; rw [eh130]; exact C120) (v := some (.int (nar .boolean (1 : Int32)))) (fun h => by rw [Bd.returns] at h; cases h) hlk (fun hr => retN X130 hx (t := .boolean) Bd.returns (by simp) (hb hby at_174) hr) (by rw [eh130]; exact ⟨rfl, N130⟩) (by decide) (by decide)
      · simp [own_b, hok_c0] at hv123
        subst hv123
        refine own_g (mkF m 161 #[.val (.int p0), .val (.int p1), .val (.int p2), .val (.int p3), .val (.int 3), .val (.int c0), .val (.int c1), .val (.int c2), .val (.ref b98), .val (.ref b112), .val (.int 0)] [(.ref b112)]) (fun _ q => XS.ifYes X123.here hx rfl (pc0 := 121) (pc' := 156) rfl (hb hby at_121) rfl ((if0 _ _).trans (teq (by decide : (0 : Int32) = (0 : Int32))).1) (by decide) (by decide) (XS.iconst X123.here hx rfl (hb hby at_156) (XS.istore X123.here hx rfl (hb hby at_157) rfl (l' := #[.val (.int p0), .val (.int p1), .val (.int p2), .val (.int p3), .val (.int 3), .val (.int c0), .val (.int c1), .val (.int c2), .val (.ref b98), .val (.ref b112), .val (.int 0)]) rfl (XS.aload X123.here hx rfl (hb hby at_159) rfl rfl q)))) ?_
        refine own_callS X123 hx hZ (y := own_y0) hown (own_h hw 27 rfl) (own_h hw 28 rfl) (own_h hw 29 rfl) (own_h hw 30 rfl) (by decide) (own_fv_0_3 l Z a0 hw [] b112 tq kq_ c0 c1 c2 zCS fm T119.heap n0 (Nat.le_trans Z0 k121_.1) S_CS nCS S_AD S_HI S_LO S_SF hfm o122_ Eq119 Vq119 Cx Ax ⟨hb0.1, ha0⟩ ⟨hb1.1, ha1⟩ ⟨hb2.1, ha2⟩ hn0 hn1 hn2) (by decide) (by decide) eh123 (g := (mkF m 161 #[.val (.int p0), .val (.int p1), .val (.int p2), .val (.int p3), .val (.int 3), .val (.int c0), .val (.int c1), .val (.int c2), .val (.ref b98), .val (.ref b112), .val (.int 0)] [(.ref b112)])) rfl (by rw [hml]; rfl) (argsL := [(.ref b112)]) (rest := []) (lenOf own_pd__28Ljava_2flang_2fString_3b_29Z rfl) rfl (W := 0) (by show 2 * 0 + _ ≤ _; exact Nat.le_of_eq rfl) (hb hby at_161) rfl (by decide) (by decide) ?_
        rintro rv132 T132 L132 X132 ⟨hv132, Nq132, eh132⟩
        have N132 := Fr.app N123 Nq132
        simp [own_b, hok_c0] at hv132
        subst hv132
        refine own_g (mkF m 174 #[.val (.int p0), .val (.int p1), .val (.int p2), .val (.int p3), .val (.int 3), .val (.int c0), .val (.int c1), .val (.int c2), .val (.ref b98), .val (.ref b112), .val (.int 0)] [(.int 1)]) (fun _ q => XS.iload X132.here hx rfl (hb hby at_164) rfl (XS.icmpNo X132.here hx rfl (hb hby at_166) rfl (teq (by decide : (0 : Int32) = (0 : Int32))).2 (XS.iconst X132.here hx rfl (hb hby at_169) (XS.goto X132.here hx rfl (pc0 := 170) (pc' := 174) rfl (hb hby at_170) (by decide) (by decide) q)))) ?_
        have hk133_ := (Nat.le_trans (Nat.le_trans (Nat.le_trans (Nat.le_trans (Nat.le_trans (Nat.le_trans hk0 E98.1) (Keep.of_wr W102).1) (Keep.of_wr W106).1) (Keep.of_wr W110).1) E112.1) Kq119.1)
        exact own_endW X132 hS (by rw [eh132]; exact hk133_) hZ hEL (by rw [hh]; rw [eh132]; exact C120) (v := some (.int (nar .boolean (1 : Int32)))) (fun h => by rw [Bd.returns] at h; cases h) hlk (fun hr => retN X132 hx (t := .boolean) Bd.returns (by simp) (hb hby at_174) hr) (by rw [eh132]; exact ⟨rfl, N132⟩) (by decide) (by decide)
    · skip
      refine own_g (mkF m 118 #[.val (.int p0), .val (.int p1), .val (.int p2), .val (.int p3), .val (.int 3), .val (.int c0), .val (.int c1), .val (.int c2), .val (.ref b98), .val (.ref b112), .unset] [(.int c0)]) (fun _ q => XS.astore X119.here hx rfl (hb hby at_108) rfl rfl (l' := #[.val (.int p0), .val (.int p1), .val (.int p2), .val (.int p3), .val (.int 3), .val (.int c0), .val (.int c1), .val (.int c2), .val (.ref b98), .val (.ref b112), .unset]) rfl (XS.iload X119.here hx rfl (hb hby at_110) rfl (XS.iconst X119.here hx rfl (hb hby at_112) (XS.icmpNo X119.here hx rfl (hb hby at_113) rfl (flt (by decide : ¬ ((3 : Int32) < (1 : Int32)))).1 (XS.iload X119.here hx rfl (hb hby at_116) rfl q))))) ?_
      have k134_ := (k117_.trans Kq119 (allS (Or.inr sz_b112) all0))
      have o135_ := (o118_.keep Kq119 (allS g_b112 all0))
      refine own_callS X119 hx hZ (y := own_y1) hown (own_h hw 52 rfl) (own_h hw 53 rfl) (own_h hw 2 rfl) (own_h hw 54 rfl) (by decide) (own_al l Z a0 hw [] c0 zCS fm T119.heap n0 (Nat.le_trans Z0 k134_.1) S_CS nCS S_AD S_HI S_LO S_SF hfm o135_) (by decide) (by decide) rfl (g := (mkF m 118 #[.val (.int p0), .val (.int p1), .val (.int p2), .val (.int p3), .val (.int 3), .val (.int c0), .val (.int c1), .val (.int c2), .val (.ref b98), .val (.ref b112), .unset] [(.int c0)])) rfl (by rw [hml]; rfl) (argsL := [(.int c0)]) (rest := []) (lenOf own_pd__28C_29Z rfl) rfl (W := 0) (by show 2 * 0 + _ ≤ _; exact Nat.le_of_eq rfl) (hb hby at_118) rfl (by decide) (by decide) ?_
      rintro rv136 T136 L136 X136 ⟨hv136, Nq136, eh136⟩
      have N136 := Fr.app N119 Nq136
      by_cases hok_c0 : own_ok c0 = true
      · simp [own_b, hok_c0] at hv136
        subst hv136
        refine own_g (mkF m 132 #[.val (.int p0), .val (.int p1), .val (.int p2), .val (.int p3), .val (.int 3), .val (.int c0), .val (.int c1), .val (.int c2), .val (.ref b98), .val (.ref b112), .unset] [(.int c1)]) (fun _ q => XS.ifNo X136.here hx rfl (hb hby at_121) rfl ((if0 _ _).trans (feq (by decide : ¬ ((1 : Int32) = (0 : Int32)))).1) (XS.iload X136.here hx rfl (hb hby at_124) rfl (XS.iconst X136.here hx rfl (hb hby at_126) (XS.icmpNo X136.here hx rfl (hb hby at_127) rfl (flt (by decide : ¬ ((3 : Int32) < (2 : Int32)))).1 (XS.iload X136.here hx rfl (hb hby at_130) rfl q))))) ?_
        refine own_callS X136 hx hZ (y := own_y1) hown (own_h hw 52 rfl) (own_h hw 53 rfl) (own_h hw 2 rfl) (own_h hw 54 rfl) (by decide) (own_al l Z a0 hw [] c1 zCS fm T119.heap n0 (Nat.le_trans Z0 k134_.1) S_CS nCS S_AD S_HI S_LO S_SF hfm o135_) (by decide) (by decide) eh136 (g := (mkF m 132 #[.val (.int p0), .val (.int p1), .val (.int p2), .val (.int p3), .val (.int 3), .val (.int c0), .val (.int c1), .val (.int c2), .val (.ref b98), .val (.ref b112), .unset] [(.int c1)])) rfl (by rw [hml]; rfl) (argsL := [(.int c1)]) (rest := []) (lenOf own_pd__28C_29Z rfl) rfl (W := 0) (by show 2 * 0 + _ ≤ _; exact Nat.le_of_eq rfl) (hb hby at_132) rfl (by decide) (by decide) ?_
        rintro rv137 T137 L137 X137 ⟨hv137, Nq137, eh137⟩
        have N137 := Fr.app N136 Nq137
        by_cases hok_c1 : own_ok c1 = true
        · simp [own_b, hok_c1] at hv137
          subst hv137
          refine own_g (mkF m 146 #[.val (.int p0), .val (.int p1), .val (.int p2), .val (.int p3), .val (.int 3), .val (.int c0), .val (.int c1), .val (.int c2), .val (.ref b98), .val (.ref b112), .unset] [(.int c2)]) (fun _ q => XS.ifNo X137.here hx rfl (hb hby at_135) rfl ((if0 _ _).trans (feq (by decide : ¬ ((1 : Int32) = (0 : Int32)))).1) (XS.iload X137.here hx rfl (hb hby at_138) rfl (XS.iconst X137.here hx rfl (hb hby at_140) (XS.icmpNo X137.here hx rfl (hb hby at_141) rfl (flt (by decide : ¬ ((3 : Int32) < (3 : Int32)))).1 (XS.iload X137.here hx rfl (hb hby at_144) rfl q))))) ?_
          refine own_callS X137 hx hZ (y := own_y1) hown (own_h hw 52 rfl) (own_h hw 53 rfl) (own_h hw 2 rfl) (own_h hw 54 rfl) (by decide) (own_al l Z a0 hw [] c2 zCS fm T119.heap n0 (Nat.le_trans Z0 k134_.1) S_CS nCS S_AD S_HI S_LO S_SF hfm o135_) (by decide) (by decide) eh137 (g := (mkF m 146 #[.val (.int p0), .val (.int p1), .val (.int p2), .val (.int p3), .val (.int 3), .val (.int c0), .val (.int c1), .val (.int c2), .val (.ref b98), .val (.ref b112), .unset] [(.int c2)])) rfl (by rw [hml]; rfl) (argsL := [(.int c2)]) (rest := []) (lenOf own_pd__28C_29Z rfl) rfl (W := 0) (by show 2 * 0 + _ ≤ _; exact Nat.le_of_eq rfl) (hb hby at_146) rfl (by decide) (by decide) ?_
          rintro rv138 T138 L138 X138 ⟨hv138, Nq138, eh138⟩
          have N138 := Fr.app N137 Nq138
          by_cases hok_c2 : own_ok c2 = true
          · simp [own_b, hok_c2] at hv138
            subst hv138
            refine own_g (mkF m 161 #[.val (.int p0), .val (.int p1), .val (.int p2), .val (.int p3), .val (.int 3), .val (.int c0), .val (.int c1), .val (.int c2), .val (.ref b98), .val (.ref b112), .val (.int 1)] [(.ref b112)]) (fun _ q => XS.ifNo X138.here hx rfl (hb hby at_149) rfl ((if0 _ _).trans (feq (by decide : ¬ ((1 : Int32) = (0 : Int32)))).1) (XS.iconst X138.here hx rfl (hb hby at_152) (XS.goto X138.here hx rfl (pc0 := 153) (pc' := 157) rfl (hb hby at_153) (by decide) (by decide) (XS.istore X138.here hx rfl (hb hby at_157) rfl (l' := #[.val (.int p0), .val (.int p1), .val (.int p2), .val (.int p3), .val (.int 3), .val (.int c0), .val (.int c1), .val (.int c2), .val (.ref b98), .val (.ref b112), .val (.int 1)]) rfl (XS.aload X138.here hx rfl (hb hby at_159) rfl rfl q))))) ?_
            refine own_callS X138 hx hZ (y := own_y0) hown (own_h hw 27 rfl) (own_h hw 28 rfl) (own_h hw 29 rfl) (own_h hw 30 rfl) (by decide) (own_fv_1_3 l Z a0 hw [] b112 tq kq_ c0 c1 c2 zCS fm T119.heap n0 (Nat.le_trans Z0 k134_.1) S_CS nCS S_AD S_HI S_LO S_SF hfm o135_ Eq119 Vq119 Cx Ax hb0 hb1 hb2 hn0 hn1 hn2) (by decide) (by decide) eh138 (g := (mkF m 161 #[.val (.int p0), .val (.int p1), .val (.int p2), .val (.int p3), .val (.int 3), .val (.int c0), .val (.int c1), .val (.int c2), .val (.ref b98), .val (.ref b112), .val (.int 1)] [(.ref b112)])) rfl (by rw [hml]; rfl) (argsL := [(.ref b112)]) (rest := []) (lenOf own_pd__28Ljava_2flang_2fString_3b_29Z rfl) rfl (W := 0) (by show 2 * 0 + _ ≤ _; exact Nat.le_of_eq rfl) (hb hby at_161) rfl (by decide) (by decide) ?_
            rintro rv139 T139 L139 X139 ⟨hv139, Nq139, eh139⟩
            have N139 := Fr.app N138 Nq139
            simp [own_b, hok_c0, hok_c1, hok_c2] at hv139
            subst hv139
            refine own_g (mkF m 174 #[.val (.int p0), .val (.int p1), .val (.int p2), .val (.int p3), .val (.int 3), .val (.int c0), .val (.int c1), .val (.int c2), .val (.ref b98), .val (.ref b112), .val (.int 1)] [(.int 1)]) (fun _ q => XS.iload X139.here hx rfl (hb hby at_164) rfl (XS.icmpNo X139.here hx rfl (hb hby at_166) rfl (teq (by decide : (1 : Int32) = (1 : Int32))).2 (XS.iconst X139.here hx rfl (hb hby at_169) (XS.goto X139.here hx rfl (pc0 := 170) (pc' := 174) rfl (hb hby at_170) (by decide) (by decide) q)))) ?_
            have hk140_ := (Nat.le_trans (Nat.le_trans (Nat.le_trans (Nat.le_trans (Nat.le_trans (Nat.le_trans hk0 E98.1) (Keep.of_wr W102).1) (Keep.of_wr W106).1) (Keep.of_wr W110).1) E112.1) Kq119.1)
            exact own_endW X139 hS (by rw [eh139]; exact hk140_) hZ hEL (by rw [hh]; rw [eh139]; exact C120) (v := some (.int (nar .boolean (1 : Int32)))) (fun h => by rw [Bd.returns] at h; cases h) hlk (fun hr => retN X139 hx (t := .boolean) Bd.returns (by simp) (hb hby at_174) hr) (by rw [eh139]; exact ⟨rfl, N139⟩) (by decide) (by decide)
          · simp [own_b, hok_c2] at hv138
            subst hv138
            refine own_g (mkF m 161 #[.val (.int p0), .val (.int p1), .val (.int p2), .val (.int p3), .val (.int 3), .val (.int c0), .val (.int c1), .val (.int c2), .val (.ref b98), .val (.ref b112), .val (.int 0)] [(.ref b112)]) (fun _ q => XS.ifYes X138.here hx rfl (pc0 := 149) (pc' := 156) rfl (hb hby at_149) rfl ((if0 _ _).trans (teq (by decide : (0 : Int32) = (0 : Int32))).1) (by decide) (by decide) (XS.iconst X138.here hx rfl (hb hby at_156) (XS.istore X138.here hx rfl (hb hby at_157) rfl (l' := #[.val (.int p0), .val (.int p1), .val (.int p2), .val (.int p3), .val (.int 3), .val (.int c0), .val (.int c1), .val (.int c2), .val (.ref b98), .val (.ref b112), .val (.int 0)]) rfl (XS.aload X138.here hx rfl (hb hby at_159) rfl rfl q)))) ?_
            refine own_callS X138 hx hZ (y := own_y0) hown (own_h hw 27 rfl) (own_h hw 28 rfl) (own_h hw 29 rfl) (own_h hw 30 rfl) (by decide) (own_fv_1_3 l Z a0 hw [] b112 tq kq_ c0 c1 c2 zCS fm T119.heap n0 (Nat.le_trans Z0 k134_.1) S_CS nCS S_AD S_HI S_LO S_SF hfm o135_ Eq119 Vq119 Cx Ax hb0 hb1 hb2 hn0 hn1 hn2) (by decide) (by decide) eh138 (g := (mkF m 161 #[.val (.int p0), .val (.int p1), .val (.int p2), .val (.int p3), .val (.int 3), .val (.int c0), .val (.int c1), .val (.int c2), .val (.ref b98), .val (.ref b112), .val (.int 0)] [(.ref b112)])) rfl (by rw [hml]; rfl) (argsL := [(.ref b112)]) (rest := []) (lenOf own_pd__28Ljava_2flang_2fString_3b_29Z rfl) rfl (W := 0) (by show 2 * 0 + _ ≤ _; exact Nat.le_of_eq rfl) (hb hby at_161) rfl (by decide) (by decide) ?_
            rintro rv141 T141 L141 X141 ⟨hv141, Nq141, eh141⟩
            have N141 := Fr.app N138 Nq141
            simp [own_b, hok_c0, hok_c1, hok_c2] at hv141
            subst hv141
            refine own_g (mkF m 174 #[.val (.int p0), .val (.int p1), .val (.int p2), .val (.int p3), .val (.int 3), .val (.int c0), .val (.int c1), .val (.int c2), .val (.ref b98), .val (.ref b112), .val (.int 0)] [(.int 1)]) (fun _ q => XS.iload X141.here hx rfl (hb hby at_164) rfl (XS.icmpNo X141.here hx rfl (hb hby at_166) rfl (teq (by decide : (0 : Int32) = (0 : Int32))).2 (XS.iconst X141.here hx rfl (hb hby at_169) (XS.goto X141.here hx rfl (pc0 := 170) (pc' := 174) rfl (hb hby at_170) (by decide) (by decide) q)))) ?_
            have hk142_ := (Nat.le_trans (Nat.le_trans (Nat.le_trans (Nat.le_trans (Nat.le_trans (Nat.le_trans hk0 E98.1) (Keep.of_wr W102).1) (Keep.of_wr W106).1) (Keep.of_wr W110).1) E112.1) Kq119.1)
            exact own_endW X141 hS (by rw [eh141]; exact hk142_) hZ hEL (by rw [hh]; rw [eh141]; exact C120) (v := some (.int (nar .boolean (1 : Int32)))) (fun h => by rw [Bd.returns] at h; cases h) hlk (fun hr => retN X141 hx (t := .boolean) Bd.returns (by simp) (hb hby at_174) hr) (by rw [eh141]; exact ⟨rfl, N141⟩) (by decide) (by decide)
        · simp [own_b, hok_c1] at hv137
          subst hv137
          refine own_g (mkF m 161 #[.val (.int p0), .val (.int p1), .val (.int p2), .val (.int p3), .val (.int 3), .val (.int c0), .val (.int c1), .val (.int c2), .val (.ref b98), .val (.ref b112), .val (.int 0)] [(.ref b112)]) (fun _ q => XS.ifYes X137.here hx rfl (pc0 := 135) (pc' := 156) rfl (hb hby at_135) rfl ((if0 _ _).trans (teq (by decide : (0 : Int32) = (0 : Int32))).1) (by decide) (by decide) (XS.iconst X137.here hx rfl (hb hby at_156) (XS.istore X137.here hx rfl (hb hby at_157) rfl (l' := #[.val (.int p0), .val (.int p1), .val (.int p2), .val (.int p3), .val (.int 3), .val (.int c0), .val (.int c1), .val (.int c2), .val (.ref b98), .val (.ref b112), .val (.int 0)]) rfl (XS.aload X137.here hx rfl (hb hby at_159) rfl rfl q)))) ?_
          refine own_callS X137 hx hZ (y := own_y0) hown (own_h hw 27 rfl) (own_h hw 28 rfl) (own_h hw 29 rfl) (own_h hw 30 rfl) (by decide) (own_fv_1_3 l Z a0 hw [] b112 tq kq_ c0 c1 c2 zCS fm T119.heap n0 (Nat.le_trans Z0 k134_.1) S_CS nCS S_AD S_HI S_LO S_SF hfm o135_ Eq119 Vq119 Cx Ax hb0 hb1 hb2 hn0 hn1 hn2) (by decide) (by decide) eh137 (g := (mkF m 161 #[.val (.int p0), .val (.int p1), .val (.int p2), .val (.int p3), .val (.int 3), .val (.int c0), .val (.int c1), .val (.int c2), .val (.ref b98), .val (.ref b112), .val (.int 0)] [(.ref b112)])) rfl (by rw [hml]; rfl) (argsL := [(.ref b112)]) (rest := []) (lenOf own_pd__28Ljava_2flang_2fString_3b_29Z rfl) rfl (W := 0) (by show 2 * 0 + _ ≤ _; exact Nat.le_of_eq rfl) (hb hby at_161) rfl (by decide) (by decide) ?_
          rintro rv143 T143 L143 X143 ⟨hv143, Nq143, eh143⟩
          have N143 := Fr.app N137 Nq143
          simp [own_b, hok_c0, hok_c1] at hv143
          subst hv143
          refine own_g (mkF m 174 #[.val (.int p0), .val (.int p1), .val (.int p2), .val (.int p3), .val (.int 3), .val (.int c0), .val (.int c1), .val (.int c2), .val (.ref b98), .val (.ref b112), .val (.int 0)] [(.int 1)]) (fun _ q => XS.iload X143.here hx rfl (hb hby at_164) rfl (XS.icmpNo X143.here hx rfl (hb hby at_166) rfl (teq (by decide : (0 : Int32) = (0 : Int32))).2 (XS.iconst X143.here hx rfl (hb hby at_169) (XS.goto X143.here hx rfl (pc0 := 170) (pc' := 174) rfl (hb hby at_170) (by decide) (by decide) q)))) ?_
          have hk144_ := (Nat.le_trans (Nat.le_trans (Nat.le_trans (Nat.le_trans (Nat.le_trans (Nat.le_trans hk0 E98.1) (Keep.of_wr W102).1) (Keep.of_wr W106).1) (Keep.of_wr W110).1) E112.1) Kq119.1)
          exact own_endW X143 hS (by rw [eh143]; exact hk144_) hZ hEL (by rw [hh]; rw [eh143]; exact C120) (v := some (.int (nar .boolean (1 : Int32)))) (fun h => by rw [Bd.returns] at h; cases h) hlk (fun hr => retN X143 hx (t := .boolean) Bd.returns (by simp) (hb hby at_174) hr) (by rw [eh143]; exact ⟨rfl, N143⟩) (by decide) (by decide)
      · simp [own_b, hok_c0] at hv136
        subst hv136
        refine own_g (mkF m 161 #[.val (.int p0), .val (.int p1), .val (.int p2), .val (.int p3), .val (.int 3), .val (.int c0), .val (.int c1), .val (.int c2), .val (.ref b98), .val (.ref b112), .val (.int 0)] [(.ref b112)]) (fun _ q => XS.ifYes X136.here hx rfl (pc0 := 121) (pc' := 156) rfl (hb hby at_121) rfl ((if0 _ _).trans (teq (by decide : (0 : Int32) = (0 : Int32))).1) (by decide) (by decide) (XS.iconst X136.here hx rfl (hb hby at_156) (XS.istore X136.here hx rfl (hb hby at_157) rfl (l' := #[.val (.int p0), .val (.int p1), .val (.int p2), .val (.int p3), .val (.int 3), .val (.int c0), .val (.int c1), .val (.int c2), .val (.ref b98), .val (.ref b112), .val (.int 0)]) rfl (XS.aload X136.here hx rfl (hb hby at_159) rfl rfl q)))) ?_
        refine own_callS X136 hx hZ (y := own_y0) hown (own_h hw 27 rfl) (own_h hw 28 rfl) (own_h hw 29 rfl) (own_h hw 30 rfl) (by decide) (own_fv_1_3 l Z a0 hw [] b112 tq kq_ c0 c1 c2 zCS fm T119.heap n0 (Nat.le_trans Z0 k134_.1) S_CS nCS S_AD S_HI S_LO S_SF hfm o135_ Eq119 Vq119 Cx Ax hb0 hb1 hb2 hn0 hn1 hn2) (by decide) (by decide) eh136 (g := (mkF m 161 #[.val (.int p0), .val (.int p1), .val (.int p2), .val (.int p3), .val (.int 3), .val (.int c0), .val (.int c1), .val (.int c2), .val (.ref b98), .val (.ref b112), .val (.int 0)] [(.ref b112)])) rfl (by rw [hml]; rfl) (argsL := [(.ref b112)]) (rest := []) (lenOf own_pd__28Ljava_2flang_2fString_3b_29Z rfl) rfl (W := 0) (by show 2 * 0 + _ ≤ _; exact Nat.le_of_eq rfl) (hb hby at_161) rfl (by decide) (by decide) ?_
        rintro rv145 T145 L145 X145 ⟨hv145, Nq145, eh145⟩
        have N145 := Fr.app N136 Nq145
        simp [own_b, hok_c0] at hv145
        subst hv145
        refine own_g (mkF m 174 #[.val (.int p0), .val (.int p1), .val (.int p2), .val (.int p3), .val (.int 3), .val (.int c0), .val (.int c1), .val (.int c2), .val (.ref b98), .val (.ref b112), .val (.int 0)] [(.int 1)]) (fun _ q => XS.iload X145.here hx rfl (hb hby at_164) rfl (XS.icmpNo X145.here hx rfl (hb hby at_166) rfl (teq (by decide : (0 : Int32) = (0 : Int32))).2 (XS.iconst X145.here hx rfl (hb hby at_169) (XS.goto X145.here hx rfl (pc0 := 170) (pc' := 174) rfl (hb hby at_170) (by decide) (by decide) q)))) ?_
        have hk146_ := (Nat.le_trans (Nat.le_trans (Nat.le_trans (Nat.le_trans (Nat.le_trans (Nat.le_trans hk0 E98.1) (Keep.of_wr W102).1) (Keep.of_wr W106).1) (Keep.of_wr W110).1) E112.1) Kq119.1)
        exact own_endW X145 hS (by rw [eh145]; exact hk146_) hZ hEL (by rw [hh]; rw [eh145]; exact C120) (v := some (.int (nar .boolean (1 : Int32)))) (fun h => by rw [Bd.returns] at h; cases h) hlk (fun hr => retN X145 hx (t := .boolean) Bd.returns (by simp) (hb hby at_174) hr) (by rw [eh145]; exact ⟨rfl, N145⟩) (by decide) (by decide)
theorem own_staI {s : State} {args : Array Value} {t : Term} {k : Int32} (hv : (Jvm.Cond.eq t (.int k)).value args s none s [] = some true) : t.eval args s none [] s = some (.int k) := by
  obtain ⟨x, y, e1, e2, k1, k2⟩ := cmp_v (Or.inl hv)
  rw [Term.int_eval] at e2
  cases e2
  obtain ⟨z, rfl⟩ := k2
  have q : z = k := by simpa [Jvm.Cond.value, e1, Term.int_eval] using hv
  rw [← q]; exact e1
set_option maxRecDepth 65536 in
set_option maxHeartbeats 40000000 in
theorem own_comes {Post : Tables → Env → Array Value → State → Outcome → State → Prop} (hpost : ∀ tb e args s v u, (limb_1_1.after args s (.returned v) u = true ∧ limb_1_2.after args s (.returned v) u = true ∧ True) → ReturnedEndW s (.returned v) u (Jvm.fieldLocs frame_1_writes args s ++ Jvm.arrayLocs frame_1_arrays args s ++ Jvm.staticLocs frame_1_statics s) 24 1152 → Post tb e args s (.returned v) u) :
    ArmFor flags0 classFile x code maxLocals ret World_1 tables_1 room_1 Calls_1 rest_1 Pre_1 Post := by
  intro l hfl _ _ p e ha hc hk s m args below hf hA hF happ hP
  obtain ⟨hcalls, hrest, hpre⟩ := hP
  obtain ⟨-, -, -, hnamed, -, -, -, hat⟩ := (Spec.applies_iff hf).mp happ
  obtain ⟨hg, hn⟩ := and_e (Cond.before_iff.mp (show (Jvm.Cond.and given_1 narrow_1).before args s = true from hpre))
  obtain ⟨g0, g1⟩ := and_e hg
  obtain ⟨g2, g3⟩ := and_e g1
  obtain ⟨g4, g5⟩ := and_e g3
  obtain ⟨g6, g7⟩ := and_e g5
  obtain ⟨w0, w1, w2, w3, rfl⟩ : ∃ w0 w1 w2 w3 : Value, args = #[w0, w1, w2, w3] := by
    have hs : args.size = 4 := by simpa [Jvm.Cond.value, given_1] using g0
    obtain ⟨L⟩ := args
    match L, hs with
    | [w0, w1, w2, w3], _ => exact ⟨w0, w1, w2, w3, rfl⟩
  have hw := fun d (hd : d ∈ tables_1) => atoms_spec (ws := Jvm.Cond.code x code maxLocals ret :: tables_1) hat d (List.mem_cons_of_mem _ hd)
  have hfit : Fit s := fun {y c} hc i hi => by
    obtain ⟨ha, rfl⟩ := Array.getElem?_eq_some_iff.mp hc
    have q := List.all_eq_true.mp ((Array.all_eq_true_iff_forall_mem.mp hF) _ (Array.getElem_mem ha)) i (List.mem_range.mpr hi)
    simpa [Array.getElem?_eq_getElem hi] using q
  obtain ⟨i0, ei0⟩ := is_v g2
  obtain rfl : w0 = (.int i0) := Option.some.inj ei0
  obtain ⟨i1, ei1⟩ := is_v g4
  obtain rfl : w1 = (.int i1) := Option.some.inj ei1
  obtain ⟨i2, ei2⟩ := is_v g6
  obtain rfl : w2 = (.int i2) := Option.some.inj ei2
  obtain ⟨i3, ei3⟩ := is_v g7
  obtain rfl : w3 = (.int i3) := Option.some.inj ei3
  obtain ⟨hsets, hown0⟩ := atoms_of _ (rest_1_c_eq ▸ (show rest_1_c.before _ s = true from hrest))
  have hr0 := Cond.before_iff.mp hown0
  obtain ⟨zCS, eCS⟩ := is_v (Cond.before_iff.mp (hsets _ (List.mem_of_getElem? (i := 1) rfl)))
  have S_CS := Sta.start eCS (Or.inl (hsets _ (List.mem_of_getElem? (i := 0) rfl)))
  have hcw : Jvm.Lit.compactW.before _ s = true := (hsets _ (List.mem_of_getElem? (i := 2) rfl))
  have nCS : ¬ zCS = 0 := fun q => by subst q; have hq := not_v (Cond.before_iff.mp (hsets _ (List.mem_of_getElem? (i := 2) rfl))); simp [Jvm.Cond.value, eCS, Term.int_eval] at hq
  have CH0 : CHv s consts_1 s.vm s.heap := CHv.start (own_hEL hw) (fun p hp => hcalls.1 p hp) hcw (own_h hw 20 rfl) (own_h hw 7 rfl)
  have S_AD := Sta.start (own_staI (Cond.before_iff.mp (hsets _ (List.mem_of_getElem? (i := 12) rfl)))) (Or.inl (hsets _ (List.mem_of_getElem? (i := 11) rfl)))
  have S_HI := Sta.start (own_staI (Cond.before_iff.mp (hsets _ (List.mem_of_getElem? (i := 15) rfl)))) (Or.inl (hsets _ (List.mem_of_getElem? (i := 14) rfl)))
  have S_LO := Sta.start (own_staI (Cond.before_iff.mp (hsets _ (List.mem_of_getElem? (i := 18) rfl)))) (Or.inl (hsets _ (List.mem_of_getElem? (i := 17) rfl)))
  obtain ⟨fm, eSF, hfm⟩ := isR_v (Cond.before_iff.mp (hsets _ (List.mem_of_getElem? (i := 8) rfl)))
  have S_SF := Sta.start eSF (Or.inl (hsets _ (List.mem_of_getElem? (i := 7) rfl)))
  obtain ⟨n, o, h1, h2, h3, _, L, rfl, ⟨rfl, N⟩, -, hq⟩ := own_rm0 l s _ hw tables_1 i0 i1 i2 i3 zCS fm s.heap s.heap.size (Nat.le_refl _) S_CS nCS S_AD S_HI S_LO S_SF hfm (Old.start s) p e ha hc hk s m _ below hf ((Spec.applies_iff_loose hf).mp happ).1 ⟨rfl, State.Warmed39.refl s, rfl, CH0⟩ trivial
  refine ⟨n, _, h1, h2, h3, hpost _ _ _ _ _ _ ⟨Cond.after_iff.mpr rfl, Cond.after_iff.mpr (eq_i res_at (Term.int_eval (1)) rfl), trivial⟩ ⟨hq.1, hq.2.1, hq.2.2.1, (hq.2.2.2.sift fun y hy => Or.inr (N y hy)).mono (by decide) (by decide)⟩⟩
theorem main_1_1 : Claimed_1_1 := own_comes fun _ _ _ _ _ _ h hF => ⟨h.1, hF⟩
theorem main_1_2 : Claimed_1_2 := own_comes fun _ _ _ _ _ _ h hF => ⟨h.2.1, hF⟩
end Jvm.Pilot.@@N@@
namespace Jvm.Pilot.@@N@@
open Jvm Jvm.ClassFile Sem Op Lib Jvm.Free Jvm.Stand Jvm.Pilot.@@N@@.Jvm.D
/-! MADE BY PROGRAM (witnessworld.py) out of the Statement's table words and the real class files: 20 classes; the members and pool entries that the words name. The judged class is class 1, her method 3. -/
namespace start1
open Jvm.ClassFile
def u (s : String) : CpInfo := .utf8 (stringToUtf16 s)
/-- a pool by its gaps: so many unusable entries, then the entry; so many at the end -/
def gap : Nat → List CpInfo → List CpInfo
  | 0, r => r
  | n + 1, r => .unusable :: gap n r
def poolList (es : List (Nat × CpInfo)) (last : Nat) : List CpInfo := es.foldr (fun e r => gap e.1 (e.2 :: r)) (gap last [])
def pool (es : List (Nat × CpInfo)) (last : Nat) : Array CpInfo := ⟨poolList es last⟩
def fileOf (pool : Array CpInfo) (this : Nat) (attrs : Array Attribute := #[]) (ms : Array MethodInfo := #[]) (fl : Nat := 33) (sup : Nat := 0) (ifs : Array Nat := #[]) (fds : Array FieldInfo := #[]) : ClassFile where
  minorVersion := 0
  majorVersion := 65
  constantPool := pool
  accessFlags := fl
  thisClass := this
  superClass := sup
  interfaces := ifs
  fields := fds
  methods := ms
  attributes := attrs
def plain (name : String) (sup : Option ClassId) : Class where
  name := name
  kind := .ordinary
  loader := none
  accessFlags := 33
  super := sup
  interfaces := #[]
  cf := none
  fields := #[]
  methods := #[]
  instanceTypes := #[]
  staticTypes := #[]
  resolved := #[]
  callSites := []
  init := .initialized
  statics := none
  mirror := none

def pool0 : Array CpInfo := pool [(5, u "<init>"), (0, u "()V"), (1, .class_ 10), (1, u "java/lang/Object")] 113

def k0c0 : Code := { maxStack := 0, maxLocals := 1, code := object_method_1_code, exceptionTable := #[], attributes := #[] }
def k0m0 : Method := { name := "<init>", desc := "()V", sig := { parameters := [], returnType := none }, accessFlags := 1, code := some k0c0 }
/-- java/lang/Object -/
def k0 : Class := { plain "java/lang/Object" none with
  accessFlags := 33
  interfaces := #[]
  cf := some (fileOf pool0 8 #[] #[{ accessFlags := 1, nameIndex := 5, descriptorIndex := 6, attributes := #[] }] 33 0 #[] #[])
  fields := #[]
  methods := #[k0m0]
  instanceTypes := #[]
  staticTypes := #[]
  resolved := Array.replicate 124 none
  statics := none }

def pool1 : Array CpInfo := pool [(2, .class_ 4), (1, u "java/lang/Object"), (0, u "<init>"), (0, u "()V"), (0, .integer 65536), (0, .integer 65535), (0, .methodref 10 11), (0, .class_ 12), (0, .nameAndType 13 14), (0, u "com/example/stepgate/stepgate/http/Http1FieldsIsFieldValuePinLaw"), (0, u "pick"), (0, u "(I)C"), (0, .class_ 16), (0, u "java/lang/String"), (0, .methodref 15 18), (0, .nameAndType 5 19), (0, u "([C)V"), (0, .methodref 10 21), (0, .nameAndType 22 23), (0, u "allowed"), (0, u "(C)Z"), (0, .methodref 25 26), (0, .class_ 27), (0, .nameAndType 28 29), (0, u "com/example/stepgate/stepgate/http/Http1Fields"), (0, u "isFieldValue"), (0, u "(Ljava/lang/String;)Z"), (3, u "law"), (0, u "(IIII)Z")] 4

def k1m0 : Method := { name := "<init>", desc := "()V", sig := { parameters := [], returnType := none }, accessFlags := 1, code := none }
def k1c1 : Code := { maxStack := 2, maxLocals := 1, code := method_2_code, exceptionTable := #[], attributes := #[] }
def k1m1 : Method := { name := "pick", desc := "(I)C", sig := { parameters := [.int], returnType := some .char }, accessFlags := 10, code := some k1c1 }
def k1c2 : Code := { maxStack := 2, maxLocals := 1, code := method_3_code, exceptionTable := #[], attributes := #[] }
def k1m2 : Method := { name := "allowed", desc := "(C)Z", sig := { parameters := [.char], returnType := some .boolean }, accessFlags := 10, code := some k1c2 }
def k1c3 : Code := { maxStack := 4, maxLocals := 11, code := code, exceptionTable := #[], attributes := #[] }
def k1m3 : Method := { name := "law", desc := "(IIII)Z", sig := { parameters := [.int, .int, .int, .int], returnType := some .boolean }, accessFlags := 9, code := some k1c3 }
/-- com/example/stepgate/stepgate/http/Http1FieldsIsFieldValuePinLaw -/
def k1 : Class := { plain "com/example/stepgate/stepgate/http/Http1FieldsIsFieldValuePinLaw" (some 0) with
  accessFlags := 49
  interfaces := #[]
  cf := some (fileOf pool1 10 #[] #[{ accessFlags := 1, nameIndex := 5, descriptorIndex := 6, attributes := #[] }, { accessFlags := 10, nameIndex := 13, descriptorIndex := 14, attributes := #[] }, { accessFlags := 10, nameIndex := 22, descriptorIndex := 23, attributes := #[] }, { accessFlags := 9, nameIndex := 33, descriptorIndex := 34, attributes := #[] }] 49 2 #[] #[])
  fields := #[]
  methods := #[k1m0, k1m1, k1m2, k1m3]
  instanceTypes := #[]
  staticTypes := #[]
  resolved := Array.replicate 39 none
  statics := none }

def pool2 : Array CpInfo := pool [(1, .class_ 2), (0, u "java/io/Serializable"), (0, .class_ 4), (0, u "java/lang/Object")] 2

/-- java/io/Serializable -/
def k2 : Class := { plain "java/io/Serializable" (some 0) with
  accessFlags := 1537
  interfaces := #[]
  cf := some (fileOf pool2 1 #[] #[] 1537 3 #[] #[])
  fields := #[]
  methods := #[]
  instanceTypes := #[]
  staticTypes := #[]
  resolved := Array.replicate 7 none
  statics := none }

def pool3 : Array CpInfo := pool [(1, .class_ 2), (0, u "java/lang/Comparable"), (0, .class_ 4), (0, u "java/lang/Object")] 7

/-- java/lang/Comparable -/
def k3 : Class := { plain "java/lang/Comparable" (some 0) with
  accessFlags := 1537
  interfaces := #[]
  cf := some (fileOf pool3 1 #[] #[] 1537 3 #[] #[])
  fields := #[]
  methods := #[]
  instanceTypes := #[]
  staticTypes := #[]
  resolved := Array.replicate 12 none
  statics := none }

def pool4 : Array CpInfo := pool [(2, .class_ 4), (1, u "java/lang/CharSequence"), (42, .class_ 48), (0, u "java/lang/CharSequence$1CodePointIterator"), (10, .class_ 60), (0, u "java/lang/CharSequence$1CharIterator"), (5, .class_ 67), (0, u "java/lang/Object")] 63

/-- java/lang/CharSequence -/
def k4 : Class := { plain "java/lang/CharSequence" (some 0) with
  accessFlags := 1537
  interfaces := #[]
  cf := some (fileOf pool4 2 #[.nestMembers #[47, 59]] #[] 1537 66 #[] #[])
  fields := #[]
  methods := #[]
  instanceTypes := #[]
  staticTypes := #[]
  resolved := Array.replicate 131 none
  statics := none }

def pool5 : Array CpInfo := pool [(1, .class_ 2), (0, u "java/lang/constant/Constable"), (0, .class_ 4), (0, u "java/lang/Object")] 6

/-- java/lang/constant/Constable -/
def k5 : Class := { plain "java/lang/constant/Constable" (some 0) with
  accessFlags := 1537
  interfaces := #[]
  cf := some (fileOf pool5 1 #[] #[] 1537 3 #[] #[])
  fields := #[]
  methods := #[]
  instanceTypes := #[]
  staticTypes := #[]
  resolved := Array.replicate 11 none
  statics := none }

def pool6 : Array CpInfo := pool [(1, .class_ 2), (0, u "java/lang/constant/ConstantDesc"), (0, .class_ 4), (0, u "java/lang/Object")] 32

/-- java/lang/constant/ConstantDesc -/
def k6 : Class := { plain "java/lang/constant/ConstantDesc" (some 0) with
  accessFlags := 1537
  interfaces := #[]
  cf := some (fileOf pool6 1 #[] #[] 1537 3 #[] #[])
  fields := #[]
  methods := #[]
  instanceTypes := #[]
  staticTypes := #[]
  resolved := Array.replicate 37 none
  statics := none }

def pool7 : Array CpInfo := pool [(1, .methodref 2 3), (0, .class_ 4), (0, .nameAndType 5 6), (0, u "java/lang/Object"), (0, u "<init>"), (0, u "()V"), (0, .string 8), (0, u ""), (0, .fieldref 10 11), (0, .class_ 12), (0, .nameAndType 13 14), (0, u "java/lang/String"), (0, u "value"), (0, u "[B"), (0, .fieldref 10 16), (0, .nameAndType 17 18), (0, u "coder"), (0, u "B"), (2, u "hash"), (0, u "I"), (2, u "hashIsZero"), (0, u "Z"), (0, .methodref 10 28), (0, .nameAndType 5 29), (0, u "([CIILjava/lang/Void;)V"), (8, .fieldref 10 39), (0, .nameAndType 40 26), (0, u "COMPACT_STRINGS"), (1, .class_ 44), (1, u "java/lang/StringUTF16"), (0, u "compress"), (1, .methodref 42 48), (0, .nameAndType 49 50), (0, u "coderFromArrayLen"), (0, u "([BI)B"), (56, .class_ 109), (1, u "java/lang/StringLatin1"), (32, u "()Z"), (34, .methodref 42 178), (0, .nameAndType 45 179), (0, u "([CII)[B"), (154, u "()I"), (0, .methodref 10 336), (0, .nameAndType 17 337), (0, u "()B"), (25, u "([BI)C"), (27, u "(II)V"), (35, u "(I)C"), (64, .methodref 10 493), (0, .nameAndType 494 142), (0, u "isLatin1"), (0, .methodref 107 496), (0, .nameAndType 497 363), (0, u "charAt"), (0, .methodref 42 496), (2, u "checkIndex"), (5, u "length"), (67, .class_ 576), (0, u "java/lang/CharSequence"), (22, u "CASE_INSENSITIVE_ORDER"), (0, u "Ljava/util/Comparator;"), (409, u "([C)V"), (42, .fieldref 1054 1055), (0, .class_ 1056), (0, .nameAndType 1057 1058), (0, u "jdk/internal/util/Preconditions"), (0, u "SIOOBE_FORMATTER"), (0, u "Ljava/util/function/BiFunction;"), (0, .methodref 1054 1060), (0, .nameAndType 501 1061), (0, u "(IILjava/util/function/BiFunction;)I"), (39, u "serialPersistentFields"), (0, u "[Ljava/io/ObjectStreamField;"), (0, .class_ 1104), (0, u "java/lang/String$CaseInsensitiveComparator"), (1, .class_ 1107), (0, u "java/io/Serializable"), (0, .class_ 1109), (0, u "java/lang/Comparable"), (0, .class_ 1111), (0, u "java/lang/constant/Constable"), (0, .class_ 1113), (0, u "java/lang/constant/ConstantDesc"), (2, u "serialVersionUID"), (0, u "J"), (3, u "REPL"), (0, u "C"), (2, u "LATIN1"), (1, u "UTF16")] 323

def k7m0 : Method := { name := "<init>", desc := "()V", sig := { parameters := [], returnType := none }, accessFlags := 1, code := none }
def k7c1 : Code := { maxStack := 5, maxLocals := 2, code := jdk_42_method_3_code, exceptionTable := #[], attributes := #[] }
def k7m1 : Method := { name := "<init>", desc := "([C)V", sig := { parameters := [(.array .char)], returnType := none }, accessFlags := 1, code := some k7c1 }
def k7c2 : Code := { maxStack := 2, maxLocals := 1, code := jdk_42_method_54_code, exceptionTable := #[], attributes := #[] }
def k7m2 : Method := { name := "length", desc := "()I", sig := { parameters := [], returnType := some .int }, accessFlags := 1, code := some k7c2 }
def k7c3 : Code := { maxStack := 2, maxLocals := 2, code := jdk_42_method_56_code, exceptionTable := #[], attributes := #[] }
def k7m3 : Method := { name := "charAt", desc := "(I)C", sig := { parameters := [.int], returnType := some .char }, accessFlags := 1, code := some k7c3 }
def k7c4 : Code := { maxStack := 4, maxLocals := 6, code := jdk_42_method_149_code, exceptionTable := #[], attributes := #[] }
def k7m4 : Method := { name := "<init>", desc := "([CIILjava/lang/Void;)V", sig := { parameters := [(.array .char), .int, .int, (.object "java/lang/Void")], returnType := none }, accessFlags := 2, code := some k7c4 }
def k7c5 : Code := { maxStack := 1, maxLocals := 1, code := jdk_42_method_152_code, exceptionTable := #[], attributes := #[] }
def k7m5 : Method := { name := "coder", desc := "()B", sig := { parameters := [], returnType := some .byte }, accessFlags := 0, code := some k7c5 }
def k7c6 : Code := { maxStack := 1, maxLocals := 1, code := jdk_42_method_154_code, exceptionTable := #[], attributes := #[] }
def k7m6 : Method := { name := "isLatin1", desc := "()Z", sig := { parameters := [], returnType := some .boolean }, accessFlags := 0, code := some k7c6 }
def k7c7 : Code := { maxStack := 3, maxLocals := 2, code := jdk_42_method_155_code, exceptionTable := #[], attributes := #[] }
def k7m7 : Method := { name := "checkIndex", desc := "(II)V", sig := { parameters := [.int, .int], returnType := none }, accessFlags := 8, code := some k7c7 }
/-- java/lang/String -/
def k7 : Class := { plain "java/lang/String" (some 0) with
  accessFlags := 49
  interfaces := #[2, 3, 4, 5, 6]
  cf := some (fileOf pool7 10 #[.nestMembers #[1103]] #[{ accessFlags := 1, nameIndex := 5, descriptorIndex := 6, attributes := #[] }, { accessFlags := 1, nameIndex := 5, descriptorIndex := 1010, attributes := #[] }, { accessFlags := 1, nameIndex := 507, descriptorIndex := 334, attributes := #[] }, { accessFlags := 1, nameIndex := 497, descriptorIndex := 427, attributes := #[] }, { accessFlags := 2, nameIndex := 5, descriptorIndex := 29, attributes := #[] }, { accessFlags := 0, nameIndex := 17, descriptorIndex := 337, attributes := #[] }, { accessFlags := 0, nameIndex := 494, descriptorIndex := 142, attributes := #[] }, { accessFlags := 8, nameIndex := 501, descriptorIndex := 391, attributes := #[] }] 49 2 #[1106, 1108, 575, 1110, 1112] #[{ accessFlags := 18, nameIndex := 13, descriptorIndex := 14, attributes := #[] }, { accessFlags := 18, nameIndex := 17, descriptorIndex := 18, attributes := #[] }, { accessFlags := 2, nameIndex := 21, descriptorIndex := 22, attributes := #[] }, { accessFlags := 2, nameIndex := 25, descriptorIndex := 26, attributes := #[] }, { accessFlags := 26, nameIndex := 1116, descriptorIndex := 1117, attributes := #[] }, { accessFlags := 24, nameIndex := 40, descriptorIndex := 26, attributes := #[] }, { accessFlags := 26, nameIndex := 1101, descriptorIndex := 1102, attributes := #[] }, { accessFlags := 26, nameIndex := 1121, descriptorIndex := 1122, attributes := #[] }, { accessFlags := 25, nameIndex := 599, descriptorIndex := 600, attributes := #[] }, { accessFlags := 24, nameIndex := 1125, descriptorIndex := 18, attributes := #[] }, { accessFlags := 24, nameIndex := 1127, descriptorIndex := 18, attributes := #[] }])
  fields := #[{ name := "value", type := (.array .byte), accessFlags := 18, slot := 0, constantValue := 0 }, { name := "coder", type := .byte, accessFlags := 18, slot := 1, constantValue := 0 }, { name := "hash", type := .int, accessFlags := 2, slot := 2, constantValue := 0 }, { name := "hashIsZero", type := .boolean, accessFlags := 2, slot := 3, constantValue := 0 }, { name := "serialVersionUID", type := .long, accessFlags := 26, slot := 0, constantValue := 0 }, { name := "COMPACT_STRINGS", type := .boolean, accessFlags := 24, slot := 1, constantValue := 0 }, { name := "serialPersistentFields", type := (.array (.object "java/io/ObjectStreamField")), accessFlags := 26, slot := 2, constantValue := 0 }, { name := "REPL", type := .char, accessFlags := 26, slot := 3, constantValue := 0 }, { name := "CASE_INSENSITIVE_ORDER", type := (.object "java/util/Comparator"), accessFlags := 25, slot := 4, constantValue := 0 }, { name := "LATIN1", type := .byte, accessFlags := 24, slot := 5, constantValue := 0 }, { name := "UTF16", type := .byte, accessFlags := 24, slot := 6, constantValue := 0 }]
  methods := #[k7m0, k7m1, k7m2, k7m3, k7m4, k7m5, k7m6, k7m7]
  instanceTypes := #[(.array .byte), .byte, .int, .boolean]
  staticTypes := #[.long, .boolean, (.array (.object "java/io/ObjectStreamField")), .char, (.object "java/util/Comparator"), .byte, .byte]
  resolved := Array.replicate 1451 none
  statics := some 0 }

def pool8 : Array CpInfo := pool [(2, .class_ 4), (1, u "java/lang/Object"), (0, u "<init>"), (0, u "()V"), (4, .class_ 13), (1, u "com/example/stepgate/stepgate/http/Http1Fields"), (0, u "values"), (0, u "Ljava/util/Map;"), (7, .class_ 25), (1, u "java/lang/String"), (57, u "(Ljava/lang/String;)Z"), (24, .methodref 23 109), (0, .nameAndType 110 111), (0, u "length"), (0, u "()I"), (0, .methodref 23 113), (0, .nameAndType 114 115), (0, u "charAt"), (0, u "(I)C"), (270, u "MAX_LENGTH_DIGITS"), (0, u "I"), (2, u "PATH_CHARS"), (0, u "Ljava/lang/String;"), (0, u "QUERY_CHARS"), (27, u "isFieldValue")] 40

def k8m0 : Method := { name := "<init>", desc := "()V", sig := { parameters := [], returnType := none }, accessFlags := 1, code := none }
def k8c1 : Code := { maxStack := 2, maxLocals := 3, code := prog_31_method_32_code, exceptionTable := #[], attributes := #[] }
def k8m1 : Method := { name := "isFieldValue", desc := "(Ljava/lang/String;)Z", sig := { parameters := [(.object "java/lang/String")], returnType := some .boolean }, accessFlags := 8, code := some k8c1 }
/-- com/example/stepgate/stepgate/http/Http1Fields -/
def k8 : Class := { plain "com/example/stepgate/stepgate/http/Http1Fields" (some 0) with
  accessFlags := 49
  interfaces := #[]
  cf := some (fileOf pool8 11 #[] #[{ accessFlags := 1, nameIndex := 5, descriptorIndex := 6, attributes := #[] }, { accessFlags := 8, nameIndex := 420, descriptorIndex := 83, attributes := #[] }] 49 2 #[] #[{ accessFlags := 26, nameIndex := 386, descriptorIndex := 387, attributes := #[] }, { accessFlags := 26, nameIndex := 390, descriptorIndex := 391, attributes := #[] }, { accessFlags := 26, nameIndex := 392, descriptorIndex := 391, attributes := #[] }, { accessFlags := 18, nameIndex := 14, descriptorIndex := 15, attributes := #[] }])
  fields := #[{ name := "MAX_LENGTH_DIGITS", type := .int, accessFlags := 26, slot := 0, constantValue := 0 }, { name := "PATH_CHARS", type := (.object "java/lang/String"), accessFlags := 26, slot := 1, constantValue := 0 }, { name := "QUERY_CHARS", type := (.object "java/lang/String"), accessFlags := 26, slot := 2, constantValue := 0 }, { name := "values", type := (.object "java/util/Map"), accessFlags := 18, slot := 0, constantValue := 0 }]
  methods := #[k8m0, k8m1]
  instanceTypes := #[(.object "java/util/Map")]
  staticTypes := #[.int, (.object "java/lang/String"), (.object "java/lang/String")]
  resolved := Array.replicate 461 none
  statics := none }

def pool9 : Array CpInfo := pool [(3, .class_ 4), (0, u "java/lang/String"), (1, .class_ 8), (1, u "java/lang/Object"), (0, u "<init>"), (0, u "()V"), (0, .methodref 12 13), (0, .class_ 14), (0, .nameAndType 15 16), (0, u "java/lang/StringUTF16"), (0, u "newBytesLength"), (0, u "(I)I"), (3, .integer 1073741823), (23, .fieldref 12 45), (0, .nameAndType 46 47), (0, u "$assertionsDisabled"), (0, u "Z"), (0, .methodref 12 49), (0, .nameAndType 50 51), (0, u "length"), (0, u "([B)I"), (7, .fieldref 12 60), (0, .nameAndType 61 62), (0, u "HI_BYTE_SHIFT"), (0, u "I"), (0, .fieldref 12 64), (0, .nameAndType 65 62), (0, u "LO_BYTE_SHIFT"), (1, .methodref 12 68), (0, .nameAndType 69 70), (0, u "checkIndex"), (0, u "(I[B)V"), (0, .methodref 12 72), (0, .nameAndType 73 74), (0, u "getChar"), (0, u "([BI)C"), (32, .methodref 12 108), (0, .nameAndType 109 110), (0, u "newBytesFor"), (0, u "(I)[B"), (0, .methodref 12 112), (0, .nameAndType 113 114), (0, u "putChar"), (0, u "([BII)V"), (0, .methodref 12 116), (0, .nameAndType 117 118), (0, u "compress"), (0, u "([CI[BII)I"), (0, .methodref 12 120), (0, .nameAndType 121 122), (0, u "toBytes"), (0, u "([CII)[B"), (138, u "coderFromArrayLen"), (0, u "([BI)B"), (106, .class_ 371), (1, u "java/lang/StringUTF16$LinesSpliterator"), (20, u "charAt"), (21, .methodref 3 415), (0, .nameAndType 69 416), (0, u "(II)V"), (13, u "MAX_LENGTH"), (196, .class_ 628), (0, u "java/lang/StringUTF16$CodePointsSpliterator"), (0, .class_ 630), (0, u "java/lang/StringUTF16$CharsSpliterator")] 4

def k9m0 : Method := { name := "<init>", desc := "()V", sig := { parameters := [], returnType := none }, accessFlags := 0, code := none }
def k9c1 : Code := { maxStack := 1, maxLocals := 1, code := jdk_52_method_2_code, exceptionTable := #[], attributes := #[] }
def k9m1 : Method := { name := "newBytesFor", desc := "(I)[B", sig := { parameters := [.int], returnType := some (.array .byte) }, accessFlags := 9, code := some k9c1 }
def k9c2 : Code := { maxStack := 4, maxLocals := 1, code := jdk_52_method_3_code, exceptionTable := #[], attributes := #[] }
def k9m2 : Method := { name := "newBytesLength", desc := "(I)I", sig := { parameters := [.int], returnType := some .int }, accessFlags := 9, code := some k9c2 }
def k9c3 : Code := { maxStack := 4, maxLocals := 3, code := jdk_52_method_4_code, exceptionTable := #[], attributes := #[] }
def k9m3 : Method := { name := "putChar", desc := "([BII)V", sig := { parameters := [(.array .byte), .int, .int], returnType := none }, accessFlags := 8, code := some k9c3 }
def k9c4 : Code := { maxStack := 3, maxLocals := 2, code := jdk_52_method_5_code, exceptionTable := #[], attributes := #[] }
def k9m4 : Method := { name := "getChar", desc := "([BI)C", sig := { parameters := [(.array .byte), .int], returnType := some .char }, accessFlags := 8, code := some k9c4 }
def k9c5 : Code := { maxStack := 2, maxLocals := 1, code := jdk_52_method_6_code, exceptionTable := #[], attributes := #[] }
def k9m5 : Method := { name := "length", desc := "([B)I", sig := { parameters := [(.array .byte)], returnType := some .int }, accessFlags := 9, code := some k9c5 }
def k9c6 : Code := { maxStack := 4, maxLocals := 5, code := jdk_52_method_14_code, exceptionTable := #[], attributes := #[] }
def k9m6 : Method := { name := "toBytes", desc := "([CII)[B", sig := { parameters := [(.array .char), .int, .int], returnType := some (.array .byte) }, accessFlags := 9, code := some k9c6 }
def k9c7 : Code := { maxStack := 2, maxLocals := 2, code := jdk_52_method_15_code, exceptionTable := #[], attributes := #[] }
def k9m7 : Method := { name := "coderFromArrayLen", desc := "([BI)B", sig := { parameters := [(.array .byte), .int], returnType := some .byte }, accessFlags := 8, code := some k9c7 }
def k9c8 : Code := { maxStack := 5, maxLocals := 6, code := jdk_52_method_16_code, exceptionTable := #[], attributes := #[] }
def k9m8 : Method := { name := "compress", desc := "([CII)[B", sig := { parameters := [(.array .char), .int, .int], returnType := some (.array .byte) }, accessFlags := 9, code := some k9c8 }
def k9c9 : Code := { maxStack := 3, maxLocals := 7, code := jdk_52_method_21_code, exceptionTable := #[], attributes := #[] }
def k9m9 : Method := { name := "compress", desc := "([CI[BII)I", sig := { parameters := [(.array .char), .int, (.array .byte), .int, .int], returnType := some .int }, accessFlags := 9, code := some k9c9 }
def k9c10 : Code := { maxStack := 2, maxLocals := 2, code := jdk_52_method_83_code, exceptionTable := #[], attributes := #[] }
def k9m10 : Method := { name := "charAt", desc := "([BI)C", sig := { parameters := [(.array .byte), .int], returnType := some .char }, accessFlags := 9, code := some k9c10 }
def k9c11 : Code := { maxStack := 2, maxLocals := 2, code := jdk_52_method_91_code, exceptionTable := #[], attributes := #[] }
def k9m11 : Method := { name := "checkIndex", desc := "(I[B)V", sig := { parameters := [.int, (.array .byte)], returnType := none }, accessFlags := 9, code := some k9c11 }
/-- java/lang/StringUTF16 -/
def k9 : Class := { plain "java/lang/StringUTF16" (some 0) with
  accessFlags := 48
  interfaces := #[]
  cf := some (fileOf pool9 12 #[.nestMembers #[627, 629, 369]] #[{ accessFlags := 0, nameIndex := 9, descriptorIndex := 10, attributes := #[] }, { accessFlags := 9, nameIndex := 109, descriptorIndex := 110, attributes := #[] }, { accessFlags := 9, nameIndex := 15, descriptorIndex := 16, attributes := #[] }, { accessFlags := 8, nameIndex := 113, descriptorIndex := 114, attributes := #[] }, { accessFlags := 8, nameIndex := 73, descriptorIndex := 74, attributes := #[] }, { accessFlags := 9, nameIndex := 50, descriptorIndex := 51, attributes := #[] }, { accessFlags := 9, nameIndex := 121, descriptorIndex := 122, attributes := #[] }, { accessFlags := 8, nameIndex := 261, descriptorIndex := 262, attributes := #[] }, { accessFlags := 9, nameIndex := 117, descriptorIndex := 122, attributes := #[] }, { accessFlags := 9, nameIndex := 117, descriptorIndex := 118, attributes := #[] }, { accessFlags := 9, nameIndex := 392, descriptorIndex := 74, attributes := #[] }, { accessFlags := 9, nameIndex := 69, descriptorIndex := 70, attributes := #[] }] 48 6 #[] #[{ accessFlags := 26, nameIndex := 61, descriptorIndex := 62, attributes := #[] }, { accessFlags := 26, nameIndex := 65, descriptorIndex := 62, attributes := #[] }, { accessFlags := 24, nameIndex := 430, descriptorIndex := 62, attributes := #[] }, { accessFlags := 4120, nameIndex := 46, descriptorIndex := 47, attributes := #[] }])
  fields := #[{ name := "HI_BYTE_SHIFT", type := .int, accessFlags := 26, slot := 0, constantValue := 0 }, { name := "LO_BYTE_SHIFT", type := .int, accessFlags := 26, slot := 1, constantValue := 0 }, { name := "MAX_LENGTH", type := .int, accessFlags := 24, slot := 2, constantValue := 0 }, { name := "$assertionsDisabled", type := .boolean, accessFlags := 4120, slot := 3, constantValue := 0 }]
  methods := #[k9m0, k9m1, k9m2, k9m3, k9m4, k9m5, k9m6, k9m7, k9m8, k9m9, k9m10, k9m11]
  instanceTypes := #[]
  staticTypes := #[.int, .int, .int, .boolean]
  resolved := Array.replicate 635 none
  statics := some 1 }

def pool10 : Array CpInfo := pool [(1, .class_ 2), (0, u "java/lang/String"), (1, .class_ 6), (1, u "java/lang/Object"), (0, u "<init>"), (0, u "()V"), (0, .methodref 1 10), (0, .nameAndType 11 12), (0, u "checkIndex"), (0, u "(II)V"), (1, .class_ 16), (1, u "java/lang/StringLatin1"), (36, u "([BI)C"), (67, u "$assertionsDisabled"), (0, u "Z"), (98, .class_ 223), (1, u "java/lang/StringLatin1$LinesSpliterator"), (28, u "charAt"), (137, .class_ 391), (0, u "java/lang/StringLatin1$CharsSpliterator")] 3

def k10m0 : Method := { name := "<init>", desc := "()V", sig := { parameters := [], returnType := none }, accessFlags := 0, code := none }
def k10c1 : Code := { maxStack := 2, maxLocals := 2, code := jdk_43_method_2_code, exceptionTable := #[], attributes := #[] }
def k10m1 : Method := { name := "charAt", desc := "([BI)C", sig := { parameters := [(.array .byte), .int], returnType := some .char }, accessFlags := 9, code := some k10c1 }
/-- java/lang/StringLatin1 -/
def k10 : Class := { plain "java/lang/StringLatin1" (some 0) with
  accessFlags := 48
  interfaces := #[]
  cf := some (fileOf pool10 14 #[.nestMembers #[390, 221]] #[{ accessFlags := 0, nameIndex := 7, descriptorIndex := 8, attributes := #[] }, { accessFlags := 9, nameIndex := 252, descriptorIndex := 53, attributes := #[] }] 48 4 #[] #[{ accessFlags := 4120, nameIndex := 121, descriptorIndex := 122, attributes := #[] }])
  fields := #[{ name := "$assertionsDisabled", type := .boolean, accessFlags := 4120, slot := 0, constantValue := 0 }]
  methods := #[k10m0, k10m1]
  instanceTypes := #[]
  staticTypes := #[.boolean]
  resolved := Array.replicate 395 none
  statics := none }

def pool11 : Array CpInfo := pool [(2, .class_ 4), (1, u "java/lang/Object"), (0, u "<init>"), (0, u "()V"), (17, .class_ 26), (1, u "jdk/internal/util/Preconditions"), (6, u "checkIndex"), (21, .class_ 56), (0, u "jdk/internal/util/Preconditions$4"), (57, .class_ 115), (0, u "jdk/internal/util/Preconditions$1"), (7, u "SIOOBE_FORMATTER"), (0, u "Ljava/util/function/BiFunction;"), (0, .class_ 126), (0, u "jdk/internal/util/Preconditions$2"), (3, u "AIOOBE_FORMATTER"), (0, .class_ 132), (0, u "jdk/internal/util/Preconditions$3"), (3, u "IOOBE_FORMATTER"), (41, u "(IILjava/util/function/BiFunction;)I")] 15

def k11m0 : Method := { name := "<init>", desc := "()V", sig := { parameters := [], returnType := none }, accessFlags := 1, code := none }
def k11c1 : Code := { maxStack := 3, maxLocals := 3, code := jdk_41_method_11_code, exceptionTable := #[], attributes := #[] }
def k11m1 : Method := { name := "checkIndex", desc := "(IILjava/util/function/BiFunction;)I", sig := { parameters := [.int, .int, (.object "java/util/function/BiFunction")], returnType := some .int }, accessFlags := 9, code := some k11c1 }
/-- jdk/internal/util/Preconditions -/
def k11 : Class := { plain "jdk/internal/util/Preconditions" (some 0) with
  accessFlags := 33
  interfaces := #[]
  cf := some (fileOf pool11 24 #[.nestMembers #[55, 131, 125, 114]] #[{ accessFlags := 1, nameIndex := 5, descriptorIndex := 6, attributes := #[] }, { accessFlags := 9, nameIndex := 33, descriptorIndex := 178, attributes := #[] }] 33 2 #[] #[{ accessFlags := 25, nameIndex := 123, descriptorIndex := 124, attributes := #[] }, { accessFlags := 25, nameIndex := 130, descriptorIndex := 124, attributes := #[] }, { accessFlags := 25, nameIndex := 136, descriptorIndex := 124, attributes := #[] }])
  fields := #[{ name := "SIOOBE_FORMATTER", type := (.object "java/util/function/BiFunction"), accessFlags := 25, slot := 0, constantValue := 0 }, { name := "AIOOBE_FORMATTER", type := (.object "java/util/function/BiFunction"), accessFlags := 25, slot := 1, constantValue := 0 }, { name := "IOOBE_FORMATTER", type := (.object "java/util/function/BiFunction"), accessFlags := 25, slot := 2, constantValue := 0 }]
  methods := #[k11m0, k11m1]
  instanceTypes := #[]
  staticTypes := #[(.object "java/util/function/BiFunction"), (.object "java/util/function/BiFunction"), (.object "java/util/function/BiFunction")]
  resolved := Array.replicate 194 none
  statics := some 2 }

def pool12 : Array CpInfo := pool [(9, u "<init>"), (6, .class_ 18), (1, u "java/lang/Object"), (0, u "()V"), (1, .class_ 23), (1, u "jdk/internal/util/ArraysSupport"), (0, u "LOG2_ARRAY_LONG_INDEX_SCALE"), (0, u "I"), (2, u "U"), (0, u "Ljdk/internal/misc/Unsafe;"), (8, u "BIG_ENDIAN"), (0, u "Z"), (8, u "LOG2_BYTE_BIT_SIZE"), (4, u "LOG2_ARRAY_INT_INDEX_SCALE"), (54, u "JLA"), (0, u "Ljdk/internal/access/JavaLangAccess;"), (11, u "LOG2_ARRAY_BOOLEAN_INDEX_SCALE"), (9, u "LOG2_ARRAY_BYTE_INDEX_SCALE"), (5, u "LOG2_ARRAY_CHAR_INDEX_SCALE"), (5, u "LOG2_ARRAY_SHORT_INDEX_SCALE"), (18, u "LOG2_ARRAY_FLOAT_INDEX_SCALE"), (24, u "LOG2_ARRAY_DOUBLE_INDEX_SCALE"), (89, u "T_BOOLEAN"), (2, u "T_CHAR"), (1, u "T_FLOAT"), (1, u "T_DOUBLE"), (1, u "T_BYTE"), (1, u "T_SHORT"), (1, u "T_INT"), (1, u "T_LONG"), (1, u "SOFT_MAX_ARRAY_LENGTH")] 83

def k12m0 : Method := { name := "<init>", desc := "()V", sig := { parameters := [], returnType := none }, accessFlags := 2, code := none }
/-- jdk/internal/util/ArraysSupport -/
def k12 : Class := { plain "jdk/internal/util/ArraysSupport" (some 0) with
  accessFlags := 33
  interfaces := #[]
  cf := some (fileOf pool12 21 #[] #[{ accessFlags := 2, nameIndex := 9, descriptorIndex := 19, attributes := #[] }] 33 16 #[] #[{ accessFlags := 24, nameIndex := 28, descriptorIndex := 29, attributes := #[] }, { accessFlags := 26, nameIndex := 38, descriptorIndex := 39, attributes := #[] }, { accessFlags := 25, nameIndex := 121, descriptorIndex := 25, attributes := #[] }, { accessFlags := 25, nameIndex := 131, descriptorIndex := 25, attributes := #[] }, { accessFlags := 25, nameIndex := 137, descriptorIndex := 25, attributes := #[] }, { accessFlags := 25, nameIndex := 143, descriptorIndex := 25, attributes := #[] }, { accessFlags := 25, nameIndex := 53, descriptorIndex := 25, attributes := #[] }, { accessFlags := 25, nameIndex := 24, descriptorIndex := 25, attributes := #[] }, { accessFlags := 25, nameIndex := 162, descriptorIndex := 25, attributes := #[] }, { accessFlags := 25, nameIndex := 187, descriptorIndex := 25, attributes := #[] }, { accessFlags := 26, nameIndex := 48, descriptorIndex := 25, attributes := #[] }, { accessFlags := 25, nameIndex := 277, descriptorIndex := 25, attributes := #[] }, { accessFlags := 25, nameIndex := 280, descriptorIndex := 25, attributes := #[] }, { accessFlags := 25, nameIndex := 282, descriptorIndex := 25, attributes := #[] }, { accessFlags := 25, nameIndex := 284, descriptorIndex := 25, attributes := #[] }, { accessFlags := 25, nameIndex := 286, descriptorIndex := 25, attributes := #[] }, { accessFlags := 25, nameIndex := 288, descriptorIndex := 25, attributes := #[] }, { accessFlags := 25, nameIndex := 290, descriptorIndex := 25, attributes := #[] }, { accessFlags := 25, nameIndex := 292, descriptorIndex := 25, attributes := #[] }, { accessFlags := 26, nameIndex := 108, descriptorIndex := 109, attributes := #[] }, { accessFlags := 25, nameIndex := 294, descriptorIndex := 25, attributes := #[] }])
  fields := #[{ name := "U", type := (.object "jdk/internal/misc/Unsafe"), accessFlags := 24, slot := 0, constantValue := 0 }, { name := "BIG_ENDIAN", type := .boolean, accessFlags := 26, slot := 1, constantValue := 0 }, { name := "LOG2_ARRAY_BOOLEAN_INDEX_SCALE", type := .int, accessFlags := 25, slot := 2, constantValue := 0 }, { name := "LOG2_ARRAY_BYTE_INDEX_SCALE", type := .int, accessFlags := 25, slot := 3, constantValue := 0 }, { name := "LOG2_ARRAY_CHAR_INDEX_SCALE", type := .int, accessFlags := 25, slot := 4, constantValue := 0 }, { name := "LOG2_ARRAY_SHORT_INDEX_SCALE", type := .int, accessFlags := 25, slot := 5, constantValue := 0 }, { name := "LOG2_ARRAY_INT_INDEX_SCALE", type := .int, accessFlags := 25, slot := 6, constantValue := 0 }, { name := "LOG2_ARRAY_LONG_INDEX_SCALE", type := .int, accessFlags := 25, slot := 7, constantValue := 0 }, { name := "LOG2_ARRAY_FLOAT_INDEX_SCALE", type := .int, accessFlags := 25, slot := 8, constantValue := 0 }, { name := "LOG2_ARRAY_DOUBLE_INDEX_SCALE", type := .int, accessFlags := 25, slot := 9, constantValue := 0 }, { name := "LOG2_BYTE_BIT_SIZE", type := .int, accessFlags := 26, slot := 10, constantValue := 0 }, { name := "T_BOOLEAN", type := .int, accessFlags := 25, slot := 11, constantValue := 0 }, { name := "T_CHAR", type := .int, accessFlags := 25, slot := 12, constantValue := 0 }, { name := "T_FLOAT", type := .int, accessFlags := 25, slot := 13, constantValue := 0 }, { name := "T_DOUBLE", type := .int, accessFlags := 25, slot := 14, constantValue := 0 }, { name := "T_BYTE", type := .int, accessFlags := 25, slot := 15, constantValue := 0 }, { name := "T_SHORT", type := .int, accessFlags := 25, slot := 16, constantValue := 0 }, { name := "T_INT", type := .int, accessFlags := 25, slot := 17, constantValue := 0 }, { name := "T_LONG", type := .int, accessFlags := 25, slot := 18, constantValue := 0 }, { name := "JLA", type := (.object "jdk/internal/access/JavaLangAccess"), accessFlags := 26, slot := 19, constantValue := 0 }, { name := "SOFT_MAX_ARRAY_LENGTH", type := .int, accessFlags := 25, slot := 20, constantValue := 0 }]
  methods := #[k12m0]
  instanceTypes := #[]
  staticTypes := #[(.object "jdk/internal/misc/Unsafe"), .boolean, .int, .int, .int, .int, .int, .int, .int, .int, .int, .int, .int, .int, .int, .int, .int, .int, .int, (.object "jdk/internal/access/JavaLangAccess"), .int]
  resolved := Array.replicate 378 none
  statics := none }

def pool13 : Array CpInfo := pool [(1, u "java/lang/Cloneable"), (0, .class_ 1), (0, u "java/lang/Object"), (0, .class_ 3)] 3

/-- java/lang/Cloneable -/
def k13 : Class := { plain "java/lang/Cloneable" (some 0) with
  accessFlags := 1537
  interfaces := #[]
  cf := some (fileOf pool13 2 #[] #[] 1537 4 #[] #[])
  fields := #[]
  methods := #[]
  instanceTypes := #[]
  staticTypes := #[]
  resolved := Array.replicate 8 none
  statics := none }

/-- the primitive byte -/
def k14 : Class := { plain "byte" none with kind := .primitive 'B', accessFlags := 0x411 }
/-- [B -/
def k15 : Class := { plain "[B" (some 0) with kind := .array 14 .byte, interfaces := #[13, 2], accessFlags := 1041 }

/-- the primitive char -/
def k16 : Class := { plain "char" none with kind := .primitive 'C', accessFlags := 0x411 }
/-- [C -/
def k17 : Class := { plain "[C" (some 0) with kind := .array 16 .char, interfaces := #[13, 2], accessFlags := 1041 }

/-- the primitive int -/
def k18 : Class := { plain "int" none with kind := .primitive 'I', accessFlags := 0x411 }
/-- [I -/
def k19 : Class := { plain "[I" (some 0) with kind := .array 18 .int, interfaces := #[13, 2], accessFlags := 1041 }

def heap : Heap := #[{ cls := 7, slots := #[.long 0, .int 1, .null, .int 0, .null, .int 0, .int 0], vm := .statics 7 },
  { cls := 9, slots := #[.int 0, .int 8, .int 0, .int 1], vm := .statics 9 },
  { cls := 11, slots := #[.null, .null, .null], vm := .statics 11 }]
def classes : Array Class := #[k0, k1, k2, k3, k4, k5, k6, k7, k8, k9, k10, k11, k12, k13, k14, k15, k16, k17, k18, k19]
def interned : List (Array UInt16 × Addr) := []
def slotsUsed : Nat := 14
def theMethod : MethodId := ⟨1, 3⟩
def args0 : Array Value := #[.int 5, .int 5, .int 5, .int 5]
def aboutOver (below : List Frame) : State where
  vm := { classes := classes, interned := interned.toArray }
  heap := heap
  slotsUsed := slotsUsed
  threads := #[{ frames := .invoking theMethod args0 :: below }]
def below0 : List Frame := [.native { method := ⟨0, 0⟩, args := #[] }]
def about1 : State := aboutOver below0
def p0 : Program := .bare "" "" ""
def e0 : Env := launch0.env 0 0 0
theorem w_frames : about1.frames = Frame.invoking theMethod args0 :: below0 := rfl
set_option maxRecDepth 65536 in
theorem w_args : argsFit about1.vm theMethod args0 = true := by decide +kernel
set_option maxRecDepth 65536 in
theorem w_heap : heapFits about1 = true := by decide +kernel
set_option maxRecDepth 65536 in
theorem w_runnable : about1.curStatus? = some .runnable := by decide +kernel
set_option maxRecDepth 65536 in
theorem w_alone : about1.alone = true := by decide +kernel
set_option maxRecDepth 65536 in
theorem w_named : about1.methodNamed? x = some theMethod := by decide +kernel
set_option maxRecDepth 65536 in
theorem w_hears : about1.hears theMethod below0 = true := by decide +kernel
set_option maxRecDepth 65536 in
theorem w_ripe : about1.ripe theMethod args0 below0 = true := by decide +kernel
theorem w_running : about1.status = .running := rfl
set_option maxRecDepth 65536 in
theorem w_room : about1.hasRoom e0.platform room_1 = true :=
  launch0.hasRoom_least _ room_1 (by decide +kernel) (by decide +kernel) (by decide +kernel) (by decide +kernel) (by decide +kernel) (by decide +kernel)
theorem allAtoms_all (ts : List Jvm.Cond) (a : Array Jvm.Value) (st : Jvm.State) : (allAtoms ts).before a st = ts.all (fun c => c.before a st) := by
  induction ts with
  | nil => rfl
  | cons c t ih =>
    show (Jvm.Cond.and c (allAtoms t)).before a st = _
    rw [Jvm.Cond.before_and, ih, List.all_cons]
def words1 : List Jvm.Cond := Jvm.Cond.code x code maxLocals ret :: tables_1
/-- a 'code' word, met by the world's own term for the bytes: nothing is compared byte by byte -/
theorem code_word {y : MethodName} {bytes : ByteArray} {mx : Nat} {rt : Option FieldType} {a : Array Value} {s : State} {m : MethodId} {meth : Method} {c : Code} (h1 : s.methodNamed? y = some m) (h2 : s.vm.method? m = some meth) (h3 : meth.code = some c) (h4 : c.code = bytes)
    (h5 : (c.maxLocals == mx && c.exceptionTable.isEmpty && decide (c.maxStack ≤ mostOperands) && decide (meth.sig.returnType = rt) && !meth.locks && decide (parseMethodDescriptor y.desc = some meth.sig)) = true) : (Jvm.Cond.code y bytes mx rt).before a s = true := by
  simp only [Bool.and_eq_true, beq_iff_eq, Bool.not_eq_true', decide_eq_true_eq] at h5
  obtain ⟨⟨⟨⟨⟨g1, g2⟩, g3⟩, g4⟩, g5⟩, g6⟩ := h5
  simp [Cond.before, Cond.holds, Cond.value, h1, h2, h3, h4, g1, g2, g3, g4, g5, g6]
def isCode : Jvm.Cond → Bool
  | .code _ _ _ _ => true
  | _ => false
theorem all_split {L : List Jvm.Cond} {P : Jvm.Cond → Bool} (h1 : L.all (fun c => isCode c || P c) = true) (h2 : ∀ c ∈ L.filter isCode, P c = true) : L.all P = true := by
  refine List.all_eq_true.mpr fun c hc => ?_
  have h := List.all_eq_true.mp h1 c hc
  rcases Bool.eq_false_or_eq_true (isCode c) with hi | hi
  · exact h2 c (List.mem_filter.mpr ⟨hc, hi⟩)
  · simpa [hi] using h
set_option maxRecDepth 65536 in
theorem w_c0 : (Jvm.Cond.code x code maxLocals ret).before args0 about1 = true := code_word (m := ⟨1, 3⟩) (meth := k1m3) (c := k1c3) (by decide +kernel) rfl rfl rfl (by decide +kernel)
set_option maxRecDepth 65536 in
theorem w_c1 : (Jvm.Cond.code ({ cls := "com/example/stepgate/stepgate/http/Http1FieldsIsFieldValuePinLaw", name := "pick", desc := "(I)C" } : Jvm.MethodName) method_2_code (1 : Nat) (Option.some Jvm.ClassFile.FieldType.char)).before args0 about1 = true := code_word (m := ⟨1, 1⟩) (meth := k1m1) (c := k1c1) (by decide +kernel) rfl rfl rfl (by decide +kernel)
set_option maxRecDepth 65536 in
theorem w_c2 : (Jvm.Cond.code ({ cls := "java/lang/String", name := "<init>", desc := "([C)V" } : Jvm.MethodName) jdk_42_method_3_code (2 : Nat) (Option.none : Option Jvm.ClassFile.FieldType)).before args0 about1 = true := code_word (m := ⟨7, 1⟩) (meth := k7m1) (c := k7c1) (by decide +kernel) rfl rfl rfl (by decide +kernel)
set_option maxRecDepth 65536 in
theorem w_c3 : (Jvm.Cond.code ({ cls := "java/lang/String", name := "<init>", desc := "([CIILjava/lang/Void;)V" } : Jvm.MethodName) jdk_42_method_149_code (6 : Nat) (Option.none : Option Jvm.ClassFile.FieldType)).before args0 about1 = true := code_word (m := ⟨7, 4⟩) (meth := k7m4) (c := k7c4) (by decide +kernel) rfl rfl rfl (by decide +kernel)
set_option maxRecDepth 65536 in
theorem w_c4 : (Jvm.Cond.code ({ cls := "java/lang/Object", name := "<init>", desc := "()V" } : Jvm.MethodName) object_method_1_code (1 : Nat) (Option.none : Option Jvm.ClassFile.FieldType)).before args0 about1 = true := code_word (m := ⟨0, 0⟩) (meth := k0m0) (c := k0c0) (by decide +kernel) rfl rfl rfl (by decide +kernel)
set_option maxRecDepth 65536 in
theorem w_c5 : (Jvm.Cond.code ({ cls := "com/example/stepgate/stepgate/http/Http1Fields", name := "isFieldValue", desc := "(Ljava/lang/String;)Z" } : Jvm.MethodName) prog_31_method_32_code (3 : Nat) (Option.some Jvm.ClassFile.FieldType.boolean)).before args0 about1 = true := code_word (m := ⟨8, 1⟩) (meth := k8m1) (c := k8c1) (by decide +kernel) rfl rfl rfl (by decide +kernel)
set_option maxRecDepth 65536 in
theorem w_c6 : (Jvm.Cond.code ({ cls := "java/lang/String", name := "length", desc := "()I" } : Jvm.MethodName) jdk_42_method_54_code (1 : Nat) (Option.some Jvm.ClassFile.FieldType.int)).before args0 about1 = true := code_word (m := ⟨7, 2⟩) (meth := k7m2) (c := k7c2) (by decide +kernel) rfl rfl rfl (by decide +kernel)
set_option maxRecDepth 65536 in
theorem w_c7 : (Jvm.Cond.code ({ cls := "java/lang/String", name := "coder", desc := "()B" } : Jvm.MethodName) jdk_42_method_152_code (1 : Nat) (Option.some Jvm.ClassFile.FieldType.byte)).before args0 about1 = true := code_word (m := ⟨7, 5⟩) (meth := k7m5) (c := k7c5) (by decide +kernel) rfl rfl rfl (by decide +kernel)
set_option maxRecDepth 65536 in
theorem w_c8 : (Jvm.Cond.code ({ cls := "java/lang/StringUTF16", name := "compress", desc := "([CII)[B" } : Jvm.MethodName) jdk_52_method_16_code (6 : Nat) (Option.some (Jvm.ClassFile.FieldType.array Jvm.ClassFile.FieldType.byte))).before args0 about1 = true := code_word (m := ⟨9, 8⟩) (meth := k9m8) (c := k9c8) (by decide +kernel) rfl rfl rfl (by decide +kernel)
set_option maxRecDepth 65536 in
theorem w_c9 : (Jvm.Cond.code ({ cls := "java/lang/StringUTF16", name := "compress", desc := "([CI[BII)I" } : Jvm.MethodName) jdk_52_method_21_code (7 : Nat) (Option.some Jvm.ClassFile.FieldType.int)).before args0 about1 = true := code_word (m := ⟨9, 9⟩) (meth := k9m9) (c := k9c9) (by decide +kernel) rfl rfl rfl (by decide +kernel)
set_option maxRecDepth 65536 in
theorem w_c10 : (Jvm.Cond.code ({ cls := "java/lang/StringUTF16", name := "coderFromArrayLen", desc := "([BI)B" } : Jvm.MethodName) jdk_52_method_15_code (2 : Nat) (Option.some Jvm.ClassFile.FieldType.byte)).before args0 about1 = true := code_word (m := ⟨9, 7⟩) (meth := k9m7) (c := k9c7) (by decide +kernel) rfl rfl rfl (by decide +kernel)
set_option maxRecDepth 65536 in
theorem w_c11 : (Jvm.Cond.code ({ cls := "com/example/stepgate/stepgate/http/Http1FieldsIsFieldValuePinLaw", name := "allowed", desc := "(C)Z" } : Jvm.MethodName) method_3_code (1 : Nat) (Option.some Jvm.ClassFile.FieldType.boolean)).before args0 about1 = true := code_word (m := ⟨1, 2⟩) (meth := k1m2) (c := k1c2) (by decide +kernel) rfl rfl rfl (by decide +kernel)
set_option maxRecDepth 65536 in
theorem w_c12 : (Jvm.Cond.code ({ cls := "java/lang/String", name := "charAt", desc := "(I)C" } : Jvm.MethodName) jdk_42_method_56_code (2 : Nat) (Option.some Jvm.ClassFile.FieldType.char)).before args0 about1 = true := code_word (m := ⟨7, 3⟩) (meth := k7m3) (c := k7c3) (by decide +kernel) rfl rfl rfl (by decide +kernel)
set_option maxRecDepth 65536 in
theorem w_c13 : (Jvm.Cond.code ({ cls := "java/lang/String", name := "isLatin1", desc := "()Z" } : Jvm.MethodName) jdk_42_method_154_code (1 : Nat) (Option.some Jvm.ClassFile.FieldType.boolean)).before args0 about1 = true := code_word (m := ⟨7, 6⟩) (meth := k7m6) (c := k7c6) (by decide +kernel) rfl rfl rfl (by decide +kernel)
set_option maxRecDepth 65536 in
theorem w_c14 : (Jvm.Cond.code ({ cls := "java/lang/StringLatin1", name := "charAt", desc := "([BI)C" } : Jvm.MethodName) jdk_43_method_2_code (2 : Nat) (Option.some Jvm.ClassFile.FieldType.char)).before args0 about1 = true := code_word (m := ⟨10, 1⟩) (meth := k10m1) (c := k10c1) (by decide +kernel) rfl rfl rfl (by decide +kernel)
set_option maxRecDepth 65536 in
theorem w_c15 : (Jvm.Cond.code ({ cls := "java/lang/String", name := "checkIndex", desc := "(II)V" } : Jvm.MethodName) jdk_42_method_155_code (2 : Nat) (Option.none : Option Jvm.ClassFile.FieldType)).before args0 about1 = true := code_word (m := ⟨7, 7⟩) (meth := k7m7) (c := k7c7) (by decide +kernel) rfl rfl rfl (by decide +kernel)
set_option maxRecDepth 65536 in
theorem w_c16 : (Jvm.Cond.code ({ cls := "jdk/internal/util/Preconditions", name := "checkIndex", desc := "(IILjava/util/function/BiFunction;)I" } : Jvm.MethodName) jdk_41_method_11_code (3 : Nat) (Option.some Jvm.ClassFile.FieldType.int)).before args0 about1 = true := code_word (m := ⟨11, 1⟩) (meth := k11m1) (c := k11c1) (by decide +kernel) rfl rfl rfl (by decide +kernel)
set_option maxRecDepth 65536 in
theorem w_c17 : (Jvm.Cond.code ({ cls := "java/lang/StringUTF16", name := "toBytes", desc := "([CII)[B" } : Jvm.MethodName) jdk_52_method_14_code (5 : Nat) (Option.some (Jvm.ClassFile.FieldType.array Jvm.ClassFile.FieldType.byte))).before args0 about1 = true := code_word (m := ⟨9, 6⟩) (meth := k9m6) (c := k9c6) (by decide +kernel) rfl rfl rfl (by decide +kernel)
set_option maxRecDepth 65536 in
theorem w_c18 : (Jvm.Cond.code ({ cls := "java/lang/StringUTF16", name := "newBytesFor", desc := "(I)[B" } : Jvm.MethodName) jdk_52_method_2_code (1 : Nat) (Option.some (Jvm.ClassFile.FieldType.array Jvm.ClassFile.FieldType.byte))).before args0 about1 = true := code_word (m := ⟨9, 1⟩) (meth := k9m1) (c := k9c1) (by decide +kernel) rfl rfl rfl (by decide +kernel)
set_option maxRecDepth 65536 in
theorem w_c19 : (Jvm.Cond.code ({ cls := "java/lang/StringUTF16", name := "newBytesLength", desc := "(I)I" } : Jvm.MethodName) jdk_52_method_3_code (1 : Nat) (Option.some Jvm.ClassFile.FieldType.int)).before args0 about1 = true := code_word (m := ⟨9, 2⟩) (meth := k9m2) (c := k9c2) (by decide +kernel) rfl rfl rfl (by decide +kernel)
set_option maxRecDepth 65536 in
theorem w_c20 : (Jvm.Cond.code ({ cls := "java/lang/StringUTF16", name := "putChar", desc := "([BII)V" } : Jvm.MethodName) jdk_52_method_4_code (3 : Nat) (Option.none : Option Jvm.ClassFile.FieldType)).before args0 about1 = true := code_word (m := ⟨9, 3⟩) (meth := k9m3) (c := k9c3) (by decide +kernel) rfl rfl rfl (by decide +kernel)
set_option maxRecDepth 65536 in
theorem w_c21 : (Jvm.Cond.code ({ cls := "java/lang/StringUTF16", name := "getChar", desc := "([BI)C" } : Jvm.MethodName) jdk_52_method_5_code (2 : Nat) (Option.some Jvm.ClassFile.FieldType.char)).before args0 about1 = true := code_word (m := ⟨9, 4⟩) (meth := k9m4) (c := k9c4) (by decide +kernel) rfl rfl rfl (by decide +kernel)
set_option maxRecDepth 65536 in
theorem w_c22 : (Jvm.Cond.code ({ cls := "java/lang/StringUTF16", name := "charAt", desc := "([BI)C" } : Jvm.MethodName) jdk_52_method_83_code (2 : Nat) (Option.some Jvm.ClassFile.FieldType.char)).before args0 about1 = true := code_word (m := ⟨9, 10⟩) (meth := k9m10) (c := k9c10) (by decide +kernel) rfl rfl rfl (by decide +kernel)
set_option maxRecDepth 65536 in
theorem w_c23 : (Jvm.Cond.code ({ cls := "java/lang/StringUTF16", name := "checkIndex", desc := "(I[B)V" } : Jvm.MethodName) jdk_52_method_91_code (2 : Nat) (Option.none : Option Jvm.ClassFile.FieldType)).before args0 about1 = true := code_word (m := ⟨9, 11⟩) (meth := k9m11) (c := k9c11) (by decide +kernel) rfl rfl rfl (by decide +kernel)
set_option maxRecDepth 65536 in
theorem w_c24 : (Jvm.Cond.code ({ cls := "java/lang/StringUTF16", name := "length", desc := "([B)I" } : Jvm.MethodName) jdk_52_method_6_code (1 : Nat) (Option.some Jvm.ClassFile.FieldType.int)).before args0 about1 = true := code_word (m := ⟨9, 5⟩) (meth := k9m5) (c := k9c5) (by decide +kernel) rfl rfl rfl (by decide +kernel)
def codes1 : List Jvm.Cond := [Jvm.Cond.code x code maxLocals ret, Jvm.Cond.code ({ cls := "com/example/stepgate/stepgate/http/Http1FieldsIsFieldValuePinLaw", name := "pick", desc := "(I)C" } : Jvm.MethodName) method_2_code (1 : Nat) (Option.some Jvm.ClassFile.FieldType.char), Jvm.Cond.code ({ cls := "java/lang/String", name := "<init>", desc := "([C)V" } : Jvm.MethodName) jdk_42_method_3_code (2 : Nat) (Option.none : Option Jvm.ClassFile.FieldType), Jvm.Cond.code ({ cls := "java/lang/String", name := "<init>", desc := "([CIILjava/lang/Void;)V" } : Jvm.MethodName) jdk_42_method_149_code (6 : Nat) (Option.none : Option Jvm.ClassFile.FieldType), Jvm.Cond.code ({ cls := "java/lang/Object", name := "<init>", desc := "()V" } : Jvm.MethodName) object_method_1_code (1 : Nat) (Option.none : Option Jvm.ClassFile.FieldType), Jvm.Cond.code ({ cls := "com/example/stepgate/stepgate/http/Http1Fields", name := "isFieldValue", desc := "(Ljava/lang/String;)Z" } : Jvm.MethodName) prog_31_method_32_code (3 : Nat) (Option.some Jvm.ClassFile.FieldType.boolean), Jvm.Cond.code ({ cls := "java/lang/String", name := "length", desc := "()I" } : Jvm.MethodName) jdk_42_method_54_code (1 : Nat) (Option.some Jvm.ClassFile.FieldType.int), Jvm.Cond.code ({ cls := "java/lang/String", name := "coder", desc := "()B" } : Jvm.MethodName) jdk_42_method_152_code (1 : Nat) (Option.some Jvm.ClassFile.FieldType.byte), Jvm.Cond.code ({ cls := "java/lang/StringUTF16", name := "compress", desc := "([CII)[B" } : Jvm.MethodName) jdk_52_method_16_code (6 : Nat) (Option.some (Jvm.ClassFile.FieldType.array Jvm.ClassFile.FieldType.byte)), Jvm.Cond.code ({ cls := "java/lang/StringUTF16", name := "compress", desc := "([CI[BII)I" } : Jvm.MethodName) jdk_52_method_21_code (7 : Nat) (Option.some Jvm.ClassFile.FieldType.int), Jvm.Cond.code ({ cls := "java/lang/StringUTF16", name := "coderFromArrayLen", desc := "([BI)B" } : Jvm.MethodName) jdk_52_method_15_code (2 : Nat) (Option.some Jvm.ClassFile.FieldType.byte), Jvm.Cond.code ({ cls := "com/example/stepgate/stepgate/http/Http1FieldsIsFieldValuePinLaw", name := "allowed", desc := "(C)Z" } : Jvm.MethodName) method_3_code (1 : Nat) (Option.some Jvm.ClassFile.FieldType.boolean), Jvm.Cond.code ({ cls := "java/lang/String", name := "charAt", desc := "(I)C" } : Jvm.MethodName) jdk_42_method_56_code (2 : Nat) (Option.some Jvm.ClassFile.FieldType.char), Jvm.Cond.code ({ cls := "java/lang/String", name := "isLatin1", desc := "()Z" } : Jvm.MethodName) jdk_42_method_154_code (1 : Nat) (Option.some Jvm.ClassFile.FieldType.boolean), Jvm.Cond.code ({ cls := "java/lang/StringLatin1", name := "charAt", desc := "([BI)C" } : Jvm.MethodName) jdk_43_method_2_code (2 : Nat) (Option.some Jvm.ClassFile.FieldType.char), Jvm.Cond.code ({ cls := "java/lang/String", name := "checkIndex", desc := "(II)V" } : Jvm.MethodName) jdk_42_method_155_code (2 : Nat) (Option.none : Option Jvm.ClassFile.FieldType), Jvm.Cond.code ({ cls := "jdk/internal/util/Preconditions", name := "checkIndex", desc := "(IILjava/util/function/BiFunction;)I" } : Jvm.MethodName) jdk_41_method_11_code (3 : Nat) (Option.some Jvm.ClassFile.FieldType.int), Jvm.Cond.code ({ cls := "java/lang/StringUTF16", name := "toBytes", desc := "([CII)[B" } : Jvm.MethodName) jdk_52_method_14_code (5 : Nat) (Option.some (Jvm.ClassFile.FieldType.array Jvm.ClassFile.FieldType.byte)), Jvm.Cond.code ({ cls := "java/lang/StringUTF16", name := "newBytesFor", desc := "(I)[B" } : Jvm.MethodName) jdk_52_method_2_code (1 : Nat) (Option.some (Jvm.ClassFile.FieldType.array Jvm.ClassFile.FieldType.byte)), Jvm.Cond.code ({ cls := "java/lang/StringUTF16", name := "newBytesLength", desc := "(I)I" } : Jvm.MethodName) jdk_52_method_3_code (1 : Nat) (Option.some Jvm.ClassFile.FieldType.int), Jvm.Cond.code ({ cls := "java/lang/StringUTF16", name := "putChar", desc := "([BII)V" } : Jvm.MethodName) jdk_52_method_4_code (3 : Nat) (Option.none : Option Jvm.ClassFile.FieldType), Jvm.Cond.code ({ cls := "java/lang/StringUTF16", name := "getChar", desc := "([BI)C" } : Jvm.MethodName) jdk_52_method_5_code (2 : Nat) (Option.some Jvm.ClassFile.FieldType.char), Jvm.Cond.code ({ cls := "java/lang/StringUTF16", name := "charAt", desc := "([BI)C" } : Jvm.MethodName) jdk_52_method_83_code (2 : Nat) (Option.some Jvm.ClassFile.FieldType.char), Jvm.Cond.code ({ cls := "java/lang/StringUTF16", name := "checkIndex", desc := "(I[B)V" } : Jvm.MethodName) jdk_52_method_91_code (2 : Nat) (Option.none : Option Jvm.ClassFile.FieldType), Jvm.Cond.code ({ cls := "java/lang/StringUTF16", name := "length", desc := "([B)I" } : Jvm.MethodName) jdk_52_method_6_code (1 : Nat) (Option.some Jvm.ClassFile.FieldType.int)]
set_option maxRecDepth 65536 in
theorem codes_eq : words1.filter isCode = codes1 := rfl
theorem w_codes : ∀ c ∈ words1.filter isCode, c.before args0 about1 = true := by
  rw [codes_eq]
  intro c hc
  simp only [codes1, List.mem_cons, List.not_mem_nil, or_false] at hc
  rcases hc with rfl | rfl | rfl | rfl | rfl | rfl | rfl | rfl | rfl | rfl | rfl | rfl | rfl | rfl | rfl | rfl | rfl | rfl | rfl | rfl | rfl | rfl | rfl | rfl | rfl
  · exact w_c0
  · exact w_c1
  · exact w_c2
  · exact w_c3
  · exact w_c4
  · exact w_c5
  · exact w_c6
  · exact w_c7
  · exact w_c8
  · exact w_c9
  · exact w_c10
  · exact w_c11
  · exact w_c12
  · exact w_c13
  · exact w_c14
  · exact w_c15
  · exact w_c16
  · exact w_c17
  · exact w_c18
  · exact w_c19
  · exact w_c20
  · exact w_c21
  · exact w_c22
  · exact w_c23
  · exact w_c24
set_option maxRecDepth 65536 in
theorem w_t1 : (words1.take 24).all (fun c => isCode c || c.before args0 about1) = true := by decide +kernel
set_option maxRecDepth 65536 in
theorem w_t2 : ((words1.drop 24).take 24).all (fun c => isCode c || c.before args0 about1) = true := by decide +kernel
set_option maxRecDepth 65536 in
theorem w_t3 : (((words1.drop 24).drop 24).take 24).all (fun c => isCode c || c.before args0 about1) = true := by decide +kernel
set_option maxRecDepth 65536 in
theorem w_t4 : ((((words1.drop 24).drop 24).drop 24).take 24).all (fun c => isCode c || c.before args0 about1) = true := by decide +kernel
set_option maxRecDepth 65536 in
theorem w_t5 : ((((words1.drop 24).drop 24).drop 24).drop 24).all (fun c => isCode c || c.before args0 about1) = true := by decide +kernel
theorem w_tables : (allAtoms (Jvm.Cond.code x code maxLocals ret :: tables_1)).before args0 about1 = true := by
  rw [allAtoms_all]
  show words1.all (fun c => c.before args0 about1) = true
  refine all_split ?_ w_codes
  rw [← List.take_append_drop 24 words1, List.all_append, w_t1, ← List.take_append_drop 24 (words1.drop 24), List.all_append, w_t2, ← List.take_append_drop 24 ((words1.drop 24).drop 24), List.all_append, w_t3, ← List.take_append_drop 24 (((words1.drop 24).drop 24).drop 24), List.all_append, w_t4, w_t5]
  rfl
set_option maxRecDepth 65536 in
theorem w_rest : rest_1_c.before args0 about1 = true := by decide +kernel
set_option maxRecDepth 65536 in
theorem w_case : (Jvm.Cond.and given_1 narrow_1).before args0 about1 = true := by decide +kernel
set_option maxRecDepth 65536 in
theorem w_consts : constsHeld consts_1 about1 := Jvm.Lit.constsHeldB_iff.mp (by decide +kernel)
theorem w_applies : (headSpec (Jvm.Cond.code x code maxLocals ret :: tables_1) room_1).applies x e0.platform about1 = true :=
  (Spec.applies_iff w_frames).mpr ⟨w_running, w_runnable, w_alone, w_named, w_hears, w_ripe, w_room, w_tables⟩
theorem atStart : AtStart classFile x code maxLocals ret World_1 tables_1 room_1 Calls_1 rest_1 Pre_1 launch0 p0 e0 about1 theMethod args0 below0 :=
  ⟨lists_1, trivial, launch0.admits_env _ _ _, launch0.least_env, fairChoices_fair.cas, fairChoices_fair.clock, w_frames, w_args, w_heap, w_applies, ⟨w_consts, trivial⟩, w_rest, w_case⟩
end start1
theorem witness_1 : WitnessClaimed_1 := ⟨start1.p0, start1.e0, start1.about1, start1.theMethod, start1.args0, start1.below0, start1.atStart⟩
end Jvm.Pilot.@@N@@
