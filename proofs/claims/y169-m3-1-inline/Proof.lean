import JvmDerived
import JvmDerived.Pilot.@@N@@Statement
import JvmDerived.Pilot.@@N@@Code
set_option linter.unusedVariables false
set_option linter.unusedSimpArgs false
namespace Jvm.Pilot.@@N@@
open Jvm Jvm.ClassFile Sem Op Lib Jvm.Free Jvm.Stand Jvm.LawKit Jvm.RoadKit Bundle Jvm.Pilot.@@N@@.Jvm.D
section OwnNums
theorem own_toInt (n : Nat) (h : n < 2 ^ 31) : (Int32.ofNat n).toInt = n := Int32.toInt_ofNat_of_lt h
theorem own_eq {x : Int32} {n : Nat} (h : n < 2 ^ 31) (e : x.toInt = n) : x = Int32.ofNat n := by rw [← Int32.toInt_inj, own_toInt n h, e]
theorem own_ltN (a b : Nat) (ha : a < 2 ^ 31) (hb : b < 2 ^ 31) : Int32.ofNat a < Int32.ofNat b ↔ a < b := by
  rw [Int32.lt_iff_toInt_lt, own_toInt a ha, own_toInt b hb]; omega
theorem own_eqN (a b : Nat) (ha : a < 2 ^ 31) (hb : b < 2 ^ 31) : Int32.ofNat a = Int32.ofNat b ↔ a = b := by
  rw [← Int32.toInt_inj, own_toInt a ha, own_toInt b hb]; omega
theorem own_addN (a b : Nat) : Int32.ofNat a + Int32.ofNat b = Int32.ofNat (a + b) := (Int32.ofNat_add a b).symm
theorem own_subI (a b : Nat) (ha : a < 2 ^ 31) (hb : b < 2 ^ 31) : (Int32.ofNat a - Int32.ofNat b).toInt = (a : Int) - b := by
  rw [Int32.toInt_sub, own_toInt a ha, own_toInt b hb]
  exact Int.bmod_eq_of_le (by omega) (by omega)
theorem own_subN (a b : Nat) (ha : a < 2 ^ 31) (hb : b ≤ a) : Int32.ofNat a - Int32.ofNat b = Int32.ofNat (a - b) :=
  own_eq (by omega) (by rw [own_subI a b ha (by omega)]; omega)
theorem own_clamp (a : Nat) (ha : a < 2 ^ 31) : (Int32.ofNat a).toNatClampNeg = a := by
  show (Int32.ofNat a).toInt.toNat = a
  rw [own_toInt a ha]; rfl
theorem own_nneg (a : Nat) (ha : a < 2 ^ 31) : ¬ Int32.ofNat a < 0 := by
  rw [Int32.lt_iff_toInt_lt, own_toInt a ha]
  have : (0 : Int32).toInt = 0 := rfl
  omega
theorem own_ixs (a b : Nat) (ha : a < 2 ^ 31) (hb : b ≤ a) : ¬ (Int32.ofNat a - Int32.ofNat b < 0) ∧ (Int32.ofNat a - Int32.ofNat b).toNatClampNeg = a - b := by
  rw [own_subN a b ha hb]; exact ⟨own_nneg _ (by omega), own_clamp _ (by omega)⟩
theorem own_ixa (a b : Nat) (ha : a + b < 2 ^ 31) : ¬ (Int32.ofNat a + Int32.ofNat b < 0) ∧ (Int32.ofNat a + Int32.ofNat b).toNatClampNeg = a + b := by
  rw [own_addN]; exact ⟨own_nneg _ ha, own_clamp _ ha⟩
/-- a small natural behind a mask and a remainder -/
theorem own_small (x : Int32) (k : Nat) (hk0 : 0 < k) (hk : k < 2 ^ 31) : ∃ n : Nat, n < k ∧ (x &&& 2147483647) % Int32.ofNat k = Int32.ofNat n := by
  obtain ⟨q1, q2⟩ := c_and x 2147483647 (by decide)
  obtain ⟨c1, -⟩ := c_irem (x &&& 2147483647) (Int32.ofNat k) k (own_toInt k hk)
  have h1 := c1 q1
  have h2 := Int.emod_nonneg (x &&& 2147483647).toInt (b := (k : Int)) (by omega)
  have h3 := Int.emod_lt_of_pos (x &&& 2147483647).toInt (b := (k : Int)) (by omega)
  exact ⟨((x &&& 2147483647) % Int32.ofNat k).toInt.toNat, by omega, own_eq (by omega) (by omega)⟩
/-- a small natural behind a mask -/
theorem own_masked (x : Int32) (k : Nat) (hk : k < 2 ^ 31) : ∃ n : Nat, n ≤ k ∧ x &&& Int32.ofNat k = Int32.ofNat n := by
  have h0 := own_toInt k hk
  obtain ⟨q1, q2⟩ := c_and x (Int32.ofNat k) (by omega)
  exact ⟨(x &&& Int32.ofNat k).toInt.toNat, by omega, own_eq (by omega) (by omega)⟩
theorem own_cmp (x y : Int64) : XT.cmpL x y = 0 ↔ x = y := lw_eq x y
theorem own_cmplt (x y : Int64) : XT.cmpL x y < 0 ↔ x < y := lw_lt x y
theorem own_cmpgt (x y : Int64) : 0 < XT.cmpL x y ↔ y < x := lw_gt x y
end OwnNums
section OwnLayer
variable {p : Program} {l : Launch} {e : Env} {R : Room} {s : State} {m : MethodId} {args : Array Value} {below : List Frame} {meth : Method} {c : Code} {T : State} {locs : List Loc} {cells slots : Nat} {Z : State} {a0 : Array Value} {h h' : Heap}
/-- from U the run comes to a return of which Q tells (value, heap, written places), within rc cells and rs slots -/
def Goes (p : Program) (e : Env) (below : List Frame) (s : State) (rc rs : Nat) (Q : Option Value → Heap → List Loc → Prop) (U : State) : Prop :=
  ∃ t o, Steps p.tables e below U t ∧ t.status = .running ∧ Ended t below o ∧ ∃ v L, o = .returned v ∧ Q v t.heap L ∧ FrameEnd s o t L rc rs
theorem Goes.step {rc rs : Nat} {Q : Option Value → Heap → List Loc → Prop} {U V : State} (st : ∀ t, Steps p.tables e below V t → Steps p.tables e below U t) (k : Goes p e below s rc rs Q V) : Goes p e below s rc rs Q U := by
  obtain ⟨t, o, k1, k2⟩ := k
  exact ⟨t, o, st t k1, k2⟩
theorem gS {rc rs : Nat} {Q : Option Value → Heap → List Loc → Prop} {U V : State} (st : ∀ t, Steps p.tables e below V t → Steps p.tables e below U t) (k : Goes p e below s rc rs Q V) : Goes p e below s rc rs Q U := Goes.step st k
theorem Goes.ret {rc rs : Nat} {Q : Option Value → Heap → List Loc → Prop} (X : Stand p l e R s m args below meth c T locs cells slots) (hx : p.tables.exec = Jvm.exec) (hlk : meth.locks = false) {pc : Nat} {Ls : Array Slot} {w : Value} {t : FieldType} {i : Instr} {rest : List Value} (hret : meth.sig.returnType = some t) (hn : narrow t w = w)
    (hi : (i = .ireturn ∧ (t = .int ∨ t = .boolean ∨ t = .byte ∨ t = .char ∨ t = .short) ∧ ∃ z, w = .int z) ∨ (i = .lreturn ∧ t = .long ∧ ∃ z, w = .long z) ∨ (i = .dreturn ∧ t = .double ∧ ∃ z, w = .double z) ∨ (i = .freturn ∧ t = .float ∧ ∃ z, w = .float z) ∨ (i = .areturn ∧ t.isReference = true ∧ w.isRef = true))
    (hd : decode c.code pc = .ok (i, 1)) (hc : cells ≤ rc) (hs : slots ≤ rs) (hQ : Q (some w) T.heap locs) : Goes p e below s rc rs Q (T.setTop (mkF m pc Ls (w :: rest))) := by
  obtain ⟨fs, hr, hrun, hended, hW, hsame⟩ := X.leave (v := some w) (fun h => by rw [hret] at h; cases h) hlk
  exact ⟨_, _, retOut X hx hret hn hi hd hr, hrun, hended, _, _, rfl, hQ, ⟨_, rfl⟩, hW, hsame.mono hc hs⟩
theorem Goes.retI {rc rs : Nat} {Q : Option Value → Heap → List Loc → Prop} (X : Stand p l e R s m args below meth c T locs cells slots) (hx : p.tables.exec = Jvm.exec) (hlk : meth.locks = false) {pc : Nat} {Ls : Array Slot} {z : Int32} {rest : List Value} (hret : meth.sig.returnType = some .int)
    (hd : decode c.code pc = .ok (.ireturn, 1)) (hc : cells ≤ rc) (hs : slots ≤ rs) (hQ : Q (some (.int z)) T.heap locs) : Goes p e below s rc rs Q (T.setTop (mkF m pc Ls (.int z :: rest))) :=
  Goes.ret X hx hlk hret rfl (Or.inl ⟨rfl, Or.inl rfl, _, rfl⟩) hd hc hs hQ
theorem Goes.retZ {rc rs : Nat} {Q : Option Value → Heap → List Loc → Prop} (X : Stand p l e R s m args below meth c T locs cells slots) (hx : p.tables.exec = Jvm.exec) (hlk : meth.locks = false) {pc : Nat} {Ls : Array Slot} {z : Int32} {t : FieldType} {rest : List Value} (hret : meth.sig.returnType = some t)
    (ht : t = .boolean ∨ t = .byte ∨ t = .char ∨ t = .short) (hn : narrow t (.int z) = .int z)
    (hd : decode c.code pc = .ok (.ireturn, 1)) (hc : cells ≤ rc) (hs : slots ≤ rs) (hQ : Q (some (.int z)) T.heap locs) : Goes p e below s rc rs Q (T.setTop (mkF m pc Ls (.int z :: rest))) :=
  Goes.ret X hx hlk hret hn (Or.inl ⟨rfl, Or.inr ht, _, rfl⟩) hd hc hs hQ
theorem Goes.retJ {rc rs : Nat} {Q : Option Value → Heap → List Loc → Prop} (X : Stand p l e R s m args below meth c T locs cells slots) (hx : p.tables.exec = Jvm.exec) (hlk : meth.locks = false) {pc : Nat} {Ls : Array Slot} {z : Int64} {rest : List Value} (hret : meth.sig.returnType = some .long)
    (hd : decode c.code pc = .ok (.lreturn, 1)) (hc : cells ≤ rc) (hs : slots ≤ rs) (hQ : Q (some (.long z)) T.heap locs) : Goes p e below s rc rs Q (T.setTop (mkF m pc Ls (.long z :: rest))) :=
  Goes.ret X hx hlk hret rfl (Or.inr (Or.inl ⟨rfl, rfl, _, rfl⟩)) hd hc hs hQ
theorem own_narrow_ref {t : FieldType} {w : Value} (hw : w.isRef = true) : narrow t w = w := by
  cases w <;> simp [Value.isRef] at hw <;> cases t <;> rfl
theorem Goes.retA {rc rs : Nat} {Q : Option Value → Heap → List Loc → Prop} (X : Stand p l e R s m args below meth c T locs cells slots) (hx : p.tables.exec = Jvm.exec) (hlk : meth.locks = false) {pc : Nat} {Ls : Array Slot} {w : Value} {t : FieldType} {rest : List Value} (hret : meth.sig.returnType = some t)
    (ht : t.isReference = true) (hw : w.isRef = true)
    (hd : decode c.code pc = .ok (.areturn, 1)) (hc : cells ≤ rc) (hs : slots ≤ rs) (hQ : Q (some w) T.heap locs) : Goes p e below s rc rs Q (T.setTop (mkF m pc Ls (w :: rest))) :=
  Goes.ret X hx hlk hret (own_narrow_ref hw) (Or.inr (Or.inr (Or.inr (Or.inr ⟨rfl, ht, hw⟩)))) hd hc hs hQ
theorem Goes.retV {rc rs : Nat} {Q : Option Value → Heap → List Loc → Prop} (X : Stand p l e R s m args below meth c T locs cells slots) (hx : p.tables.exec = Jvm.exec) (hlk : meth.locks = false) {pc : Nat} {Ls : Array Slot} (hret : meth.sig.returnType = none)
    (hd : decode c.code pc = .ok (.return_, 1)) (hc : cells ≤ rc) (hs : slots ≤ rs) (hQ : Q none T.heap locs) : Goes p e below s rc rs Q (T.setTop (mkF m pc Ls [])) := by
  obtain ⟨fs, hr, hrun, hended, hW, hsame⟩ := X.leave (v := none) (fun _ => rfl) hlk
  exact ⟨_, _, X.returnOut hx hret hd hr, hrun, hended, _, _, rfl, hQ, ⟨_, rfl⟩, hW, hsame.mono hc hs⟩
/-- a static call by its contract -/
theorem own_callS (X : Stand p l e R s m args below meth c T locs cells slots) (hx : p.tables.exec = Jvm.exec) (hZ : Z.Warmed39 s.vm) {own : String} {index : Nat} {y : MethodName} {bytes : ByteArray} {maxL : Nat} {ret : Option FieldType} (hown : s.vm.findClass own = some m.cls)
    (w1 : (Cond.methodLink own index y).before a0 Z = true) (w2 : (Cond.static y).before a0 Z = true) (w3 : (Cond.initialized y.cls).before a0 Z = true) (w4 : (Cond.code y bytes maxL ret).before a0 Z = true) (hy : y.cls ≠ "java/lang/invoke/MethodHandle" ∧ y.cls ≠ "java/lang/invoke/VarHandle")
    {rm : Room} {argsL : List Value} {Q : Option Value → Heap → List Loc → Prop}
    (hM : MetFree l y (head1 [Cond.code y bytes maxL ret] rm) (fun a U => a = argsL.toArray ∧ Z.Warmed39 U.vm ∧ U.heap = h) (fun _ _ _ _ _ => True) (fun _ U o U' => ∃ v L, o = .returned v ∧ Q v U'.heap L ∧ FrameEnd U o U' L rm.cells rm.slots))
    (eT : T.heap = h) {W : Nat} (hf : rm.frames + 1 ≤ R.frames) (hl : W + (maxL + 11) + rm.locals ≤ R.locals) (hc : cells + rm.cells ≤ R.cells) (hsl : slots + rm.slots ≤ R.slots)
    {g : JFrame} (hg : g.method = m) (hsize : g.locals.size = c.maxLocals) {rest : List Value} (hlen : ∀ sig, parseMethodDescriptor y.desc = some sig → argsL.length = sig.parameters.length)
    (hstack : g.stack = argsL.reverse ++ rest) (hW : 2 * g.monitorRoom + (rest.map fun v => v.category).sum ≤ W) (hdg : decode c.code g.pc = .ok (.invokestatic index, 3)) :
    ∃ (v : Option Value) (T' : State) (L : List Loc), Stand p l e R s m args below meth c T' (locs ++ L) (cells + rm.cells) (slots + rm.slots) ∧ Q v T'.heap L ∧
      ∀ t, Steps p.tables e below (T'.setTop { g with pc := g.pc + 3, stack := v.toList ++ rest }) t → Steps p.tables e below (T.setTop g) t := by
  obtain ⟨v, _, ⟨U, Ls, k, n⟩, -, X', ⟨Lc, hQ, l1, y1, z1⟩, st⟩ := Jvm.LawKit.callS X hx (y := y) hown (mvT hZ w1) (mvT hZ w2) (mvT hZ w3) (mvT hZ w4) hy (backOf (W := W) hM hZ w4 w3 hf hl) hg hsize (argsL := argsL) (rest := rest) hlen hstack hW hdg (fun _ _ => ⟨rfl, eT, hc, hsl⟩)
  dsimp only [Pt.U, Pt.locs, Pt.cells, Pt.slots] at X' l1 y1 z1 st hQ
  subst l1 y1 z1
  exact ⟨v, U, Lc, X', hQ, st⟩
/-- a constructor's call by its contract -/
theorem own_callN (X : Stand p l e R s m args below meth c T locs cells slots) (hx : p.tables.exec = Jvm.exec) (hZ : Z.Warmed39 s.vm) {own : String} {index : Nat} {y : MethodName} {bytes : ByteArray} {maxL : Nat} (hy1 : y.name = "<init>") (hown : s.vm.findClass own = some m.cls)
    (w1 : (Cond.methodLink own index y).before a0 Z = true) (w2 : (Cond.instanceMethod y).before a0 Z = true) (w3 : (Cond.initialized y.cls).before a0 Z = true) (w4 : (Cond.code y bytes maxL none).before a0 Z = true) (hy : y.cls ≠ "java/lang/invoke/MethodHandle" ∧ y.cls ≠ "java/lang/invoke/VarHandle")
    {rm : Room} {a : Addr} {argsL : List Value} {Q : Option Value → Heap → List Loc → Prop}
    (hM : MetFree l y (head1 [Cond.code y bytes maxL none] rm) (fun b U => b = (.ref a :: argsL).toArray ∧ Z.Warmed39 U.vm ∧ U.heap = h) (fun _ _ _ _ _ => True) (fun _ U o U' => ∃ v L, o = .returned v ∧ Q v U'.heap L ∧ FrameEnd U o U' L rm.cells rm.slots))
    (eT : T.heap = h) {W : Nat} (hf : rm.frames + 1 ≤ R.frames) (hl : W + (maxL + 11) + rm.locals ≤ R.locals) (hc : cells + rm.cells ≤ R.cells) (hsl : slots + rm.slots ≤ R.slots)
    {g : JFrame} (hg : g.method = m) (hsize : g.locals.size = c.maxLocals) {rest : List Value} (hlen : ∀ sig, parseMethodDescriptor y.desc = some sig → argsL.length = sig.parameters.length)
    (hstack : g.stack = argsL.reverse ++ .ref a :: rest) (hW : 2 * g.monitorRoom + (rest.map fun v => v.category).sum ≤ W) (hdg : decode c.code g.pc = .ok (.invokespecial index, 3)) :
    ∃ (v : Option Value) (T' : State) (L : List Loc), Stand p l e R s m args below meth c T' (locs ++ L) (cells + rm.cells) (slots + rm.slots) ∧ Q v T'.heap L ∧
      ∀ t, Steps p.tables e below (T'.setTop { g with pc := g.pc + 3, stack := v.toList ++ rest }) t → Steps p.tables e below (T.setTop g) t := by
  obtain ⟨v, _, ⟨U, Ls, k, n⟩, -, X', ⟨Lc, hQ, l1, y1, z1⟩, st⟩ := X.specialBack hx (y := y) hy1 hown (mvT hZ w1) (mvT hZ w2) (mvT hZ w4) hy (backOf (W := W) hM hZ w4 w3 hf hl) hg hsize (Steps.refl _) (a := a) (argsL := argsL) (rest := rest) hlen hstack hW hdg (fun _ _ => ⟨rfl, eT, hc, hsl⟩)
  dsimp only [Pt.U, Pt.locs, Pt.cells, Pt.slots] at X' l1 y1 z1 st hQ
  subst l1 y1 z1
  exact ⟨v, U, Lc, X', hQ, fun t k => st.trans k⟩
/-- an instance method's call by its contract -/
theorem own_callV (X : Stand p l e R s m args below meth c T locs cells slots) (hx : p.tables.exec = Jvm.exec) (hZ : Z.Warmed39 s.vm) {own C : String} {index : Nat} {y : MethodName} {bytes : ByteArray} {maxL : Nat} {ret : Option FieldType} (hown : s.vm.findClass own = some m.cls)
    (w1 : (Cond.methodLink own index y).before a0 Z = true) (w2 : (Cond.declares y).before a0 Z = true) (w5 : (Cond.selects C y y).before a0 Z = true) (w6 : (Cond.instanceMethod y).before a0 Z = true) (w3 : (Cond.initialized y.cls).before a0 Z = true) (w4 : (Cond.code y bytes maxL ret).before a0 Z = true) (hy : y.cls ≠ "java/lang/invoke/MethodHandle" ∧ y.cls ≠ "java/lang/invoke/VarHandle")
    {rm : Room} {a : Addr} {argsL : List Value} {Q : Option Value → Heap → List Loc → Prop}
    (hM : MetFree l y (head1 [Cond.code y bytes maxL ret] rm) (fun b U => b = (.ref a :: argsL).toArray ∧ Z.Warmed39 U.vm ∧ U.heap = h) (fun _ _ _ _ _ => True) (fun _ U o U' => ∃ v L, o = .returned v ∧ Q v U'.heap L ∧ FrameEnd U o U' L rm.cells rm.slots))
    (eT : T.heap = h) (E : Exa Z h a C) {W : Nat} (hf : rm.frames + 1 ≤ R.frames) (hl : W + (maxL + 11) + rm.locals ≤ R.locals) (hc : cells + rm.cells ≤ R.cells) (hsl : slots + rm.slots ≤ R.slots)
    {g : JFrame} (hg : g.method = m) (hsize : g.locals.size = c.maxLocals) {rest : List Value} (hlen : ∀ sig, parseMethodDescriptor y.desc = some sig → argsL.length = sig.parameters.length)
    (hstack : g.stack = argsL.reverse ++ .ref a :: rest) (hW : 2 * g.monitorRoom + (rest.map fun v => v.category).sum ≤ W) (hdg : decode c.code g.pc = .ok (.invokevirtual index, 3)) :
    ∃ (v : Option Value) (T' : State) (L : List Loc), Stand p l e R s m args below meth c T' (locs ++ L) (cells + rm.cells) (slots + rm.slots) ∧ Q v T'.heap L ∧
      ∀ t, Steps p.tables e below (T'.setTop { g with pc := g.pc + 3, stack := v.toList ++ rest }) t → Steps p.tables e below (T.setTop g) t := by
  obtain ⟨cB, kB, qa, qb, qc⟩ := isOf hZ eT E
  obtain ⟨v, _, ⟨U, Ls, k, n⟩, -, X', ⟨Lc, hQ, l1, y1, z1⟩, st⟩ := X.virtualBack hx (y := y) (z := y) hown (mvT hZ w1) (mvT hZ w2) (notFace_of_selects (args := #[]) (mvT hZ w5)) (mvT hZ w5) (mvT hZ w6) hy (backOf (W := W) hM hZ w4 w3 hf hl) qa qc hg hsize (Steps.refl _) (argsL := argsL) (rest := rest) hlen hstack hW hdg (fun _ _ => ⟨rfl, eT, hc, hsl⟩)
  dsimp only [Pt.U, Pt.locs, Pt.cells, Pt.slots] at X' l1 y1 z1 st hQ
  subst l1 y1 z1
  exact ⟨v, U, Lc, X', hQ, fun t k => st.trans k⟩
/-- an interface method's call by its contract -/
theorem own_callI (X : Stand p l e R s m args below meth c T locs cells slots) (hx : p.tables.exec = Jvm.exec) (hZ : Z.Warmed39 s.vm) {own C : String} {index count : Nat} {xi z : MethodName} {bytes : ByteArray} {maxL : Nat} {ret : Option FieldType} (hown : s.vm.findClass own = some m.cls)
    (w1 : (Cond.methodLink own index xi).before a0 Z = true) (w2 : (Cond.declares xi).before a0 Z = true) (w7 : (Cond.interfaceMethod xi.cls xi.cls xi.name xi.desc).before a0 Z = true) (w5 : (Cond.selects C xi z).before a0 Z = true) (w6 : (Cond.instanceMethod z).before a0 Z = true) (w8 : (Cond.publicMethod z).before a0 Z = true) (w9 : (Cond.unhidden C xi.name xi.desc).before a0 Z = true) (w10 : (Cond.castable C xi.cls).before a0 Z = true)
    (hfa : ((Cond.interfaceMethod xi.cls xi.cls xi.name xi.desc).onTables && (Cond.interfaceMethod xi.cls xi.cls xi.name xi.desc).keepsFace) = true) (w3 : (Cond.initialized z.cls).before a0 Z = true) (w4 : (Cond.code z bytes maxL ret).before a0 Z = true) (hy : xi.cls ≠ "java/lang/invoke/MethodHandle" ∧ xi.cls ≠ "java/lang/invoke/VarHandle")
    {rm : Room} {a : Addr} {argsL : List Value} {Q : Option Value → Heap → List Loc → Prop}
    (hM : MetFree l z (head1 [Cond.code z bytes maxL ret] rm) (fun b U => b = (.ref a :: argsL).toArray ∧ Z.Warmed39 U.vm ∧ U.heap = h) (fun _ _ _ _ _ => True) (fun _ U o U' => ∃ v L, o = .returned v ∧ Q v U'.heap L ∧ FrameEnd U o U' L rm.cells rm.slots))
    (eT : T.heap = h) (E : Exa Z h a C) {W : Nat} (hf : rm.frames + 1 ≤ R.frames) (hl : W + (maxL + 11) + rm.locals ≤ R.locals) (hc : cells + rm.cells ≤ R.cells) (hsl : slots + rm.slots ≤ R.slots)
    {g : JFrame} (hg : g.method = m) (hsize : g.locals.size = c.maxLocals) {rest : List Value} (hlen : ∀ sig, parseMethodDescriptor xi.desc = some sig → argsL.length = sig.parameters.length)
    (hstack : g.stack = argsL.reverse ++ .ref a :: rest) (hW : 2 * g.monitorRoom + (rest.map fun v => v.category).sum ≤ W) (hdg : decode c.code g.pc = .ok (.invokeinterface index count, 5)) :
    ∃ (v : Option Value) (T' : State) (L : List Loc), Stand p l e R s m args below meth c T' (locs ++ L) (cells + rm.cells) (slots + rm.slots) ∧ Q v T'.heap L ∧
      ∀ t, Steps p.tables e below (T'.setTop { g with pc := g.pc + 5, stack := v.toList ++ rest }) t → Steps p.tables e below (T.setTop g) t := by
  obtain ⟨cB, kB, qa, qb, qc⟩ := isOf hZ eT E
  obtain ⟨v, _, ⟨U, Ls, k, n⟩, -, X', ⟨Lc, hQ, l1, y1, z1⟩, st⟩ := X.interfaceBack hx (xi := xi) (y := z) hown (mvT hZ w1) (mvT hZ w2) (mvT hZ w7 hfa) (mvT hZ w5) (mvT hZ w6) (mvT hZ w8) (mvT hZ w9) (mvT hZ w10) hy (backOf (W := W) hM hZ w4 w3 hf hl) qa qb qc hg hsize (Steps.refl _) (argsL := argsL) (rest := rest) hlen hstack hW hdg (fun _ _ => ⟨rfl, eT, hc, hsl⟩)
  dsimp only [Pt.U, Pt.locs, Pt.cells, Pt.slots] at X' l1 y1 z1 st hQ
  subst l1 y1 z1
  exact ⟨v, U, Lc, X', hQ, fun t k => st.trans k⟩
/-- an array: of n places, place j holds f j -/
def OA (Z : State) (h : Heap) (a : Addr) (ty : FieldType) (n : Nat) (f : Nat → Value) : Prop :=
  ∃ c : Cell, Arr Z h a c ty ∧ c.slots.size = n ∧ n < 2 ^ 31 ∧ ∀ j, j < n → c.slots[j]? = some (f j) ∧ fits ty (f j) = true
variable {a b : Addr} {ty : FieldType} {n k sl : Nat} {f f' : Nat → Value} {v w : Value} {j : Int32} {ws : List Addr}
theorem OA.ext (A : OA Z h a ty n f) (E : Ext h h') : OA Z h' a ty n f := by obtain ⟨c, A, r⟩ := A; exact ⟨c, A.ext E, r⟩
theorem OA.other (A : OA Z h b ty n f) (W : Wr h h' a sl v) (q : b ≠ a) : OA Z h' b ty n f := by obtain ⟨c, A, r⟩ := A; exact ⟨c, A.other W q, r⟩
theorem OA.keep (A : OA Z h a ty n f) (K : Keep h h' ws) (q : a ∉ ws) : OA Z h' a ty n f := by obtain ⟨c, A, r⟩ := A; exact ⟨c, ⟨K.2.1 a c A.1 q, A.2⟩, r⟩
theorem OA.lt (A : OA Z h a ty n f) : a < h.size := by obtain ⟨c, A, -⟩ := A; exact A.lt
theorem OA.congr (A : OA Z h a ty n f) (q : ∀ j, j < n → f j = f' j) : OA Z h a ty n f' := by
  obtain ⟨c, A, r1, r2, H⟩ := A
  exact ⟨c, A, r1, r2, fun j hj => by rw [← q j hj]; exact H j hj⟩
theorem OA.new {cA : ClassId} {z : Int32} (A : Arr Z h a (newA cA ty z) ty) (hf : fits ty (defaultValue ty) = true) (e : z.toNatClampNeg = n) : OA Z h a ty n (fun _ => defaultValue ty) := by
  refine ⟨_, A, by rw [sz_new]; exact e, ?_, fun j hj => ⟨?_, hf⟩⟩
  · have := z.toInt_lt
    have h2 : z.toNatClampNeg = z.toInt.toNat := rfl
    omega
  · simp [newA, e, hj]
theorem OA.set (A : OA Z h a ty n f) (W : Wr h h' a j.toNatClampNeg v) (e : j.toNatClampNeg = k) (hv : fits ty v = true) : OA Z h' a ty n (fun i => if i = k then v else f i) := by
  obtain ⟨c, A, r1, r2, H⟩ := A
  refine ⟨_, A.same W, by rw [sz_set]; exact r1, r2, fun i hi => ?_⟩
  obtain ⟨H1, H2⟩ := H i hi
  subst e
  by_cases q : i = j.toNatClampNeg
  · subst q
    dsimp only
    rw [if_pos rfl]
    exact ⟨by simp [Cell.setSlot, r1, hi], hv⟩
  · dsimp only
    rw [if_neg q]
    refine ⟨?_, H2⟩
    rw [← H1]
    simp [Cell.setSlot, Array.getElem?_setIfInBounds, Ne.symm q]
theorem OA.at (A : OA Z h a ty n f) (hj : ¬ j < 0) (e : j.toNatClampNeg = k) (hk : k < n) : ∃ c : Cell, Arr Z h a c ty ∧ ¬ (j < 0 ∨ c.slots.size ≤ j.toNatClampNeg) ∧ c.slots[j.toNatClampNeg]? = some (f k) ∧ fits ty (f k) = true := by
  obtain ⟨c, A, r1, r2, H⟩ := A
  obtain ⟨H1, H2⟩ := H k hk
  refine ⟨c, A, ?_, by rw [e]; exact H1, H2⟩
  rintro (q | q)
  · exact hj q
  · omega
theorem OA.fits (A : OA Z h a ty n f) (hk : k < n) : fits ty (f k) = true := by
  obtain ⟨c, A, r1, r2, H⟩ := A
  exact (H k hk).2
theorem own_alen (X : Stand p l e R s m args below meth c T locs cells slots) (hx : p.tables.exec = Jvm.exec) (hZ : Z.Warmed39 s.vm) (eT : T.heap = h) (A : OA Z h a ty n f) {z : Int32} (hz : z = n.toInt32)
    {g : JFrame} (hg : g.method = m) {rest : List Value} (hs : g.stack = .ref a :: rest) (hd : decode c.code g.pc = .ok (.arraylength, 1)) :
    ∀ t, Steps p.tables e below (T.setTop { g with pc := g.pc + 1, stack := .int z :: rest }) t → Steps p.tables e below (T.setTop g) t := by
  obtain ⟨cl, A, r1, r2, H⟩ := A
  intro t k
  refine X.arraylength hx (by rw [eT]; exact A.1) (State.isArrayOf_alike hZ.alike A.2.1) hg hs hd t ?_
  rw [r1, ← hz]
  exact k
theorem own_iaload (X : Stand p l e R s m args below meth c T locs cells slots) (hx : p.tables.exec = Jvm.exec) (hZ : Z.Warmed39 s.vm) (eT : T.heap = h) (A : OA Z h a .int n f) (hj : ¬ j < 0) (ek : j.toNatClampNeg = k) (hk : k < n) (hv : f k = v)
    {g : JFrame} (hg : g.method = m) {rest : List Value} (hs : g.stack = .int j :: .ref a :: rest) (hd : decode c.code g.pc = .ok (.iaload, 1)) :
    ∀ t, Steps p.tables e below (T.setTop { g with pc := g.pc + 1, stack := v :: rest }) t → Steps p.tables e below (T.setTop g) t := by
  obtain ⟨cl, A, q1, q2, q3⟩ := A.at hj ek hk
  subst hv
  exact fun t k => X.iaload hx (by rw [eT]; exact A.1) (State.isArrayOf_alike hZ.alike A.2.1) A.2.2 q1 q2 hg hs hd t k
theorem own_laload (X : Stand p l e R s m args below meth c T locs cells slots) (hx : p.tables.exec = Jvm.exec) (hZ : Z.Warmed39 s.vm) (eT : T.heap = h) (A : OA Z h a .long n f) (hj : ¬ j < 0) (ek : j.toNatClampNeg = k) (hk : k < n) (hv : f k = v)
    {g : JFrame} (hg : g.method = m) {rest : List Value} (hs : g.stack = .int j :: .ref a :: rest) (hd : decode c.code g.pc = .ok (.laload, 1)) :
    ∀ t, Steps p.tables e below (T.setTop { g with pc := g.pc + 1, stack := v :: rest }) t → Steps p.tables e below (T.setTop g) t := by
  obtain ⟨cl, A, q1, q2, q3⟩ := A.at hj ek hk
  subst hv
  exact fun t k => X.laload hx (by rw [eT]; exact A.1) (State.isArrayOf_alike hZ.alike A.2.1) A.2.2 q1 q2 hg hs hd t k
theorem own_caload (X : Stand p l e R s m args below meth c T locs cells slots) (hx : p.tables.exec = Jvm.exec) (hZ : Z.Warmed39 s.vm) (eT : T.heap = h) (A : OA Z h a .char n f) (hj : ¬ j < 0) (ek : j.toNatClampNeg = k) (hk : k < n) (hv : f k = v)
    {g : JFrame} (hg : g.method = m) {rest : List Value} (hs : g.stack = .int j :: .ref a :: rest) (hd : decode c.code g.pc = .ok (.caload, 1)) :
    ∀ t, Steps p.tables e below (T.setTop { g with pc := g.pc + 1, stack := v :: rest }) t → Steps p.tables e below (T.setTop g) t := by
  obtain ⟨cl, A, q1, q2, q3⟩ := A.at hj ek hk
  subst hv
  exact fun t k => X.caload hx (by rw [eT]; exact A.1) (State.isArrayOf_alike hZ.alike A.2.1) A.2.2 q1 q2 hg hs hd t k
theorem own_baload (X : Stand p l e R s m args below meth c T locs cells slots) (hx : p.tables.exec = Jvm.exec) (hZ : Z.Warmed39 s.vm) (eT : T.heap = h) (A : OA Z h a .byte n f) (hj : ¬ j < 0) (ek : j.toNatClampNeg = k) (hk : k < n) (hv : f k = v)
    {g : JFrame} (hg : g.method = m) {rest : List Value} (hs : g.stack = .int j :: .ref a :: rest) (hd : decode c.code g.pc = .ok (.baload, 1)) :
    ∀ t, Steps p.tables e below (T.setTop { g with pc := g.pc + 1, stack := v :: rest }) t → Steps p.tables e below (T.setTop g) t := by
  obtain ⟨cl, A, q1, q2, q3⟩ := A.at hj ek hk
  subst hv
  exact fun t k => X.baloadBytes hx (by rw [eT]; exact A.1) (State.isArrayOf_alike hZ.alike A.2.1) A.2.2 q1 q2 hg hs hd t k
theorem own_aaload (X : Stand p l e R s m args below meth c T locs cells slots) (hx : p.tables.exec = Jvm.exec) (hZ : Z.Warmed39 s.vm) (eT : T.heap = h) (A : OA Z h a ty n f) (hty : ty.isReference = true) (hj : ¬ j < 0) (ek : j.toNatClampNeg = k) (hk : k < n) (hv : f k = v)
    {g : JFrame} (hg : g.method = m) {rest : List Value} (hs : g.stack = .int j :: .ref a :: rest) (hd : decode c.code g.pc = .ok (.aaload, 1)) :
    ∀ t, Steps p.tables e below (T.setTop { g with pc := g.pc + 1, stack := v :: rest }) t → Steps p.tables e below (T.setTop g) t := by
  obtain ⟨cl, A, q1, q2, q3⟩ := A.at hj ek hk
  subst hv
  exact fun t k => X.aaload hx (by rw [eT]; exact A.1) (State.isArrayOf_alike hZ.alike A.2.1) hty A.2.2 q1 q2 hg hs hd t k
/-- stores: the new heap, the array's new values -/
theorem own_stI (X : Stand p l e R s m args below meth c T locs cells slots) (hx : p.tables.exec = Jvm.exec) (hZ : Z.Warmed39 s.vm) (eT : T.heap = h) (A : OA Z h a .int n f) {x : Int32} (hj : ¬ j < 0) (ek : j.toNatClampNeg = k) (hk : k < n)
    {g : JFrame} (hg : g.method = m) {rest : List Value} (hs : g.stack = .int x :: .int j :: .ref a :: rest) (hd : decode c.code g.pc = .ok (.iastore, 1)) :
    ∃ T' h', Stand p l e R s m args below meth c T' (locs ++ [⟨a, j.toNatClampNeg⟩]) cells slots ∧ T'.heap = h' ∧ Wr h h' a j.toNatClampNeg (.int x) ∧ OA Z h' a .int n (fun i => if i = k then .int x else f i) ∧
      ∀ t, Steps p.tables e below (T'.setTop { g with pc := g.pc + 1, stack := rest }) t → Steps p.tables e below (T.setTop g) t := by
  obtain ⟨cl, A', q1, q2, q3⟩ := A.at hj ek hk
  obtain ⟨T', h', X', e', W', st⟩ := stI X hx hZ eT A' q1 hg hs hd
  exact ⟨T', h', X', e', W', A.set W' ek rfl, st⟩
theorem own_stJ (X : Stand p l e R s m args below meth c T locs cells slots) (hx : p.tables.exec = Jvm.exec) (hZ : Z.Warmed39 s.vm) (eT : T.heap = h) (A : OA Z h a .long n f) {x : Int64} (hj : ¬ j < 0) (ek : j.toNatClampNeg = k) (hk : k < n)
    {g : JFrame} (hg : g.method = m) {rest : List Value} (hs : g.stack = .long x :: .int j :: .ref a :: rest) (hd : decode c.code g.pc = .ok (.lastore, 1)) :
    ∃ T' h', Stand p l e R s m args below meth c T' (locs ++ [⟨a, j.toNatClampNeg⟩]) cells slots ∧ T'.heap = h' ∧ Wr h h' a j.toNatClampNeg (.long x) ∧ OA Z h' a .long n (fun i => if i = k then .long x else f i) ∧
      ∀ t, Steps p.tables e below (T'.setTop { g with pc := g.pc + 1, stack := rest }) t → Steps p.tables e below (T.setTop g) t := by
  obtain ⟨cl, A', q1, q2, q3⟩ := A.at hj ek hk
  obtain ⟨T', h', X', e', W', st⟩ := stJ X hx hZ eT A' q1 hg hs hd
  exact ⟨T', h', X', e', W', A.set W' ek rfl, st⟩
theorem own_stB (X : Stand p l e R s m args below meth c T locs cells slots) (hx : p.tables.exec = Jvm.exec) (hZ : Z.Warmed39 s.vm) (eT : T.heap = h) (A : OA Z h a .byte n f) {x : Int32} (hj : ¬ j < 0) (ek : j.toNatClampNeg = k) (hk : k < n)
    {g : JFrame} (hg : g.method = m) {rest : List Value} (hs : g.stack = .int x :: .int j :: .ref a :: rest) (hd : decode c.code g.pc = .ok (.bastore, 1)) :
    ∃ T' h', Stand p l e R s m args below meth c T' (locs ++ [⟨a, j.toNatClampNeg⟩]) cells slots ∧ T'.heap = h' ∧ Wr h h' a j.toNatClampNeg (.int (nar .byte x)) ∧ OA Z h' a .byte n (fun i => if i = k then .int (nar .byte x) else f i) ∧
      ∀ t, Steps p.tables e below (T'.setTop { g with pc := g.pc + 1, stack := rest }) t → Steps p.tables e below (T.setTop g) t := by
  obtain ⟨cl, A', q1, q2, q3⟩ := A.at hj ek hk
  obtain ⟨T', h', X', e', W', st⟩ := stB X hx hZ eT A' q1 hg hs hd
  exact ⟨T', h', X', e', W', A.set W' ek (fits_nar_byte _), st⟩
theorem own_stC (X : Stand p l e R s m args below meth c T locs cells slots) (hx : p.tables.exec = Jvm.exec) (hZ : Z.Warmed39 s.vm) (eT : T.heap = h) (A : OA Z h a .char n f) {x : Int32} (hj : ¬ j < 0) (ek : j.toNatClampNeg = k) (hk : k < n)
    {g : JFrame} (hg : g.method = m) {rest : List Value} (hs : g.stack = .int x :: .int j :: .ref a :: rest) (hd : decode c.code g.pc = .ok (.castore, 1)) :
    ∃ T' h', Stand p l e R s m args below meth c T' (locs ++ [⟨a, j.toNatClampNeg⟩]) cells slots ∧ T'.heap = h' ∧ Wr h h' a j.toNatClampNeg (.int (nar .char x)) ∧ OA Z h' a .char n (fun i => if i = k then .int (nar .char x) else f i) ∧
      ∀ t, Steps p.tables e below (T'.setTop { g with pc := g.pc + 1, stack := rest }) t → Steps p.tables e below (T.setTop g) t := by
  obtain ⟨cl, A', q1, q2, q3⟩ := A.at hj ek hk
  obtain ⟨T', h', X', e', W', st⟩ := stC X hx hZ eT A' q1 hg hs hd
  exact ⟨T', h', X', e', W', A.set W' ek (fits_nar_char _), st⟩
theorem own_newP (X : Stand p l e R s m args below meth c T locs cells slots) (hx : p.tables.exec = Jvm.exec) (hZ : Z.Warmed39 s.vm) {aty : ArrayType} (w : (Cond.arrayClass (newarray.typeOf aty)).before a0 Z = true) (eT : T.heap = h) {z : Int32} (hz : ¬ z < 0) (en : z.toNatClampNeg = n) {cap : Nat} (hcap : n ≤ cap) (hb : cap * 8 ≤ 536870912) (hc : cells + 1 ≤ R.cells) (hl : slots + cap ≤ R.slots)
    {g : JFrame} (hg : g.method = m) {rest : List Value} (hs : g.stack = .int z :: rest) (hd : decode c.code g.pc = .ok (.newarray aty, 2)) :
    ∃ T' h', Stand p l e R s m args below meth c T' locs (cells + 1) (slots + cap) ∧ T'.heap = h' ∧ Ext h h' ∧ OA Z h' h.size (newarray.typeOf aty) n (fun _ => defaultValue (newarray.typeOf aty)) ∧
      ∀ t, Steps p.tables e below (T'.setTop { g with pc := g.pc + 2, stack := .ref h.size :: rest }) t → Steps p.tables e below (T.setTop g) t := by
  obtain ⟨T', h', cA, X', e', E', A', st⟩ := newP X hx hZ w eT hg hd hs hz (cap := cap) (en ▸ hcap) hb hc hl
  exact ⟨T', h', X', e', E', OA.new A' (by cases aty <;> rfl) en, st⟩
theorem OA.arv (A : OA Z h a ty n f) (d : Value) : ∃ k, Arv Z h a k ty (Int32.ofNat n) ((List.range n).map f) d := by
  obtain ⟨c, A, r1, r2, H⟩ := A
  have q : ∀ i, i < n → ((List.range n).map f).getD i d = f i := fun i hi => by simp [hi]
  exact ⟨c.cls, c, A, rfl, by rw [own_clamp n r2]; exact r1, own_nneg n r2, fun i hi => by rw [q i (by omega)]; exact (H i (by omega)).1, fun i hi => by rw [q i (by omega)]; exact (H i (by omega)).2⟩
theorem OA.of_arv {k : ClassId} {vs : List Value} {d : Value} {z : Int32} (A : Arv Z h a k ty z vs d) (e : z.toNatClampNeg = n) (q : ∀ i, i < n → vs.getD i d = f i) : OA Z h a ty n f := by
  obtain ⟨c, A, r1, r2, r3, H, G⟩ := A
  refine ⟨c, A, by omega, ?_, fun i hi => ?_⟩
  · have := z.toInt_lt
    have h2 : z.toNatClampNeg = z.toInt.toNat := rfl
    omega
  · rw [← q i hi]
    exact ⟨H i (by omega), G i (by omega)⟩
theorem own_spliced (vd us : List Value) (d : Value) (dp m : Nat) (hu : us.length = m) (hl : dp + m ≤ vd.length) (i : Nat) : (vd.take dp ++ us ++ vd.drop (dp + m)).getD i d = if dp ≤ i ∧ i < dp + m then us.getD (i - dp) d else vd.getD i d := by
  have h1 : (vd.take dp).length = dp := by rw [List.length_take]; omega
  by_cases c1 : i < dp
  · rw [if_neg (by omega)]
    simp only [List.getD_eq_getElem?_getD]
    rw [List.append_assoc, List.getElem?_append_left (by omega), List.getElem?_take_of_lt c1]
  · by_cases c2 : i < dp + m
    · rw [if_pos ⟨by omega, c2⟩]
      simp only [List.getD_eq_getElem?_getD]
      rw [List.append_assoc, List.getElem?_append_right (by omega), h1, List.getElem?_append_left (by omega)]
    · rw [if_neg (by omega)]
      simp only [List.getD_eq_getElem?_getD]
      rw [List.getElem?_append_right (by rw [List.length_append]; omega), List.getElem?_drop, List.length_append, h1, hu]
      have e : dp + m + (i - (dp + m)) = i := by omega
      rw [e]
/-- System.arraycopy between arrays of one primitive kind -/
theorem own_copy (X : Stand p l e R s m args below meth c T locs cells slots) (hx : p.tables.exec = Jvm.exec) (hZ : Z.Warmed39 s.vm) {own : String} {index : Nat} (hown : s.vm.findClass own = some m.cls)
    (w1 : (Cond.methodLink own index Jvm.Stand.acN).before a0 Z = true) (w2 : (Cond.native Jvm.Stand.acN).before a0 Z = true) (w3 : (Cond.static Jvm.Stand.acN).before a0 Z = true) (w4 : (Cond.initialized "java/lang/System").before a0 Z = true) (eT : T.heap = h)
    {n' sp dp nn : Nat} (A : OA Z h a ty n f) (B : OA Z h b ty n' f') (hty : refKind ty = false) (h1 : sp + nn ≤ n) (h2 : dp + nn ≤ n') {n0 : Nat} (N : Fr n0 locs) (ge : n0 ≤ b)
    {g : JFrame} (hg : g.method = m) (hsize : g.locals.size = c.maxLocals) {rest : List Value} (hs : g.stack = .int (Int32.ofNat nn) :: .int (Int32.ofNat dp) :: .ref b :: .int (Int32.ofNat sp) :: .ref a :: rest) (hd : decode c.code g.pc = .ok (.invokestatic index, 3))
    (hf : 1 ≤ R.frames) {W : Nat} (hW : 2 * g.monitorRoom + (rest.map fun v => v.category).sum ≤ W) (hlo : W + 18 ≤ R.locals) :
    ∃ T' h' L, Stand p l e R s m args below meth c T' L cells slots ∧ T'.heap = h' ∧ Fr n0 L ∧ Keep h h' [b] ∧ OA Z h' b ty n' (fun i => if dp ≤ i ∧ i < dp + nn then f (sp + (i - dp)) else f' i) ∧
      ∀ t, Steps p.tables e below (T'.setTop { g with pc := g.pc + 3, stack := rest }) t → Steps p.tables e below (T.setTop g) t := by
  have hn : n < 2 ^ 31 := by obtain ⟨c, A, r1, r2, H⟩ := A; exact r2
  have hn' : n' < 2 ^ 31 := by obtain ⟨c, A, r1, r2, H⟩ := B; exact r2
  obtain ⟨k, A'⟩ := A.arv (.int 0)
  obtain ⟨k', B'⟩ := B.arv (.int 0)
  have c1 := own_clamp sp (by omega)
  have c2 := own_clamp dp (by omega)
  have c3 := own_clamp nn (by omega)
  obtain ⟨T', h', L, X', e', N', K', A2, st⟩ := cpA X hx hZ hown w1 w2 w3 w4 eT A' B' (Or.inl ⟨rfl, hty⟩) (own_nneg sp (by omega)) (own_nneg dp (by omega)) (own_nneg nn (by omega)) (by rw [c1, c3, own_clamp n hn]; exact h1) (by rw [c2, c3, own_clamp n' hn']; exact h2) rfl (by rw [c2, c3]; simpa using h2) N ge hg hsize hs hd hf hW hlo
  refine ⟨T', h', L, X', e', N', K', OA.of_arv A2 (own_clamp n' hn') (fun i hi => ?_), st⟩
  rw [c1, c2, c3, own_spliced _ _ _ _ _ (by simp) (by simpa using h2)]
  by_cases q : dp ≤ i ∧ i < dp + nn
  · rw [if_pos q, if_pos q]
    have q3 : i - dp < nn := by omega
    have q4 : sp + (i - dp) < n := by omega
    simp [q3, q4]
  · rw [if_neg q, if_neg q]
    simp [hi]
/-- an array of references of class C: of n places, place j holds f j -/
def OR (Z : State) (h : Heap) (a : Addr) (C : String) (n : Nat) (f : Nat → Value) : Prop :=
  ∃ c : Cell, Arr Z h a c (.object C) ∧ Ovr Z c.cls C ∧ c.slots.size = n ∧ n < 2 ^ 31 ∧ ∀ j, j < n → c.slots[j]? = some (f j) ∧ (f j).isRef = true
variable {C : String}
theorem OR.ext (A : OR Z h a C n f) (E : Ext h h') : OR Z h' a C n f := by obtain ⟨c, A, r⟩ := A; exact ⟨c, A.ext E, r⟩
theorem OR.other (A : OR Z h b C n f) (W : Wr h h' a sl v) (q : b ≠ a) : OR Z h' b C n f := by obtain ⟨c, A, r⟩ := A; exact ⟨c, A.other W q, r⟩
theorem OR.keep (A : OR Z h a C n f) (K : Keep h h' ws) (q : a ∉ ws) : OR Z h' a C n f := by obtain ⟨c, A, r⟩ := A; exact ⟨c, ⟨K.2.1 a c A.1 q, A.2⟩, r⟩
theorem OR.lt (A : OR Z h a C n f) : a < h.size := by obtain ⟨c, A, -⟩ := A; exact A.lt
theorem OR.congr (A : OR Z h a C n f) (q : ∀ j, j < n → f j = f' j) : OR Z h a C n f' := by
  obtain ⟨c, A, o, r1, r2, H⟩ := A
  exact ⟨c, A, o, r1, r2, fun j hj => by rw [← q j hj]; exact H j hj⟩
theorem own_newR (X : Stand p l e R s m args below meth c T locs cells slots) (hx : p.tables.exec = Jvm.exec) (hZ : Z.Warmed39 s.vm) {own : String} {index : Nat} (hown : s.vm.findClass own = some m.cls) (w1 : (Cond.classLink own index C).before a0 Z = true) (w2 : (Cond.arrayOver (.object C)).before a0 Z = true) (eT : T.heap = h) {z : Int32} (hz : ¬ z < 0) (en : z.toNatClampNeg = n) {cap : Nat} (hcap : n ≤ cap) (hb : cap * 8 ≤ 536870912) (hc : cells + 1 ≤ R.cells) (hl : slots + cap ≤ R.slots)
    {g : JFrame} (hg : g.method = m) {rest : List Value} (hs : g.stack = .int z :: rest) (hd : decode c.code g.pc = .ok (.anewarray index, 3)) :
    ∃ T' h', Stand p l e R s m args below meth c T' locs (cells + 1) (slots + cap) ∧ T'.heap = h' ∧ Ext h h' ∧ OR Z h' h.size C n (fun _ => .null) ∧
      ∀ t, Steps p.tables e below (T'.setTop { g with pc := g.pc + 3, stack := .ref h.size :: rest }) t → Steps p.tables e below (T.setTop g) t := by
  obtain ⟨T', h', cA, X', e', E', A', O', st⟩ := newR X hx hZ hown w1 w2 eT hg hd hs hz (cap := cap) (en ▸ hcap) hb hc hl
  refine ⟨T', h', X', e', E', ⟨_, A', O', by rw [sz_new]; exact en, ?_, fun j hj => ⟨?_, rfl⟩⟩, st⟩
  · have := z.toInt_lt
    have h2 : z.toNatClampNeg = z.toInt.toNat := rfl
    omega
  · simp [newA, en, hj, defaultValue]
theorem own_stR (X : Stand p l e R s m args below meth c T locs cells slots) (hx : p.tables.exec = Jvm.exec) (hZ : Z.Warmed39 s.vm) (eT : T.heap = h) (A : OR Z h a C n f) {y : Addr} (I : Ins Z h y C true) (hj : ¬ j < 0) (ek : j.toNatClampNeg = k) (hk : k < n)
    {g : JFrame} (hg : g.method = m) {rest : List Value} (hs : g.stack = .ref y :: .int j :: .ref a :: rest) (hd : decode c.code g.pc = .ok (.aastore, 1)) :
    ∃ T' h', Stand p l e R s m args below meth c T' (locs ++ [⟨a, j.toNatClampNeg⟩]) cells slots ∧ T'.heap = h' ∧ Wr h h' a j.toNatClampNeg (.ref y) ∧ OR Z h' a C n (fun i => if i = k then .ref y else f i) ∧
      ∀ t, Steps p.tables e below (T'.setTop { g with pc := g.pc + 1, stack := rest }) t → Steps p.tables e below (T.setTop g) t := by
  obtain ⟨cl, A', O', r1, r2, H⟩ := A
  have q1 : ¬ (j < 0 ∨ cl.slots.size ≤ j.toNatClampNeg) := by
    rintro (q | q)
    · exact hj q
    · omega
  obtain ⟨T', h', X', e', W', st⟩ := stR X hx hZ eT A' q1 rfl (Sto.of A' O' I) hg hs hd
  refine ⟨T', h', X', e', W', ⟨_, A'.same W', O', by rw [sz_set]; exact r1, r2, fun i hi => ?_⟩, st⟩
  obtain ⟨H1, H2⟩ := H i hi
  subst ek
  by_cases q : i = j.toNatClampNeg
  · subst q
    dsimp only
    rw [if_pos rfl]
    exact ⟨by simp [Cell.setSlot, r1, hi], rfl⟩
  · dsimp only
    rw [if_neg q]
    refine ⟨?_, H2⟩
    rw [← H1]
    simp [Cell.setSlot, Array.getElem?_setIfInBounds, Ne.symm q]
theorem own_raload (X : Stand p l e R s m args below meth c T locs cells slots) (hx : p.tables.exec = Jvm.exec) (hZ : Z.Warmed39 s.vm) (eT : T.heap = h) (A : OR Z h a C n f) (hj : ¬ j < 0) (ek : j.toNatClampNeg = k) (hk : k < n) (hv : f k = v)
    {g : JFrame} (hg : g.method = m) {rest : List Value} (hs : g.stack = .int j :: .ref a :: rest) (hd : decode c.code g.pc = .ok (.aaload, 1)) :
    ∀ t, Steps p.tables e below (T.setTop { g with pc := g.pc + 1, stack := v :: rest }) t → Steps p.tables e below (T.setTop g) t := by
  obtain ⟨cl, A', O', r1, r2, H⟩ := A
  have q1 : ¬ (j < 0 ∨ cl.slots.size ≤ j.toNatClampNeg) := by
    rintro (q | q)
    · exact hj q
    · omega
  subst hv
  exact fun t k' => X.aaload hx (by rw [eT]; exact A'.1) (State.isArrayOf_alike hZ.alike A'.2.1) rfl A'.2.2 q1 (by rw [ek]; exact (H k hk).1) hg hs hd t k'
theorem own_fits_ref {t : FieldType} {w : Value} (ht : t.isReference = true) (hw : w.isRef = true) : fits t w = true := by
  cases w <;> simp [Value.isRef] at hw <;> cases t <;> first | rfl | (simp [FieldType.isReference] at ht)
end OwnLayer
theorem own_w {Z : State} {a0 : Array Value} (hw : ∀ d ∈ tables_1, d.before a0 Z = true) (i : Nat) {d : Jvm.Cond} (h : tables_1[i]? = some d) : d.before a0 Z = true := hw d (List.mem_of_getElem? h)
abbrev vN (n : Nat) : Slot := .val (.int (Int32.ofNat n))
abbrev vR (a : Addr) : Slot := .val (.ref a)
abbrev c0_ := jdk_41_method_11_code
abbrev c1_ := jdk_42_method_155_code
abbrev c2_ := jdk_43_method_2_code
abbrev c3_ := jdk_52_method_6_code
abbrev c4_ := jdk_52_method_5_code
abbrev c5_ := jdk_52_method_91_code
abbrev c6_ := jdk_52_method_83_code
abbrev c7_ := jdk_42_method_152_code
abbrev c8_ := jdk_42_method_154_code
abbrev c9_ := jdk_42_method_54_code
abbrev c10_ := jdk_42_method_56_code
abbrev c11_ := jdk_52_method_3_code
abbrev c12_ := jdk_52_method_2_code
abbrev c13_ := jdk_52_method_4_code
abbrev c14_ := jdk_52_method_14_code
abbrev c15_ := jdk_52_method_21_code
abbrev c16_ := jdk_52_method_16_code
abbrev c17_ := jdk_52_method_15_code
abbrev c18_ := jdk_42_method_149_code
abbrev c19_ := jdk_42_method_3_code
abbrev c20_ := jdk_29_method_69_code
abbrev c21_ := jdk_65_method_131_code
abbrev c22_ := jdk_65_method_133_code
abbrev c23_ := jdk_65_method_132_code
abbrev c24_ := jdk_41_method_12_code
abbrev c25_ := jdk_42_method_158_code
abbrev c26_ := jdk_41_method_13_code
abbrev c27_ := jdk_42_method_157_code
abbrev c28_ := jdk_52_method_94_code
abbrev c29_ := jdk_42_method_151_code
abbrev c30_ := jdk_68_method_68_code
abbrev c31_ := jdk_68_method_9_code
abbrev c32_ := jdk_52_method_86_code
abbrev c33_ := jdk_43_method_50_code
abbrev c34_ := jdk_68_method_11_code
abbrev c35_ := jdk_68_method_71_code
abbrev c36_ := jdk_42_method_147_code
abbrev c37_ := jdk_68_method_73_code
abbrev c38_ := jdk_68_method_22_code
abbrev c39_ := jdk_67_method_7_code
abbrev c40_ := jdk_43_method_3_code
abbrev c41_ := jdk_52_method_71_code
abbrev c42_ := jdk_68_method_31_code
abbrev c43_ := jdk_67_method_14_code
abbrev c44_ := jdk_68_method_64_code
abbrev c45_ := jdk_68_method_6_code
abbrev c46_ := jdk_67_method_93_code
abbrev c47_ := jdk_42_method_150_code
abbrev c48_ := jdk_42_method_53_code
abbrev c49_ := jdk_67_method_42_code
abbrev c50_ := jdk_68_method_2_code
abbrev c51_ := jdk_67_method_1_code
abbrev c52_ := method_2_code
abbrev c53_ := method_3_code
abbrev c54_ := jdk_43_method_46_code
abbrev c55_ := jdk_52_method_24_code
abbrev c56_ := jdk_42_method_139_code
abbrev c57_ := jdk_42_method_55_code
abbrev c58_ := jdk_31_method_11_code
abbrev c59_ := jdk_30_method_1_code
abbrev c60_ := jdk_43_method_4_code
abbrev c61_ := jdk_29_method_65_code
abbrev c62_ := jdk_43_method_23_code
abbrev c63_ := jdk_43_method_22_code
abbrev c64_ := jdk_52_method_93_code
abbrev c65_ := jdk_52_method_48_code
abbrev c66_ := jdk_52_method_47_code
abbrev c67_ := jdk_52_method_40_code
abbrev c68_ := jdk_42_method_80_code
abbrev c69_ := jdk_42_method_79_code
abbrev c70_ := prog_5_method_1_code
abbrev c71_ := prog_5_method_4_code
abbrev c72_ := prog_5_method_2_code
def own_bt (k : Nat) : Int32 := (Int32.ofNat k).toInt8.toInt32
def own_by (u : Bool) (c : Nat → Nat) : Nat → Value := fun j => if u then (if j % 2 = 0 then .int (own_bt (c (j / 2))) else .int (own_bt (c (j / 2) / 256))) else .int (own_bt (c j))
def own_len (u : Bool) (n : Nat) : Nat := if u then 2 * n else n
def own_cd (u : Bool) : Int32 := if u then 1 else 0
theorem own_bt_nar (x : Int32) : nar .byte x.toInt8.toInt32 = x.toInt8.toInt32 := by
  show x.toInt8.toInt32.toInt8.toInt32 = _
  simp
theorem own_bt255 (k : Nat) (h : k < 2 ^ 31) : own_bt k &&& 255 = Int32.ofNat (k % 256) := by
  have h1 := c_mask (own_bt k) 255 8 (by decide) rfl
  have h2 := (c_i2b (Int32.ofNat k)).1
  rw [own_toInt k h] at h2
  refine own_eq (by omega) ?_
  rw [h1]
  show (Int32.ofNat k).toInt8.toInt32.toInt % ((2 ^ 8 : Nat) : Int) = _
  omega
theorem own_i2c (k : Nat) (h : k < 65536) : (Int32.ofNat k).toUInt32.toUInt16.toUInt32.toInt32 = Int32.ofNat k := by
  obtain ⟨h1, h2, h3⟩ := c_i2c (Int32.ofNat k)
  rw [own_toInt k (by omega)] at h1
  exact own_eq (by omega) (by omega)
theorem own_nchar (k : Nat) (h : k < 65536) : narrow .char (.int (Int32.ofNat k)) = .int (Int32.ofNat k) := congrArg Value.int (own_i2c k h)
theorem own_charnar (k : Nat) (h : k < 65536) : nar .char (Int32.ofNat k) = Int32.ofNat k := own_i2c k h
theorem own_char (x : Int32) : ∃ k : Nat, k < 65536 ∧ x.toUInt32.toUInt16.toUInt32.toInt32 = Int32.ofNat k := by
  obtain ⟨h1, h2, h3⟩ := c_i2c x
  exact ⟨x.toUInt32.toUInt16.toUInt32.toInt32.toInt.toNat, by omega, own_eq (by omega) (by omega)⟩
theorem own_shr8 (k : Nat) (h : k < 2 ^ 31) : Int32.ofNat k >>> ((8 : Int32) &&& 31) = Int32.ofNat (k / 256) := by
  have h1 := c_ishr (Int32.ofNat k) 8 8 rfl
  rw [own_toInt k h] at h1
  exact own_eq (by omega) (by rw [h1]; omega)
theorem own_shr0 (k : Nat) (h : k < 2 ^ 31) : Int32.ofNat k >>> ((0 : Int32) &&& 31) = Int32.ofNat k := by
  have h1 := c_ishr (Int32.ofNat k) 0 0 rfl
  rw [own_toInt k h] at h1
  exact own_eq h (by rw [h1]; omega)
theorem own_shr1 (k : Nat) (h : k < 2 ^ 30) : Int32.ofNat (2 * k) >>> ((1 : Int32) &&& 31) = Int32.ofNat k := by
  have h1 := c_ishr (Int32.ofNat (2 * k)) 1 1 rfl
  rw [own_toInt (2 * k) (by omega)] at h1
  exact own_eq (by omega) (by rw [h1]; omega)
theorem own_shl1 (k : Nat) (h : k < 2 ^ 30) : Int32.ofNat k <<< ((1 : Int32) &&& 31) = Int32.ofNat (2 * k) := by
  have h1 := c_ishl (Int32.ofNat k) 1 1 rfl
  have h2 := rng32 (Int32.ofNat k <<< ((1 : Int32) &&& 31))
  rw [own_toInt k (by omega)] at h1
  exact own_eq (by omega) (by omega)
theorem own_shl0 (k : Nat) (h : k < 2 ^ 30) : Int32.ofNat k <<< ((0 : Int32) &&& 31) = Int32.ofNat k := by
  have h1 := c_ishl (Int32.ofNat k) 0 0 rfl
  have h2 := rng32 (Int32.ofNat k <<< ((0 : Int32) &&& 31))
  rw [own_toInt k (by omega)] at h1
  exact own_eq (by omega) (by omega)
theorem own_shl8 (k : Nat) (h : k < 65536) : Int32.ofNat k <<< ((8 : Int32) &&& 31) = Int32.ofNat (256 * k) := by
  have h1 := c_ishl (Int32.ofNat k) 8 8 rfl
  have h2 := rng32 (Int32.ofNat k <<< ((8 : Int32) &&& 31))
  rw [own_toInt k (by omega)] at h1
  exact own_eq (by omega) (by omega)
theorem own_join (c : Nat) (h : c < 65536) : (Int32.ofNat (c % 256) <<< ((0 : Int32) &&& 31)) ||| (Int32.ofNat (c / 256 % 256) <<< ((8 : Int32) &&& 31)) = Int32.ofNat c := by
  rw [own_shl0 _ (by omega), own_shl8 _ (by omega)]
  have h1 := own_toInt (c % 256) (by omega)
  have h2 := own_toInt (256 * (c / 256 % 256)) (by omega)
  have h3 := c_or' (Int32.ofNat (c % 256)) (Int32.ofNat (256 * (c / 256 % 256))) 8 (by decide) 256 rfl (by omega) (by omega) (by omega)
  have h4 := rng32 (Int32.ofNat (c % 256) ||| Int32.ofNat (256 * (c / 256 % 256)))
  exact own_eq (by omega) (by omega)
theorem own_by_lo (c : Nat → Nat) (i : Nat) : own_by true c (2 * i) = .int (own_bt (c i)) := by
  have h1 : 2 * i % 2 = 0 := by omega
  have h2 : 2 * i / 2 = i := by omega
  simp [own_by, h1, h2]
theorem own_by_hi (c : Nat → Nat) (i : Nat) : own_by true c (2 * i + 1) = .int (own_bt (c i / 256)) := by
  have h1 : ¬ (2 * i + 1) % 2 = 0 := by omega
  have h2 : (2 * i + 1) / 2 = i := by omega
  simp [own_by, h1, h2]
theorem own_cd_byte (u : Bool) : narrow .byte (.int (own_cd u)) = .int (own_cd u) ∧ fits .byte (.int (own_cd u)) = true := by cases u <;> exact ⟨rfl, rfl⟩
theorem own_cd0 (n : Nat) : (XT.ushr (Int32.ofNat n - Int32.ofNat n) (31 : Int32)).toInt8.toInt32 = (0 : Int32) := by
  rw [Int32.sub_self]; rfl
theorem own_cd1 (n : Nat) (h0 : 0 < n) (h : n < 2 ^ 30) : (XT.ushr (Int32.ofNat n - Int32.ofNat (2 * n)) (31 : Int32)).toInt8.toInt32 = (1 : Int32) := by
  have h1 := c_iushr (Int32.ofNat n - Int32.ofNat (2 * n)) 31 31 rfl (by decide)
  rw [own_subI n (2 * n) (by omega) (by omega)] at h1
  have h2 : XT.ushr (Int32.ofNat n - Int32.ofNat (2 * n)) (31 : Int32) = Int32.ofNat 1 := by
    refine own_eq (by decide) ?_
    show ((Int32.ofNat n - Int32.ofNat (2 * n)).toUInt32 >>> ((31 : Int32) &&& 31).toUInt32).toInt32.toInt = _
    rw [h1]
    omega
  rw [h2]
  rfl
theorem own_part_next {Z : State} {h : Heap} {b : Addr} {n i : Nat} {c : Nat → Nat} (A : OA Z h b .byte (2 * n) (fun j => if j = 2 * i + 1 then .int (own_bt (c i / 256)) else if j = 2 * i then .int (own_bt (c i)) else if j < 2 * i then own_by true c j else .int 0)) :
    OA Z h b .byte (2 * n) (fun j => if j < 2 * (i + 1) then own_by true c j else .int 0) := A.congr fun j hj => by
  by_cases h1 : j = 2 * i + 1
  · rw [if_pos h1, if_pos (by omega), h1, own_by_hi]
  · by_cases h2 : j = 2 * i
    · rw [if_neg h1, if_pos h2, if_pos (by omega), h2, own_by_lo]
    · by_cases h3 : j < 2 * i
      · rw [if_neg h1, if_neg h2, if_pos h3, if_pos (by omega)]
      · rw [if_neg h1, if_neg h2, if_neg h3, if_neg (by omega)]
theorem own_lat_next {Z : State} {h : Heap} {b : Addr} {n i : Nat} {c : Nat → Nat} {f : Nat → Value} (A : OA Z h b .byte n (fun j => if j = i then .int (own_bt (c i)) else if j < i then own_by false c j else f j)) :
    OA Z h b .byte n (fun j => if j < i + 1 then own_by false c j else f j) := A.congr fun j hj => by
  by_cases h2 : j = i
  · rw [if_pos h2, if_pos (by omega), h2]; rfl
  · by_cases h3 : j < i
    · rw [if_neg h2, if_pos h3, if_pos (by omega)]
    · rw [if_neg h2, if_neg h3, if_neg (by omega)]
def own_ST (Z : State) (cs : Int32) (fm : Value) : Prop := Sta Z Z.heap "java/lang/String" "COMPACT_STRINGS" "Z" (.int cs) ∧ cs ≠ 0 ∧ Sta Z Z.heap "jdk/internal/util/Preconditions" "SIOOBE_FORMATTER" "Ljava/util/function/BiFunction;" fm ∧ fm.isRef = true ∧ Sta Z Z.heap "java/lang/StringUTF16" "$assertionsDisabled" "Z" (.int 1) ∧ Sta Z Z.heap "java/lang/StringUTF16" "HI_BYTE_SHIFT" "I" (.int 0) ∧ Sta Z Z.heap "java/lang/StringUTF16" "LO_BYTE_SHIFT" "I" (.int 8) ∧ True
section OwnCold
variable {p : Program} {l : Launch} {e : Env} {R : Room} {s : State} {m : MethodId} {args : Array Value} {below : List Frame} {meth : Method} {c : Code} {T : State} {locs : List Loc} {cells slots : Nat} {Z : State} {a0 : Array Value} {h h' : Heap} {EL : List (String × Nat)} {vm0 : Vm}
/-- as Goes, for a walk that may load String constants -/
def GoesW (p : Program) (e : Env) (below : List Frame) (s : State) (rc rs : Nat) (Z : State) (EL : List (String × Nat)) (Q : Option Value → Heap → List Loc → Prop) (U : State) : Prop :=
  ∃ t o, Steps p.tables e below U t ∧ t.status = .running ∧ Ended t below o ∧ ∃ v L, o = .returned v ∧ Q v t.heap L ∧ CHr Z EL s.vm s.heap t.vm t.heap ∧ ReturnedEndW s o t L rc rs
theorem GoesW.step {rc rs : Nat} {Q : Option Value → Heap → List Loc → Prop} {U V : State} (st : ∀ t, Steps p.tables e below V t → Steps p.tables e below U t) (k : GoesW p e below s rc rs Z EL Q V) : GoesW p e below s rc rs Z EL Q U := by
  obtain ⟨t, o, k1, k2⟩ := k
  exact ⟨t, o, st t k1, k2⟩
/-- what such a walk keeps beside its Stand over s.setVm vm0 -/
def Cold (Z : State) (EL : List (String × Nat)) (s : State) (vm0 : Vm) (h : Heap) : Prop := (∃ k0, s.Since vm0 k0 ∧ k0 ≤ h.size) ∧ CHr Z EL s.vm s.heap vm0 h
theorem Cold.start (H : CHv Z EL s.vm s.heap) : Cold Z EL s s.vm s.heap := ⟨⟨0, (State.WarmedH.refl s).since 0, Nat.zero_le _⟩, CHr.refl H⟩
theorem Cold.ext (C : Cold Z EL s vm0 h) (E : Ext h h') : Cold Z EL s vm0 h' := by
  obtain ⟨⟨k0, hS, hk⟩, C⟩ := C
  exact ⟨⟨k0, hS, Nat.le_trans hk E.1⟩, C.trans (CHr.ext E C.1)⟩
theorem Cold.wr {a : Addr} {sl : Nat} {v : Value} (C : Cold Z EL s vm0 h) (W : Wr h h' a sl v) (S : Safe Z EL vm0 h a) : Cold Z EL s vm0 h' := by
  obtain ⟨⟨k0, hS, hk⟩, C⟩ := C
  exact ⟨⟨k0, hS, Nat.le_trans hk (Keep.of_wr W).1⟩, C.trans (CHr.wr W S C.1)⟩
theorem Cold.keep {ws : List Addr} (C : Cold Z EL s vm0 h) (K : Keep h h' ws) (hs : ∀ x ∈ ws, Safe Z EL vm0 h x) : Cold Z EL s vm0 h' := by
  obtain ⟨⟨k0, hS, hk⟩, C⟩ := C
  exact ⟨⟨k0, hS, Nat.le_trans hk K.1⟩, C.trans (CHr.keep K hs C.1)⟩
theorem Cold.chv (C : Cold Z EL s vm0 h) : CHv Z EL vm0 h := C.2.1
theorem own_endW {rc rs : Nat} {o : Outcome} {U : State} (C : Cold Z EL s vm0 h) (eU : U.heap = h) (ho : ∃ v, o = .returned v) (hW : (s.setVm vm0).WarmedH U.vm) (hs : (s.setVm vm0).sameButNew ({ U with vm := vm0 } : State) locs cells slots) (hc : cells ≤ rc) (hsl : slots ≤ rs) : ReturnedEndW s o U locs rc rs := by
  obtain ⟨⟨k0, hS, hk⟩, -⟩ := C
  obtain ⟨h1, h2, h3⟩ := hS.ended hW (by rw [eU]; exact hk) hs
  exact ⟨ho, h1, h2, h3.mono hc hsl⟩
theorem gW {rc rs : Nat} {Q : Option Value → Heap → List Loc → Prop} {U V : State} (st : ∀ t, Steps p.tables e below V t → Steps p.tables e below U t) (k : GoesW p e below s rc rs Z EL Q V) : GoesW p e below s rc rs Z EL Q U := GoesW.step st k
theorem GoesW.ret {rc rs : Nat} {Q : Option Value → Heap → List Loc → Prop} (X : Stand p l e R (s.setVm vm0) m args below meth c T locs cells slots) (hx : p.tables.exec = Jvm.exec) (hZ : Z.Warmed39 (s.setVm vm0).vm) (hEL : EW Z a0 EL) (C : Cold Z EL s vm0 h) (eT : T.heap = h) (hlk : meth.locks = false) {pc : Nat} {Ls : Array Slot} {w : Value} {t : FieldType} {i : Instr} {rest : List Value} (hret : meth.sig.returnType = some t) (hn : narrow t w = w)
    (hi : (i = .ireturn ∧ (t = .int ∨ t = .boolean ∨ t = .byte ∨ t = .char ∨ t = .short) ∧ ∃ z, w = .int z) ∨ (i = .lreturn ∧ t = .long ∧ ∃ z, w = .long z) ∨ (i = .dreturn ∧ t = .double ∧ ∃ z, w = .double z) ∨ (i = .freturn ∧ t = .float ∧ ∃ z, w = .float z) ∨ (i = .areturn ∧ t.isReference = true ∧ w.isRef = true))
    (hd : decode c.code pc = .ok (i, 1)) (hc : cells ≤ rc) (hs : slots ≤ rs) (hQ : Q (some w) T.heap locs) : GoesW p e below s rc rs Z EL Q (T.setTop (mkF m pc Ls (w :: rest))) := by
  obtain ⟨fs, hr, hrun, hended, hW, hsame⟩ := X.leave (v := some w) (fun h => by rw [hret] at h; cases h) hlk
  refine ⟨_, _, retOut X hx hret hn hi hd hr, hrun, hended, _, _, rfl, hQ, ?_, own_endW C eT ⟨_, rfl⟩ hW hsame hc hs⟩
  show CHr Z EL s.vm s.heap T.vm T.heap
  rw [eT]
  exact C.2.trans (CHv.at X hZ hEL C.2.1)
theorem GoesW.retI {rc rs : Nat} {Q : Option Value → Heap → List Loc → Prop} (X : Stand p l e R (s.setVm vm0) m args below meth c T locs cells slots) (hx : p.tables.exec = Jvm.exec) (hZ : Z.Warmed39 (s.setVm vm0).vm) (hEL : EW Z a0 EL) (C : Cold Z EL s vm0 h) (eT : T.heap = h) (hlk : meth.locks = false) {pc : Nat} {Ls : Array Slot} {z : Int32} {rest : List Value} (hret : meth.sig.returnType = some .int)
    (hd : decode c.code pc = .ok (.ireturn, 1)) (hc : cells ≤ rc) (hs : slots ≤ rs) (hQ : Q (some (.int z)) T.heap locs) : GoesW p e below s rc rs Z EL Q (T.setTop (mkF m pc Ls (.int z :: rest))) :=
  GoesW.ret X hx hZ hEL C eT hlk hret rfl (Or.inl ⟨rfl, Or.inl rfl, _, rfl⟩) hd hc hs hQ
theorem GoesW.retZ {rc rs : Nat} {Q : Option Value → Heap → List Loc → Prop} (X : Stand p l e R (s.setVm vm0) m args below meth c T locs cells slots) (hx : p.tables.exec = Jvm.exec) (hZ : Z.Warmed39 (s.setVm vm0).vm) (hEL : EW Z a0 EL) (C : Cold Z EL s vm0 h) (eT : T.heap = h) (hlk : meth.locks = false) {pc : Nat} {Ls : Array Slot} {z : Int32} {t : FieldType} {rest : List Value} (hret : meth.sig.returnType = some t)
    (ht : t = .boolean ∨ t = .byte ∨ t = .char ∨ t = .short) (hn : narrow t (.int z) = .int z)
    (hd : decode c.code pc = .ok (.ireturn, 1)) (hc : cells ≤ rc) (hs : slots ≤ rs) (hQ : Q (some (.int z)) T.heap locs) : GoesW p e below s rc rs Z EL Q (T.setTop (mkF m pc Ls (.int z :: rest))) :=
  GoesW.ret X hx hZ hEL C eT hlk hret hn (Or.inl ⟨rfl, Or.inr ht, _, rfl⟩) hd hc hs hQ
theorem GoesW.retA {rc rs : Nat} {Q : Option Value → Heap → List Loc → Prop} (X : Stand p l e R (s.setVm vm0) m args below meth c T locs cells slots) (hx : p.tables.exec = Jvm.exec) (hZ : Z.Warmed39 (s.setVm vm0).vm) (hEL : EW Z a0 EL) (C : Cold Z EL s vm0 h) (eT : T.heap = h) (hlk : meth.locks = false) {pc : Nat} {Ls : Array Slot} {w : Value} {t : FieldType} {rest : List Value} (hret : meth.sig.returnType = some t)
    (ht : t.isReference = true) (hw : w.isRef = true)
    (hd : decode c.code pc = .ok (.areturn, 1)) (hc : cells ≤ rc) (hs : slots ≤ rs) (hQ : Q (some w) T.heap locs) : GoesW p e below s rc rs Z EL Q (T.setTop (mkF m pc Ls (w :: rest))) :=
  GoesW.ret X hx hZ hEL C eT hlk hret (own_narrow_ref hw) (Or.inr (Or.inr (Or.inr (Or.inr ⟨rfl, ht, hw⟩)))) hd hc hs hQ
theorem GoesW.retV {rc rs : Nat} {Q : Option Value → Heap → List Loc → Prop} (X : Stand p l e R (s.setVm vm0) m args below meth c T locs cells slots) (hx : p.tables.exec = Jvm.exec) (hZ : Z.Warmed39 (s.setVm vm0).vm) (hEL : EW Z a0 EL) (C : Cold Z EL s vm0 h) (eT : T.heap = h) (hlk : meth.locks = false) {pc : Nat} {Ls : Array Slot} (hret : meth.sig.returnType = none)
    (hd : decode c.code pc = .ok (.return_, 1)) (hc : cells ≤ rc) (hs : slots ≤ rs) (hQ : Q none T.heap locs) : GoesW p e below s rc rs Z EL Q (T.setTop (mkF m pc Ls [])) := by
  obtain ⟨fs, hr, hrun, hended, hW, hsame⟩ := X.leave (v := none) (fun _ => rfl) hlk
  refine ⟨_, _, X.returnOut hx hret hd hr, hrun, hended, _, _, rfl, hQ, ?_, own_endW C eT ⟨_, rfl⟩ hW hsame hc hs⟩
  show CHr Z EL s.vm s.heap T.vm T.heap
  rw [eT]
  exact C.2.trans (CHv.at X hZ hEL C.2.1)
/-- a callee that may load constants and writes old places ws that no constant is at -/
theorem own_backW {y : MethodName} {bytes : ByteArray} {maxL : Nat} {ret : Option FieldType} {rm : Room} {len W : Nat} {as' : Array Value} {ws : List Addr} {Q : Option Value → Heap → List Loc → Prop}
    (hM : MetFree l y (head1 [Cond.code y bytes maxL ret] rm) (fun a U => a = as' ∧ Z.Warmed39 U.vm ∧ U.heap = h ∧ CHv Z EL U.vm h ∧ ∀ x ∈ ws, Safe Z EL U.vm h x) (fun _ _ _ _ _ => True) (fun _ U o U' => ∃ v L, o = .returned v ∧ Q v U'.heap L ∧ CHr Z EL U.vm U.heap U'.vm U'.heap ∧ ReturnedEndW U o U' L rm.cells rm.slots))
    (hZ : Z.Warmed39 vm0) (wc : (Cond.code y bytes maxL ret).before a0 Z = true) (wz : (Cond.initialized y.cls).before a0 Z = true) (hf : rm.frames + 1 ≤ R.frames) (hl : W + (maxL + 11) + rm.locals ≤ R.locals) (hEL : EW Z a0 EL) (H : CHv Z EL vm0 h) (hws : ∀ x ∈ ws, x < h.size ∧ Safe Z EL vm0 h x) :
    BackS l R p e below (s.setVm vm0) args y len W (fun A a => a = as' ∧ A.U.heap = h ∧ A.cells + rm.cells ≤ R.cells ∧ A.slots + rm.slots ≤ R.slots)
      (fun A _ v B => ∃ L, Q v B.U.heap L ∧ B.locs = A.locs ++ L ∧ B.cells = A.cells + rm.cells ∧ B.slots = A.slots + rm.slots ∧ CHr Z EL vm0 h B.U.vm B.U.heap) := by
  refine BackS.of_freeW (bytes := bytes) (maxL := maxL) (ret := ret) (E := fun _ first o t L k n => (k = rm.cells ∧ n = rm.slots) ∧ CHr Z EL first.vm first.heap t.vm t.heap ∧ ∃ v, o = .returned v ∧ Q v t.heap L) hM hf hl ?_ ?_ (fun _ _ _ _ _ _ _ _ _ => trivial) ?_ ?_
  · intro m meth c A a Y hp
    have hU : Z.Warmed39 A.U.vm := wtrans (s := s.setVm vm0) hZ Y.warmed
    refine ⟨?_, mv hU wc, mv hU wz, hp.2.2⟩
    show (Cond.and _ .tt).before a A.U = true
    rw [Cond.before_and, mv hU wc]
    rfl
  · intro m meth c A a g mk Y hp
    have hc := CHv.at Y hZ hEL H
    exact ⟨hp.1, wtrans (s := s.setVm vm0) hZ Y.warmed, hp.2.1, hc.1, fun x hx => hc.safe (hws x hx).1 (hws x hx).2⟩
  · rintro a f o t ⟨v, L, h1, h2, h3, h4⟩
    exact ⟨L, _, _, h4, ⟨rfl, rfl⟩, h3, v, h1, h2⟩
  · rintro m meth c A a g mk v t L k n Y hp - - ⟨⟨rfl, rfl⟩, e5, v', e3, e4⟩
    cases e3
    refine ⟨L, e4, rfl, rfl, rfl, (CHv.at Y hZ hEL H).trans ?_⟩
    rw [← hp.2.1]
    exact e5
/-- what stands behind a call or a load that may have interned -/
def After (p : Program) (l : Launch) (e : Env) (R : Room) (s : State) (m : MethodId) (args : Array Value) (below : List Frame) (meth : Method) (c : Code) (own : String) (Z : State) (EL : List (String × Nat)) (vm0 : Vm) (h : Heap) (vm1 : Vm) (T' : State) (locs : List Loc) (cells slots : Nat) : Prop :=
  Stand p l e R (s.setVm vm1) m args below meth c T' locs cells slots ∧ Cold Z EL s vm1 T'.heap ∧ Z.Warmed39 (s.setVm vm1).vm ∧ (s.setVm vm1).vm.findClass own = some m.cls ∧ ∀ x, x < h.size → Safe Z EL vm0 h x → Safe Z EL vm1 T'.heap x
theorem own_callSW (X : Stand p l e R (s.setVm vm0) m args below meth c T locs cells slots) (hx : p.tables.exec = Jvm.exec) (hZ : Z.Warmed39 (s.setVm vm0).vm) (hEL : EW Z a0 EL) (C : Cold Z EL s vm0 h) {own : String} {index : Nat} {y : MethodName} {bytes : ByteArray} {maxL : Nat} {ret : Option FieldType} (hown : (s.setVm vm0).vm.findClass own = some m.cls)
    (w1 : (Cond.methodLink own index y).before a0 Z = true) (w2 : (Cond.static y).before a0 Z = true) (w3 : (Cond.initialized y.cls).before a0 Z = true) (w4 : (Cond.code y bytes maxL ret).before a0 Z = true) (hy : y.cls ≠ "java/lang/invoke/MethodHandle" ∧ y.cls ≠ "java/lang/invoke/VarHandle")
    {rm : Room} {argsL : List Value} {ws : List Addr} {Q : Option Value → Heap → List Loc → Prop} (hws : ∀ x ∈ ws, x < h.size ∧ Safe Z EL vm0 h x)
    (hM : MetFree l y (head1 [Cond.code y bytes maxL ret] rm) (fun a U => a = argsL.toArray ∧ Z.Warmed39 U.vm ∧ U.heap = h ∧ CHv Z EL U.vm h ∧ ∀ x ∈ ws, Safe Z EL U.vm h x) (fun _ _ _ _ _ => True) (fun _ U o U' => ∃ v L, o = .returned v ∧ Q v U'.heap L ∧ CHr Z EL U.vm U.heap U'.vm U'.heap ∧ ReturnedEndW U o U' L rm.cells rm.slots))
    (eT : T.heap = h) {W : Nat} (hf : rm.frames + 1 ≤ R.frames) (hl : W + (maxL + 11) + rm.locals ≤ R.locals) (hc : cells + rm.cells ≤ R.cells) (hsl : slots + rm.slots ≤ R.slots)
    {g : JFrame} (hg : g.method = m) (hsize : g.locals.size = c.maxLocals) {rest : List Value} (hlen : ∀ sig, parseMethodDescriptor y.desc = some sig → argsL.length = sig.parameters.length)
    (hstack : g.stack = argsL.reverse ++ rest) (hW : 2 * g.monitorRoom + (rest.map fun v => v.category).sum ≤ W) (hdg : decode c.code g.pc = .ok (.invokestatic index, 3)) :
    ∃ (v : Option Value) (vm1 : Vm) (T' : State) (L : List Loc), After p l e R s m args below meth c own Z EL vm0 h vm1 T' (locs ++ L) (cells + rm.cells) (slots + rm.slots) ∧ Q v T'.heap L ∧
      ∀ t, Steps p.tables e below (T'.setTop { g with pc := g.pc + 3, stack := v.toList ++ rest }) t → Steps p.tables e below (T.setTop g) t := by
  obtain ⟨⟨k0, hS, hk⟩, CC⟩ := C
  obtain ⟨v, _, ⟨U, Ls, k, n⟩, -, X', hS', hgr, ⟨Lc, hQ, l1, y1, z1, cr⟩, st⟩ := callSS X hx (y := y) hown (mvT hZ w1) (mvT hZ w2) (mvT hZ w3) (mvT hZ w4) hy (own_backW (W := W) hM hZ w4 w3 hf hl hEL CC.1 hws) hg hsize (argsL := argsL) (rest := rest) hlen hstack hW hdg (fun _ _ => ⟨rfl, eT, hc, hsl⟩)
  dsimp only [Pt.U, Pt.locs, Pt.cells, Pt.slots] at X' hS' hgr l1 y1 z1 cr st hQ
  subst l1 y1 z1
  obtain ⟨X2, S2, Z2, O2⟩ := rebS hS (eT ▸ hk) X' hS' hgr hZ hown
  exact ⟨v, U.vm, U, Lc, ⟨X2, ⟨⟨_, S2, Nat.le_refl _⟩, CC.trans cr⟩, Z2, O2, fun x hx hs => cr.safe hx hs⟩, hQ, fun t k => st.trans k⟩
theorem own_callNW (X : Stand p l e R (s.setVm vm0) m args below meth c T locs cells slots) (hx : p.tables.exec = Jvm.exec) (hZ : Z.Warmed39 (s.setVm vm0).vm) (hEL : EW Z a0 EL) (C : Cold Z EL s vm0 h) {own : String} {index : Nat} {y : MethodName} {bytes : ByteArray} {maxL : Nat} (hy1 : y.name = "<init>") (hown : (s.setVm vm0).vm.findClass own = some m.cls)
    (w1 : (Cond.methodLink own index y).before a0 Z = true) (w2 : (Cond.instanceMethod y).before a0 Z = true) (w3 : (Cond.initialized y.cls).before a0 Z = true) (w4 : (Cond.code y bytes maxL none).before a0 Z = true) (hy : y.cls ≠ "java/lang/invoke/MethodHandle" ∧ y.cls ≠ "java/lang/invoke/VarHandle")
    {rm : Room} {a : Addr} {argsL : List Value} {ws : List Addr} {Q : Option Value → Heap → List Loc → Prop} (hws : ∀ x ∈ ws, x < h.size ∧ Safe Z EL vm0 h x)
    (hM : MetFree l y (head1 [Cond.code y bytes maxL none] rm) (fun b U => b = (.ref a :: argsL).toArray ∧ Z.Warmed39 U.vm ∧ U.heap = h ∧ CHv Z EL U.vm h ∧ ∀ x ∈ ws, Safe Z EL U.vm h x) (fun _ _ _ _ _ => True) (fun _ U o U' => ∃ v L, o = .returned v ∧ Q v U'.heap L ∧ CHr Z EL U.vm U.heap U'.vm U'.heap ∧ ReturnedEndW U o U' L rm.cells rm.slots))
    (eT : T.heap = h) {W : Nat} (hf : rm.frames + 1 ≤ R.frames) (hl : W + (maxL + 11) + rm.locals ≤ R.locals) (hc : cells + rm.cells ≤ R.cells) (hsl : slots + rm.slots ≤ R.slots)
    {g : JFrame} (hg : g.method = m) (hsize : g.locals.size = c.maxLocals) {rest : List Value} (hlen : ∀ sig, parseMethodDescriptor y.desc = some sig → argsL.length = sig.parameters.length)
    (hstack : g.stack = argsL.reverse ++ .ref a :: rest) (hW : 2 * g.monitorRoom + (rest.map fun v => v.category).sum ≤ W) (hdg : decode c.code g.pc = .ok (.invokespecial index, 3)) :
    ∃ (v : Option Value) (vm1 : Vm) (T' : State) (L : List Loc), After p l e R s m args below meth c own Z EL vm0 h vm1 T' (locs ++ L) (cells + rm.cells) (slots + rm.slots) ∧ Q v T'.heap L ∧
      ∀ t, Steps p.tables e below (T'.setTop { g with pc := g.pc + 3, stack := v.toList ++ rest }) t → Steps p.tables e below (T.setTop g) t := by
  obtain ⟨⟨k0, hS, hk⟩, CC⟩ := C
  obtain ⟨v, _, ⟨U, Ls, k, n⟩, -, X', hS', hgr, ⟨Lc, hQ, l1, y1, z1, cr⟩, st⟩ := X.specialBackS hx (y := y) hy1 hown (mvT hZ w1) (mvT hZ w2) (mvT hZ w4) hy (own_backW (W := W) hM hZ w4 w3 hf hl hEL CC.1 hws) hg hsize (Steps.refl _) (a := a) (argsL := argsL) (rest := rest) hlen hstack hW hdg (fun _ _ => ⟨rfl, eT, hc, hsl⟩)
  dsimp only [Pt.U, Pt.locs, Pt.cells, Pt.slots] at X' hS' hgr l1 y1 z1 cr st hQ
  subst l1 y1 z1
  obtain ⟨X2, S2, Z2, O2⟩ := rebS hS (eT ▸ hk) X' hS' hgr hZ hown
  exact ⟨v, U.vm, U, Lc, ⟨X2, ⟨⟨_, S2, Nat.le_refl _⟩, CC.trans cr⟩, Z2, O2, fun x hx hs => cr.safe hx hs⟩, hQ, fun t k => st.trans k⟩
theorem own_callVW (X : Stand p l e R (s.setVm vm0) m args below meth c T locs cells slots) (hx : p.tables.exec = Jvm.exec) (hZ : Z.Warmed39 (s.setVm vm0).vm) (hEL : EW Z a0 EL) (C : Cold Z EL s vm0 h) {own C0 : String} {index : Nat} {y : MethodName} {bytes : ByteArray} {maxL : Nat} {ret : Option FieldType} (hown : (s.setVm vm0).vm.findClass own = some m.cls)
    (w1 : (Cond.methodLink own index y).before a0 Z = true) (w2 : (Cond.declares y).before a0 Z = true) (w5 : (Cond.selects C0 y y).before a0 Z = true) (w6 : (Cond.instanceMethod y).before a0 Z = true) (w3 : (Cond.initialized y.cls).before a0 Z = true) (w4 : (Cond.code y bytes maxL ret).before a0 Z = true) (hy : y.cls ≠ "java/lang/invoke/MethodHandle" ∧ y.cls ≠ "java/lang/invoke/VarHandle")
    {rm : Room} {a : Addr} {argsL : List Value} {ws : List Addr} {Q : Option Value → Heap → List Loc → Prop} (hws : ∀ x ∈ ws, x < h.size ∧ Safe Z EL vm0 h x)
    (hM : MetFree l y (head1 [Cond.code y bytes maxL ret] rm) (fun b U => b = (.ref a :: argsL).toArray ∧ Z.Warmed39 U.vm ∧ U.heap = h ∧ CHv Z EL U.vm h ∧ ∀ x ∈ ws, Safe Z EL U.vm h x) (fun _ _ _ _ _ => True) (fun _ U o U' => ∃ v L, o = .returned v ∧ Q v U'.heap L ∧ CHr Z EL U.vm U.heap U'.vm U'.heap ∧ ReturnedEndW U o U' L rm.cells rm.slots))
    (eT : T.heap = h) (E : Exa Z h a C0) {W : Nat} (hf : rm.frames + 1 ≤ R.frames) (hl : W + (maxL + 11) + rm.locals ≤ R.locals) (hc : cells + rm.cells ≤ R.cells) (hsl : slots + rm.slots ≤ R.slots)
    {g : JFrame} (hg : g.method = m) (hsize : g.locals.size = c.maxLocals) {rest : List Value} (hlen : ∀ sig, parseMethodDescriptor y.desc = some sig → argsL.length = sig.parameters.length)
    (hstack : g.stack = argsL.reverse ++ .ref a :: rest) (hW : 2 * g.monitorRoom + (rest.map fun v => v.category).sum ≤ W) (hdg : decode c.code g.pc = .ok (.invokevirtual index, 3)) :
    ∃ (v : Option Value) (vm1 : Vm) (T' : State) (L : List Loc), After p l e R s m args below meth c own Z EL vm0 h vm1 T' (locs ++ L) (cells + rm.cells) (slots + rm.slots) ∧ Q v T'.heap L ∧
      ∀ t, Steps p.tables e below (T'.setTop { g with pc := g.pc + 3, stack := v.toList ++ rest }) t → Steps p.tables e below (T.setTop g) t := by
  obtain ⟨⟨k0, hS, hk⟩, CC⟩ := C
  obtain ⟨cB, kB, qa, qb, qc⟩ := isOf hZ eT E
  obtain ⟨v, _, ⟨U, Ls, k, n⟩, -, X', hS', hgr, ⟨Lc, hQ, l1, y1, z1, cr⟩, st⟩ := X.virtualBackS hx (y := y) (z := y) hown (mvT hZ w1) (mvT hZ w2) (notFace_of_selects (args := #[]) (mvT hZ w5)) (mvT hZ w5) (mvT hZ w6) hy (own_backW (W := W) hM hZ w4 w3 hf hl hEL CC.1 hws) qa qc hg hsize (Steps.refl _) (argsL := argsL) (rest := rest) hlen hstack hW hdg (fun _ _ => ⟨rfl, eT, hc, hsl⟩)
  dsimp only [Pt.U, Pt.locs, Pt.cells, Pt.slots] at X' hS' hgr l1 y1 z1 cr st hQ
  subst l1 y1 z1
  obtain ⟨X2, S2, Z2, O2⟩ := rebS hS (eT ▸ hk) X' hS' hgr hZ hown
  exact ⟨v, U.vm, U, Lc, ⟨X2, ⟨⟨_, S2, Nat.le_refl _⟩, CC.trans cr⟩, Z2, O2, fun x hx hs => cr.safe hx hs⟩, hQ, fun t k => st.trans k⟩
/-- ldc of a String constant of EL: it is read -/
theorem own_ldcW (X : Stand p l e R (s.setVm vm0) m args below meth c T locs cells slots) (hx : p.tables.exec = Jvm.exec) (hZ : Z.Warmed39 (s.setVm vm0).vm) (hEL : EW Z a0 EL) (C : Cold Z EL s vm0 h) {own text : String} {index : Nat} (hown : (s.setVm vm0).vm.findClass own = some m.cls)
    (w : (Cond.stringLink own index text).before a0 Z = true) (wS : ∀ a ∈ Bundle.stringAtoms, a.before a0 Z = true) (eT : T.heap = h) (hmem : (own, index) ∈ EL)
    {vs : List Value} {k : Nat} (ht : (∀ c ∈ text.toList, c.toNat < 256) ∧ text.toList.map (fun c => Value.int (Jvm.Lit.byteI c.toNat.toUInt16)) = vs) (hk : k = vs.length) (hk31 : k < 2 ^ 31)
    {g : JFrame} (hg : g.method = m) (hd : decode c.code g.pc = .ok (.ldc index, 2)) {n : Nat} (hn : 4 * text.toList.length ≤ n) (hbig : n ≤ 536870912) (hc : cells + 2 ≤ R.cells) (hl' : slots + (n + 4) ≤ R.slots) :
    ∃ (a b : Addr) (vm1 : Vm) (T' : State) (h' : Heap), After p l e R s m args below meth c own Z EL vm0 h vm1 T' locs (cells + 2) (slots + (n + 4)) ∧ T'.heap = h' ∧ Ext h h' ∧
      Exa Z h' a "java/lang/String" ∧ Fld Z h' a "java/lang/String" "value" "[B" (.ref b) ∧ Fld Z h' a "java/lang/String" "coder" "B" (.int 0) ∧ OA Z h' b .byte k (fun i => vs.getD i (.int 0)) ∧ Lit (s.setVm vm1) own index a ∧ (∀ x, Safe Z EL vm1 h' x → x ≠ a ∧ x ≠ b) ∧
      ∀ t, Steps p.tables e below (T'.setTop { g with pc := g.pc + 2, stack := .ref a :: g.stack }) t → Steps p.tables e below (T.setTop g) t := by
  obtain ⟨⟨k0, hS, hk0⟩, CC⟩ := C
  obtain ⟨a, T', h', k1, b, kc, X', e', E', hS', hk', Z', O', Ex, Fc, Fv, Av, la, lb, cr, L, sf, st⟩ := ldcCH X hx hZ hown w wS eT hS hk0 hEL hmem CC.1 (vs := vs) (z := Int32.ofNat k) ht (own_nneg k hk31) (by rw [own_clamp k hk31]; exact hk) hg hd hn hbig hc hl'
  subst e'
  exact ⟨a, b, T'.vm, T', _, ⟨X', ⟨⟨k1, hS', hk'⟩, CC.trans cr⟩, Z', O', fun x hx hs => cr.safe hx hs⟩, rfl, E', Ex, Fv, Fc, OA.of_arv Av (own_clamp k hk31) (fun i hi => rfl), L, sf, st⟩
theorem own_ldcAgainW (X : Stand p l e R (s.setVm vm0) m args below meth c T locs cells slots) (hx : p.tables.exec = Jvm.exec) (hZ : Z.Warmed39 (s.setVm vm0).vm) {own text : String} {index : Nat} (hown : (s.setVm vm0).vm.findClass own = some m.cls)
    (w : (Cond.stringLink own index text).before a0 Z = true) {a : Addr} (L : Lit (s.setVm vm0) own index a) {g : JFrame} (hg : g.method = m) (hd : decode c.code g.pc = .ok (.ldc index, 2)) :
    ∀ t, Steps p.tables e below (T.setTop { g with pc := g.pc + 2, stack := .ref a :: g.stack }) t → Steps p.tables e below (T.setTop g) t := ldcAgain X hx hZ hown w L hg hd
end OwnCold

theorem own_EW {Z : State} {a0 : Array Value} (hw : ∀ d ∈ tables_1, d.before a0 Z = true) : EW Z a0 consts_1 := (EW.cons (own_w hw 67 rfl) (by decide) (EW.cons (own_w hw 147 rfl) (by decide) (EW.cons (own_w hw 52 rfl) (by decide) EW.nil)))
theorem own_wS {Z : State} {a0 : Array Value} (hw : ∀ d ∈ tables_1, d.before a0 Z = true) : ∀ a ∈ Bundle.stringAtoms, a.before a0 Z = true := by
  intro a ha
  simp only [Bundle.stringAtoms, List.mem_cons, List.not_mem_nil, or_false] at ha
  rcases ha with rfl | rfl | rfl | rfl | rfl | rfl | rfl
  · exact (own_w hw 10 rfl)
  · exact (own_w hw 9 rfl)
  · exact (own_w hw 27 rfl)
  · exact (own_w hw 37 rfl)
  · exact (own_w hw 35 rfl)
  · exact (own_w hw 53 rfl)
  · exact (own_w hw 54 rfl)
theorem own_allS {P : Addr → Prop} {y : Addr} {L : List Addr} (q : P y) (r : ∀ x ∈ L, P x) : ∀ x ∈ y :: L, P x := allS q r
theorem ef_pci (m : MethodId) (x0 : Int32) (x1 : Int32) (x2 : Value) (hx2 : x2.isRef = true) : entryFrame m #[(.int x0), (.int x1), x2] 3 = mkF m 0 #[.val (.int x0), .val (.int x1), .val x2] [] := by cases x2 <;> simp [Value.isRef] at hx2 <;> first | (simp [entryFrame, mkF, argsToLocals, Value.category]; done) | rfl
theorem pn_jdk_internal_util_Preconditions : plainName "jdk/internal/util/Preconditions" = true := by first | (simp [plainName, overriddenIn]; done) | decide +kernel
theorem q0_0 : decode c0_ 0 = .ok (.iload_n 0, 1) := by decide +kernel
theorem q0_1 : decode c0_ 1 = .ok (.ifCond .lt 8, 3) := by decide +kernel
theorem q0_4 : decode c0_ 4 = .ok (.iload_n 0, 1) := by decide +kernel
theorem q0_5 : decode c0_ 5 = .ok (.iload_n 1, 1) := by decide +kernel
theorem q0_6 : decode c0_ 6 = .ok (.if_icmp .lt 10, 3) := by decide +kernel
theorem q0_16 : decode c0_ 16 = .ok (.iload_n 0, 1) := by decide +kernel
theorem q0_17 : decode c0_ 17 = .ok (.ireturn, 1) := by decide +kernel
def Q_pci (Z : State) (cs : Int32) (fm : Value) (i n : Nat) (h0 : Heap) (n0 : Nat) (v : Option Value) (h : Heap) (L : List Loc) : Prop := v = some (.int (Int32.ofNat i)) ∧ Fr n0 L ∧ h = h0
set_option maxRecDepth 65536 in
set_option maxHeartbeats 40000000 in
theorem rm_pci (l : Launch) (Z : State) (a0 : Array Value) (hw : ∀ d ∈ tables_1, d.before a0 Z = true) (ws : List Jvm.Cond) (cs : Int32) (fm : Value) (i n : Nat) (h0 : Heap) (n0 : Nat) (Z0 : n0 ≤ h0.size) (ST : own_ST Z cs fm) (OO : Old Z n0 h0) (hfm : fm.isRef = true) (hi : i < n) (hn : n < 2 ^ 31) :
    MetFree l (⟨"jdk/internal/util/Preconditions", "checkIndex", "(IILjava/util/function/BiFunction;)I"⟩ : MethodName) (head1 (Jvm.Cond.code (⟨"jdk/internal/util/Preconditions", "checkIndex", "(IILjava/util/function/BiFunction;)I"⟩ : MethodName) jdk_41_method_11_code 3 (some .int) :: ws) ({ frames := 0, cells := 0, slots := 0, locals := 0 } : Room)) (fun a U => a = #[(.int (Int32.ofNat i)), (.int (Int32.ofNat n)), fm] ∧ Z.Warmed39 U.vm ∧ U.heap = h0) (fun _ _ _ _ _ => True) (fun _ U o U' => ∃ v L, o = .returned v ∧ Q_pci Z cs fm i n h0 n0 v U'.heap L ∧ FrameEnd U o U' L ({ frames := 0, cells := 0, slots := 0, locals := 0 } : Room).cells ({ frames := 0, cells := 0, slots := 0, locals := 0 } : Room).slots) := by
  refine MetFree.of_bodySF (plainFor_of_name pn_jdk_internal_util_Preconditions) hisR ?_
  intro p ee s m args below meth cc s₁ Bd hml0 hP hK
  obtain ⟨rfl, hZ, hh⟩ := hP
  have hx := Bd.exec
  have hby := Bd.bytes
  have hml : cc.maxLocals = 3 := hml0
  have hown : s.vm.findClass "jdk/internal/util/Preconditions" = some m.cls := findClass_of_methodNamed Bd.named
  have hnm := (name_of_methodNamed Bd.named Bd.method).1
  have X0 : Stand p l ee ({ frames := 0, cells := 0, slots := 0, locals := 0 } : Room) s m #[(.int (Int32.ofNat i)), (.int (Int32.ofNat n)), fm] below meth cc s₁ [] 0 0 := Stand.of_body Bd
  have e0 : s₁.heap = h0 := by rw [← hh, Bd.state]; rfl
  have N0 := Fr.nil n0
  show Goes p ee below s ({ frames := 0, cells := 0, slots := 0, locals := 0 } : Room).cells ({ frames := 0, cells := 0, slots := 0, locals := 0 } : Room).slots (Q_pci Z cs fm i n h0 n0) (s₁.setTop (entryFrame m #[(.int (Int32.ofNat i)), (.int (Int32.ofNat n)), fm] 3))
  refine gS (fun _ r => castTop (ef_pci m (Int32.ofNat i) (Int32.ofNat n) fm hfm) r) ?_
  show Goes p ee below s _ _ _ (s₁.setTop (mkF m 0 #[vN i, vN n, .val fm] []))
  refine gS (fun _ r => XS.iloadN X0.here hx rfl (hb hby q0_0) rfl  r) ?_
  refine gS (fun _ r => XS.ifNo X0.here hx rfl (hb hby q0_1) rfl ((if0 _ _).trans (flt (own_nneg i (by omega))).1) r) ?_
  refine gS (fun _ r => XS.iloadN X0.here hx rfl (hb hby q0_4) rfl  r) ?_
  refine gS (fun _ r => XS.iloadN X0.here hx rfl (hb hby q0_5) rfl  r) ?_
  refine gS (fun _ r => XS.icmpYes X0.here hx rfl (pc0 := 6) (pc' := 16) rfl (hb hby q0_6) rfl (tlt ((own_ltN i n (by omega) hn).mpr hi)).1 (by decide) (by decide) r) ?_
  refine gS (fun _ r => XS.iloadN X0.here hx rfl (hb hby q0_16) rfl  r) ?_
  show Goes p ee below s _ _ _ (s₁.setTop (mkF m 17 #[vN i, vN n, .val fm] [(.int (Int32.ofNat i))]))
  refine Goes.retI X0 hx Bd.notSynchronized Bd.returns (hb hby q0_17) (by decide) (by decide) ?_
  exact ⟨rfl, N0, e0⟩
theorem ef_sci (m : MethodId) (x0 : Int32) (x1 : Int32) : entryFrame m #[(.int x0), (.int x1)] 2 = mkF m 0 #[.val (.int x0), .val (.int x1)] [] := by first | (simp [entryFrame, mkF, argsToLocals, Value.category]; done) | rfl
theorem pn_java_lang_String : plainName "java/lang/String" = true := by first | (simp [plainName, overriddenIn]; done) | decide +kernel
theorem q1_0 : decode c1_ 0 = .ok (.iload_n 0, 1) := by decide +kernel
theorem q1_1 : decode c1_ 1 = .ok (.iload_n 1, 1) := by decide +kernel
theorem q1_2 : decode c1_ 2 = .ok (.getstatic 1053, 3) := by decide +kernel
theorem pd_0 : parseMethodDescriptor "(IILjava/util/function/BiFunction;)I" = some ⟨[.int, .int, (.object "java/util/function/BiFunction")], some .int⟩ := by decide +kernel
theorem q1_5 : decode c1_ 5 = .ok (.invokestatic 1059, 3) := by decide +kernel
theorem q1_8 : decode c1_ 8 = .ok (.pop, 1) := by decide +kernel
theorem q1_9 : decode c1_ 9 = .ok (.return_, 1) := by decide +kernel
def Q_sci (Z : State) (cs : Int32) (fm : Value) (i n : Nat) (h0 : Heap) (n0 : Nat) (v : Option Value) (h : Heap) (L : List Loc) : Prop := v = none ∧ Fr n0 L ∧ h = h0
set_option maxRecDepth 65536 in
set_option maxHeartbeats 40000000 in
theorem rm_sci (l : Launch) (Z : State) (a0 : Array Value) (hw : ∀ d ∈ tables_1, d.before a0 Z = true) (ws : List Jvm.Cond) (cs : Int32) (fm : Value) (i n : Nat) (h0 : Heap) (n0 : Nat) (Z0 : n0 ≤ h0.size) (ST : own_ST Z cs fm) (OO : Old Z n0 h0) (hi : i < n) (hn : n < 2 ^ 31) :
    MetFree l (⟨"java/lang/String", "checkIndex", "(II)V"⟩ : MethodName) (head1 (Jvm.Cond.code (⟨"java/lang/String", "checkIndex", "(II)V"⟩ : MethodName) jdk_42_method_155_code 2 none :: ws) ({ frames := 1, cells := 0, slots := 0, locals := 14 } : Room)) (fun a U => a = #[(.int (Int32.ofNat i)), (.int (Int32.ofNat n))] ∧ Z.Warmed39 U.vm ∧ U.heap = h0) (fun _ _ _ _ _ => True) (fun _ U o U' => ∃ v L, o = .returned v ∧ Q_sci Z cs fm i n h0 n0 v U'.heap L ∧ FrameEnd U o U' L ({ frames := 1, cells := 0, slots := 0, locals := 14 } : Room).cells ({ frames := 1, cells := 0, slots := 0, locals := 14 } : Room).slots) := by
  refine MetFree.of_bodySF (plainFor_of_name pn_java_lang_String) hisR ?_
  intro p ee s m args below meth cc s₁ Bd hml0 hP hK
  obtain ⟨rfl, hZ, hh⟩ := hP
  have hx := Bd.exec
  have hby := Bd.bytes
  have hml : cc.maxLocals = 2 := hml0
  have hown : s.vm.findClass "java/lang/String" = some m.cls := findClass_of_methodNamed Bd.named
  have hnm := (name_of_methodNamed Bd.named Bd.method).1
  have X0 : Stand p l ee ({ frames := 1, cells := 0, slots := 0, locals := 14 } : Room) s m #[(.int (Int32.ofNat i)), (.int (Int32.ofNat n))] below meth cc s₁ [] 0 0 := Stand.of_body Bd
  have e0 : s₁.heap = h0 := by rw [← hh, Bd.state]; rfl
  have N0 := Fr.nil n0
  show Goes p ee below s ({ frames := 1, cells := 0, slots := 0, locals := 14 } : Room).cells ({ frames := 1, cells := 0, slots := 0, locals := 14 } : Room).slots (Q_sci Z cs fm i n h0 n0) (s₁.setTop (entryFrame m #[(.int (Int32.ofNat i)), (.int (Int32.ofNat n))] 2))
  refine gS (fun _ r => castTop (ef_sci m (Int32.ofNat i) (Int32.ofNat n)) r) ?_
  show Goes p ee below s _ _ _ (s₁.setTop (mkF m 0 #[vN i, vN n] []))
  refine gS (fun _ r => XS.iloadN X0.here hx rfl (hb hby q1_0) rfl  r) ?_
  refine gS (fun _ r => XS.iloadN X0.here hx rfl (hb hby q1_1) rfl  r) ?_
  obtain ⟨T1, X1, e1, st1⟩ := getS X0 hx hZ (host := "") hown (own_w hw 159 rfl) Via.refl e0 ((ST.2.2.1).ext OO.2) (g := (mkF m 2 #[vN i, vN n] [(.int (Int32.ofNat n)), (.int (Int32.ofNat i))])) rfl (hb hby q1_2)
  refine gS st1 ?_
  obtain ⟨v2, T2, L2, X2, hQ2, st2⟩ := own_callS X1 hx hZ (y := (⟨"jdk/internal/util/Preconditions", "checkIndex", "(IILjava/util/function/BiFunction;)I"⟩ : MethodName)) hown (own_w hw 161 rfl) (own_w hw 162 rfl) (own_w hw 160 rfl) (own_w hw 163 rfl) (by decide) (argsL := [(.int (Int32.ofNat i)), (.int (Int32.ofNat n)), fm]) (rm_pci l Z a0 hw [] cs fm i n h0 n0 Z0 ST OO (ST.2.2.2.1) hi hn) e1 (W := 0) (by decide) (by decide) (by decide) (by decide) (g := (mkF m 5 #[vN i, vN n] [fm, (.int (Int32.ofNat n)), (.int (Int32.ofNat i))])) rfl (by rw [hml]; rfl) (rest := []) (lenOf pd_0 rfl) rfl (by show 2 * 0 + _ ≤ _; exact Nat.le_of_eq rfl) (hb hby q1_5)
  refine gS st2 ?_
  obtain ⟨rfl, N2, e2⟩ := hQ2
  have N3 := Fr.app N0 N2
  refine gS (fun _ r => XT.pop X2.here hx rfl (hb hby q1_8) rfl rfl r) ?_
  show Goes p ee below s _ _ _ (T2.setTop (mkF m 9 #[vN i, vN n] []))
  refine Goes.retV X2 hx Bd.notSynchronized Bd.returns (hb hby q1_9) (by decide) (by decide) ?_
  exact ⟨rfl, N3, e2⟩
theorem ef_l1c (m : MethodId) (x0 : Addr) (x1 : Int32) : entryFrame m #[(.ref x0), (.int x1)] 2 = mkF m 0 #[.val (.ref x0), .val (.int x1)] [] := by first | (simp [entryFrame, mkF, argsToLocals, Value.category]; done) | rfl
theorem pn_java_lang_StringLatin1 : plainName "java/lang/StringLatin1" = true := by first | (simp [plainName, overriddenIn]; done) | decide +kernel
theorem q2_0 : decode c2_ 0 = .ok (.iload_n 1, 1) := by decide +kernel
theorem q2_1 : decode c2_ 1 = .ok (.aload_n 0, 1) := by decide +kernel
theorem q2_2 : decode c2_ 2 = .ok (.arraylength, 1) := by decide +kernel
theorem pd_1 : parseMethodDescriptor "(II)V" = some ⟨[.int, .int], none⟩ := by decide +kernel
theorem q2_3 : decode c2_ 3 = .ok (.invokestatic 9, 3) := by decide +kernel
theorem q2_6 : decode c2_ 6 = .ok (.aload_n 0, 1) := by decide +kernel
theorem q2_7 : decode c2_ 7 = .ok (.iload_n 1, 1) := by decide +kernel
theorem q2_8 : decode c2_ 8 = .ok (.baload, 1) := by decide +kernel
theorem q2_9 : decode c2_ 9 = .ok (.sipush 255, 3) := by decide +kernel
theorem q2_12 : decode c2_ 12 = .ok (.iand, 1) := by decide +kernel
theorem q2_13 : decode c2_ 13 = .ok (.i2c, 1) := by decide +kernel
theorem q2_14 : decode c2_ 14 = .ok (.ireturn, 1) := by decide +kernel
def Q_l1c (Z : State) (cs : Int32) (fm : Value) (a1 : Addr) (i n : Nat) (c : Nat → Nat) (h0 : Heap) (n0 : Nat) (v : Option Value) (h : Heap) (L : List Loc) : Prop := v = some (.int (Int32.ofNat (c i))) ∧ Fr n0 L ∧ h = h0
set_option maxRecDepth 65536 in
set_option maxHeartbeats 40000000 in
theorem rm_l1c (l : Launch) (Z : State) (a0 : Array Value) (hw : ∀ d ∈ tables_1, d.before a0 Z = true) (ws : List Jvm.Cond) (cs : Int32) (fm : Value) (a1 : Addr) (i n : Nat) (c : Nat → Nat) (h0 : Heap) (n0 : Nat) (Z0 : n0 ≤ h0.size) (ST : own_ST Z cs fm) (OO : Old Z n0 h0) (hi : i < n) (hn : n < 2 ^ 31) (hc : c i < 256) (A : OA Z h0 a1 .byte n (own_by false c)) :
    MetFree l (⟨"java/lang/StringLatin1", "charAt", "([BI)C"⟩ : MethodName) (head1 (Jvm.Cond.code (⟨"java/lang/StringLatin1", "charAt", "([BI)C"⟩ : MethodName) jdk_43_method_2_code 2 (some .char) :: ws) ({ frames := 2, cells := 0, slots := 0, locals := 27 } : Room)) (fun a U => a = #[(.ref a1), (.int (Int32.ofNat i))] ∧ Z.Warmed39 U.vm ∧ U.heap = h0) (fun _ _ _ _ _ => True) (fun _ U o U' => ∃ v L, o = .returned v ∧ Q_l1c Z cs fm a1 i n c h0 n0 v U'.heap L ∧ FrameEnd U o U' L ({ frames := 2, cells := 0, slots := 0, locals := 27 } : Room).cells ({ frames := 2, cells := 0, slots := 0, locals := 27 } : Room).slots) := by
  refine MetFree.of_bodySF (plainFor_of_name pn_java_lang_StringLatin1) hisR ?_
  intro p ee s m args below meth cc s₁ Bd hml0 hP hK
  obtain ⟨rfl, hZ, hh⟩ := hP
  have hx := Bd.exec
  have hby := Bd.bytes
  have hml : cc.maxLocals = 2 := hml0
  have hown : s.vm.findClass "java/lang/StringLatin1" = some m.cls := findClass_of_methodNamed Bd.named
  have hnm := (name_of_methodNamed Bd.named Bd.method).1
  have X0 : Stand p l ee ({ frames := 2, cells := 0, slots := 0, locals := 27 } : Room) s m #[(.ref a1), (.int (Int32.ofNat i))] below meth cc s₁ [] 0 0 := Stand.of_body Bd
  have e0 : s₁.heap = h0 := by rw [← hh, Bd.state]; rfl
  have N0 := Fr.nil n0
  show Goes p ee below s ({ frames := 2, cells := 0, slots := 0, locals := 27 } : Room).cells ({ frames := 2, cells := 0, slots := 0, locals := 27 } : Room).slots (Q_l1c Z cs fm a1 i n c h0 n0) (s₁.setTop (entryFrame m #[(.ref a1), (.int (Int32.ofNat i))] 2))
  refine gS (fun _ r => castTop (ef_l1c m a1 (Int32.ofNat i)) r) ?_
  show Goes p ee below s _ _ _ (s₁.setTop (mkF m 0 #[vR a1, vN i] []))
  refine gS (fun _ r => XS.iloadN X0.here hx rfl (hb hby q2_0) rfl  r) ?_
  refine gS (fun _ r => XS.aloadN X0.here hx rfl (hb hby q2_1) rfl rfl r) ?_
  refine gS (own_alen X0 hx hZ e0 A (z := (Int32.ofNat n)) rfl (g := (mkF m 2 #[vR a1, vN i] [(.ref a1), (.int (Int32.ofNat i))])) rfl rfl (hb hby q2_2)) ?_
  have lt_a1 := A.lt
  obtain ⟨v1, T1, L1, X1, hQ1, st1⟩ := own_callS X0 hx hZ (y := (⟨"java/lang/String", "checkIndex", "(II)V"⟩ : MethodName)) hown (own_w hw 156 rfl) (own_w hw 157 rfl) (own_w hw 10 rfl) (own_w hw 158 rfl) (by decide) (argsL := [(.int (Int32.ofNat i)), (.int (Int32.ofNat n))]) (rm_sci l Z a0 hw [] cs fm i n h0 n0 Z0 ST OO hi hn) e0 (W := 0) (by decide) (by decide) (by decide) (by decide) (g := (mkF m 3 #[vR a1, vN i] [(.int (Int32.ofNat n)), (.int (Int32.ofNat i))])) rfl (by rw [hml]; rfl) (rest := []) (lenOf pd_1 rfl) rfl (by show 2 * 0 + _ ≤ _; exact Nat.le_of_eq rfl) (hb hby q2_3)
  refine gS st1 ?_
  obtain ⟨rfl, N1, e1⟩ := hQ1
  have N2 := Fr.app N0 N1
  refine gS (fun _ r => XS.aloadN X1.here hx rfl (hb hby q2_6) rfl rfl r) ?_
  refine gS (fun _ r => XS.iloadN X1.here hx rfl (hb hby q2_7) rfl  r) ?_
  show Goes p ee below s _ _ _ (T1.setTop (mkF m 8 #[vR a1, vN i] [(.int (Int32.ofNat i)), (.ref a1)]))
  refine gS (own_baload X1 hx hZ e1 A (j := (Int32.ofNat i)) (own_nneg i (by omega)) (k := i) (own_clamp i (by omega)) hi (v := (.int (own_bt (c i)))) rfl (g := (mkF m 8 #[vR a1, vN i] [(.int (Int32.ofNat i)), (.ref a1)])) rfl rfl (hb hby q2_8)) ?_
  refine gS (fun _ r => XS.sipush X1.here hx rfl (hb hby q2_9) r) ?_
  refine gS (fun _ r => XS.iand X1.here hx rfl (hb hby q2_12) rfl r) ?_
  show Goes p ee below s _ _ _ (T1.setTop (mkF m 13 #[vR a1, vN i] [(.int ((own_bt (c i)) &&& (255 : Int32)))]))
  rw [own_bt255 (c i) (by omega), Nat.mod_eq_of_lt hc]
  show Goes p ee below s _ _ _ (T1.setTop (mkF m 13 #[vR a1, vN i] [(.int (Int32.ofNat (c i)))]))
  refine gS (fun _ r => XT.i2c X1.here hx rfl (hb hby q2_13) rfl r) ?_
  show Goes p ee below s _ _ _ (T1.setTop (mkF m 14 #[vR a1, vN i] [(.int (Int32.ofNat (c i)).toUInt32.toUInt16.toUInt32.toInt32)]))
  rw [own_i2c (c i) (by omega)]
  show Goes p ee below s _ _ _ (T1.setTop (mkF m 14 #[vR a1, vN i] [(.int (Int32.ofNat (c i)))]))
  refine Goes.retZ X1 hx Bd.notSynchronized Bd.returns (by simp) (own_nchar (c i) (by omega)) (hb hby q2_14) (by decide) (by decide) ?_
  exact ⟨rfl, N2, e1⟩
theorem ef_u16l (m : MethodId) (x0 : Addr) : entryFrame m #[(.ref x0)] 1 = mkF m 0 #[.val (.ref x0)] [] := by first | (simp [entryFrame, mkF, argsToLocals, Value.category]; done) | rfl
theorem pn_java_lang_StringUTF16 : plainName "java/lang/StringUTF16" = true := by first | (simp [plainName, overriddenIn]; done) | decide +kernel
theorem q3_0 : decode c3_ 0 = .ok (.aload_n 0, 1) := by decide +kernel
theorem q3_1 : decode c3_ 1 = .ok (.arraylength, 1) := by decide +kernel
theorem q3_2 : decode c3_ 2 = .ok (.iconst 1, 1) := by decide +kernel
theorem q3_3 : decode c3_ 3 = .ok (.ishr, 1) := by decide +kernel
theorem q3_4 : decode c3_ 4 = .ok (.ireturn, 1) := by decide +kernel
def Q_u16l (Z : State) (cs : Int32) (fm : Value) (a1 : Addr) (n : Nat) (f : Nat → Value) (h0 : Heap) (n0 : Nat) (v : Option Value) (h : Heap) (L : List Loc) : Prop := v = some (.int (Int32.ofNat n)) ∧ Fr n0 L ∧ h = h0
set_option maxRecDepth 65536 in
set_option maxHeartbeats 40000000 in
theorem rm_u16l (l : Launch) (Z : State) (a0 : Array Value) (hw : ∀ d ∈ tables_1, d.before a0 Z = true) (ws : List Jvm.Cond) (cs : Int32) (fm : Value) (a1 : Addr) (n : Nat) (f : Nat → Value) (h0 : Heap) (n0 : Nat) (Z0 : n0 ≤ h0.size) (ST : own_ST Z cs fm) (OO : Old Z n0 h0) (hn : n < 2 ^ 30) (A : OA Z h0 a1 .byte (2 * n) f) :
    MetFree l (⟨"java/lang/StringUTF16", "length", "([B)I"⟩ : MethodName) (head1 (Jvm.Cond.code (⟨"java/lang/StringUTF16", "length", "([B)I"⟩ : MethodName) jdk_52_method_6_code 1 (some .int) :: ws) ({ frames := 0, cells := 0, slots := 0, locals := 0 } : Room)) (fun a U => a = #[(.ref a1)] ∧ Z.Warmed39 U.vm ∧ U.heap = h0) (fun _ _ _ _ _ => True) (fun _ U o U' => ∃ v L, o = .returned v ∧ Q_u16l Z cs fm a1 n f h0 n0 v U'.heap L ∧ FrameEnd U o U' L ({ frames := 0, cells := 0, slots := 0, locals := 0 } : Room).cells ({ frames := 0, cells := 0, slots := 0, locals := 0 } : Room).slots) := by
  refine MetFree.of_bodySF (plainFor_of_name pn_java_lang_StringUTF16) hisR ?_
  intro p ee s m args below meth cc s₁ Bd hml0 hP hK
  obtain ⟨rfl, hZ, hh⟩ := hP
  have hx := Bd.exec
  have hby := Bd.bytes
  have hml : cc.maxLocals = 1 := hml0
  have hown : s.vm.findClass "java/lang/StringUTF16" = some m.cls := findClass_of_methodNamed Bd.named
  have hnm := (name_of_methodNamed Bd.named Bd.method).1
  have X0 : Stand p l ee ({ frames := 0, cells := 0, slots := 0, locals := 0 } : Room) s m #[(.ref a1)] below meth cc s₁ [] 0 0 := Stand.of_body Bd
  have e0 : s₁.heap = h0 := by rw [← hh, Bd.state]; rfl
  have N0 := Fr.nil n0
  show Goes p ee below s ({ frames := 0, cells := 0, slots := 0, locals := 0 } : Room).cells ({ frames := 0, cells := 0, slots := 0, locals := 0 } : Room).slots (Q_u16l Z cs fm a1 n f h0 n0) (s₁.setTop (entryFrame m #[(.ref a1)] 1))
  refine gS (fun _ r => castTop (ef_u16l m a1) r) ?_
  show Goes p ee below s _ _ _ (s₁.setTop (mkF m 0 #[vR a1] []))
  refine gS (fun _ r => XS.aloadN X0.here hx rfl (hb hby q3_0) rfl rfl r) ?_
  refine gS (own_alen X0 hx hZ e0 A (z := (Int32.ofNat (2 * n))) rfl (g := (mkF m 1 #[vR a1] [(.ref a1)])) rfl rfl (hb hby q3_1)) ?_
  refine gS (fun _ r => XS.iconst X0.here hx rfl (hb hby q3_2) r) ?_
  refine gS (fun _ r => XT.ishr X0.here hx rfl (hb hby q3_3) rfl r) ?_
  show Goes p ee below s _ _ _ (s₁.setTop (mkF m 4 #[vR a1] [(.int ((Int32.ofNat (2 * n)) >>> ((1 : Int32) &&& 31)))]))
  rw [own_shr1 n hn]
  show Goes p ee below s _ _ _ (s₁.setTop (mkF m 4 #[vR a1] [(.int (Int32.ofNat n))]))
  refine Goes.retI X0 hx Bd.notSynchronized Bd.returns (hb hby q3_4) (by decide) (by decide) ?_
  exact ⟨rfl, N0, e0⟩
theorem ef_getc (m : MethodId) (x0 : Addr) (x1 : Int32) : entryFrame m #[(.ref x0), (.int x1)] 2 = mkF m 0 #[.val (.ref x0), .val (.int x1)] [] := by first | (simp [entryFrame, mkF, argsToLocals, Value.category]; done) | rfl
theorem q4_0 : decode c4_ 0 = .ok (.getstatic 44, 3) := by decide +kernel
theorem q4_3 : decode c4_ 3 = .ok (.ifCond .ne 25, 3) := by decide +kernel
theorem q4_28 : decode c4_ 28 = .ok (.iload_n 1, 1) := by decide +kernel
theorem q4_29 : decode c4_ 29 = .ok (.iconst 1, 1) := by decide +kernel
theorem q4_30 : decode c4_ 30 = .ok (.ishl, 1) := by decide +kernel
theorem q4_31 : decode c4_ 31 = .ok (.istore_n 1, 1) := by decide +kernel
theorem q4_32 : decode c4_ 32 = .ok (.aload_n 0, 1) := by decide +kernel
theorem q4_33 : decode c4_ 33 = .ok (.iload_n 1, 1) := by decide +kernel
theorem q4_34 : decode c4_ 34 = .ok (.iinc 1 1, 3) := by decide +kernel
theorem q4_37 : decode c4_ 37 = .ok (.baload, 1) := by decide +kernel
theorem q4_38 : decode c4_ 38 = .ok (.sipush 255, 3) := by decide +kernel
theorem q4_41 : decode c4_ 41 = .ok (.iand, 1) := by decide +kernel
theorem q4_42 : decode c4_ 42 = .ok (.getstatic 59, 3) := by decide +kernel
theorem q4_45 : decode c4_ 45 = .ok (.ishl, 1) := by decide +kernel
theorem q4_46 : decode c4_ 46 = .ok (.aload_n 0, 1) := by decide +kernel
theorem q4_47 : decode c4_ 47 = .ok (.iload_n 1, 1) := by decide +kernel
theorem q4_48 : decode c4_ 48 = .ok (.baload, 1) := by decide +kernel
theorem q4_49 : decode c4_ 49 = .ok (.sipush 255, 3) := by decide +kernel
theorem q4_52 : decode c4_ 52 = .ok (.iand, 1) := by decide +kernel
theorem q4_53 : decode c4_ 53 = .ok (.getstatic 63, 3) := by decide +kernel
theorem q4_56 : decode c4_ 56 = .ok (.ishl, 1) := by decide +kernel
theorem q4_57 : decode c4_ 57 = .ok (.ior, 1) := by decide +kernel
theorem q4_58 : decode c4_ 58 = .ok (.i2c, 1) := by decide +kernel
theorem q4_59 : decode c4_ 59 = .ok (.ireturn, 1) := by decide +kernel
def Q_getc (Z : State) (cs : Int32) (fm : Value) (a1 : Addr) (i n : Nat) (c : Nat → Nat) (h0 : Heap) (n0 : Nat) (v : Option Value) (h : Heap) (L : List Loc) : Prop := v = some (.int (Int32.ofNat (c i))) ∧ Fr n0 L ∧ h = h0
set_option maxRecDepth 65536 in
set_option maxHeartbeats 40000000 in
theorem rm_getc (l : Launch) (Z : State) (a0 : Array Value) (hw : ∀ d ∈ tables_1, d.before a0 Z = true) (ws : List Jvm.Cond) (cs : Int32) (fm : Value) (a1 : Addr) (i n : Nat) (c : Nat → Nat) (h0 : Heap) (n0 : Nat) (Z0 : n0 ≤ h0.size) (ST : own_ST Z cs fm) (OO : Old Z n0 h0) (hi : i < n) (hn : n < 2 ^ 30) (hc : c i < 65536) (A : OA Z h0 a1 .byte (2 * n) (own_by true c)) :
    MetFree l (⟨"java/lang/StringUTF16", "getChar", "([BI)C"⟩ : MethodName) (head1 (Jvm.Cond.code (⟨"java/lang/StringUTF16", "getChar", "([BI)C"⟩ : MethodName) jdk_52_method_5_code 2 (some .char) :: ws) ({ frames := 0, cells := 0, slots := 0, locals := 0 } : Room)) (fun a U => a = #[(.ref a1), (.int (Int32.ofNat i))] ∧ Z.Warmed39 U.vm ∧ U.heap = h0) (fun _ _ _ _ _ => True) (fun _ U o U' => ∃ v L, o = .returned v ∧ Q_getc Z cs fm a1 i n c h0 n0 v U'.heap L ∧ FrameEnd U o U' L ({ frames := 0, cells := 0, slots := 0, locals := 0 } : Room).cells ({ frames := 0, cells := 0, slots := 0, locals := 0 } : Room).slots) := by
  refine MetFree.of_bodySF (plainFor_of_name pn_java_lang_StringUTF16) hisR ?_
  intro p ee s m args below meth cc s₁ Bd hml0 hP hK
  obtain ⟨rfl, hZ, hh⟩ := hP
  have hx := Bd.exec
  have hby := Bd.bytes
  have hml : cc.maxLocals = 2 := hml0
  have hown : s.vm.findClass "java/lang/StringUTF16" = some m.cls := findClass_of_methodNamed Bd.named
  have hnm := (name_of_methodNamed Bd.named Bd.method).1
  have X0 : Stand p l ee ({ frames := 0, cells := 0, slots := 0, locals := 0 } : Room) s m #[(.ref a1), (.int (Int32.ofNat i))] below meth cc s₁ [] 0 0 := Stand.of_body Bd
  have e0 : s₁.heap = h0 := by rw [← hh, Bd.state]; rfl
  have N0 := Fr.nil n0
  show Goes p ee below s ({ frames := 0, cells := 0, slots := 0, locals := 0 } : Room).cells ({ frames := 0, cells := 0, slots := 0, locals := 0 } : Room).slots (Q_getc Z cs fm a1 i n c h0 n0) (s₁.setTop (entryFrame m #[(.ref a1), (.int (Int32.ofNat i))] 2))
  refine gS (fun _ r => castTop (ef_getc m a1 (Int32.ofNat i)) r) ?_
  show Goes p ee below s _ _ _ (s₁.setTop (mkF m 0 #[vR a1, vN i] []))
  obtain ⟨T1, X1, e1, st1⟩ := getS X0 hx hZ (host := "") hown (own_w hw 263 rfl) Via.refl e0 ((ST.2.2.2.2.1).ext OO.2) (g := (mkF m 0 #[vR a1, vN i] [])) rfl (hb hby q4_0)
  refine gS st1 ?_
  refine gS (fun _ r => XS.ifYes X1.here hx rfl (pc0 := 3) (pc' := 28) rfl (hb hby q4_3) rfl ((if0 _ _).trans (feq (by decide)).2) (by decide) (by decide) r) ?_
  refine gS (fun _ r => XS.iloadN X1.here hx rfl (hb hby q4_28) rfl  r) ?_
  refine gS (fun _ r => XS.iconst X1.here hx rfl (hb hby q4_29) r) ?_
  refine gS (fun _ r => XT.ishl X1.here hx rfl (hb hby q4_30) rfl r) ?_
  show Goes p ee below s _ _ _ (T1.setTop (mkF m 31 #[vR a1, vN i] [(.int ((Int32.ofNat i) <<< ((1 : Int32) &&& 31)))]))
  rw [own_shl1 i (by omega)]
  show Goes p ee below s _ _ _ (T1.setTop (mkF m 31 #[vR a1, vN i] [(.int (Int32.ofNat (2 * i)))]))
  refine gS (fun _ r => XS.istoreN X1.here hx rfl (hb hby q4_31) rfl  (l' := #[vR a1, vN (2 * i)]) rfl r) ?_
  refine gS (fun _ r => XS.aloadN X1.here hx rfl (hb hby q4_32) rfl rfl r) ?_
  refine gS (fun _ r => XS.iloadN X1.here hx rfl (hb hby q4_33) rfl  r) ?_
  refine gS (fun _ r => XS.iinc X1.here hx rfl (hb hby q4_34) rfl (l' := #[vR a1, .val (.int ((Int32.ofNat (2 * i)) + (1 : Int32)))]) rfl r) ?_
  show Goes p ee below s _ _ _ (T1.setTop (mkF m 37 #[vR a1, .val (.int ((Int32.ofNat (2 * i)) + (1 : Int32)))] [(.int (Int32.ofNat (2 * i))), (.ref a1)]))
  rw [show Int32.ofNat (2 * i) + (1 : Int32) = Int32.ofNat (2 * i + 1) from own_addN (2 * i) 1]
  show Goes p ee below s _ _ _ (T1.setTop (mkF m 37 #[vR a1, vN (2 * i + 1)] [(.int (Int32.ofNat (2 * i))), (.ref a1)]))
  refine gS (own_baload X1 hx hZ e1 A (j := (Int32.ofNat (2 * i))) (own_nneg (2 * i) (by omega)) (k := (2 * i)) (own_clamp (2 * i) (by omega)) (by omega) (v := (.int (own_bt (c i)))) (own_by_lo c i) (g := (mkF m 37 #[vR a1, vN (2 * i + 1)] [(.int (Int32.ofNat (2 * i))), (.ref a1)])) rfl rfl (hb hby q4_37)) ?_
  refine gS (fun _ r => XS.sipush X1.here hx rfl (hb hby q4_38) r) ?_
  refine gS (fun _ r => XS.iand X1.here hx rfl (hb hby q4_41) rfl r) ?_
  show Goes p ee below s _ _ _ (T1.setTop (mkF m 42 #[vR a1, vN (2 * i + 1)] [(.int ((own_bt (c i)) &&& (255 : Int32)))]))
  rw [own_bt255 (c i) (by omega)]
  show Goes p ee below s _ _ _ (T1.setTop (mkF m 42 #[vR a1, vN (2 * i + 1)] [(.int (Int32.ofNat (c i % 256)))]))
  obtain ⟨T2, X2, e2, st2⟩ := getS X1 hx hZ (host := "") hown (own_w hw 264 rfl) Via.refl e1 ((ST.2.2.2.2.2.1).ext OO.2) (g := (mkF m 42 #[vR a1, vN (2 * i + 1)] [(.int (Int32.ofNat (c i % 256)))])) rfl (hb hby q4_42)
  refine gS st2 ?_
  refine gS (fun _ r => XT.ishl X2.here hx rfl (hb hby q4_45) rfl r) ?_
  refine gS (fun _ r => XS.aloadN X2.here hx rfl (hb hby q4_46) rfl rfl r) ?_
  refine gS (fun _ r => XS.iloadN X2.here hx rfl (hb hby q4_47) rfl  r) ?_
  refine gS (own_baload X2 hx hZ e2 A (j := (Int32.ofNat (2 * i + 1))) (own_nneg (2 * i + 1) (by omega)) (k := (2 * i + 1)) (own_clamp (2 * i + 1) (by omega)) (by omega) (v := (.int (own_bt (c i / 256)))) (own_by_hi c i) (g := (mkF m 48 #[vR a1, vN (2 * i + 1)] [(.int (Int32.ofNat (2 * i + 1))), (.ref a1), (.int ((Int32.ofNat (c i % 256)) <<< ((0 : Int32) &&& 31)))])) rfl rfl (hb hby q4_48)) ?_
  refine gS (fun _ r => XS.sipush X2.here hx rfl (hb hby q4_49) r) ?_
  show Goes p ee below s _ _ _ (T2.setTop (mkF m 52 #[vR a1, vN (2 * i + 1)] [(.int (255 : Int32)), (.int (own_bt (c i / 256))), (.int ((Int32.ofNat (c i % 256)) <<< ((0 : Int32) &&& 31)))]))
  refine gS (fun _ r => XS.iand X2.here hx rfl (hb hby q4_52) rfl r) ?_
  show Goes p ee below s _ _ _ (T2.setTop (mkF m 53 #[vR a1, vN (2 * i + 1)] [(.int ((own_bt (c i / 256)) &&& (255 : Int32))), (.int ((Int32.ofNat (c i % 256)) <<< ((0 : Int32) &&& 31)))]))
  rw [own_bt255 (c i / 256) (by omega)]
  show Goes p ee below s _ _ _ (T2.setTop (mkF m 53 #[vR a1, vN (2 * i + 1)] [(.int (Int32.ofNat (c i / 256 % 256))), (.int ((Int32.ofNat (c i % 256)) <<< ((0 : Int32) &&& 31)))]))
  obtain ⟨T3, X3, e3, st3⟩ := getS X2 hx hZ (host := "") hown (own_w hw 265 rfl) Via.refl e2 ((ST.2.2.2.2.2.2.1).ext OO.2) (g := (mkF m 53 #[vR a1, vN (2 * i + 1)] [(.int (Int32.ofNat (c i / 256 % 256))), (.int ((Int32.ofNat (c i % 256)) <<< ((0 : Int32) &&& 31)))])) rfl (hb hby q4_53)
  refine gS st3 ?_
  refine gS (fun _ r => XT.ishl X3.here hx rfl (hb hby q4_56) rfl r) ?_
  refine gS (fun _ r => XT.ior X3.here hx rfl (hb hby q4_57) rfl r) ?_
  show Goes p ee below s _ _ _ (T3.setTop (mkF m 58 #[vR a1, vN (2 * i + 1)] [(.int (((Int32.ofNat (c i % 256)) <<< ((0 : Int32) &&& 31)) ||| ((Int32.ofNat (c i / 256 % 256)) <<< ((8 : Int32) &&& 31))))]))
  rw [own_join (c i) hc]
  show Goes p ee below s _ _ _ (T3.setTop (mkF m 58 #[vR a1, vN (2 * i + 1)] [(.int (Int32.ofNat (c i)))]))
  refine gS (fun _ r => XT.i2c X3.here hx rfl (hb hby q4_58) rfl r) ?_
  show Goes p ee below s _ _ _ (T3.setTop (mkF m 59 #[vR a1, vN (2 * i + 1)] [(.int (Int32.ofNat (c i)).toUInt32.toUInt16.toUInt32.toInt32)]))
  rw [own_i2c (c i) hc]
  show Goes p ee below s _ _ _ (T3.setTop (mkF m 59 #[vR a1, vN (2 * i + 1)] [(.int (Int32.ofNat (c i)))]))
  refine Goes.retZ X3 hx Bd.notSynchronized Bd.returns (by simp) (own_nchar (c i) hc) (hb hby q4_59) (by decide) (by decide) ?_
  exact ⟨rfl, N0, e3⟩
theorem ef_u16ci (m : MethodId) (x0 : Int32) (x1 : Addr) : entryFrame m #[(.int x0), (.ref x1)] 2 = mkF m 0 #[.val (.int x0), .val (.ref x1)] [] := by first | (simp [entryFrame, mkF, argsToLocals, Value.category]; done) | rfl
theorem q5_0 : decode c5_ 0 = .ok (.iload_n 0, 1) := by decide +kernel
theorem q5_1 : decode c5_ 1 = .ok (.aload_n 1, 1) := by decide +kernel
theorem pd_2 : parseMethodDescriptor "([B)I" = some ⟨[(.array .byte)], some .int⟩ := by decide +kernel
theorem q5_2 : decode c5_ 2 = .ok (.invokestatic 48, 3) := by decide +kernel
theorem q5_5 : decode c5_ 5 = .ok (.invokestatic 414, 3) := by decide +kernel
theorem q5_8 : decode c5_ 8 = .ok (.return_, 1) := by decide +kernel
def Q_u16ci (Z : State) (cs : Int32) (fm : Value) (i : Nat) (a1 : Addr) (n : Nat) (f : Nat → Value) (h0 : Heap) (n0 : Nat) (v : Option Value) (h : Heap) (L : List Loc) : Prop := v = none ∧ Fr n0 L ∧ h = h0
set_option maxRecDepth 65536 in
set_option maxHeartbeats 40000000 in
theorem rm_u16ci (l : Launch) (Z : State) (a0 : Array Value) (hw : ∀ d ∈ tables_1, d.before a0 Z = true) (ws : List Jvm.Cond) (cs : Int32) (fm : Value) (i : Nat) (a1 : Addr) (n : Nat) (f : Nat → Value) (h0 : Heap) (n0 : Nat) (Z0 : n0 ≤ h0.size) (ST : own_ST Z cs fm) (OO : Old Z n0 h0) (hi : i < n) (hn : n < 2 ^ 30) (A : OA Z h0 a1 .byte (2 * n) f) :
    MetFree l (⟨"java/lang/StringUTF16", "checkIndex", "(I[B)V"⟩ : MethodName) (head1 (Jvm.Cond.code (⟨"java/lang/StringUTF16", "checkIndex", "(I[B)V"⟩ : MethodName) jdk_52_method_91_code 2 none :: ws) ({ frames := 2, cells := 0, slots := 0, locals := 27 } : Room)) (fun a U => a = #[(.int (Int32.ofNat i)), (.ref a1)] ∧ Z.Warmed39 U.vm ∧ U.heap = h0) (fun _ _ _ _ _ => True) (fun _ U o U' => ∃ v L, o = .returned v ∧ Q_u16ci Z cs fm i a1 n f h0 n0 v U'.heap L ∧ FrameEnd U o U' L ({ frames := 2, cells := 0, slots := 0, locals := 27 } : Room).cells ({ frames := 2, cells := 0, slots := 0, locals := 27 } : Room).slots) := by
  refine MetFree.of_bodySF (plainFor_of_name pn_java_lang_StringUTF16) hisR ?_
  intro p ee s m args below meth cc s₁ Bd hml0 hP hK
  obtain ⟨rfl, hZ, hh⟩ := hP
  have hx := Bd.exec
  have hby := Bd.bytes
  have hml : cc.maxLocals = 2 := hml0
  have hown : s.vm.findClass "java/lang/StringUTF16" = some m.cls := findClass_of_methodNamed Bd.named
  have hnm := (name_of_methodNamed Bd.named Bd.method).1
  have X0 : Stand p l ee ({ frames := 2, cells := 0, slots := 0, locals := 27 } : Room) s m #[(.int (Int32.ofNat i)), (.ref a1)] below meth cc s₁ [] 0 0 := Stand.of_body Bd
  have e0 : s₁.heap = h0 := by rw [← hh, Bd.state]; rfl
  have N0 := Fr.nil n0
  show Goes p ee below s ({ frames := 2, cells := 0, slots := 0, locals := 27 } : Room).cells ({ frames := 2, cells := 0, slots := 0, locals := 27 } : Room).slots (Q_u16ci Z cs fm i a1 n f h0 n0) (s₁.setTop (entryFrame m #[(.int (Int32.ofNat i)), (.ref a1)] 2))
  refine gS (fun _ r => castTop (ef_u16ci m (Int32.ofNat i) a1) r) ?_
  show Goes p ee below s _ _ _ (s₁.setTop (mkF m 0 #[vN i, vR a1] []))
  refine gS (fun _ r => XS.iloadN X0.here hx rfl (hb hby q5_0) rfl  r) ?_
  refine gS (fun _ r => XS.aloadN X0.here hx rfl (hb hby q5_1) rfl rfl r) ?_
  have lt_a1 := A.lt
  obtain ⟨v1, T1, L1, X1, hQ1, st1⟩ := own_callS X0 hx hZ (y := (⟨"java/lang/StringUTF16", "length", "([B)I"⟩ : MethodName)) hown (own_w hw 278 rfl) (own_w hw 279 rfl) (own_w hw 25 rfl) (own_w hw 280 rfl) (by decide) (argsL := [(.ref a1)]) (rm_u16l l Z a0 hw [] cs fm a1 n _ h0 n0 Z0 ST OO (by omega) A) e0 (W := 1) (by decide) (by decide) (by decide) (by decide) (g := (mkF m 2 #[vN i, vR a1] [(.ref a1), (.int (Int32.ofNat i))])) rfl (by rw [hml]; rfl) (rest := [(.int (Int32.ofNat i))]) (lenOf pd_2 rfl) rfl (by show 2 * 0 + _ ≤ _; exact Nat.le_of_eq rfl) (hb hby q5_2)
  refine gS st1 ?_
  obtain ⟨rfl, N1, e1⟩ := hQ1
  have N2 := Fr.app N0 N1
  have lt_a1 := A.lt
  obtain ⟨v3, T3, L3, X3, hQ3, st3⟩ := own_callS X1 hx hZ (y := (⟨"java/lang/String", "checkIndex", "(II)V"⟩ : MethodName)) hown (own_w hw 299 rfl) (own_w hw 157 rfl) (own_w hw 10 rfl) (own_w hw 158 rfl) (by decide) (argsL := [(.int (Int32.ofNat i)), (.int (Int32.ofNat n))]) (rm_sci l Z a0 hw [] cs fm i n h0 n0 Z0 ST OO hi (by omega)) e1 (W := 0) (by decide) (by decide) (by decide) (by decide) (g := (mkF m 5 #[vN i, vR a1] [(.int (Int32.ofNat n)), (.int (Int32.ofNat i))])) rfl (by rw [hml]; rfl) (rest := []) (lenOf pd_1 rfl) rfl (by show 2 * 0 + _ ≤ _; exact Nat.le_of_eq rfl) (hb hby q5_5)
  refine gS st3 ?_
  obtain ⟨rfl, N3, e3⟩ := hQ3
  have N4 := Fr.app N2 N3
  show Goes p ee below s _ _ _ (T3.setTop (mkF m 8 #[vN i, vR a1] []))
  refine Goes.retV X3 hx Bd.notSynchronized Bd.returns (hb hby q5_8) (by decide) (by decide) ?_
  exact ⟨rfl, N4, e3⟩
theorem ef_u16c (m : MethodId) (x0 : Addr) (x1 : Int32) : entryFrame m #[(.ref x0), (.int x1)] 2 = mkF m 0 #[.val (.ref x0), .val (.int x1)] [] := by first | (simp [entryFrame, mkF, argsToLocals, Value.category]; done) | rfl
theorem q6_0 : decode c6_ 0 = .ok (.iload_n 1, 1) := by decide +kernel
theorem q6_1 : decode c6_ 1 = .ok (.aload_n 0, 1) := by decide +kernel
theorem pd_3 : parseMethodDescriptor "(I[B)V" = some ⟨[.int, (.array .byte)], none⟩ := by decide +kernel
theorem q6_2 : decode c6_ 2 = .ok (.invokestatic 67, 3) := by decide +kernel
theorem q6_5 : decode c6_ 5 = .ok (.aload_n 0, 1) := by decide +kernel
theorem q6_6 : decode c6_ 6 = .ok (.iload_n 1, 1) := by decide +kernel
theorem pd_4 : parseMethodDescriptor "([BI)C" = some ⟨[(.array .byte), .int], some .char⟩ := by decide +kernel
theorem q6_7 : decode c6_ 7 = .ok (.invokestatic 71, 3) := by decide +kernel
theorem q6_10 : decode c6_ 10 = .ok (.ireturn, 1) := by decide +kernel
def Q_u16c (Z : State) (cs : Int32) (fm : Value) (a1 : Addr) (i n : Nat) (c : Nat → Nat) (h0 : Heap) (n0 : Nat) (v : Option Value) (h : Heap) (L : List Loc) : Prop := v = some (.int (Int32.ofNat (c i))) ∧ Fr n0 L ∧ h = h0
set_option maxRecDepth 65536 in
set_option maxHeartbeats 40000000 in
theorem rm_u16c (l : Launch) (Z : State) (a0 : Array Value) (hw : ∀ d ∈ tables_1, d.before a0 Z = true) (ws : List Jvm.Cond) (cs : Int32) (fm : Value) (a1 : Addr) (i n : Nat) (c : Nat → Nat) (h0 : Heap) (n0 : Nat) (Z0 : n0 ≤ h0.size) (ST : own_ST Z cs fm) (OO : Old Z n0 h0) (hi : i < n) (hn : n < 2 ^ 30) (hc : c i < 65536) (A : OA Z h0 a1 .byte (2 * n) (own_by true c)) :
    MetFree l (⟨"java/lang/StringUTF16", "charAt", "([BI)C"⟩ : MethodName) (head1 (Jvm.Cond.code (⟨"java/lang/StringUTF16", "charAt", "([BI)C"⟩ : MethodName) jdk_52_method_83_code 2 (some .char) :: ws) ({ frames := 3, cells := 0, slots := 0, locals := 40 } : Room)) (fun a U => a = #[(.ref a1), (.int (Int32.ofNat i))] ∧ Z.Warmed39 U.vm ∧ U.heap = h0) (fun _ _ _ _ _ => True) (fun _ U o U' => ∃ v L, o = .returned v ∧ Q_u16c Z cs fm a1 i n c h0 n0 v U'.heap L ∧ FrameEnd U o U' L ({ frames := 3, cells := 0, slots := 0, locals := 40 } : Room).cells ({ frames := 3, cells := 0, slots := 0, locals := 40 } : Room).slots) := by
  refine MetFree.of_bodySF (plainFor_of_name pn_java_lang_StringUTF16) hisR ?_
  intro p ee s m args below meth cc s₁ Bd hml0 hP hK
  obtain ⟨rfl, hZ, hh⟩ := hP
  have hx := Bd.exec
  have hby := Bd.bytes
  have hml : cc.maxLocals = 2 := hml0
  have hown : s.vm.findClass "java/lang/StringUTF16" = some m.cls := findClass_of_methodNamed Bd.named
  have hnm := (name_of_methodNamed Bd.named Bd.method).1
  have X0 : Stand p l ee ({ frames := 3, cells := 0, slots := 0, locals := 40 } : Room) s m #[(.ref a1), (.int (Int32.ofNat i))] below meth cc s₁ [] 0 0 := Stand.of_body Bd
  have e0 : s₁.heap = h0 := by rw [← hh, Bd.state]; rfl
  have N0 := Fr.nil n0
  show Goes p ee below s ({ frames := 3, cells := 0, slots := 0, locals := 40 } : Room).cells ({ frames := 3, cells := 0, slots := 0, locals := 40 } : Room).slots (Q_u16c Z cs fm a1 i n c h0 n0) (s₁.setTop (entryFrame m #[(.ref a1), (.int (Int32.ofNat i))] 2))
  refine gS (fun _ r => castTop (ef_u16c m a1 (Int32.ofNat i)) r) ?_
  show Goes p ee below s _ _ _ (s₁.setTop (mkF m 0 #[vR a1, vN i] []))
  refine gS (fun _ r => XS.iloadN X0.here hx rfl (hb hby q6_0) rfl  r) ?_
  refine gS (fun _ r => XS.aloadN X0.here hx rfl (hb hby q6_1) rfl rfl r) ?_
  have lt_a1 := A.lt
  obtain ⟨v1, T1, L1, X1, hQ1, st1⟩ := own_callS X0 hx hZ (y := (⟨"java/lang/StringUTF16", "checkIndex", "(I[B)V"⟩ : MethodName)) hown (own_w hw 296 rfl) (own_w hw 297 rfl) (own_w hw 25 rfl) (own_w hw 298 rfl) (by decide) (argsL := [(.int (Int32.ofNat i)), (.ref a1)]) (rm_u16ci l Z a0 hw [] cs fm i a1 n _ h0 n0 Z0 ST OO hi hn A) e0 (W := 0) (by decide) (by decide) (by decide) (by decide) (g := (mkF m 2 #[vR a1, vN i] [(.ref a1), (.int (Int32.ofNat i))])) rfl (by rw [hml]; rfl) (rest := []) (lenOf pd_3 rfl) rfl (by show 2 * 0 + _ ≤ _; exact Nat.le_of_eq rfl) (hb hby q6_2)
  refine gS st1 ?_
  obtain ⟨rfl, N1, e1⟩ := hQ1
  have N2 := Fr.app N0 N1
  refine gS (fun _ r => XS.aloadN X1.here hx rfl (hb hby q6_5) rfl rfl r) ?_
  refine gS (fun _ r => XS.iloadN X1.here hx rfl (hb hby q6_6) rfl  r) ?_
  have lt_a1 := A.lt
  obtain ⟨v3, T3, L3, X3, hQ3, st3⟩ := own_callS X1 hx hZ (y := (⟨"java/lang/StringUTF16", "getChar", "([BI)C"⟩ : MethodName)) hown (own_w hw 290 rfl) (own_w hw 291 rfl) (own_w hw 25 rfl) (own_w hw 292 rfl) (by decide) (argsL := [(.ref a1), (.int (Int32.ofNat i))]) (rm_getc l Z a0 hw [] cs fm a1 i n c h0 n0 Z0 ST OO hi (by omega) hc A) e1 (W := 0) (by decide) (by decide) (by decide) (by decide) (g := (mkF m 7 #[vR a1, vN i] [(.int (Int32.ofNat i)), (.ref a1)])) rfl (by rw [hml]; rfl) (rest := []) (lenOf pd_4 rfl) rfl (by show 2 * 0 + _ ≤ _; exact Nat.le_of_eq rfl) (hb hby q6_7)
  refine gS st3 ?_
  obtain ⟨rfl, N3, e3⟩ := hQ3
  have N4 := Fr.app N2 N3
  show Goes p ee below s _ _ _ (T3.setTop (mkF m 10 #[vR a1, vN i] [(.int (Int32.ofNat (c i)))]))
  refine Goes.retZ X3 hx Bd.notSynchronized Bd.returns (by simp) (own_nchar (c i) hc) (hb hby q6_10) (by decide) (by decide) ?_
  exact ⟨rfl, N4, e3⟩
theorem ef_coder (m : MethodId) (x0 : Addr) : entryFrame m #[(.ref x0)] 1 = mkF m 0 #[.val (.ref x0)] [] := by first | (simp [entryFrame, mkF, argsToLocals, Value.category]; done) | rfl
theorem q7_0 : decode c7_ 0 = .ok (.getstatic 38, 3) := by decide +kernel
theorem q7_3 : decode c7_ 3 = .ok (.ifCond .eq 10, 3) := by decide +kernel
theorem q7_6 : decode c7_ 6 = .ok (.aload_n 0, 1) := by decide +kernel
theorem q7_7 : decode c7_ 7 = .ok (.getfield 15, 3) := by decide +kernel
theorem q7_10 : decode c7_ 10 = .ok (.goto 4, 3) := by decide +kernel
theorem q7_14 : decode c7_ 14 = .ok (.ireturn, 1) := by decide +kernel
def Q_coder (Z : State) (cs : Int32) (fm : Value) (a1 : Addr) (u : Bool) (h0 : Heap) (n0 : Nat) (v : Option Value) (h : Heap) (L : List Loc) : Prop := v = some (.int (own_cd u)) ∧ Fr n0 L ∧ h = h0
set_option maxRecDepth 65536 in
set_option maxHeartbeats 40000000 in
theorem rm_coder (l : Launch) (Z : State) (a0 : Array Value) (hw : ∀ d ∈ tables_1, d.before a0 Z = true) (ws : List Jvm.Cond) (cs : Int32) (fm : Value) (a1 : Addr) (u : Bool) (h0 : Heap) (n0 : Nat) (Z0 : n0 ≤ h0.size) (ST : own_ST Z cs fm) (OO : Old Z n0 h0) (FC : Fld Z h0 a1 "java/lang/String" "coder" "B" (.int (own_cd u))) :
    MetFree l (⟨"java/lang/String", "coder", "()B"⟩ : MethodName) (head1 (Jvm.Cond.code (⟨"java/lang/String", "coder", "()B"⟩ : MethodName) jdk_42_method_152_code 1 (some .byte) :: ws) ({ frames := 0, cells := 0, slots := 0, locals := 0 } : Room)) (fun a U => a = #[(.ref a1)] ∧ Z.Warmed39 U.vm ∧ U.heap = h0) (fun _ _ _ _ _ => True) (fun _ U o U' => ∃ v L, o = .returned v ∧ Q_coder Z cs fm a1 u h0 n0 v U'.heap L ∧ FrameEnd U o U' L ({ frames := 0, cells := 0, slots := 0, locals := 0 } : Room).cells ({ frames := 0, cells := 0, slots := 0, locals := 0 } : Room).slots) := by
  refine MetFree.of_bodySF (plainFor_of_name pn_java_lang_String) hisR ?_
  intro p ee s m args below meth cc s₁ Bd hml0 hP hK
  obtain ⟨rfl, hZ, hh⟩ := hP
  have hx := Bd.exec
  have hby := Bd.bytes
  have hml : cc.maxLocals = 1 := hml0
  have hown : s.vm.findClass "java/lang/String" = some m.cls := findClass_of_methodNamed Bd.named
  have hnm := (name_of_methodNamed Bd.named Bd.method).1
  have X0 : Stand p l ee ({ frames := 0, cells := 0, slots := 0, locals := 0 } : Room) s m #[(.ref a1)] below meth cc s₁ [] 0 0 := Stand.of_body Bd
  have e0 : s₁.heap = h0 := by rw [← hh, Bd.state]; rfl
  have N0 := Fr.nil n0
  show Goes p ee below s ({ frames := 0, cells := 0, slots := 0, locals := 0 } : Room).cells ({ frames := 0, cells := 0, slots := 0, locals := 0 } : Room).slots (Q_coder Z cs fm a1 u h0 n0) (s₁.setTop (entryFrame m #[(.ref a1)] 1))
  refine gS (fun _ r => castTop (ef_coder m a1) r) ?_
  show Goes p ee below s _ _ _ (s₁.setTop (mkF m 0 #[vR a1] []))
  obtain ⟨T1, X1, e1, st1⟩ := getS X0 hx hZ (host := "") hown (own_w hw 22 rfl) Via.refl e0 ((ST.1).ext OO.2) (g := (mkF m 0 #[vR a1] [])) rfl (hb hby q7_0)
  refine gS st1 ?_
  refine gS (fun _ r => XS.ifNo X1.here hx rfl (hb hby q7_3) rfl ((if0 _ _).trans (feq (ST.2.1)).1) r) ?_
  refine gS (fun _ r => XS.aloadN X1.here hx rfl (hb hby q7_6) rfl rfl r) ?_
  obtain ⟨T2, X2, e2, st2⟩ := getF X1 hx hZ hown (host := "") (Or.inl (own_w hw 34 rfl)) Via.refl e1 FC (g := (mkF m 7 #[vR a1] [(.ref a1)])) rfl rfl (hb hby q7_7)
  refine gS st2 ?_
  refine gS (fun _ r => XS.goto X2.here hx rfl (pc0 := 10) (pc' := 14) rfl (hb hby q7_10) (by decide) (by decide) r) ?_
  show Goes p ee below s _ _ _ (T2.setTop (mkF m 14 #[vR a1] [(.int (own_cd u))]))
  refine Goes.retZ X2 hx Bd.notSynchronized Bd.returns (by simp) (own_cd_byte u).1 (hb hby q7_14) (by decide) (by decide) ?_
  exact ⟨rfl, N0, e2⟩
theorem ef_isL (m : MethodId) (x0 : Addr) : entryFrame m #[(.ref x0)] 1 = mkF m 0 #[.val (.ref x0)] [] := by first | (simp [entryFrame, mkF, argsToLocals, Value.category]; done) | rfl
theorem q8_0 : decode c8_ 0 = .ok (.getstatic 38, 3) := by decide +kernel
theorem q8_3 : decode c8_ 3 = .ok (.ifCond .eq 14, 3) := by decide +kernel
theorem q8_6 : decode c8_ 6 = .ok (.aload_n 0, 1) := by decide +kernel
theorem q8_7 : decode c8_ 7 = .ok (.getfield 15, 3) := by decide +kernel
theorem q8_10 : decode c8_ 10 = .ok (.ifCond .ne 7, 3) := by decide +kernel
theorem q8_13 : decode c8_ 13 = .ok (.iconst 1, 1) := by decide +kernel
theorem q8_14 : decode c8_ 14 = .ok (.goto 4, 3) := by decide +kernel
theorem q8_18 : decode c8_ 18 = .ok (.ireturn, 1) := by decide +kernel
theorem q8_17 : decode c8_ 17 = .ok (.iconst 0, 1) := by decide +kernel
def Q_isL (Z : State) (cs : Int32) (fm : Value) (a1 : Addr) (u : Bool) (h0 : Heap) (n0 : Nat) (v : Option Value) (h : Heap) (L : List Loc) : Prop := v = some (.int (if u then 0 else 1)) ∧ Fr n0 L ∧ h = h0
set_option maxRecDepth 65536 in
set_option maxHeartbeats 40000000 in
theorem rm_isL (l : Launch) (Z : State) (a0 : Array Value) (hw : ∀ d ∈ tables_1, d.before a0 Z = true) (ws : List Jvm.Cond) (cs : Int32) (fm : Value) (a1 : Addr) (u : Bool) (h0 : Heap) (n0 : Nat) (Z0 : n0 ≤ h0.size) (ST : own_ST Z cs fm) (OO : Old Z n0 h0) (FC : Fld Z h0 a1 "java/lang/String" "coder" "B" (.int (own_cd u))) :
    MetFree l (⟨"java/lang/String", "isLatin1", "()Z"⟩ : MethodName) (head1 (Jvm.Cond.code (⟨"java/lang/String", "isLatin1", "()Z"⟩ : MethodName) jdk_42_method_154_code 1 (some .boolean) :: ws) ({ frames := 0, cells := 0, slots := 0, locals := 0 } : Room)) (fun a U => a = #[(.ref a1)] ∧ Z.Warmed39 U.vm ∧ U.heap = h0) (fun _ _ _ _ _ => True) (fun _ U o U' => ∃ v L, o = .returned v ∧ Q_isL Z cs fm a1 u h0 n0 v U'.heap L ∧ FrameEnd U o U' L ({ frames := 0, cells := 0, slots := 0, locals := 0 } : Room).cells ({ frames := 0, cells := 0, slots := 0, locals := 0 } : Room).slots) := by
  refine MetFree.of_bodySF (plainFor_of_name pn_java_lang_String) hisR ?_
  intro p ee s m args below meth cc s₁ Bd hml0 hP hK
  obtain ⟨rfl, hZ, hh⟩ := hP
  have hx := Bd.exec
  have hby := Bd.bytes
  have hml : cc.maxLocals = 1 := hml0
  have hown : s.vm.findClass "java/lang/String" = some m.cls := findClass_of_methodNamed Bd.named
  have hnm := (name_of_methodNamed Bd.named Bd.method).1
  have X0 : Stand p l ee ({ frames := 0, cells := 0, slots := 0, locals := 0 } : Room) s m #[(.ref a1)] below meth cc s₁ [] 0 0 := Stand.of_body Bd
  have e0 : s₁.heap = h0 := by rw [← hh, Bd.state]; rfl
  have N0 := Fr.nil n0
  show Goes p ee below s ({ frames := 0, cells := 0, slots := 0, locals := 0 } : Room).cells ({ frames := 0, cells := 0, slots := 0, locals := 0 } : Room).slots (Q_isL Z cs fm a1 u h0 n0) (s₁.setTop (entryFrame m #[(.ref a1)] 1))
  refine gS (fun _ r => castTop (ef_isL m a1) r) ?_
  show Goes p ee below s _ _ _ (s₁.setTop (mkF m 0 #[vR a1] []))
  cases u
  · have FC : Fld Z h0 a1 "java/lang/String" "coder" "B" (.int 0) := FC
    show Goes p ee below s _ _ _ (s₁.setTop (mkF m 0 #[vR a1] []))
    obtain ⟨T1, X1, e1, st1⟩ := getS X0 hx hZ (host := "") hown (own_w hw 22 rfl) Via.refl e0 ((ST.1).ext OO.2) (g := (mkF m 0 #[vR a1] [])) rfl (hb hby q8_0)
    refine gS st1 ?_
    refine gS (fun _ r => XS.ifNo X1.here hx rfl (hb hby q8_3) rfl ((if0 _ _).trans (feq (ST.2.1)).1) r) ?_
    refine gS (fun _ r => XS.aloadN X1.here hx rfl (hb hby q8_6) rfl rfl r) ?_
    obtain ⟨T2, X2, e2, st2⟩ := getF X1 hx hZ hown (host := "") (Or.inl (own_w hw 34 rfl)) Via.refl e1 FC (g := (mkF m 7 #[vR a1] [(.ref a1)])) rfl rfl (hb hby q8_7)
    refine gS st2 ?_
    refine gS (fun _ r => XS.ifNo X2.here hx rfl (hb hby q8_10) rfl ((if0 _ _).trans (teq rfl).2) r) ?_
    refine gS (fun _ r => XS.iconst X2.here hx rfl (hb hby q8_13) r) ?_
    show Goes p ee below s _ _ _ (T2.setTop (mkF m 14 #[vR a1] [(.int (1 : Int32))]))
    refine gS (fun _ r => XS.goto X2.here hx rfl (pc0 := 14) (pc' := 18) rfl (hb hby q8_14) (by decide) (by decide) r) ?_
    show Goes p ee below s _ _ _ (T2.setTop (mkF m 18 #[vR a1] [(.int (1 : Int32))]))
    refine Goes.retZ X2 hx Bd.notSynchronized Bd.returns (by simp) rfl (hb hby q8_18) (by decide) (by decide) ?_
    exact ⟨rfl, N0, e2⟩
  · have FC : Fld Z h0 a1 "java/lang/String" "coder" "B" (.int 1) := FC
    show Goes p ee below s _ _ _ (s₁.setTop (mkF m 0 #[vR a1] []))
    obtain ⟨T3, X3, e3, st3⟩ := getS X0 hx hZ (host := "") hown (own_w hw 22 rfl) Via.refl e0 ((ST.1).ext OO.2) (g := (mkF m 0 #[vR a1] [])) rfl (hb hby q8_0)
    refine gS st3 ?_
    refine gS (fun _ r => XS.ifNo X3.here hx rfl (hb hby q8_3) rfl ((if0 _ _).trans (feq (ST.2.1)).1) r) ?_
    refine gS (fun _ r => XS.aloadN X3.here hx rfl (hb hby q8_6) rfl rfl r) ?_
    obtain ⟨T4, X4, e4, st4⟩ := getF X3 hx hZ hown (host := "") (Or.inl (own_w hw 34 rfl)) Via.refl e3 FC (g := (mkF m 7 #[vR a1] [(.ref a1)])) rfl rfl (hb hby q8_7)
    refine gS st4 ?_
    refine gS (fun _ r => XS.ifYes X4.here hx rfl (pc0 := 10) (pc' := 17) rfl (hb hby q8_10) rfl ((if0 _ _).trans (feq (by decide)).2) (by decide) (by decide) r) ?_
    refine gS (fun _ r => XS.iconst X4.here hx rfl (hb hby q8_17) r) ?_
    show Goes p ee below s _ _ _ (T4.setTop (mkF m 18 #[vR a1] [(.int (0 : Int32))]))
    refine Goes.retZ X4 hx Bd.notSynchronized Bd.returns (by simp) rfl (hb hby q8_18) (by decide) (by decide) ?_
    exact ⟨rfl, N0, e4⟩
theorem ef_slen (m : MethodId) (x0 : Addr) : entryFrame m #[(.ref x0)] 1 = mkF m 0 #[.val (.ref x0)] [] := by first | (simp [entryFrame, mkF, argsToLocals, Value.category]; done) | rfl
theorem q9_0 : decode c9_ 0 = .ok (.aload_n 0, 1) := by decide +kernel
theorem q9_1 : decode c9_ 1 = .ok (.getfield 9, 3) := by decide +kernel
theorem q9_4 : decode c9_ 4 = .ok (.arraylength, 1) := by decide +kernel
theorem q9_5 : decode c9_ 5 = .ok (.aload_n 0, 1) := by decide +kernel
theorem pd_5 : parseMethodDescriptor "()B" = some ⟨[], some .byte⟩ := by decide +kernel
theorem q9_6 : decode c9_ 6 = .ok (.invokevirtual 335, 3) := by decide +kernel
theorem q9_9 : decode c9_ 9 = .ok (.ishr, 1) := by decide +kernel
theorem q9_10 : decode c9_ 10 = .ok (.ireturn, 1) := by decide +kernel
def Q_slen (Z : State) (cs : Int32) (fm : Value) (a1 b : Addr) (u : Bool) (n : Nat) (c : Nat → Nat) (h0 : Heap) (n0 : Nat) (v : Option Value) (h : Heap) (L : List Loc) : Prop := v = some (.int (Int32.ofNat n)) ∧ Fr n0 L ∧ h = h0
set_option maxRecDepth 65536 in
set_option maxHeartbeats 40000000 in
theorem rm_slen (l : Launch) (Z : State) (a0 : Array Value) (hw : ∀ d ∈ tables_1, d.before a0 Z = true) (ws : List Jvm.Cond) (cs : Int32) (fm : Value) (a1 b : Addr) (u : Bool) (n : Nat) (c : Nat → Nat) (h0 : Heap) (n0 : Nat) (Z0 : n0 ≤ h0.size) (ST : own_ST Z cs fm) (OO : Old Z n0 h0) (hn : n < 2 ^ 29) (E : Exa Z h0 a1 "java/lang/String") (FV : Fld Z h0 a1 "java/lang/String" "value" "[B" (.ref b)) (FC : Fld Z h0 a1 "java/lang/String" "coder" "B" (.int (own_cd u))) (A : OA Z h0 b .byte (own_len u n) (own_by u c)) :
    MetFree l (⟨"java/lang/String", "length", "()I"⟩ : MethodName) (head1 (Jvm.Cond.code (⟨"java/lang/String", "length", "()I"⟩ : MethodName) jdk_42_method_54_code 1 (some .int) :: ws) ({ frames := 1, cells := 0, slots := 0, locals := 13 } : Room)) (fun a U => a = #[(.ref a1)] ∧ Z.Warmed39 U.vm ∧ U.heap = h0) (fun _ _ _ _ _ => True) (fun _ U o U' => ∃ v L, o = .returned v ∧ Q_slen Z cs fm a1 b u n c h0 n0 v U'.heap L ∧ FrameEnd U o U' L ({ frames := 1, cells := 0, slots := 0, locals := 13 } : Room).cells ({ frames := 1, cells := 0, slots := 0, locals := 13 } : Room).slots) := by
  refine MetFree.of_bodySF (plainFor_of_name pn_java_lang_String) hisR ?_
  intro p ee s m args below meth cc s₁ Bd hml0 hP hK
  obtain ⟨rfl, hZ, hh⟩ := hP
  have hx := Bd.exec
  have hby := Bd.bytes
  have hml : cc.maxLocals = 1 := hml0
  have hown : s.vm.findClass "java/lang/String" = some m.cls := findClass_of_methodNamed Bd.named
  have hnm := (name_of_methodNamed Bd.named Bd.method).1
  have X0 : Stand p l ee ({ frames := 1, cells := 0, slots := 0, locals := 13 } : Room) s m #[(.ref a1)] below meth cc s₁ [] 0 0 := Stand.of_body Bd
  have e0 : s₁.heap = h0 := by rw [← hh, Bd.state]; rfl
  have N0 := Fr.nil n0
  show Goes p ee below s ({ frames := 1, cells := 0, slots := 0, locals := 13 } : Room).cells ({ frames := 1, cells := 0, slots := 0, locals := 13 } : Room).slots (Q_slen Z cs fm a1 b u n c h0 n0) (s₁.setTop (entryFrame m #[(.ref a1)] 1))
  refine gS (fun _ r => castTop (ef_slen m a1) r) ?_
  show Goes p ee below s _ _ _ (s₁.setTop (mkF m 0 #[vR a1] []))
  cases u
  · have FC : Fld Z h0 a1 "java/lang/String" "coder" "B" (.int 0) := FC
    have A : OA Z h0 b .byte n (own_by false c) := A
    show Goes p ee below s _ _ _ (s₁.setTop (mkF m 0 #[vR a1] []))
    refine gS (fun _ r => XS.aloadN X0.here hx rfl (hb hby q9_0) rfl rfl r) ?_
    obtain ⟨T1, X1, e1, st1⟩ := getF X0 hx hZ hown (host := "") (Or.inl (own_w hw 36 rfl)) Via.refl e0 FV (g := (mkF m 1 #[vR a1] [(.ref a1)])) rfl rfl (hb hby q9_1)
    refine gS st1 ?_
    refine gS (own_alen X1 hx hZ e1 A (z := (Int32.ofNat n)) rfl (g := (mkF m 4 #[vR a1] [(.ref b)])) rfl rfl (hb hby q9_4)) ?_
    refine gS (fun _ r => XS.aloadN X1.here hx rfl (hb hby q9_5) rfl rfl r) ?_
    have lt_a1 := E.lt
    have lt_b := A.lt
    obtain ⟨v2, T2, L2, X2, hQ2, st2⟩ := own_callV X1 hx hZ (y := (⟨"java/lang/String", "coder", "()B"⟩ : MethodName)) hown (own_w hw 97 rfl) (own_w hw 98 rfl) (own_w hw 100 rfl) (own_w hw 99 rfl) (own_w hw 10 rfl) (own_w hw 101 rfl) (by decide) (a := a1) (argsL := []) (rm_coder l Z a0 hw [] cs fm a1 false h0 n0 Z0 ST OO FC) e1 E (W := 1) (by decide) (by decide) (by decide) (by decide) (g := (mkF m 6 #[vR a1] [(.ref a1), (.int (Int32.ofNat n))])) rfl (by rw [hml]; rfl) (rest := [(.int (Int32.ofNat n))]) (lenOf pd_5 rfl) rfl (by show 2 * 0 + _ ≤ _; exact Nat.le_of_eq rfl) (hb hby q9_6)
    refine gS st2 ?_
    obtain ⟨rfl, N2, e2⟩ := hQ2
    have N3 := Fr.app N0 N2
    refine gS (fun _ r => XT.ishr X2.here hx rfl (hb hby q9_9) rfl r) ?_
    show Goes p ee below s _ _ _ (T2.setTop (mkF m 10 #[vR a1] [(.int ((Int32.ofNat n) >>> ((0 : Int32) &&& 31)))]))
    rw [own_shr0 n (by omega)]
    show Goes p ee below s _ _ _ (T2.setTop (mkF m 10 #[vR a1] [(.int (Int32.ofNat n))]))
    refine Goes.retI X2 hx Bd.notSynchronized Bd.returns (hb hby q9_10) (by decide) (by decide) ?_
    exact ⟨rfl, N3, e2⟩
  · have FC : Fld Z h0 a1 "java/lang/String" "coder" "B" (.int 1) := FC
    have A : OA Z h0 b .byte (2 * n) (own_by true c) := A
    show Goes p ee below s _ _ _ (s₁.setTop (mkF m 0 #[vR a1] []))
    refine gS (fun _ r => XS.aloadN X0.here hx rfl (hb hby q9_0) rfl rfl r) ?_
    obtain ⟨T4, X4, e4, st4⟩ := getF X0 hx hZ hown (host := "") (Or.inl (own_w hw 36 rfl)) Via.refl e0 FV (g := (mkF m 1 #[vR a1] [(.ref a1)])) rfl rfl (hb hby q9_1)
    refine gS st4 ?_
    refine gS (own_alen X4 hx hZ e4 A (z := (Int32.ofNat (2 * n))) rfl (g := (mkF m 4 #[vR a1] [(.ref b)])) rfl rfl (hb hby q9_4)) ?_
    refine gS (fun _ r => XS.aloadN X4.here hx rfl (hb hby q9_5) rfl rfl r) ?_
    have lt_a1 := E.lt
    have lt_b := A.lt
    obtain ⟨v5, T5, L5, X5, hQ5, st5⟩ := own_callV X4 hx hZ (y := (⟨"java/lang/String", "coder", "()B"⟩ : MethodName)) hown (own_w hw 97 rfl) (own_w hw 98 rfl) (own_w hw 100 rfl) (own_w hw 99 rfl) (own_w hw 10 rfl) (own_w hw 101 rfl) (by decide) (a := a1) (argsL := []) (rm_coder l Z a0 hw [] cs fm a1 true h0 n0 Z0 ST OO FC) e4 E (W := 1) (by decide) (by decide) (by decide) (by decide) (g := (mkF m 6 #[vR a1] [(.ref a1), (.int (Int32.ofNat (2 * n)))])) rfl (by rw [hml]; rfl) (rest := [(.int (Int32.ofNat (2 * n)))]) (lenOf pd_5 rfl) rfl (by show 2 * 0 + _ ≤ _; exact Nat.le_of_eq rfl) (hb hby q9_6)
    refine gS st5 ?_
    obtain ⟨rfl, N5, e5⟩ := hQ5
    have N6 := Fr.app N0 N5
    refine gS (fun _ r => XT.ishr X5.here hx rfl (hb hby q9_9) rfl r) ?_
    show Goes p ee below s _ _ _ (T5.setTop (mkF m 10 #[vR a1] [(.int ((Int32.ofNat (2 * n)) >>> ((1 : Int32) &&& 31)))]))
    rw [own_shr1 n (by omega)]
    show Goes p ee below s _ _ _ (T5.setTop (mkF m 10 #[vR a1] [(.int (Int32.ofNat n))]))
    refine Goes.retI X5 hx Bd.notSynchronized Bd.returns (hb hby q9_10) (by decide) (by decide) ?_
    exact ⟨rfl, N6, e5⟩
theorem ef_schar (m : MethodId) (x0 : Addr) (x1 : Int32) : entryFrame m #[(.ref x0), (.int x1)] 2 = mkF m 0 #[.val (.ref x0), .val (.int x1)] [] := by first | (simp [entryFrame, mkF, argsToLocals, Value.category]; done) | rfl
theorem q10_0 : decode c10_ 0 = .ok (.aload_n 0, 1) := by decide +kernel
theorem pd_6 : parseMethodDescriptor "()Z" = some ⟨[], some .boolean⟩ := by decide +kernel
theorem q10_1 : decode c10_ 1 = .ok (.invokevirtual 492, 3) := by decide +kernel
theorem q10_4 : decode c10_ 4 = .ok (.ifCond .eq 12, 3) := by decide +kernel
theorem q10_7 : decode c10_ 7 = .ok (.aload_n 0, 1) := by decide +kernel
theorem q10_8 : decode c10_ 8 = .ok (.getfield 9, 3) := by decide +kernel
theorem q10_11 : decode c10_ 11 = .ok (.iload_n 1, 1) := by decide +kernel
theorem q10_12 : decode c10_ 12 = .ok (.invokestatic 495, 3) := by decide +kernel
theorem q10_15 : decode c10_ 15 = .ok (.ireturn, 1) := by decide +kernel
theorem q10_16 : decode c10_ 16 = .ok (.aload_n 0, 1) := by decide +kernel
theorem q10_17 : decode c10_ 17 = .ok (.getfield 9, 3) := by decide +kernel
theorem q10_20 : decode c10_ 20 = .ok (.iload_n 1, 1) := by decide +kernel
theorem q10_21 : decode c10_ 21 = .ok (.invokestatic 498, 3) := by decide +kernel
theorem q10_24 : decode c10_ 24 = .ok (.ireturn, 1) := by decide +kernel
def Q_schar (Z : State) (cs : Int32) (fm : Value) (a1 b : Addr) (u : Bool) (n : Nat) (c : Nat → Nat) (i : Nat) (h0 : Heap) (n0 : Nat) (v : Option Value) (h : Heap) (L : List Loc) : Prop := v = some (.int (Int32.ofNat (c i))) ∧ Fr n0 L ∧ h = h0
set_option maxRecDepth 65536 in
set_option maxHeartbeats 40000000 in
theorem rm_schar (l : Launch) (Z : State) (a0 : Array Value) (hw : ∀ d ∈ tables_1, d.before a0 Z = true) (ws : List Jvm.Cond) (cs : Int32) (fm : Value) (a1 b : Addr) (u : Bool) (n : Nat) (c : Nat → Nat) (i : Nat) (h0 : Heap) (n0 : Nat) (Z0 : n0 ≤ h0.size) (ST : own_ST Z cs fm) (OO : Old Z n0 h0) (hn : n < 2 ^ 29) (E : Exa Z h0 a1 "java/lang/String") (FV : Fld Z h0 a1 "java/lang/String" "value" "[B" (.ref b)) (FC : Fld Z h0 a1 "java/lang/String" "coder" "B" (.int (own_cd u))) (A : OA Z h0 b .byte (own_len u n) (own_by u c)) (hc : ∀ j, j < n → c j < 65536) (hl : u = false → ∀ j, j < n → c j < 256) (hi : i < n) :
    MetFree l (⟨"java/lang/String", "charAt", "(I)C"⟩ : MethodName) (head1 (Jvm.Cond.code (⟨"java/lang/String", "charAt", "(I)C"⟩ : MethodName) jdk_42_method_56_code 2 (some .char) :: ws) ({ frames := 4, cells := 0, slots := 0, locals := 53 } : Room)) (fun a U => a = #[(.ref a1), (.int (Int32.ofNat i))] ∧ Z.Warmed39 U.vm ∧ U.heap = h0) (fun _ _ _ _ _ => True) (fun _ U o U' => ∃ v L, o = .returned v ∧ Q_schar Z cs fm a1 b u n c i h0 n0 v U'.heap L ∧ FrameEnd U o U' L ({ frames := 4, cells := 0, slots := 0, locals := 53 } : Room).cells ({ frames := 4, cells := 0, slots := 0, locals := 53 } : Room).slots) := by
  refine MetFree.of_bodySF (plainFor_of_name pn_java_lang_String) hisR ?_
  intro p ee s m args below meth cc s₁ Bd hml0 hP hK
  obtain ⟨rfl, hZ, hh⟩ := hP
  have hx := Bd.exec
  have hby := Bd.bytes
  have hml : cc.maxLocals = 2 := hml0
  have hown : s.vm.findClass "java/lang/String" = some m.cls := findClass_of_methodNamed Bd.named
  have hnm := (name_of_methodNamed Bd.named Bd.method).1
  have X0 : Stand p l ee ({ frames := 4, cells := 0, slots := 0, locals := 53 } : Room) s m #[(.ref a1), (.int (Int32.ofNat i))] below meth cc s₁ [] 0 0 := Stand.of_body Bd
  have e0 : s₁.heap = h0 := by rw [← hh, Bd.state]; rfl
  have N0 := Fr.nil n0
  show Goes p ee below s ({ frames := 4, cells := 0, slots := 0, locals := 53 } : Room).cells ({ frames := 4, cells := 0, slots := 0, locals := 53 } : Room).slots (Q_schar Z cs fm a1 b u n c i h0 n0) (s₁.setTop (entryFrame m #[(.ref a1), (.int (Int32.ofNat i))] 2))
  refine gS (fun _ r => castTop (ef_schar m a1 (Int32.ofNat i)) r) ?_
  show Goes p ee below s _ _ _ (s₁.setTop (mkF m 0 #[vR a1, vN i] []))
  cases u
  · have FC : Fld Z h0 a1 "java/lang/String" "coder" "B" (.int 0) := FC
    have A : OA Z h0 b .byte n (own_by false c) := A
    show Goes p ee below s _ _ _ (s₁.setTop (mkF m 0 #[vR a1, vN i] []))
    refine gS (fun _ r => XS.aloadN X0.here hx rfl (hb hby q10_0) rfl rfl r) ?_
    have lt_a1 := E.lt
    have lt_b := A.lt
    obtain ⟨v1, T1, L1, X1, hQ1, st1⟩ := own_callV X0 hx hZ (y := (⟨"java/lang/String", "isLatin1", "()Z"⟩ : MethodName)) hown (own_w hw 87 rfl) (own_w hw 88 rfl) (own_w hw 90 rfl) (own_w hw 89 rfl) (own_w hw 10 rfl) (own_w hw 91 rfl) (by decide) (a := a1) (argsL := []) (rm_isL l Z a0 hw [] cs fm a1 false h0 n0 Z0 ST OO FC) e0 E (W := 0) (by decide) (by decide) (by decide) (by decide) (g := (mkF m 1 #[vR a1, vN i] [(.ref a1)])) rfl (by rw [hml]; rfl) (rest := []) (lenOf pd_6 rfl) rfl (by show 2 * 0 + _ ≤ _; exact Nat.le_of_eq rfl) (hb hby q10_1)
    refine gS st1 ?_
    obtain ⟨rfl, N1, e1⟩ := hQ1
    have N2 := Fr.app N0 N1
    refine gS (fun _ r => XS.ifNo X1.here hx rfl (hb hby q10_4) rfl ((if0 _ _).trans (feq (by decide)).1) r) ?_
    refine gS (fun _ r => XS.aloadN X1.here hx rfl (hb hby q10_7) rfl rfl r) ?_
    obtain ⟨T3, X3, e3, st3⟩ := getF X1 hx hZ hown (host := "") (Or.inl (own_w hw 36 rfl)) Via.refl e1 FV (g := (mkF m 8 #[vR a1, vN i] [(.ref a1)])) rfl rfl (hb hby q10_8)
    refine gS st3 ?_
    refine gS (fun _ r => XS.iloadN X3.here hx rfl (hb hby q10_11) rfl  r) ?_
    show Goes p ee below s _ _ _ (T3.setTop (mkF m 12 #[vR a1, vN i] [(.int (Int32.ofNat i)), (.ref b)]))
    have lt_a1 := E.lt
    have lt_b := A.lt
    obtain ⟨v4, T4, L4, X4, hQ4, st4⟩ := own_callS X3 hx hZ (y := (⟨"java/lang/StringLatin1", "charAt", "([BI)C"⟩ : MethodName)) hown (own_w hw 153 rfl) (own_w hw 154 rfl) (own_w hw 43 rfl) (own_w hw 155 rfl) (by decide) (argsL := [(.ref b), (.int (Int32.ofNat i))]) (rm_l1c l Z a0 hw [] cs fm b i n c h0 n0 Z0 ST OO hi (by omega) (hl rfl i hi) A) e3 (W := 0) (by decide) (by decide) (by decide) (by decide) (g := (mkF m 12 #[vR a1, vN i] [(.int (Int32.ofNat i)), (.ref b)])) rfl (by rw [hml]; rfl) (rest := []) (lenOf pd_4 rfl) rfl (by show 2 * 0 + _ ≤ _; exact Nat.le_of_eq rfl) (hb hby q10_12)
    refine gS st4 ?_
    obtain ⟨rfl, N4, e4⟩ := hQ4
    have N5 := Fr.app N2 N4
    show Goes p ee below s _ _ _ (T4.setTop (mkF m 15 #[vR a1, vN i] [(.int (Int32.ofNat (c i)))]))
    refine Goes.retZ X4 hx Bd.notSynchronized Bd.returns (by simp) (own_nchar (c i) (hc i hi)) (hb hby q10_15) (by decide) (by decide) ?_
    exact ⟨rfl, N5, e4⟩
  · have FC : Fld Z h0 a1 "java/lang/String" "coder" "B" (.int 1) := FC
    have A : OA Z h0 b .byte (2 * n) (own_by true c) := A
    show Goes p ee below s _ _ _ (s₁.setTop (mkF m 0 #[vR a1, vN i] []))
    refine gS (fun _ r => XS.aloadN X0.here hx rfl (hb hby q10_0) rfl rfl r) ?_
    have lt_a1 := E.lt
    have lt_b := A.lt
    obtain ⟨v6, T6, L6, X6, hQ6, st6⟩ := own_callV X0 hx hZ (y := (⟨"java/lang/String", "isLatin1", "()Z"⟩ : MethodName)) hown (own_w hw 87 rfl) (own_w hw 88 rfl) (own_w hw 90 rfl) (own_w hw 89 rfl) (own_w hw 10 rfl) (own_w hw 91 rfl) (by decide) (a := a1) (argsL := []) (rm_isL l Z a0 hw [] cs fm a1 true h0 n0 Z0 ST OO FC) e0 E (W := 0) (by decide) (by decide) (by decide) (by decide) (g := (mkF m 1 #[vR a1, vN i] [(.ref a1)])) rfl (by rw [hml]; rfl) (rest := []) (lenOf pd_6 rfl) rfl (by show 2 * 0 + _ ≤ _; exact Nat.le_of_eq rfl) (hb hby q10_1)
    refine gS st6 ?_
    obtain ⟨rfl, N6, e6⟩ := hQ6
    have N7 := Fr.app N0 N6
    refine gS (fun _ r => XS.ifYes X6.here hx rfl (pc0 := 4) (pc' := 16) rfl (hb hby q10_4) rfl ((if0 _ _).trans (teq rfl).1) (by decide) (by decide) r) ?_
    refine gS (fun _ r => XS.aloadN X6.here hx rfl (hb hby q10_16) rfl rfl r) ?_
    obtain ⟨T8, X8, e8, st8⟩ := getF X6 hx hZ hown (host := "") (Or.inl (own_w hw 36 rfl)) Via.refl e6 FV (g := (mkF m 17 #[vR a1, vN i] [(.ref a1)])) rfl rfl (hb hby q10_17)
    refine gS st8 ?_
    refine gS (fun _ r => XS.iloadN X8.here hx rfl (hb hby q10_20) rfl  r) ?_
    show Goes p ee below s _ _ _ (T8.setTop (mkF m 21 #[vR a1, vN i] [(.int (Int32.ofNat i)), (.ref b)]))
    have lt_a1 := E.lt
    have lt_b := A.lt
    obtain ⟨v9, T9, L9, X9, hQ9, st9⟩ := own_callS X8 hx hZ (y := (⟨"java/lang/StringUTF16", "charAt", "([BI)C"⟩ : MethodName)) hown (own_w hw 293 rfl) (own_w hw 294 rfl) (own_w hw 25 rfl) (own_w hw 295 rfl) (by decide) (argsL := [(.ref b), (.int (Int32.ofNat i))]) (rm_u16c l Z a0 hw [] cs fm b i n c h0 n0 Z0 ST OO hi (by omega) (hc i hi) A) e8 (W := 0) (by decide) (by decide) (by decide) (by decide) (g := (mkF m 21 #[vR a1, vN i] [(.int (Int32.ofNat i)), (.ref b)])) rfl (by rw [hml]; rfl) (rest := []) (lenOf pd_4 rfl) rfl (by show 2 * 0 + _ ≤ _; exact Nat.le_of_eq rfl) (hb hby q10_21)
    refine gS st9 ?_
    obtain ⟨rfl, N9, e9⟩ := hQ9
    have N10 := Fr.app N7 N9
    show Goes p ee below s _ _ _ (T9.setTop (mkF m 24 #[vR a1, vN i] [(.int (Int32.ofNat (c i)))]))
    refine Goes.retZ X9 hx Bd.notSynchronized Bd.returns (by simp) (own_nchar (c i) (hc i hi)) (hb hby q10_24) (by decide) (by decide) ?_
    exact ⟨rfl, N10, e9⟩
theorem ef_nbl (m : MethodId) (x0 : Int32) : entryFrame m #[(.int x0)] 1 = mkF m 0 #[.val (.int x0)] [] := by first | (simp [entryFrame, mkF, argsToLocals, Value.category]; done) | rfl
theorem q11_0 : decode c11_ 0 = .ok (.iload_n 0, 1) := by decide +kernel
theorem q11_1 : decode c11_ 1 = .ok (.ifCond .ge 11, 3) := by decide +kernel
theorem q11_12 : decode c11_ 12 = .ok (.iload_n 0, 1) := by decide +kernel
theorem q11_13 : decode c11_ 13 = .ok (.ldc 20, 2) := by decide +kernel
theorem q11_15 : decode c11_ 15 = .ok (.if_icmp .lt 40, 3) := by decide +kernel
theorem q11_55 : decode c11_ 55 = .ok (.iload_n 0, 1) := by decide +kernel
theorem q11_56 : decode c11_ 56 = .ok (.iconst 1, 1) := by decide +kernel
theorem q11_57 : decode c11_ 57 = .ok (.ishl, 1) := by decide +kernel
theorem q11_58 : decode c11_ 58 = .ok (.ireturn, 1) := by decide +kernel
def Q_nbl (Z : State) (cs : Int32) (fm : Value) (n : Nat) (h0 : Heap) (n0 : Nat) (v : Option Value) (h : Heap) (L : List Loc) : Prop := v = some (.int (Int32.ofNat (2 * n))) ∧ Fr n0 L ∧ h = h0
set_option maxRecDepth 65536 in
set_option maxHeartbeats 40000000 in
theorem rm_nbl (l : Launch) (Z : State) (a0 : Array Value) (hw : ∀ d ∈ tables_1, d.before a0 Z = true) (ws : List Jvm.Cond) (cs : Int32) (fm : Value) (n : Nat) (h0 : Heap) (n0 : Nat) (Z0 : n0 ≤ h0.size) (ST : own_ST Z cs fm) (OO : Old Z n0 h0) (hn : n < 1073741823) :
    MetFree l (⟨"java/lang/StringUTF16", "newBytesLength", "(I)I"⟩ : MethodName) (head1 (Jvm.Cond.code (⟨"java/lang/StringUTF16", "newBytesLength", "(I)I"⟩ : MethodName) jdk_52_method_3_code 1 (some .int) :: ws) ({ frames := 0, cells := 0, slots := 0, locals := 0 } : Room)) (fun a U => a = #[(.int (Int32.ofNat n))] ∧ Z.Warmed39 U.vm ∧ U.heap = h0) (fun _ _ _ _ _ => True) (fun _ U o U' => ∃ v L, o = .returned v ∧ Q_nbl Z cs fm n h0 n0 v U'.heap L ∧ FrameEnd U o U' L ({ frames := 0, cells := 0, slots := 0, locals := 0 } : Room).cells ({ frames := 0, cells := 0, slots := 0, locals := 0 } : Room).slots) := by
  refine MetFree.of_bodySF (plainFor_of_name pn_java_lang_StringUTF16) hisR ?_
  intro p ee s m args below meth cc s₁ Bd hml0 hP hK
  obtain ⟨rfl, hZ, hh⟩ := hP
  have hx := Bd.exec
  have hby := Bd.bytes
  have hml : cc.maxLocals = 1 := hml0
  have hown : s.vm.findClass "java/lang/StringUTF16" = some m.cls := findClass_of_methodNamed Bd.named
  have hnm := (name_of_methodNamed Bd.named Bd.method).1
  have X0 : Stand p l ee ({ frames := 0, cells := 0, slots := 0, locals := 0 } : Room) s m #[(.int (Int32.ofNat n))] below meth cc s₁ [] 0 0 := Stand.of_body Bd
  have e0 : s₁.heap = h0 := by rw [← hh, Bd.state]; rfl
  have N0 := Fr.nil n0
  show Goes p ee below s ({ frames := 0, cells := 0, slots := 0, locals := 0 } : Room).cells ({ frames := 0, cells := 0, slots := 0, locals := 0 } : Room).slots (Q_nbl Z cs fm n h0 n0) (s₁.setTop (entryFrame m #[(.int (Int32.ofNat n))] 1))
  refine gS (fun _ r => castTop (ef_nbl m (Int32.ofNat n)) r) ?_
  show Goes p ee below s _ _ _ (s₁.setTop (mkF m 0 #[vN n] []))
  refine gS (fun _ r => XS.iloadN X0.here hx rfl (hb hby q11_0) rfl  r) ?_
  refine gS (fun _ r => XS.ifYes X0.here hx rfl (pc0 := 1) (pc' := 12) rfl (hb hby q11_1) rfl ((if0 _ _).trans (flt (own_nneg n (by omega))).2.1) (by decide) (by decide) r) ?_
  refine gS (fun _ r => XS.iloadN X0.here hx rfl (hb hby q11_12) rfl  r) ?_
  refine gS (X0.ldcInt hx hown (mvT hZ (own_w hw 311 rfl)) (g := (mkF m 13 #[vN n] [(.int (Int32.ofNat n))])) rfl (hb hby q11_13)) ?_
  refine gS (fun _ r => XS.icmpYes X0.here hx rfl (pc0 := 15) (pc' := 55) rfl (hb hby q11_15) rfl (tlt ((own_ltN n 1073741823 (by omega) (by decide)).mpr hn)).1 (by decide) (by decide) r) ?_
  refine gS (fun _ r => XS.iloadN X0.here hx rfl (hb hby q11_55) rfl  r) ?_
  show Goes p ee below s _ _ _ (s₁.setTop (mkF m 56 #[vN n] [(.int (Int32.ofNat n))]))
  refine gS (fun _ r => XS.iconst X0.here hx rfl (hb hby q11_56) r) ?_
  refine gS (fun _ r => XT.ishl X0.here hx rfl (hb hby q11_57) rfl r) ?_
  show Goes p ee below s _ _ _ (s₁.setTop (mkF m 58 #[vN n] [(.int ((Int32.ofNat n) <<< ((1 : Int32) &&& 31)))]))
  rw [own_shl1 n (by omega)]
  show Goes p ee below s _ _ _ (s₁.setTop (mkF m 58 #[vN n] [(.int (Int32.ofNat (2 * n)))]))
  refine Goes.retI X0 hx Bd.notSynchronized Bd.returns (hb hby q11_58) (by decide) (by decide) ?_
  exact ⟨rfl, N0, e0⟩
theorem ef_nbf (m : MethodId) (x0 : Int32) : entryFrame m #[(.int x0)] 1 = mkF m 0 #[.val (.int x0)] [] := by first | (simp [entryFrame, mkF, argsToLocals, Value.category]; done) | rfl
theorem q12_0 : decode c12_ 0 = .ok (.iload_n 0, 1) := by decide +kernel
theorem pd_7 : parseMethodDescriptor "(I)I" = some ⟨[.int], some .int⟩ := by decide +kernel
theorem q12_1 : decode c12_ 1 = .ok (.invokestatic 11, 3) := by decide +kernel
theorem q12_4 : decode c12_ 4 = .ok (.newarray .byte, 2) := by decide +kernel
theorem q12_6 : decode c12_ 6 = .ok (.areturn, 1) := by decide +kernel
def Q_nbf (Z : State) (cs : Int32) (fm : Value) (n : Nat) (h0 : Heap) (n0 : Nat) (v : Option Value) (h : Heap) (L : List Loc) : Prop := ∃ b : Addr, v = some (.ref b) ∧ Fr n0 L ∧ h0.size ≤ b ∧ Keep h0 h [] ∧ OA Z h b .byte (2 * n) (fun _ => .int 0)
set_option maxRecDepth 65536 in
set_option maxHeartbeats 40000000 in
theorem rm_nbf (l : Launch) (Z : State) (a0 : Array Value) (hw : ∀ d ∈ tables_1, d.before a0 Z = true) (ws : List Jvm.Cond) (cs : Int32) (fm : Value) (n : Nat) (h0 : Heap) (n0 : Nat) (Z0 : n0 ≤ h0.size) (ST : own_ST Z cs fm) (OO : Old Z n0 h0) (hn : n ≤ 16) :
    MetFree l (⟨"java/lang/StringUTF16", "newBytesFor", "(I)[B"⟩ : MethodName) (head1 (Jvm.Cond.code (⟨"java/lang/StringUTF16", "newBytesFor", "(I)[B"⟩ : MethodName) jdk_52_method_2_code 1 (some (.array .byte)) :: ws) ({ frames := 1, cells := 1, slots := 32, locals := 12 } : Room)) (fun a U => a = #[(.int (Int32.ofNat n))] ∧ Z.Warmed39 U.vm ∧ U.heap = h0) (fun _ _ _ _ _ => True) (fun _ U o U' => ∃ v L, o = .returned v ∧ Q_nbf Z cs fm n h0 n0 v U'.heap L ∧ FrameEnd U o U' L ({ frames := 1, cells := 1, slots := 32, locals := 12 } : Room).cells ({ frames := 1, cells := 1, slots := 32, locals := 12 } : Room).slots) := by
  refine MetFree.of_bodySF (plainFor_of_name pn_java_lang_StringUTF16) hisR ?_
  intro p ee s m args below meth cc s₁ Bd hml0 hP hK
  obtain ⟨rfl, hZ, hh⟩ := hP
  have hx := Bd.exec
  have hby := Bd.bytes
  have hml : cc.maxLocals = 1 := hml0
  have hown : s.vm.findClass "java/lang/StringUTF16" = some m.cls := findClass_of_methodNamed Bd.named
  have hnm := (name_of_methodNamed Bd.named Bd.method).1
  have X0 : Stand p l ee ({ frames := 1, cells := 1, slots := 32, locals := 12 } : Room) s m #[(.int (Int32.ofNat n))] below meth cc s₁ [] 0 0 := Stand.of_body Bd
  have e0 : s₁.heap = h0 := by rw [← hh, Bd.state]; rfl
  have N0 := Fr.nil n0
  show Goes p ee below s ({ frames := 1, cells := 1, slots := 32, locals := 12 } : Room).cells ({ frames := 1, cells := 1, slots := 32, locals := 12 } : Room).slots (Q_nbf Z cs fm n h0 n0) (s₁.setTop (entryFrame m #[(.int (Int32.ofNat n))] 1))
  refine gS (fun _ r => castTop (ef_nbf m (Int32.ofNat n)) r) ?_
  show Goes p ee below s _ _ _ (s₁.setTop (mkF m 0 #[vN n] []))
  have K0 := Keep.refl h0 ([] : List Addr)
  refine gS (fun _ r => XS.iloadN X0.here hx rfl (hb hby q12_0) rfl  r) ?_
  obtain ⟨v1, T1, L1, X1, hQ1, st1⟩ := own_callS X0 hx hZ (y := (⟨"java/lang/StringUTF16", "newBytesLength", "(I)I"⟩ : MethodName)) hown (own_w hw 308 rfl) (own_w hw 309 rfl) (own_w hw 25 rfl) (own_w hw 310 rfl) (by decide) (argsL := [(.int (Int32.ofNat n))]) (rm_nbl l Z a0 hw [] cs fm n h0 n0 Z0 ST OO (by omega)) e0 (W := 0) (by decide) (by decide) (by decide) (by decide) (g := (mkF m 1 #[vN n] [(.int (Int32.ofNat n))])) rfl (by rw [hml]; rfl) (rest := []) (lenOf pd_7 rfl) rfl (by show 2 * 0 + _ ≤ _; exact Nat.le_of_eq rfl) (hb hby q12_1)
  refine gS st1 ?_
  obtain ⟨rfl, N1, e1⟩ := hQ1
  have N2 := Fr.app N0 N1
  show Goes p ee below s _ _ _ (T1.setTop (mkF m 4 #[vN n] [(.int (Int32.ofNat (2 * n)))]))
  obtain ⟨T3, h3, X3, e3, E3, A3, st3⟩ := own_newP X1 hx hZ (aty := .byte) (own_w hw 27 rfl) e1 (z := (Int32.ofNat (2 * n))) (own_nneg (2 * n) (by omega)) (n := (2 * n)) (own_clamp (2 * n) (by omega)) (cap := 32) (by omega) (by decide) (by decide) (by decide) (g := (mkF m 4 #[vN n] [(.int (Int32.ofNat (2 * n)))])) rfl rfl (hb hby q12_4)
  obtain ⟨b3, g_b3⟩ : ∃ z, z = h0.size := ⟨_, rfl⟩
  have ge_b3 : n0 ≤ b3 := Nat.le_trans Z0 (Nat.le_of_eq g_b3.symm)
  have sz_b3 : h0.size ≤ b3 := Nat.le_trans K0.1 (Nat.le_of_eq g_b3.symm)
  rw [← g_b3] at A3 st3
  have Zp4 := Nat.le_trans Z0 E3.1
  have OO := OO.ext E3
  have K5 := K0.ext E3
  refine gS st3 ?_
  have A_b3 : OA Z h3 b3 .byte (2 * n) (fun _ => (.int 0)) := A3
  show Goes p ee below s _ _ _ (T3.setTop (mkF m 6 #[vN n] [(.ref b3)]))
  refine Goes.retA X3 hx Bd.notSynchronized Bd.returns rfl rfl (hb hby q12_6) (by decide) (by decide) ?_
  rw [e3]
  exact ⟨_, rfl, N2, sz_b3, K5, A_b3⟩
theorem ef_putc (m : MethodId) (x0 : Addr) (x1 : Int32) (x2 : Int32) : entryFrame m #[(.ref x0), (.int x1), (.int x2)] 3 = mkF m 0 #[.val (.ref x0), .val (.int x1), .val (.int x2)] [] := by first | (simp [entryFrame, mkF, argsToLocals, Value.category]; done) | rfl
theorem q13_0 : decode c13_ 0 = .ok (.getstatic 44, 3) := by decide +kernel
theorem q13_3 : decode c13_ 3 = .ok (.ifCond .ne 25, 3) := by decide +kernel
theorem q13_28 : decode c13_ 28 = .ok (.iload_n 1, 1) := by decide +kernel
theorem q13_29 : decode c13_ 29 = .ok (.iconst 1, 1) := by decide +kernel
theorem q13_30 : decode c13_ 30 = .ok (.ishl, 1) := by decide +kernel
theorem q13_31 : decode c13_ 31 = .ok (.istore_n 1, 1) := by decide +kernel
theorem q13_32 : decode c13_ 32 = .ok (.aload_n 0, 1) := by decide +kernel
theorem q13_33 : decode c13_ 33 = .ok (.iload_n 1, 1) := by decide +kernel
theorem q13_34 : decode c13_ 34 = .ok (.iinc 1 1, 3) := by decide +kernel
theorem q13_37 : decode c13_ 37 = .ok (.iload_n 2, 1) := by decide +kernel
theorem q13_38 : decode c13_ 38 = .ok (.getstatic 59, 3) := by decide +kernel
theorem q13_41 : decode c13_ 41 = .ok (.ishr, 1) := by decide +kernel
theorem q13_42 : decode c13_ 42 = .ok (.i2b, 1) := by decide +kernel
theorem q13_43 : decode c13_ 43 = .ok (.bastore, 1) := by decide +kernel
theorem q13_44 : decode c13_ 44 = .ok (.aload_n 0, 1) := by decide +kernel
theorem q13_45 : decode c13_ 45 = .ok (.iload_n 1, 1) := by decide +kernel
theorem q13_46 : decode c13_ 46 = .ok (.iload_n 2, 1) := by decide +kernel
theorem q13_47 : decode c13_ 47 = .ok (.getstatic 63, 3) := by decide +kernel
theorem q13_50 : decode c13_ 50 = .ok (.ishr, 1) := by decide +kernel
theorem q13_51 : decode c13_ 51 = .ok (.i2b, 1) := by decide +kernel
theorem q13_52 : decode c13_ 52 = .ok (.bastore, 1) := by decide +kernel
theorem q13_53 : decode c13_ 53 = .ok (.return_, 1) := by decide +kernel
def Q_putc (Z : State) (cs : Int32) (fm : Value) (a1 : Addr) (i k n : Nat) (f : Nat → Value) (h0 : Heap) (n0 : Nat) (v : Option Value) (h : Heap) (L : List Loc) : Prop := v = none ∧ Fr n0 L ∧ Keep h0 h [a1] ∧ OA Z h a1 .byte (2 * n) (fun j => if j = 2 * i + 1 then .int (own_bt (k / 256)) else if j = 2 * i then .int (own_bt k) else f j)
set_option maxRecDepth 65536 in
set_option maxHeartbeats 40000000 in
theorem rm_putc (l : Launch) (Z : State) (a0 : Array Value) (hw : ∀ d ∈ tables_1, d.before a0 Z = true) (ws : List Jvm.Cond) (cs : Int32) (fm : Value) (a1 : Addr) (i k n : Nat) (f : Nat → Value) (h0 : Heap) (n0 : Nat) (Z0 : n0 ≤ h0.size) (ST : own_ST Z cs fm) (OO : Old Z n0 h0) (hi : i < n) (hk : k < 65536) (hn : n < 2 ^ 30) (ge_a1 : n0 ≤ a1) (A : OA Z h0 a1 .byte (2 * n) f) :
    MetFree l (⟨"java/lang/StringUTF16", "putChar", "([BII)V"⟩ : MethodName) (head1 (Jvm.Cond.code (⟨"java/lang/StringUTF16", "putChar", "([BII)V"⟩ : MethodName) jdk_52_method_4_code 3 none :: ws) ({ frames := 0, cells := 0, slots := 0, locals := 0 } : Room)) (fun a U => a = #[(.ref a1), (.int (Int32.ofNat i)), (.int (Int32.ofNat k))] ∧ Z.Warmed39 U.vm ∧ U.heap = h0) (fun _ _ _ _ _ => True) (fun _ U o U' => ∃ v L, o = .returned v ∧ Q_putc Z cs fm a1 i k n f h0 n0 v U'.heap L ∧ FrameEnd U o U' L ({ frames := 0, cells := 0, slots := 0, locals := 0 } : Room).cells ({ frames := 0, cells := 0, slots := 0, locals := 0 } : Room).slots) := by
  refine MetFree.of_bodySF (plainFor_of_name pn_java_lang_StringUTF16) hisR ?_
  intro p ee s m args below meth cc s₁ Bd hml0 hP hK
  obtain ⟨rfl, hZ, hh⟩ := hP
  have hx := Bd.exec
  have hby := Bd.bytes
  have hml : cc.maxLocals = 3 := hml0
  have hown : s.vm.findClass "java/lang/StringUTF16" = some m.cls := findClass_of_methodNamed Bd.named
  have hnm := (name_of_methodNamed Bd.named Bd.method).1
  have X0 : Stand p l ee ({ frames := 0, cells := 0, slots := 0, locals := 0 } : Room) s m #[(.ref a1), (.int (Int32.ofNat i)), (.int (Int32.ofNat k))] below meth cc s₁ [] 0 0 := Stand.of_body Bd
  have e0 : s₁.heap = h0 := by rw [← hh, Bd.state]; rfl
  have N0 := Fr.nil n0
  show Goes p ee below s ({ frames := 0, cells := 0, slots := 0, locals := 0 } : Room).cells ({ frames := 0, cells := 0, slots := 0, locals := 0 } : Room).slots (Q_putc Z cs fm a1 i k n f h0 n0) (s₁.setTop (entryFrame m #[(.ref a1), (.int (Int32.ofNat i)), (.int (Int32.ofNat k))] 3))
  refine gS (fun _ r => castTop (ef_putc m a1 (Int32.ofNat i) (Int32.ofNat k)) r) ?_
  show Goes p ee below s _ _ _ (s₁.setTop (mkF m 0 #[vR a1, vN i, vN k] []))
  have K0 := Keep.refl h0 ([a1] : List Addr)
  obtain ⟨T1, X1, e1, st1⟩ := getS X0 hx hZ (host := "") hown (own_w hw 263 rfl) Via.refl e0 ((ST.2.2.2.2.1).ext OO.2) (g := (mkF m 0 #[vR a1, vN i, vN k] [])) rfl (hb hby q13_0)
  refine gS st1 ?_
  refine gS (fun _ r => XS.ifYes X1.here hx rfl (pc0 := 3) (pc' := 28) rfl (hb hby q13_3) rfl ((if0 _ _).trans (feq (by decide)).2) (by decide) (by decide) r) ?_
  refine gS (fun _ r => XS.iloadN X1.here hx rfl (hb hby q13_28) rfl  r) ?_
  refine gS (fun _ r => XS.iconst X1.here hx rfl (hb hby q13_29) r) ?_
  refine gS (fun _ r => XT.ishl X1.here hx rfl (hb hby q13_30) rfl r) ?_
  show Goes p ee below s _ _ _ (T1.setTop (mkF m 31 #[vR a1, vN i, vN k] [(.int ((Int32.ofNat i) <<< ((1 : Int32) &&& 31)))]))
  rw [own_shl1 i (by omega)]
  show Goes p ee below s _ _ _ (T1.setTop (mkF m 31 #[vR a1, vN i, vN k] [(.int (Int32.ofNat (2 * i)))]))
  refine gS (fun _ r => XS.istoreN X1.here hx rfl (hb hby q13_31) rfl  (l' := #[vR a1, vN (2 * i), vN k]) rfl r) ?_
  refine gS (fun _ r => XS.aloadN X1.here hx rfl (hb hby q13_32) rfl rfl r) ?_
  refine gS (fun _ r => XS.iloadN X1.here hx rfl (hb hby q13_33) rfl  r) ?_
  refine gS (fun _ r => XS.iinc X1.here hx rfl (hb hby q13_34) rfl (l' := #[vR a1, .val (.int ((Int32.ofNat (2 * i)) + (1 : Int32))), vN k]) rfl r) ?_
  show Goes p ee below s _ _ _ (T1.setTop (mkF m 37 #[vR a1, .val (.int ((Int32.ofNat (2 * i)) + (1 : Int32))), vN k] [(.int (Int32.ofNat (2 * i))), (.ref a1)]))
  rw [show Int32.ofNat (2 * i) + (1 : Int32) = Int32.ofNat (2 * i + 1) from own_addN (2 * i) 1]
  show Goes p ee below s _ _ _ (T1.setTop (mkF m 37 #[vR a1, vN (2 * i + 1), vN k] [(.int (Int32.ofNat (2 * i))), (.ref a1)]))
  refine gS (fun _ r => XS.iloadN X1.here hx rfl (hb hby q13_37) rfl  r) ?_
  obtain ⟨T2, X2, e2, st2⟩ := getS X1 hx hZ (host := "") hown (own_w hw 264 rfl) Via.refl e1 ((ST.2.2.2.2.2.1).ext OO.2) (g := (mkF m 38 #[vR a1, vN (2 * i + 1), vN k] [(.int (Int32.ofNat k)), (.int (Int32.ofNat (2 * i))), (.ref a1)])) rfl (hb hby q13_38)
  refine gS st2 ?_
  refine gS (fun _ r => XT.ishr X2.here hx rfl (hb hby q13_41) rfl r) ?_
  show Goes p ee below s _ _ _ (T2.setTop (mkF m 42 #[vR a1, vN (2 * i + 1), vN k] [(.int ((Int32.ofNat k) >>> ((0 : Int32) &&& 31))), (.int (Int32.ofNat (2 * i))), (.ref a1)]))
  rw [own_shr0 k (by omega)]
  show Goes p ee below s _ _ _ (T2.setTop (mkF m 42 #[vR a1, vN (2 * i + 1), vN k] [(.int (Int32.ofNat k)), (.int (Int32.ofNat (2 * i))), (.ref a1)]))
  refine gS (fun _ r => XT.i2b X2.here hx rfl (hb hby q13_42) rfl r) ?_
  show Goes p ee below s _ _ _ (T2.setTop (mkF m 43 #[vR a1, vN (2 * i + 1), vN k] [(.int (Int32.ofNat k).toInt8.toInt32), (.int (Int32.ofNat (2 * i))), (.ref a1)]))
  obtain ⟨T3, h3, X3, e3, W3, A3, st3⟩ := own_stB X2 hx hZ e2 A (x := (Int32.ofNat k).toInt8.toInt32) (j := (Int32.ofNat (2 * i))) (own_nneg (2 * i) (by omega)) (k := (2 * i)) (own_clamp (2 * i) (by omega)) (by omega) (g := (mkF m 43 #[vR a1, vN (2 * i + 1), vN k] [(.int (Int32.ofNat k).toInt8.toInt32), (.int (Int32.ofNat (2 * i))), (.ref a1)])) rfl rfl (hb hby q13_43)
  refine gS st3 ?_
  have Zp4 := Nat.le_trans Z0 (Keep.of_wr W3).1
  have N5 := Fr.snoc X3 N0 ge_a1
  have OO := OO.wr W3 ge_a1
  have K6 := K0.wr W3 (Or.inl (List.mem_of_getElem? (i := 0) rfl))
  have A : OA Z h3 a1 .byte (2 * n) (fun j => if j = 2 * i then .int (own_bt k) else f j) := A3.congr (fun j hj => by rw [own_bt_nar]; rfl)
  show Goes p ee below s _ _ _ (T3.setTop (mkF m 44 #[vR a1, vN (2 * i + 1), vN k] []))
  refine gS (fun _ r => XS.aloadN X3.here hx rfl (hb hby q13_44) rfl rfl r) ?_
  refine gS (fun _ r => XS.iloadN X3.here hx rfl (hb hby q13_45) rfl  r) ?_
  refine gS (fun _ r => XS.iloadN X3.here hx rfl (hb hby q13_46) rfl  r) ?_
  obtain ⟨T7, X7, e7, st7⟩ := getS X3 hx hZ (host := "") hown (own_w hw 265 rfl) Via.refl e3 ((ST.2.2.2.2.2.2.1).ext OO.2) (g := (mkF m 47 #[vR a1, vN (2 * i + 1), vN k] [(.int (Int32.ofNat k)), (.int (Int32.ofNat (2 * i + 1))), (.ref a1)])) rfl (hb hby q13_47)
  refine gS st7 ?_
  refine gS (fun _ r => XT.ishr X7.here hx rfl (hb hby q13_50) rfl r) ?_
  show Goes p ee below s _ _ _ (T7.setTop (mkF m 51 #[vR a1, vN (2 * i + 1), vN k] [(.int ((Int32.ofNat k) >>> ((8 : Int32) &&& 31))), (.int (Int32.ofNat (2 * i + 1))), (.ref a1)]))
  rw [own_shr8 k (by omega)]
  show Goes p ee below s _ _ _ (T7.setTop (mkF m 51 #[vR a1, vN (2 * i + 1), vN k] [(.int (Int32.ofNat (k / 256))), (.int (Int32.ofNat (2 * i + 1))), (.ref a1)]))
  refine gS (fun _ r => XT.i2b X7.here hx rfl (hb hby q13_51) rfl r) ?_
  show Goes p ee below s _ _ _ (T7.setTop (mkF m 52 #[vR a1, vN (2 * i + 1), vN k] [(.int (Int32.ofNat (k / 256)).toInt8.toInt32), (.int (Int32.ofNat (2 * i + 1))), (.ref a1)]))
  obtain ⟨T8, h8, X8, e8, W8, A8, st8⟩ := own_stB X7 hx hZ e7 A (x := (Int32.ofNat (k / 256)).toInt8.toInt32) (j := (Int32.ofNat (2 * i + 1))) (own_nneg (2 * i + 1) (by omega)) (k := (2 * i + 1)) (own_clamp (2 * i + 1) (by omega)) (by omega) (g := (mkF m 52 #[vR a1, vN (2 * i + 1), vN k] [(.int (Int32.ofNat (k / 256)).toInt8.toInt32), (.int (Int32.ofNat (2 * i + 1))), (.ref a1)])) rfl rfl (hb hby q13_52)
  refine gS st8 ?_
  have Zp9 := Nat.le_trans Zp4 (Keep.of_wr W8).1
  have N10 := Fr.snoc X8 N5 ge_a1
  have OO := OO.wr W8 ge_a1
  have K11 := K6.wr W8 (Or.inl (List.mem_of_getElem? (i := 0) rfl))
  have A : OA Z h8 a1 .byte (2 * n) (fun j => if j = 2 * i + 1 then .int (own_bt (k / 256)) else if j = 2 * i then .int (own_bt k) else f j) := A8.congr (fun j hj => by rw [own_bt_nar]; rfl)
  show Goes p ee below s _ _ _ (T8.setTop (mkF m 53 #[vR a1, vN (2 * i + 1), vN k] []))
  refine Goes.retV X8 hx Bd.notSynchronized Bd.returns (hb hby q13_53) (by decide) (by decide) ?_
  rw [e8]
  exact ⟨rfl, N10, K11, A⟩
theorem ef_tob (m : MethodId) (x0 : Addr) (x1 : Int32) (x2 : Int32) : entryFrame m #[(.ref x0), (.int x1), (.int x2)] 5 = mkF m 0 #[.val (.ref x0), .val (.int x1), .val (.int x2), .unset, .unset] [] := by first | (simp [entryFrame, mkF, argsToLocals, Value.category]; done) | rfl
theorem q14_0 : decode c14_ 0 = .ok (.iload_n 2, 1) := by decide +kernel
theorem pd_8 : parseMethodDescriptor "(I)[B" = some ⟨[.int], some (.array .byte)⟩ := by decide +kernel
theorem q14_1 : decode c14_ 1 = .ok (.invokestatic 107, 3) := by decide +kernel
theorem q14_4 : decode c14_ 4 = .ok (.astore_n 3, 1) := by decide +kernel
theorem q14_5 : decode c14_ 5 = .ok (.iconst 0, 1) := by decide +kernel
theorem q14_6 : decode c14_ 6 = .ok (.istore 4, 2) := by decide +kernel
theorem q14_8 : decode c14_ 8 = .ok (.iload 4, 2) := by decide +kernel
theorem q14_10 : decode c14_ 10 = .ok (.iload_n 2, 1) := by decide +kernel
theorem q14_11 : decode c14_ 11 = .ok (.if_icmp .ge 21, 3) := by decide +kernel
theorem q14_14 : decode c14_ 14 = .ok (.aload_n 3, 1) := by decide +kernel
theorem q14_15 : decode c14_ 15 = .ok (.iload 4, 2) := by decide +kernel
theorem q14_17 : decode c14_ 17 = .ok (.aload_n 0, 1) := by decide +kernel
theorem q14_18 : decode c14_ 18 = .ok (.iload_n 1, 1) := by decide +kernel
theorem q14_19 : decode c14_ 19 = .ok (.caload, 1) := by decide +kernel
theorem pd_9 : parseMethodDescriptor "([BII)V" = some ⟨[(.array .byte), .int, .int], none⟩ := by decide +kernel
theorem q14_20 : decode c14_ 20 = .ok (.invokestatic 111, 3) := by decide +kernel
theorem q14_23 : decode c14_ 23 = .ok (.iinc 1 1, 3) := by decide +kernel
theorem q14_26 : decode c14_ 26 = .ok (.iinc 4 1, 3) := by decide +kernel
theorem q14_29 : decode c14_ 29 = .ok (.goto (-21), 3) := by decide +kernel
theorem q14_32 : decode c14_ 32 = .ok (.aload_n 3, 1) := by decide +kernel
theorem q14_33 : decode c14_ 33 = .ok (.areturn, 1) := by decide +kernel
def Q_tob (Z : State) (cs : Int32) (fm : Value) (a1 : Addr) (n : Nat) (c : Nat → Nat) (h0 : Heap) (n0 : Nat) (v : Option Value) (h : Heap) (L : List Loc) : Prop := ∃ b : Addr, v = some (.ref b) ∧ Fr n0 L ∧ h0.size ≤ b ∧ Keep h0 h [] ∧ OA Z h b .byte (2 * n) (own_by true c)
set_option maxRecDepth 65536 in
set_option maxHeartbeats 40000000 in
theorem rm_tob (l : Launch) (Z : State) (a0 : Array Value) (hw : ∀ d ∈ tables_1, d.before a0 Z = true) (ws : List Jvm.Cond) (cs : Int32) (fm : Value) (a1 : Addr) (n : Nat) (c : Nat → Nat) (h0 : Heap) (n0 : Nat) (Z0 : n0 ≤ h0.size) (ST : own_ST Z cs fm) (OO : Old Z n0 h0) (hn : n ≤ 16) (hc : ∀ j, j < n → c j < 65536) (A : OA Z h0 a1 .char n (fun i => .int (Int32.ofNat (c i)))) :
    MetFree l (⟨"java/lang/StringUTF16", "toBytes", "([CII)[B"⟩ : MethodName) (head1 (Jvm.Cond.code (⟨"java/lang/StringUTF16", "toBytes", "([CII)[B"⟩ : MethodName) jdk_52_method_14_code 5 (some (.array .byte)) :: ws) ({ frames := 2, cells := 1, slots := 32, locals := 24 } : Room)) (fun a U => a = #[(.ref a1), (.int (0 : Int32)), (.int (Int32.ofNat n))] ∧ Z.Warmed39 U.vm ∧ U.heap = h0) (fun _ _ _ _ _ => True) (fun _ U o U' => ∃ v L, o = .returned v ∧ Q_tob Z cs fm a1 n c h0 n0 v U'.heap L ∧ FrameEnd U o U' L ({ frames := 2, cells := 1, slots := 32, locals := 24 } : Room).cells ({ frames := 2, cells := 1, slots := 32, locals := 24 } : Room).slots) := by
  refine MetFree.of_bodySF (plainFor_of_name pn_java_lang_StringUTF16) hisR ?_
  intro p ee s m args below meth cc s₁ Bd hml0 hP hK
  obtain ⟨rfl, hZ, hh⟩ := hP
  have hx := Bd.exec
  have hby := Bd.bytes
  have hml : cc.maxLocals = 5 := hml0
  have hown : s.vm.findClass "java/lang/StringUTF16" = some m.cls := findClass_of_methodNamed Bd.named
  have hnm := (name_of_methodNamed Bd.named Bd.method).1
  have X0 : Stand p l ee ({ frames := 2, cells := 1, slots := 32, locals := 24 } : Room) s m #[(.ref a1), (.int (0 : Int32)), (.int (Int32.ofNat n))] below meth cc s₁ [] 0 0 := Stand.of_body Bd
  have e0 : s₁.heap = h0 := by rw [← hh, Bd.state]; rfl
  have N0 := Fr.nil n0
  show Goes p ee below s ({ frames := 2, cells := 1, slots := 32, locals := 24 } : Room).cells ({ frames := 2, cells := 1, slots := 32, locals := 24 } : Room).slots (Q_tob Z cs fm a1 n c h0 n0) (s₁.setTop (entryFrame m #[(.ref a1), (.int (0 : Int32)), (.int (Int32.ofNat n))] 5))
  refine gS (fun _ r => castTop (ef_tob m a1 (0 : Int32) (Int32.ofNat n)) r) ?_
  show Goes p ee below s _ _ _ (s₁.setTop (mkF m 0 #[vR a1, .val (.int (0 : Int32)), vN n, .unset, .unset] []))
  have K0 := Keep.refl h0 ([] : List Addr)
  refine gS (fun _ r => XS.iloadN X0.here hx rfl (hb hby q14_0) rfl  r) ?_
  have lt_a1 := A.lt
  obtain ⟨v1, T1, L1, X1, hQ1, st1⟩ := own_callS X0 hx hZ (y := (⟨"java/lang/StringUTF16", "newBytesFor", "(I)[B"⟩ : MethodName)) hown (own_w hw 336 rfl) (own_w hw 306 rfl) (own_w hw 25 rfl) (own_w hw 307 rfl) (by decide) (argsL := [(.int (Int32.ofNat n))]) (rm_nbf l Z a0 hw [] cs fm n h0 n0 Z0 ST OO hn) e0 (W := 0) (by decide) (by decide) (by decide) (by decide) (g := (mkF m 1 #[vR a1, .val (.int (0 : Int32)), vN n, .unset, .unset] [(.int (Int32.ofNat n))])) rfl (by rw [hml]; rfl) (rest := []) (lenOf pd_8 rfl) rfl (by show 2 * 0 + _ ≤ _; exact Nat.le_of_eq rfl) (hb hby q14_1)
  refine gS st1 ?_
  obtain ⟨b1, rfl, N1, sz1, Kc1, A_b1⟩ := hQ1
  have N2 := Fr.app N0 N1
  obtain ⟨h1, e1⟩ : ∃ h', T1.heap = h' := ⟨_, rfl⟩
  rw [e1] at Kc1 A_b1
  have A := A.keep Kc1 nin0
  have OO := OO.keep Kc1 all0
  have K3 := K0.trans Kc1 all0
  have Zp4 := Nat.le_trans Z0 Kc1.1
  have ge_b1 : n0 ≤ b1 := Nat.le_trans Z0 sz1
  have sz_b1 : h0.size ≤ b1 := Nat.le_trans K0.1 sz1
  have ne_a1_b1 : a1 ≠ b1 := Nat.ne_of_lt (Nat.lt_of_lt_of_le lt_a1 sz1)
  refine gS (fun _ r => XS.astoreN X1.here hx rfl (hb hby q14_4) rfl rfl (l' := #[vR a1, .val (.int (0 : Int32)), vN n, vR b1, .unset]) rfl r) ?_
  refine gS (fun _ r => XS.iconst X1.here hx rfl (hb hby q14_5) r) ?_
  refine gS (fun _ r => XS.istore X1.here hx rfl (hb hby q14_6) rfl  (l' := #[vR a1, .val (.int (0 : Int32)), vN n, vR b1, .val (.int (0 : Int32))]) rfl r) ?_
  show Goes p ee below s _ _ _ (T1.setTop (mkF m 8 #[vR a1, .val (.int (0 : Int32)), vN n, vR b1, .val (.int (0 : Int32))] []))
  have loop : ∀ (d i : Nat) (T : State) (locs : List Loc) (hh : Heap), Stand p l ee ({ frames := 2, cells := 1, slots := 32, locals := 24 } : Room) s m #[(.ref a1), (.int (0 : Int32)), (.int (Int32.ofNat n))] below meth cc T locs 1 32 → T.heap = hh → Fr n0 locs → n0 ≤ hh.size → Keep h0 hh [] → Old Z n0 hh → OA Z hh a1 .char n (fun i => .int (Int32.ofNat (c i))) → OA Z hh b1 .byte (2 * n) (fun j => if j < 2 * i then own_by true c j else .int 0) → 0 < d → n < i + d → i ≤ n → Goes p ee below s ({ frames := 2, cells := 1, slots := 32, locals := 24 } : Room).cells ({ frames := 2, cells := 1, slots := 32, locals := 24 } : Room).slots (Q_tob Z cs fm a1 n c h0 n0) (T.setTop (mkF m 8 #[vR a1, vN i, vN n, vR b1, vN i] [])) := by
    intro d
    induction d with
    | zero => intro i T locs hh X eT N Zp K OO A A_b1 q1; omega
    | succ d ih =>
      intro i T locs hh X eT N Zp K OO A A_b1 q1 q2 q3
      show Goes p ee below s _ _ _ (T.setTop (mkF m 8 #[vR a1, vN i, vN n, vR b1, vN i] []))
      refine gS (fun _ r => XS.iload X.here hx rfl (hb hby q14_8) rfl  r) ?_
      refine gS (fun _ r => XS.iloadN X.here hx rfl (hb hby q14_10) rfl  r) ?_
      by_cases hn11_5 : i < n
      · refine gS (fun _ r => XS.icmpNo X.here hx rfl (hb hby q14_11) rfl (tlt ((own_ltN i n (by omega) (by omega)).mpr hn11_5)).2.1 r) ?_
        refine gS (fun _ r => XS.aloadN X.here hx rfl (hb hby q14_14) rfl rfl r) ?_
        refine gS (fun _ r => XS.iload X.here hx rfl (hb hby q14_15) rfl  r) ?_
        refine gS (fun _ r => XS.aloadN X.here hx rfl (hb hby q14_17) rfl rfl r) ?_
        show Goes p ee below s _ _ _ (T.setTop (mkF m 18 #[vR a1, vN i, vN n, vR b1, vN i] [(.ref a1), (.int (Int32.ofNat i)), (.ref b1)]))
        refine gS (fun _ r => XS.iloadN X.here hx rfl (hb hby q14_18) rfl  r) ?_
        refine gS (own_caload X hx hZ eT A (j := (Int32.ofNat i)) (own_nneg i (by omega)) (k := i) (own_clamp i (by omega)) hn11_5 (v := (.int (Int32.ofNat (c i)))) rfl (g := (mkF m 19 #[vR a1, vN i, vN n, vR b1, vN i] [(.int (Int32.ofNat i)), (.ref a1), (.int (Int32.ofNat i)), (.ref b1)])) rfl rfl (hb hby q14_19)) ?_
        show Goes p ee below s _ _ _ (T.setTop (mkF m 20 #[vR a1, vN i, vN n, vR b1, vN i] [(.int (Int32.ofNat (c i))), (.int (Int32.ofNat i)), (.ref b1)]))
        have lt_a1 := A.lt
        have lt_b1 := A_b1.lt
        obtain ⟨v6, T6, L6, X6, hQ6, st6⟩ := own_callS X hx hZ (y := (⟨"java/lang/StringUTF16", "putChar", "([BII)V"⟩ : MethodName)) hown (own_w hw 260 rfl) (own_w hw 261 rfl) (own_w hw 25 rfl) (own_w hw 262 rfl) (by decide) (argsL := [(.ref b1), (.int (Int32.ofNat i)), (.int (Int32.ofNat (c i)))]) (rm_putc l Z a0 hw [] cs fm b1 i (c i) n _ hh n0 Zp ST OO hn11_5 (hc i hn11_5) (by omega) ge_b1 A_b1) eT (W := 0) (by decide) (by decide) (by decide) (by decide) (g := (mkF m 20 #[vR a1, vN i, vN n, vR b1, vN i] [(.int (Int32.ofNat (c i))), (.int (Int32.ofNat i)), (.ref b1)])) rfl (by rw [hml]; rfl) (rest := []) (lenOf pd_9 rfl) rfl (by show 2 * 0 + _ ≤ _; exact Nat.le_of_eq rfl) (hb hby q14_20)
        refine gS st6 ?_
        obtain ⟨rfl, N6, Kc6, A_b1⟩ := hQ6
        have N7 := Fr.app N N6
        obtain ⟨h6, e6⟩ : ∃ h', T6.heap = h' := ⟨_, rfl⟩
        rw [e6] at Kc6 A_b1
        have A := A.keep Kc6 (ninS ne_a1_b1 nin0)
        have OO := OO.keep Kc6 (allS ge_b1 all0)
        have K8 := K.trans Kc6 (allS (Or.inr sz_b1) all0)
        have Zp9 := Nat.le_trans Zp Kc6.1
        refine gS (fun _ r => XS.iinc X6.here hx rfl (hb hby q14_23) rfl (l' := #[vR a1, .val (.int ((Int32.ofNat i) + (1 : Int32))), vN n, vR b1, vN i]) rfl r) ?_
        show Goes p ee below s _ _ _ (T6.setTop (mkF m 26 #[vR a1, .val (.int ((Int32.ofNat i) + (1 : Int32))), vN n, vR b1, vN i] []))
        rw [show Int32.ofNat i + (1 : Int32) = Int32.ofNat (i + 1) from own_addN i 1]
        show Goes p ee below s _ _ _ (T6.setTop (mkF m 26 #[vR a1, vN (i + 1), vN n, vR b1, vN i] []))
        refine gS (fun _ r => XS.iinc X6.here hx rfl (hb hby q14_26) rfl (l' := #[vR a1, vN (i + 1), vN n, vR b1, .val (.int ((Int32.ofNat i) + (1 : Int32)))]) rfl r) ?_
        show Goes p ee below s _ _ _ (T6.setTop (mkF m 29 #[vR a1, vN (i + 1), vN n, vR b1, .val (.int ((Int32.ofNat i) + (1 : Int32)))] []))
        rw [show Int32.ofNat i + (1 : Int32) = Int32.ofNat (i + 1) from own_addN i 1]
        show Goes p ee below s _ _ _ (T6.setTop (mkF m 29 #[vR a1, vN (i + 1), vN n, vR b1, vN (i + 1)] []))
        refine gS (fun _ r => XS.goto X6.here hx rfl (pc0 := 29) (pc' := 8) rfl (hb hby q14_29) (by decide) (by decide) r) ?_
        show Goes p ee below s _ _ _ (T6.setTop (mkF m 8 #[vR a1, vN (i + 1), vN n, vR b1, vN (i + 1)] []))
        exact ih (i + 1) _ _ _ X6 e6 N7 Zp9 K8 OO A (own_part_next A_b1) (by omega) (by omega) (by omega)
      · refine gS (fun _ r => XS.icmpYes X.here hx rfl (pc0 := 11) (pc' := 32) rfl (hb hby q14_11) rfl (flt (fun z => hn11_5 ((own_ltN i n (by omega) (by omega)).mp z))).2.1 (by decide) (by decide) r) ?_
        refine gS (fun _ r => XS.aloadN X.here hx rfl (hb hby q14_32) rfl rfl r) ?_
        show Goes p ee below s _ _ _ (T.setTop (mkF m 33 #[vR a1, vN i, vN n, vR b1, vN i] [(.ref b1)]))
        refine Goes.retA X hx Bd.notSynchronized Bd.returns rfl rfl (hb hby q14_33) (by decide) (by decide) ?_
        rw [eT]
        exact ⟨_, rfl, N, sz_b1, K, A_b1.congr (fun j hj => if_pos (by omega))⟩
  exact loop (n + 1) 0 _ _ _ X1 e1 N2 Zp4 K3 OO A (A_b1.congr (fun j hj => (if_neg (by omega)).symm)) (by omega) (by omega) (by omega)
theorem ef_cmp5 (m : MethodId) (x0 : Addr) (x1 : Int32) (x2 : Addr) (x3 : Int32) (x4 : Int32) : entryFrame m #[(.ref x0), (.int x1), (.ref x2), (.int x3), (.int x4)] 7 = mkF m 0 #[.val (.ref x0), .val (.int x1), .val (.ref x2), .val (.int x3), .val (.int x4), .unset, .unset] [] := by first | (simp [entryFrame, mkF, argsToLocals, Value.category]; done) | rfl
theorem own_os6 {a1 a2 : Addr} {i1 i3 i4 i5 v : Int32} {s6 : Slot} (h : One s6) : storeLocals #[.val (.ref a1), .val (.int i1), .val (.ref a2), .val (.int i3), .val (.int i4), .val (.int i5), s6] 6 (.int v) = some #[.val (.ref a1), .val (.int i1), .val (.ref a2), .val (.int i3), .val (.int i4), .val (.int i5), .val (.int v)] := by
  rcases h with rfl | ⟨w, rfl, hw⟩
  · rfl
  · cases w <;> first | rfl | (simp [Value.category] at hw)
theorem q15_0 : decode c15_ 0 = .ok (.iconst 0, 1) := by decide +kernel
theorem q15_1 : decode c15_ 1 = .ok (.istore 5, 2) := by decide +kernel
theorem q15_3 : decode c15_ 3 = .ok (.iload 5, 2) := by decide +kernel
theorem q15_5 : decode c15_ 5 = .ok (.iload 4, 2) := by decide +kernel
theorem q15_7 : decode c15_ 7 = .ok (.if_icmp .ge 37, 3) := by decide +kernel
theorem q15_10 : decode c15_ 10 = .ok (.aload_n 0, 1) := by decide +kernel
theorem q15_11 : decode c15_ 11 = .ok (.iload_n 1, 1) := by decide +kernel
theorem q15_12 : decode c15_ 12 = .ok (.caload, 1) := by decide +kernel
theorem q15_13 : decode c15_ 13 = .ok (.istore 6, 2) := by decide +kernel
theorem q15_15 : decode c15_ 15 = .ok (.iload 6, 2) := by decide +kernel
theorem q15_17 : decode c15_ 17 = .ok (.sipush 255, 3) := by decide +kernel
theorem q15_20 : decode c15_ 20 = .ok (.if_icmp .le 6, 3) := by decide +kernel
theorem q15_23 : decode c15_ 23 = .ok (.iload 5, 2) := by decide +kernel
theorem q15_25 : decode c15_ 25 = .ok (.ireturn, 1) := by decide +kernel
theorem q15_26 : decode c15_ 26 = .ok (.aload_n 2, 1) := by decide +kernel
theorem q15_27 : decode c15_ 27 = .ok (.iload_n 3, 1) := by decide +kernel
theorem q15_28 : decode c15_ 28 = .ok (.iload 6, 2) := by decide +kernel
theorem q15_30 : decode c15_ 30 = .ok (.i2b, 1) := by decide +kernel
theorem q15_31 : decode c15_ 31 = .ok (.bastore, 1) := by decide +kernel
theorem q15_32 : decode c15_ 32 = .ok (.iinc 1 1, 3) := by decide +kernel
theorem q15_35 : decode c15_ 35 = .ok (.iinc 3 1, 3) := by decide +kernel
theorem q15_38 : decode c15_ 38 = .ok (.iinc 5 1, 3) := by decide +kernel
theorem q15_41 : decode c15_ 41 = .ok (.goto (-38), 3) := by decide +kernel
theorem q15_44 : decode c15_ 44 = .ok (.iload 4, 2) := by decide +kernel
theorem q15_46 : decode c15_ 46 = .ok (.ireturn, 1) := by decide +kernel
def Q_cmp5 (Z : State) (cs : Int32) (fm : Value) (a1 a2 : Addr) (n : Nat) (c : Nat → Nat) (f : Nat → Value) (h0 : Heap) (n0 : Nat) (v : Option Value) (h : Heap) (L : List Loc) : Prop := Fr n0 L ∧ Keep h0 h [a2] ∧ ((v = some (.int (Int32.ofNat n)) ∧ (∀ j, j < n → c j < 256) ∧ OA Z h a2 .byte n (own_by false c)) ∨ ∃ k, k < n ∧ v = some (.int (Int32.ofNat k)) ∧ 255 < c k)
set_option maxRecDepth 65536 in
set_option maxHeartbeats 40000000 in
theorem rm_cmp5 (l : Launch) (Z : State) (a0 : Array Value) (hw : ∀ d ∈ tables_1, d.before a0 Z = true) (ws : List Jvm.Cond) (cs : Int32) (fm : Value) (a1 a2 : Addr) (n : Nat) (c : Nat → Nat) (f : Nat → Value) (h0 : Heap) (n0 : Nat) (Z0 : n0 ≤ h0.size) (ST : own_ST Z cs fm) (OO : Old Z n0 h0) (hn : n ≤ 16) (hc : ∀ j, j < n → c j < 65536) (ne12 : a1 ≠ a2) (ge_a2 : n0 ≤ a2) (A : OA Z h0 a1 .char n (fun i => .int (Int32.ofNat (c i)))) (B : OA Z h0 a2 .byte n f) :
    MetFree l (⟨"java/lang/StringUTF16", "compress", "([CI[BII)I"⟩ : MethodName) (head1 (Jvm.Cond.code (⟨"java/lang/StringUTF16", "compress", "([CI[BII)I"⟩ : MethodName) jdk_52_method_21_code 7 (some .int) :: ws) ({ frames := 0, cells := 0, slots := 0, locals := 0 } : Room)) (fun a U => a = #[(.ref a1), (.int (0 : Int32)), (.ref a2), (.int (0 : Int32)), (.int (Int32.ofNat n))] ∧ Z.Warmed39 U.vm ∧ U.heap = h0) (fun _ _ _ _ _ => True) (fun _ U o U' => ∃ v L, o = .returned v ∧ Q_cmp5 Z cs fm a1 a2 n c f h0 n0 v U'.heap L ∧ FrameEnd U o U' L ({ frames := 0, cells := 0, slots := 0, locals := 0 } : Room).cells ({ frames := 0, cells := 0, slots := 0, locals := 0 } : Room).slots) := by
  refine MetFree.of_bodySF (plainFor_of_name pn_java_lang_StringUTF16) hisR ?_
  intro p ee s m args below meth cc s₁ Bd hml0 hP hK
  obtain ⟨rfl, hZ, hh⟩ := hP
  have hx := Bd.exec
  have hby := Bd.bytes
  have hml : cc.maxLocals = 7 := hml0
  have hown : s.vm.findClass "java/lang/StringUTF16" = some m.cls := findClass_of_methodNamed Bd.named
  have hnm := (name_of_methodNamed Bd.named Bd.method).1
  have X0 : Stand p l ee ({ frames := 0, cells := 0, slots := 0, locals := 0 } : Room) s m #[(.ref a1), (.int (0 : Int32)), (.ref a2), (.int (0 : Int32)), (.int (Int32.ofNat n))] below meth cc s₁ [] 0 0 := Stand.of_body Bd
  have e0 : s₁.heap = h0 := by rw [← hh, Bd.state]; rfl
  have N0 := Fr.nil n0
  show Goes p ee below s ({ frames := 0, cells := 0, slots := 0, locals := 0 } : Room).cells ({ frames := 0, cells := 0, slots := 0, locals := 0 } : Room).slots (Q_cmp5 Z cs fm a1 a2 n c f h0 n0) (s₁.setTop (entryFrame m #[(.ref a1), (.int (0 : Int32)), (.ref a2), (.int (0 : Int32)), (.int (Int32.ofNat n))] 7))
  refine gS (fun _ r => castTop (ef_cmp5 m a1 (0 : Int32) a2 (0 : Int32) (Int32.ofNat n)) r) ?_
  show Goes p ee below s _ _ _ (s₁.setTop (mkF m 0 #[vR a1, .val (.int (0 : Int32)), vR a2, .val (.int (0 : Int32)), vN n, .unset, .unset] []))
  have K0 := Keep.refl h0 ([a2] : List Addr)
  refine gS (fun _ r => XS.iconst X0.here hx rfl (hb hby q15_0) r) ?_
  refine gS (fun _ r => XS.istore X0.here hx rfl (hb hby q15_1) rfl  (l' := #[vR a1, .val (.int (0 : Int32)), vR a2, .val (.int (0 : Int32)), vN n, .val (.int (0 : Int32)), .unset]) rfl r) ?_
  show Goes p ee below s _ _ _ (s₁.setTop (mkF m 3 #[vR a1, .val (.int (0 : Int32)), vR a2, .val (.int (0 : Int32)), vN n, .val (.int (0 : Int32)), .unset] []))
  have loop : ∀ (d i : Nat) (s6 : Slot) (T : State) (locs : List Loc) (hh : Heap), One s6 → Stand p l ee ({ frames := 0, cells := 0, slots := 0, locals := 0 } : Room) s m #[(.ref a1), (.int (0 : Int32)), (.ref a2), (.int (0 : Int32)), (.int (Int32.ofNat n))] below meth cc T locs 0 0 → T.heap = hh → Fr n0 locs → n0 ≤ hh.size → Keep h0 hh [a2] → Old Z n0 hh → OA Z hh a1 .char n (fun i => .int (Int32.ofNat (c i))) → OA Z hh a2 .byte n (fun j => if j < i then own_by false c j else f j) → (∀ j, j < i → c j < 256) → 0 < d → n < i + d → i ≤ n → Goes p ee below s ({ frames := 0, cells := 0, slots := 0, locals := 0 } : Room).cells ({ frames := 0, cells := 0, slots := 0, locals := 0 } : Room).slots (Q_cmp5 Z cs fm a1 a2 n c f h0 n0) (T.setTop (mkF m 3 #[vR a1, vN i, vR a2, vN i, vN n, vN i, s6] [])) := by
    intro d
    induction d with
    | zero => intro i s6 T locs hh o6 X eT N Zp K OO A B hall q1; omega
    | succ d ih =>
      intro i s6 T locs hh o6 X eT N Zp K OO A B hall q1 q2 q3
      show Goes p ee below s _ _ _ (T.setTop (mkF m 3 #[vR a1, vN i, vR a2, vN i, vN n, vN i, s6] []))
      refine gS (fun _ r => XS.iload X.here hx rfl (hb hby q15_3) rfl  r) ?_
      refine gS (fun _ r => XS.iload X.here hx rfl (hb hby q15_5) rfl  r) ?_
      by_cases hn7_1 : i < n
      · refine gS (fun _ r => XS.icmpNo X.here hx rfl (hb hby q15_7) rfl (tlt ((own_ltN i n (by omega) (by omega)).mpr hn7_1)).2.1 r) ?_
        refine gS (fun _ r => XS.aloadN X.here hx rfl (hb hby q15_10) rfl rfl r) ?_
        refine gS (fun _ r => XS.iloadN X.here hx rfl (hb hby q15_11) rfl  r) ?_
        refine gS (own_caload X hx hZ eT A (j := (Int32.ofNat i)) (own_nneg i (by omega)) (k := i) (own_clamp i (by omega)) hn7_1 (v := (.int (Int32.ofNat (c i)))) rfl (g := (mkF m 12 #[vR a1, vN i, vR a2, vN i, vN n, vN i, s6] [(.int (Int32.ofNat i)), (.ref a1)])) rfl rfl (hb hby q15_12)) ?_
        show Goes p ee below s _ _ _ (T.setTop (mkF m 13 #[vR a1, vN i, vR a2, vN i, vN n, vN i, s6] [(.int (Int32.ofNat (c i)))]))
        refine gS (fun _ r => XS.istore X.here hx rfl (hb hby q15_13) rfl  (l' := #[vR a1, vN i, vR a2, vN i, vN n, vN i, vN (c i)]) (own_os6 o6) r) ?_
        refine gS (fun _ r => XS.iload X.here hx rfl (hb hby q15_15) rfl  r) ?_
        refine gS (fun _ r => XS.sipush X.here hx rfl (hb hby q15_17) r) ?_
        by_cases hn20_2 : 255 < c i
        · refine gS (fun _ r => XS.icmpNo X.here hx rfl (hb hby q15_20) rfl (tlt ((own_ltN 255 (c i) (by decide) (Nat.lt_trans (hc i hn7_1) (by decide))).mpr hn20_2)).2.2.2 r) ?_
          refine gS (fun _ r => XS.iload X.here hx rfl (hb hby q15_23) rfl  r) ?_
          show Goes p ee below s _ _ _ (T.setTop (mkF m 25 #[vR a1, vN i, vR a2, vN i, vN n, vN i, vN (c i)] [(.int (Int32.ofNat i))]))
          refine Goes.retI X hx Bd.notSynchronized Bd.returns (hb hby q15_25) (by decide) (by decide) ?_
          rw [eT]
          exact ⟨N, K, Or.inr ⟨i, hn7_1, rfl, hn20_2⟩⟩
        · refine gS (fun _ r => XS.icmpYes X.here hx rfl (pc0 := 20) (pc' := 26) rfl (hb hby q15_20) rfl (flt (fun z => hn20_2 ((own_ltN 255 (c i) (by decide) (Nat.lt_trans (hc i hn7_1) (by decide))).mp z))).2.2.2 (by decide) (by decide) r) ?_
          refine gS (fun _ r => XS.aloadN X.here hx rfl (hb hby q15_26) rfl rfl r) ?_
          refine gS (fun _ r => XS.iloadN X.here hx rfl (hb hby q15_27) rfl  r) ?_
          show Goes p ee below s _ _ _ (T.setTop (mkF m 28 #[vR a1, vN i, vR a2, vN i, vN n, vN i, vN (c i)] [(.int (Int32.ofNat i)), (.ref a2)]))
          refine gS (fun _ r => XS.iload X.here hx rfl (hb hby q15_28) rfl  r) ?_
          refine gS (fun _ r => XT.i2b X.here hx rfl (hb hby q15_30) rfl r) ?_
          show Goes p ee below s _ _ _ (T.setTop (mkF m 31 #[vR a1, vN i, vR a2, vN i, vN n, vN i, vN (c i)] [(.int (Int32.ofNat (c i)).toInt8.toInt32), (.int (Int32.ofNat i)), (.ref a2)]))
          obtain ⟨T3, h3, X3, e3, W3, A3, st3⟩ := own_stB X hx hZ eT B (x := (Int32.ofNat (c i)).toInt8.toInt32) (j := (Int32.ofNat i)) (own_nneg i (by omega)) (k := i) (own_clamp i (by omega)) hn7_1 (g := (mkF m 31 #[vR a1, vN i, vR a2, vN i, vN n, vN i, vN (c i)] [(.int (Int32.ofNat (c i)).toInt8.toInt32), (.int (Int32.ofNat i)), (.ref a2)])) rfl rfl (hb hby q15_31)
          refine gS st3 ?_
          have A := A.other W3 ne12
          have Zp4 := Nat.le_trans Zp (Keep.of_wr W3).1
          have N5 := Fr.snoc X3 N ge_a2
          have OO := OO.wr W3 ge_a2
          have K6 := K.wr W3 (Or.inl (List.mem_of_getElem? (i := 0) rfl))
          have B : OA Z h3 a2 .byte n (fun j => if j = i then .int (own_bt (c i)) else if j < i then own_by false c j else f j) := A3.congr (fun j hj => by rw [own_bt_nar]; rfl)
          show Goes p ee below s _ _ _ (T3.setTop (mkF m 32 #[vR a1, vN i, vR a2, vN i, vN n, vN i, vN (c i)] []))
          refine gS (fun _ r => XS.iinc X3.here hx rfl (hb hby q15_32) rfl (l' := #[vR a1, .val (.int ((Int32.ofNat i) + (1 : Int32))), vR a2, vN i, vN n, vN i, vN (c i)]) rfl r) ?_
          refine gS (fun _ r => XS.iinc X3.here hx rfl (hb hby q15_35) rfl (l' := #[vR a1, .val (.int ((Int32.ofNat i) + (1 : Int32))), vR a2, .val (.int ((Int32.ofNat i) + (1 : Int32))), vN n, vN i, vN (c i)]) rfl r) ?_
          refine gS (fun _ r => XS.iinc X3.here hx rfl (hb hby q15_38) rfl (l' := #[vR a1, .val (.int ((Int32.ofNat i) + (1 : Int32))), vR a2, .val (.int ((Int32.ofNat i) + (1 : Int32))), vN n, .val (.int ((Int32.ofNat i) + (1 : Int32))), vN (c i)]) rfl r) ?_
          show Goes p ee below s _ _ _ (T3.setTop (mkF m 41 #[vR a1, .val (.int ((Int32.ofNat i) + (1 : Int32))), vR a2, .val (.int ((Int32.ofNat i) + (1 : Int32))), vN n, .val (.int ((Int32.ofNat i) + (1 : Int32))), vN (c i)] []))
          rw [show Int32.ofNat i + (1 : Int32) = Int32.ofNat (i + 1) from own_addN i 1]
          show Goes p ee below s _ _ _ (T3.setTop (mkF m 41 #[vR a1, vN (i + 1), vR a2, vN (i + 1), vN n, vN (i + 1), vN (c i)] []))
          refine gS (fun _ r => XS.goto X3.here hx rfl (pc0 := 41) (pc' := 3) rfl (hb hby q15_41) (by decide) (by decide) r) ?_
          show Goes p ee below s _ _ _ (T3.setTop (mkF m 3 #[vR a1, vN (i + 1), vR a2, vN (i + 1), vN n, vN (i + 1), vN (c i)] []))
          exact ih (i + 1) _ _ _ _ (One.val rfl) X3 e3 N5 Zp4 K6 OO A (own_lat_next B) (fun j hj => by
            by_cases q : j = i
            · rw [q]; omega
            · exact hall j (by omega)) (by omega) (by omega) (by omega)
      · refine gS (fun _ r => XS.icmpYes X.here hx rfl (pc0 := 7) (pc' := 44) rfl (hb hby q15_7) rfl (flt (fun z => hn7_1 ((own_ltN i n (by omega) (by omega)).mp z))).2.1 (by decide) (by decide) r) ?_
        refine gS (fun _ r => XS.iload X.here hx rfl (hb hby q15_44) rfl  r) ?_
        show Goes p ee below s _ _ _ (T.setTop (mkF m 46 #[vR a1, vN i, vR a2, vN i, vN n, vN i, s6] [(.int (Int32.ofNat n))]))
        refine Goes.retI X hx Bd.notSynchronized Bd.returns (hb hby q15_46) (by decide) (by decide) ?_
        rw [eT]
        exact ⟨N, K, Or.inl ⟨rfl, fun j hj => hall j (by omega), B.congr (fun j hj => if_pos (by omega))⟩⟩
  exact loop (n + 1) 0 _ _ _ _ One.u X0 e0 N0 Z0 K0 OO A (B.congr (fun j hj => (if_neg (by omega)).symm)) (fun j hj => by omega) (by omega) (by omega) (by omega)
theorem ef_cmp3 (m : MethodId) (x0 : Addr) (x1 : Int32) (x2 : Int32) : entryFrame m #[(.ref x0), (.int x1), (.int x2)] 6 = mkF m 0 #[.val (.ref x0), .val (.int x1), .val (.int x2), .unset, .unset, .unset] [] := by first | (simp [entryFrame, mkF, argsToLocals, Value.category]; done) | rfl
theorem q16_0 : decode c16_ 0 = .ok (.iload_n 2, 1) := by decide +kernel
theorem q16_1 : decode c16_ 1 = .ok (.newarray .byte, 2) := by decide +kernel
theorem q16_3 : decode c16_ 3 = .ok (.astore_n 3, 1) := by decide +kernel
theorem q16_4 : decode c16_ 4 = .ok (.aload_n 0, 1) := by decide +kernel
theorem q16_5 : decode c16_ 5 = .ok (.iload_n 1, 1) := by decide +kernel
theorem q16_6 : decode c16_ 6 = .ok (.aload_n 3, 1) := by decide +kernel
theorem q16_7 : decode c16_ 7 = .ok (.iconst 0, 1) := by decide +kernel
theorem q16_8 : decode c16_ 8 = .ok (.iload_n 2, 1) := by decide +kernel
theorem pd_10 : parseMethodDescriptor "([CI[BII)I" = some ⟨[(.array .char), .int, (.array .byte), .int, .int], some .int⟩ := by decide +kernel
theorem q16_9 : decode c16_ 9 = .ok (.invokestatic 115, 3) := by decide +kernel
theorem q16_12 : decode c16_ 12 = .ok (.istore 4, 2) := by decide +kernel
theorem q16_14 : decode c16_ 14 = .ok (.iload 4, 2) := by decide +kernel
theorem q16_16 : decode c16_ 16 = .ok (.iload_n 2, 1) := by decide +kernel
theorem q16_17 : decode c16_ 17 = .ok (.if_icmp .eq 40, 3) := by decide +kernel
theorem q16_57 : decode c16_ 57 = .ok (.aload_n 3, 1) := by decide +kernel
theorem q16_58 : decode c16_ 58 = .ok (.areturn, 1) := by decide +kernel
theorem q16_20 : decode c16_ 20 = .ok (.aload_n 0, 1) := by decide +kernel
theorem q16_21 : decode c16_ 21 = .ok (.iload_n 1, 1) := by decide +kernel
theorem q16_22 : decode c16_ 22 = .ok (.iload_n 2, 1) := by decide +kernel
theorem pd_11 : parseMethodDescriptor "([CII)[B" = some ⟨[(.array .char), .int, .int], some (.array .byte)⟩ := by decide +kernel
theorem q16_23 : decode c16_ 23 = .ok (.invokestatic 119, 3) := by decide +kernel
theorem q16_26 : decode c16_ 26 = .ok (.astore 5, 2) := by decide +kernel
theorem q16_28 : decode c16_ 28 = .ok (.aload 5, 2) := by decide +kernel
theorem q16_30 : decode c16_ 30 = .ok (.iload 4, 2) := by decide +kernel
theorem q16_32 : decode c16_ 32 = .ok (.invokestatic 71, 3) := by decide +kernel
theorem q16_35 : decode c16_ 35 = .ok (.sipush 255, 3) := by decide +kernel
theorem q16_38 : decode c16_ 38 = .ok (.if_icmp .gt 16, 3) := by decide +kernel
theorem q16_54 : decode c16_ 54 = .ok (.aload 5, 2) := by decide +kernel
theorem q16_56 : decode c16_ 56 = .ok (.areturn, 1) := by decide +kernel
def Q_cmp3 (Z : State) (cs : Int32) (fm : Value) (a1 : Addr) (n : Nat) (c : Nat → Nat) (h0 : Heap) (n0 : Nat) (v : Option Value) (h : Heap) (L : List Loc) : Prop := ∃ (b : Addr) (u : Bool), v = some (.ref b) ∧ Fr n0 L ∧ h0.size ≤ b ∧ Keep h0 h [] ∧ OA Z h b .byte (own_len u n) (own_by u c) ∧ (u = false → ∀ j, j < n → c j < 256) ∧ (u = true → ∃ j, j < n ∧ 255 < c j)
set_option maxRecDepth 65536 in
set_option maxHeartbeats 40000000 in
theorem rm_cmp3 (l : Launch) (Z : State) (a0 : Array Value) (hw : ∀ d ∈ tables_1, d.before a0 Z = true) (ws : List Jvm.Cond) (cs : Int32) (fm : Value) (a1 : Addr) (n : Nat) (c : Nat → Nat) (h0 : Heap) (n0 : Nat) (Z0 : n0 ≤ h0.size) (ST : own_ST Z cs fm) (OO : Old Z n0 h0) (hn0 : 0 < n) (hn : n ≤ 16) (hc : ∀ j, j < n → c j < 65536) (A : OA Z h0 a1 .char n (fun i => .int (Int32.ofNat (c i)))) :
    MetFree l (⟨"java/lang/StringUTF16", "compress", "([CII)[B"⟩ : MethodName) (head1 (Jvm.Cond.code (⟨"java/lang/StringUTF16", "compress", "([CII)[B"⟩ : MethodName) jdk_52_method_16_code 6 (some (.array .byte)) :: ws) ({ frames := 3, cells := 2, slots := 48, locals := 40 } : Room)) (fun a U => a = #[(.ref a1), (.int (0 : Int32)), (.int (Int32.ofNat n))] ∧ Z.Warmed39 U.vm ∧ U.heap = h0) (fun _ _ _ _ _ => True) (fun _ U o U' => ∃ v L, o = .returned v ∧ Q_cmp3 Z cs fm a1 n c h0 n0 v U'.heap L ∧ FrameEnd U o U' L ({ frames := 3, cells := 2, slots := 48, locals := 40 } : Room).cells ({ frames := 3, cells := 2, slots := 48, locals := 40 } : Room).slots) := by
  refine MetFree.of_bodySF (plainFor_of_name pn_java_lang_StringUTF16) hisR ?_
  intro p ee s m args below meth cc s₁ Bd hml0 hP hK
  obtain ⟨rfl, hZ, hh⟩ := hP
  have hx := Bd.exec
  have hby := Bd.bytes
  have hml : cc.maxLocals = 6 := hml0
  have hown : s.vm.findClass "java/lang/StringUTF16" = some m.cls := findClass_of_methodNamed Bd.named
  have hnm := (name_of_methodNamed Bd.named Bd.method).1
  have X0 : Stand p l ee ({ frames := 3, cells := 2, slots := 48, locals := 40 } : Room) s m #[(.ref a1), (.int (0 : Int32)), (.int (Int32.ofNat n))] below meth cc s₁ [] 0 0 := Stand.of_body Bd
  have e0 : s₁.heap = h0 := by rw [← hh, Bd.state]; rfl
  have N0 := Fr.nil n0
  show Goes p ee below s ({ frames := 3, cells := 2, slots := 48, locals := 40 } : Room).cells ({ frames := 3, cells := 2, slots := 48, locals := 40 } : Room).slots (Q_cmp3 Z cs fm a1 n c h0 n0) (s₁.setTop (entryFrame m #[(.ref a1), (.int (0 : Int32)), (.int (Int32.ofNat n))] 6))
  refine gS (fun _ r => castTop (ef_cmp3 m a1 (0 : Int32) (Int32.ofNat n)) r) ?_
  show Goes p ee below s _ _ _ (s₁.setTop (mkF m 0 #[vR a1, .val (.int (0 : Int32)), vN n, .unset, .unset, .unset] []))
  have K0 := Keep.refl h0 ([] : List Addr)
  refine gS (fun _ r => XS.iloadN X0.here hx rfl (hb hby q16_0) rfl  r) ?_
  show Goes p ee below s _ _ _ (s₁.setTop (mkF m 1 #[vR a1, .val (.int (0 : Int32)), vN n, .unset, .unset, .unset] [(.int (Int32.ofNat n))]))
  obtain ⟨T1, h1, X1, e1, E1, A1, st1⟩ := own_newP X0 hx hZ (aty := .byte) (own_w hw 27 rfl) e0 (z := (Int32.ofNat n)) (own_nneg n (by omega)) (n := n) (own_clamp n (by omega)) (cap := 16) hn (by decide) (by decide) (by decide) (g := (mkF m 1 #[vR a1, .val (.int (0 : Int32)), vN n, .unset, .unset, .unset] [(.int (Int32.ofNat n))])) rfl rfl (hb hby q16_1)
  obtain ⟨b1, g_b1⟩ : ∃ z, z = h0.size := ⟨_, rfl⟩
  have ne_a1_b1 : a1 ≠ b1 := Nat.ne_of_lt (Nat.lt_of_lt_of_le A.lt (Nat.le_of_eq g_b1.symm))
  have ge_b1 : n0 ≤ b1 := Nat.le_trans Z0 (Nat.le_of_eq g_b1.symm)
  have sz_b1 : h0.size ≤ b1 := Nat.le_trans K0.1 (Nat.le_of_eq g_b1.symm)
  rw [← g_b1] at A1 st1
  have A := A.ext E1
  have Zp2 := Nat.le_trans Z0 E1.1
  have OO := OO.ext E1
  have K3 := K0.ext E1
  refine gS st1 ?_
  have A_b1 : OA Z h1 b1 .byte n (fun _ => (.int 0)) := A1
  show Goes p ee below s _ _ _ (T1.setTop (mkF m 3 #[vR a1, .val (.int (0 : Int32)), vN n, .unset, .unset, .unset] [(.ref b1)]))
  refine gS (fun _ r => XS.astoreN X1.here hx rfl (hb hby q16_3) rfl rfl (l' := #[vR a1, .val (.int (0 : Int32)), vN n, vR b1, .unset, .unset]) rfl r) ?_
  refine gS (fun _ r => XS.aloadN X1.here hx rfl (hb hby q16_4) rfl rfl r) ?_
  refine gS (fun _ r => XS.iloadN X1.here hx rfl (hb hby q16_5) rfl  r) ?_
  refine gS (fun _ r => XS.aloadN X1.here hx rfl (hb hby q16_6) rfl rfl r) ?_
  refine gS (fun _ r => XS.iconst X1.here hx rfl (hb hby q16_7) r) ?_
  refine gS (fun _ r => XS.iloadN X1.here hx rfl (hb hby q16_8) rfl  r) ?_
  show Goes p ee below s _ _ _ (T1.setTop (mkF m 9 #[vR a1, .val (.int (0 : Int32)), vN n, vR b1, .unset, .unset] [(.int (Int32.ofNat n)), (.int (0 : Int32)), (.ref b1), (.int (0 : Int32)), (.ref a1)]))
  have lt_a1 := A.lt
  have lt_b1 := A_b1.lt
  obtain ⟨v4, T4, L4, X4, hQ4, st4⟩ := own_callS X1 hx hZ (y := (⟨"java/lang/StringUTF16", "compress", "([CI[BII)I"⟩ : MethodName)) hown (own_w hw 28 rfl) (own_w hw 29 rfl) (own_w hw 25 rfl) (own_w hw 30 rfl) (by decide) (argsL := [(.ref a1), (.int (0 : Int32)), (.ref b1), (.int (0 : Int32)), (.int (Int32.ofNat n))]) (rm_cmp5 l Z a0 hw [] cs fm a1 b1 n c _ h1 n0 Zp2 ST OO hn hc ne_a1_b1 ge_b1 A A_b1) e1 (W := 0) (by decide) (by decide) (by decide) (by decide) (g := (mkF m 9 #[vR a1, .val (.int (0 : Int32)), vN n, vR b1, .unset, .unset] [(.int (Int32.ofNat n)), (.int (0 : Int32)), (.ref b1), (.int (0 : Int32)), (.ref a1)])) rfl (by rw [hml]; rfl) (rest := []) (lenOf pd_10 rfl) rfl (by show 2 * 0 + _ ≤ _; exact Nat.le_of_eq rfl) (hb hby q16_9)
  refine gS st4 ?_
  obtain ⟨N4, Kc4, hv4⟩ := hQ4
  have N5 := Fr.app N0 N4
  obtain ⟨h4, e4⟩ : ∃ h', T4.heap = h' := ⟨_, rfl⟩
  rw [e4] at Kc4 hv4
  have A := A.keep Kc4 (ninS ne_a1_b1 nin0)
  have OO := OO.keep Kc4 (allS ge_b1 all0)
  have K6 := K3.trans Kc4 (allS (Or.inr sz_b1) all0)
  have Zp7 := Nat.le_trans Zp2 Kc4.1
  rcases hv4 with ⟨rfl, hall, A_b1⟩ | ⟨k, hk, rfl, hk255⟩
  · show Goes p ee below s _ _ _ (T4.setTop (mkF m 12 #[vR a1, .val (.int (0 : Int32)), vN n, vR b1, .unset, .unset] [(.int (Int32.ofNat n))]))
    refine gS (fun _ r => XS.istore X4.here hx rfl (hb hby q16_12) rfl  (l' := #[vR a1, .val (.int (0 : Int32)), vN n, vR b1, vN n, .unset]) rfl r) ?_
    refine gS (fun _ r => XS.iload X4.here hx rfl (hb hby q16_14) rfl  r) ?_
    refine gS (fun _ r => XS.iloadN X4.here hx rfl (hb hby q16_16) rfl  r) ?_
    refine gS (fun _ r => XS.icmpYes X4.here hx rfl (pc0 := 17) (pc' := 57) rfl (hb hby q16_17) rfl (teq rfl).1 (by decide) (by decide) r) ?_
    refine gS (fun _ r => XS.aloadN X4.here hx rfl (hb hby q16_57) rfl rfl r) ?_
    show Goes p ee below s _ _ _ (T4.setTop (mkF m 58 #[vR a1, .val (.int (0 : Int32)), vN n, vR b1, vN n, .unset] [(.ref b1)]))
    refine Goes.retA X4 hx Bd.notSynchronized Bd.returns rfl rfl (hb hby q16_58) (by decide) (by decide) ?_
    rw [e4]
    exact ⟨_, false, rfl, N5, sz_b1, K6, A_b1, fun _ => hall, nofun⟩
  · show Goes p ee below s _ _ _ (T4.setTop (mkF m 12 #[vR a1, .val (.int (0 : Int32)), vN n, vR b1, .unset, .unset] [(.int (Int32.ofNat k))]))
    refine gS (fun _ r => XS.istore X4.here hx rfl (hb hby q16_12) rfl  (l' := #[vR a1, .val (.int (0 : Int32)), vN n, vR b1, vN k, .unset]) rfl r) ?_
    refine gS (fun _ r => XS.iload X4.here hx rfl (hb hby q16_14) rfl  r) ?_
    refine gS (fun _ r => XS.iloadN X4.here hx rfl (hb hby q16_16) rfl  r) ?_
    refine gS (fun _ r => XS.icmpNo X4.here hx rfl (hb hby q16_17) rfl (feq (fun z => absurd ((own_eqN k n (by omega) (by omega)).mp z) (by omega))).1 r) ?_
    refine gS (fun _ r => XS.aloadN X4.here hx rfl (hb hby q16_20) rfl rfl r) ?_
    refine gS (fun _ r => XS.iloadN X4.here hx rfl (hb hby q16_21) rfl  r) ?_
    show Goes p ee below s _ _ _ (T4.setTop (mkF m 22 #[vR a1, .val (.int (0 : Int32)), vN n, vR b1, vN k, .unset] [(.int (0 : Int32)), (.ref a1)]))
    refine gS (fun _ r => XS.iloadN X4.here hx rfl (hb hby q16_22) rfl  r) ?_
    have lt_a1 := A.lt
    obtain ⟨v8, T8, L8, X8, hQ8, st8⟩ := own_callS X4 hx hZ (y := (⟨"java/lang/StringUTF16", "toBytes", "([CII)[B"⟩ : MethodName)) hown (own_w hw 333 rfl) (own_w hw 334 rfl) (own_w hw 25 rfl) (own_w hw 335 rfl) (by decide) (argsL := [(.ref a1), (.int (0 : Int32)), (.int (Int32.ofNat n))]) (rm_tob l Z a0 hw [] cs fm a1 n c h4 n0 Zp7 ST OO hn hc A) e4 (W := 0) (by decide) (by decide) (by decide) (by decide) (g := (mkF m 23 #[vR a1, .val (.int (0 : Int32)), vN n, vR b1, vN k, .unset] [(.int (Int32.ofNat n)), (.int (0 : Int32)), (.ref a1)])) rfl (by rw [hml]; rfl) (rest := []) (lenOf pd_11 rfl) rfl (by show 2 * 0 + _ ≤ _; exact Nat.le_of_eq rfl) (hb hby q16_23)
    refine gS st8 ?_
    obtain ⟨b8, rfl, N8, sz8, Kc8, A_b8⟩ := hQ8
    have N9 := Fr.app N5 N8
    obtain ⟨h8, e8⟩ : ∃ h', T8.heap = h' := ⟨_, rfl⟩
    rw [e8] at Kc8 A_b8
    have A := A.keep Kc8 nin0
    have OO := OO.keep Kc8 all0
    have K10 := K6.trans Kc8 all0
    have Zp11 := Nat.le_trans Zp7 Kc8.1
    have ge_b8 : n0 ≤ b8 := Nat.le_trans Zp7 sz8
    have sz_b8 : h0.size ≤ b8 := Nat.le_trans K6.1 sz8
    have ne_a1_b8 : a1 ≠ b8 := Nat.ne_of_lt (Nat.lt_of_lt_of_le lt_a1 sz8)
    refine gS (fun _ r => XS.astore X8.here hx rfl (hb hby q16_26) rfl rfl (l' := #[vR a1, .val (.int (0 : Int32)), vN n, vR b1, vN k, vR b8]) rfl r) ?_
    refine gS (fun _ r => XS.aload X8.here hx rfl (hb hby q16_28) rfl rfl r) ?_
    refine gS (fun _ r => XS.iload X8.here hx rfl (hb hby q16_30) rfl  r) ?_
    have lt_a1 := A.lt
    have lt_b8 := A_b8.lt
    obtain ⟨v12, T12, L12, X12, hQ12, st12⟩ := own_callS X8 hx hZ (y := (⟨"java/lang/StringUTF16", "getChar", "([BI)C"⟩ : MethodName)) hown (own_w hw 290 rfl) (own_w hw 291 rfl) (own_w hw 25 rfl) (own_w hw 292 rfl) (by decide) (argsL := [(.ref b8), (.int (Int32.ofNat k))]) (rm_getc l Z a0 hw [] cs fm b8 k n c h8 n0 Zp11 ST OO hk (by omega) (hc k hk) A_b8) e8 (W := 0) (by decide) (by decide) (by decide) (by decide) (g := (mkF m 32 #[vR a1, .val (.int (0 : Int32)), vN n, vR b1, vN k, vR b8] [(.int (Int32.ofNat k)), (.ref b8)])) rfl (by rw [hml]; rfl) (rest := []) (lenOf pd_4 rfl) rfl (by show 2 * 0 + _ ≤ _; exact Nat.le_of_eq rfl) (hb hby q16_32)
    refine gS st12 ?_
    obtain ⟨rfl, N12, e12⟩ := hQ12
    have N13 := Fr.app N9 N12
    show Goes p ee below s _ _ _ (T12.setTop (mkF m 35 #[vR a1, .val (.int (0 : Int32)), vN n, vR b1, vN k, vR b8] [(.int (Int32.ofNat (c k)))]))
    refine gS (fun _ r => XS.sipush X12.here hx rfl (hb hby q16_35) r) ?_
    refine gS (fun _ r => XS.icmpYes X12.here hx rfl (pc0 := 38) (pc' := 54) rfl (hb hby q16_38) rfl (tlt ((own_ltN 255 (c k) (by decide) (Nat.lt_trans (hc k hk) (by decide))).mpr hk255)).2.2.1 (by decide) (by decide) r) ?_
    refine gS (fun _ r => XS.aload X12.here hx rfl (hb hby q16_54) rfl rfl r) ?_
    show Goes p ee below s _ _ _ (T12.setTop (mkF m 56 #[vR a1, .val (.int (0 : Int32)), vN n, vR b1, vN k, vR b8] [(.ref b8)]))
    refine Goes.retA X12 hx Bd.notSynchronized Bd.returns rfl rfl (hb hby q16_56) (by decide) (by decide) ?_
    rw [e12]
    exact ⟨_, true, rfl, N13, sz_b8, K10, A_b8, nofun, fun _ => ⟨k, hk, hk255⟩⟩
theorem ef_cfa (m : MethodId) (x0 : Addr) (x1 : Int32) : entryFrame m #[(.ref x0), (.int x1)] 2 = mkF m 0 #[.val (.ref x0), .val (.int x1)] [] := by first | (simp [entryFrame, mkF, argsToLocals, Value.category]; done) | rfl
theorem q17_0 : decode c17_ 0 = .ok (.iload_n 1, 1) := by decide +kernel
theorem q17_1 : decode c17_ 1 = .ok (.aload_n 0, 1) := by decide +kernel
theorem q17_2 : decode c17_ 2 = .ok (.arraylength, 1) := by decide +kernel
theorem q17_3 : decode c17_ 3 = .ok (.isub, 1) := by decide +kernel
theorem q17_4 : decode c17_ 4 = .ok (.bipush 31, 2) := by decide +kernel
theorem q17_6 : decode c17_ 6 = .ok (.iushr, 1) := by decide +kernel
theorem q17_7 : decode c17_ 7 = .ok (.i2b, 1) := by decide +kernel
theorem q17_8 : decode c17_ 8 = .ok (.ireturn, 1) := by decide +kernel
def Q_cfa (Z : State) (cs : Int32) (fm : Value) (a1 : Addr) (n : Nat) (u : Bool) (f : Nat → Value) (h0 : Heap) (n0 : Nat) (v : Option Value) (h : Heap) (L : List Loc) : Prop := v = some (.int (own_cd u)) ∧ Fr n0 L ∧ h = h0
set_option maxRecDepth 65536 in
set_option maxHeartbeats 40000000 in
theorem rm_cfa (l : Launch) (Z : State) (a0 : Array Value) (hw : ∀ d ∈ tables_1, d.before a0 Z = true) (ws : List Jvm.Cond) (cs : Int32) (fm : Value) (a1 : Addr) (n : Nat) (u : Bool) (f : Nat → Value) (h0 : Heap) (n0 : Nat) (Z0 : n0 ≤ h0.size) (ST : own_ST Z cs fm) (OO : Old Z n0 h0) (hn0 : 0 < n) (hn : n < 2 ^ 30) (A : OA Z h0 a1 .byte (own_len u n) f) :
    MetFree l (⟨"java/lang/StringUTF16", "coderFromArrayLen", "([BI)B"⟩ : MethodName) (head1 (Jvm.Cond.code (⟨"java/lang/StringUTF16", "coderFromArrayLen", "([BI)B"⟩ : MethodName) jdk_52_method_15_code 2 (some .byte) :: ws) ({ frames := 0, cells := 0, slots := 0, locals := 0 } : Room)) (fun a U => a = #[(.ref a1), (.int (Int32.ofNat n))] ∧ Z.Warmed39 U.vm ∧ U.heap = h0) (fun _ _ _ _ _ => True) (fun _ U o U' => ∃ v L, o = .returned v ∧ Q_cfa Z cs fm a1 n u f h0 n0 v U'.heap L ∧ FrameEnd U o U' L ({ frames := 0, cells := 0, slots := 0, locals := 0 } : Room).cells ({ frames := 0, cells := 0, slots := 0, locals := 0 } : Room).slots) := by
  refine MetFree.of_bodySF (plainFor_of_name pn_java_lang_StringUTF16) hisR ?_
  intro p ee s m args below meth cc s₁ Bd hml0 hP hK
  obtain ⟨rfl, hZ, hh⟩ := hP
  have hx := Bd.exec
  have hby := Bd.bytes
  have hml : cc.maxLocals = 2 := hml0
  have hown : s.vm.findClass "java/lang/StringUTF16" = some m.cls := findClass_of_methodNamed Bd.named
  have hnm := (name_of_methodNamed Bd.named Bd.method).1
  have X0 : Stand p l ee ({ frames := 0, cells := 0, slots := 0, locals := 0 } : Room) s m #[(.ref a1), (.int (Int32.ofNat n))] below meth cc s₁ [] 0 0 := Stand.of_body Bd
  have e0 : s₁.heap = h0 := by rw [← hh, Bd.state]; rfl
  have N0 := Fr.nil n0
  show Goes p ee below s ({ frames := 0, cells := 0, slots := 0, locals := 0 } : Room).cells ({ frames := 0, cells := 0, slots := 0, locals := 0 } : Room).slots (Q_cfa Z cs fm a1 n u f h0 n0) (s₁.setTop (entryFrame m #[(.ref a1), (.int (Int32.ofNat n))] 2))
  refine gS (fun _ r => castTop (ef_cfa m a1 (Int32.ofNat n)) r) ?_
  show Goes p ee below s _ _ _ (s₁.setTop (mkF m 0 #[vR a1, vN n] []))
  cases u
  · have A : OA Z h0 a1 .byte n f := A
    show Goes p ee below s _ _ _ (s₁.setTop (mkF m 0 #[vR a1, vN n] []))
    refine gS (fun _ r => XS.iloadN X0.here hx rfl (hb hby q17_0) rfl  r) ?_
    refine gS (fun _ r => XS.aloadN X0.here hx rfl (hb hby q17_1) rfl rfl r) ?_
    refine gS (own_alen X0 hx hZ e0 A (z := (Int32.ofNat n)) rfl (g := (mkF m 2 #[vR a1, vN n] [(.ref a1), (.int (Int32.ofNat n))])) rfl rfl (hb hby q17_2)) ?_
    refine gS (fun _ r => XS.isub X0.here hx rfl (hb hby q17_3) rfl r) ?_
    refine gS (fun _ r => XS.bipush X0.here hx rfl (hb hby q17_4) r) ?_
    refine gS (fun _ r => XT.iushr X0.here hx rfl (hb hby q17_6) rfl r) ?_
    show Goes p ee below s _ _ _ (s₁.setTop (mkF m 7 #[vR a1, vN n] [(.int (XT.ushr ((Int32.ofNat n) - (Int32.ofNat n)) (31 : Int32)))]))
    refine gS (fun _ r => XT.i2b X0.here hx rfl (hb hby q17_7) rfl r) ?_
    show Goes p ee below s _ _ _ (s₁.setTop (mkF m 8 #[vR a1, vN n] [(.int (XT.ushr ((Int32.ofNat n) - (Int32.ofNat n)) (31 : Int32)).toInt8.toInt32)]))
    rw [own_cd0 n]
    show Goes p ee below s _ _ _ (s₁.setTop (mkF m 8 #[vR a1, vN n] [(.int (0 : Int32))]))
    refine Goes.retZ X0 hx Bd.notSynchronized Bd.returns (by simp) rfl (hb hby q17_8) (by decide) (by decide) ?_
    exact ⟨rfl, N0, e0⟩
  · have A : OA Z h0 a1 .byte (2 * n) f := A
    show Goes p ee below s _ _ _ (s₁.setTop (mkF m 0 #[vR a1, vN n] []))
    refine gS (fun _ r => XS.iloadN X0.here hx rfl (hb hby q17_0) rfl  r) ?_
    refine gS (fun _ r => XS.aloadN X0.here hx rfl (hb hby q17_1) rfl rfl r) ?_
    refine gS (own_alen X0 hx hZ e0 A (z := (Int32.ofNat (2 * n))) rfl (g := (mkF m 2 #[vR a1, vN n] [(.ref a1), (.int (Int32.ofNat n))])) rfl rfl (hb hby q17_2)) ?_
    refine gS (fun _ r => XS.isub X0.here hx rfl (hb hby q17_3) rfl r) ?_
    refine gS (fun _ r => XS.bipush X0.here hx rfl (hb hby q17_4) r) ?_
    refine gS (fun _ r => XT.iushr X0.here hx rfl (hb hby q17_6) rfl r) ?_
    show Goes p ee below s _ _ _ (s₁.setTop (mkF m 7 #[vR a1, vN n] [(.int (XT.ushr ((Int32.ofNat n) - (Int32.ofNat (2 * n))) (31 : Int32)))]))
    refine gS (fun _ r => XT.i2b X0.here hx rfl (hb hby q17_7) rfl r) ?_
    show Goes p ee below s _ _ _ (s₁.setTop (mkF m 8 #[vR a1, vN n] [(.int (XT.ushr ((Int32.ofNat n) - (Int32.ofNat (2 * n))) (31 : Int32)).toInt8.toInt32)]))
    rw [own_cd1 n hn0 hn]
    show Goes p ee below s _ _ _ (s₁.setTop (mkF m 8 #[vR a1, vN n] [(.int (1 : Int32))]))
    refine Goes.retZ X0 hx Bd.notSynchronized Bd.returns (by simp) rfl (hb hby q17_8) (by decide) (by decide) ?_
    exact ⟨rfl, N0, e0⟩
theorem ef_sin5 (m : MethodId) (x0 : Addr) (x1 : Addr) (x2 : Int32) (x3 : Int32) : entryFrame m #[(.ref x0), (.ref x1), (.int x2), (.int x3), .null] 6 = mkF m 0 #[.val (.ref x0), .val (.ref x1), .val (.int x2), .val (.int x3), .val .null, .unset] [] := by first | (simp [entryFrame, mkF, argsToLocals, Value.category]; done) | rfl
theorem q18_0 : decode c18_ 0 = .ok (.aload_n 0, 1) := by decide +kernel
theorem q18_1 : decode c18_ 1 = .ok (.invokespecial 1, 3) := by decide +kernel
theorem q18_4 : decode c18_ 4 = .ok (.iload_n 3, 1) := by decide +kernel
theorem q18_5 : decode c18_ 5 = .ok (.ifCond .ne 22, 3) := by decide +kernel
theorem q18_27 : decode c18_ 27 = .ok (.getstatic 38, 3) := by decide +kernel
theorem q18_30 : decode c18_ 30 = .ok (.ifCond .eq 28, 3) := by decide +kernel
theorem q18_33 : decode c18_ 33 = .ok (.aload_n 1, 1) := by decide +kernel
theorem q18_34 : decode c18_ 34 = .ok (.iload_n 2, 1) := by decide +kernel
theorem q18_35 : decode c18_ 35 = .ok (.iload_n 3, 1) := by decide +kernel
theorem q18_36 : decode c18_ 36 = .ok (.invokestatic 177, 3) := by decide +kernel
theorem q18_39 : decode c18_ 39 = .ok (.astore 5, 2) := by decide +kernel
theorem q18_41 : decode c18_ 41 = .ok (.aload_n 0, 1) := by decide +kernel
theorem q18_42 : decode c18_ 42 = .ok (.aload 5, 2) := by decide +kernel
theorem q18_44 : decode c18_ 44 = .ok (.iload_n 3, 1) := by decide +kernel
theorem pd_12 : parseMethodDescriptor "([BI)B" = some ⟨[(.array .byte), .int], some .byte⟩ := by decide +kernel
theorem q18_45 : decode c18_ 45 = .ok (.invokestatic 47, 3) := by decide +kernel
theorem q18_48 : decode c18_ 48 = .ok (.putfield 15, 3) := by decide +kernel
theorem q18_51 : decode c18_ 51 = .ok (.aload_n 0, 1) := by decide +kernel
theorem q18_52 : decode c18_ 52 = .ok (.aload 5, 2) := by decide +kernel
theorem q18_54 : decode c18_ 54 = .ok (.putfield 9, 3) := by decide +kernel
theorem q18_57 : decode c18_ 57 = .ok (.return_, 1) := by decide +kernel
def Q_sin5 (Z : State) (cs : Int32) (fm : Value) (a1 a2 : Addr) (n : Nat) (c : Nat → Nat) (uv uc : Value) (h0 : Heap) (n0 : Nat) (v : Option Value) (h : Heap) (L : List Loc) : Prop := v = none ∧ Fr n0 L ∧ Keep h0 h [a1] ∧ ∃ (b : Addr) (u : Bool), h0.size ≤ b ∧ Exa Z h a1 "java/lang/String" ∧ Fld Z h a1 "java/lang/String" "value" "[B" (.ref b) ∧ Fld Z h a1 "java/lang/String" "coder" "B" (.int (own_cd u)) ∧ OA Z h b .byte (own_len u n) (own_by u c) ∧ (u = false → ∀ j, j < n → c j < 256) ∧ (u = true → ∃ j, j < n ∧ 255 < c j)
set_option maxRecDepth 65536 in
set_option maxHeartbeats 40000000 in
theorem rm_sin5 (l : Launch) (Z : State) (a0 : Array Value) (hw : ∀ d ∈ tables_1, d.before a0 Z = true) (ws : List Jvm.Cond) (cs : Int32) (fm : Value) (a1 a2 : Addr) (n : Nat) (c : Nat → Nat) (uv uc : Value) (h0 : Heap) (n0 : Nat) (Z0 : n0 ≤ h0.size) (ST : own_ST Z cs fm) (OO : Old Z n0 h0) (hn0 : 0 < n) (hn : n ≤ 16) (hc : ∀ j, j < n → c j < 65536) (ge_a1 : n0 ≤ a1) (ne12 : a1 ≠ a2) (E : Exa Z h0 a1 "java/lang/String") (FV : Fld Z h0 a1 "java/lang/String" "value" "[B" uv) (FC : Fld Z h0 a1 "java/lang/String" "coder" "B" uc) (A : OA Z h0 a2 .char n (fun i => .int (Int32.ofNat (c i)))) :
    MetFree l (⟨"java/lang/String", "<init>", "([CIILjava/lang/Void;)V"⟩ : MethodName) (head1 (Jvm.Cond.code (⟨"java/lang/String", "<init>", "([CIILjava/lang/Void;)V"⟩ : MethodName) jdk_42_method_149_code 6 none :: ws) ({ frames := 4, cells := 2, slots := 48, locals := 57 } : Room)) (fun a U => a = #[(.ref a1), (.ref a2), (.int (0 : Int32)), (.int (Int32.ofNat n)), .null] ∧ Z.Warmed39 U.vm ∧ U.heap = h0) (fun _ _ _ _ _ => True) (fun _ U o U' => ∃ v L, o = .returned v ∧ Q_sin5 Z cs fm a1 a2 n c uv uc h0 n0 v U'.heap L ∧ FrameEnd U o U' L ({ frames := 4, cells := 2, slots := 48, locals := 57 } : Room).cells ({ frames := 4, cells := 2, slots := 48, locals := 57 } : Room).slots) := by
  refine MetFree.of_bodySF (plainFor_of_name pn_java_lang_String) hisR ?_
  intro p ee s m args below meth cc s₁ Bd hml0 hP hK
  obtain ⟨rfl, hZ, hh⟩ := hP
  have hx := Bd.exec
  have hby := Bd.bytes
  have hml : cc.maxLocals = 6 := hml0
  have hown : s.vm.findClass "java/lang/String" = some m.cls := findClass_of_methodNamed Bd.named
  have hnm := (name_of_methodNamed Bd.named Bd.method).1
  have X0 : Stand p l ee ({ frames := 4, cells := 2, slots := 48, locals := 57 } : Room) s m #[(.ref a1), (.ref a2), (.int (0 : Int32)), (.int (Int32.ofNat n)), .null] below meth cc s₁ [] 0 0 := Stand.of_body Bd
  have e0 : s₁.heap = h0 := by rw [← hh, Bd.state]; rfl
  have N0 := Fr.nil n0
  show Goes p ee below s ({ frames := 4, cells := 2, slots := 48, locals := 57 } : Room).cells ({ frames := 4, cells := 2, slots := 48, locals := 57 } : Room).slots (Q_sin5 Z cs fm a1 a2 n c uv uc h0 n0) (s₁.setTop (entryFrame m #[(.ref a1), (.ref a2), (.int (0 : Int32)), (.int (Int32.ofNat n)), .null] 6))
  refine gS (fun _ r => castTop (ef_sin5 m a1 a2 (0 : Int32) (Int32.ofNat n)) r) ?_
  show Goes p ee below s _ _ _ (s₁.setTop (mkF m 0 #[vR a1, vR a2, .val (.int (0 : Int32)), vN n, .val .null, .unset] []))
  have K0 := Keep.refl h0 ([a1] : List Addr)
  refine gS (fun _ r => XS.aloadN X0.here hx rfl (hb hby q18_0) rfl rfl r) ?_
  obtain ⟨T1, X1, e1, st1⟩ := initO X0 hx hZ hown (own_w hw 19 rfl) (own_w hw 20 rfl) (own_w hw 21 rfl) e0 (g := (mkF m 1 #[vR a1, vR a2, .val (.int (0 : Int32)), vN n, .val .null, .unset] [(.ref a1)])) rfl (by rw [hml]; rfl) rfl (hb hby q18_1) (by decide) (W := 0) (by show 2 * 0 + _ ≤ _; exact Nat.le_of_eq rfl) (by decide)
  refine gS st1 ?_
  refine gS (fun _ r => XS.iloadN X1.here hx rfl (hb hby q18_4) rfl  r) ?_
  refine gS (fun _ r => XS.ifYes X1.here hx rfl (pc0 := 5) (pc' := 27) rfl (hb hby q18_5) rfl ((if0 _ _).trans (feq (fun z => absurd ((own_eqN n 0 (by omega) (by decide)).mp z) (by omega))).2) (by decide) (by decide) r) ?_
  obtain ⟨T2, X2, e2, st2⟩ := getS X1 hx hZ (host := "") hown (own_w hw 22 rfl) Via.refl e1 ((ST.1).ext OO.2) (g := (mkF m 27 #[vR a1, vR a2, .val (.int (0 : Int32)), vN n, .val .null, .unset] [])) rfl (hb hby q18_27)
  refine gS st2 ?_
  refine gS (fun _ r => XS.ifNo X2.here hx rfl (hb hby q18_30) rfl ((if0 _ _).trans (feq (ST.2.1)).1) r) ?_
  show Goes p ee below s _ _ _ (T2.setTop (mkF m 33 #[vR a1, vR a2, .val (.int (0 : Int32)), vN n, .val .null, .unset] []))
  refine gS (fun _ r => XS.aloadN X2.here hx rfl (hb hby q18_33) rfl rfl r) ?_
  refine gS (fun _ r => XS.iloadN X2.here hx rfl (hb hby q18_34) rfl  r) ?_
  refine gS (fun _ r => XS.iloadN X2.here hx rfl (hb hby q18_35) rfl  r) ?_
  have lt_a1 := E.lt
  have lt_a2 := A.lt
  obtain ⟨v3, T3, L3, X3, hQ3, st3⟩ := own_callS X2 hx hZ (y := (⟨"java/lang/StringUTF16", "compress", "([CII)[B"⟩ : MethodName)) hown (own_w hw 23 rfl) (own_w hw 24 rfl) (own_w hw 25 rfl) (own_w hw 26 rfl) (by decide) (argsL := [(.ref a2), (.int (0 : Int32)), (.int (Int32.ofNat n))]) (rm_cmp3 l Z a0 hw [] cs fm a2 n c h0 n0 Z0 ST OO hn0 hn hc A) e2 (W := 0) (by decide) (by decide) (by decide) (by decide) (g := (mkF m 36 #[vR a1, vR a2, .val (.int (0 : Int32)), vN n, .val .null, .unset] [(.int (Int32.ofNat n)), (.int (0 : Int32)), (.ref a2)])) rfl (by rw [hml]; rfl) (rest := []) (lenOf pd_11 rfl) rfl (by show 2 * 0 + _ ≤ _; exact Nat.le_of_eq rfl) (hb hby q18_36)
  refine gS st3 ?_
  obtain ⟨b3, u, rfl, N3, sz3, Kc3, A_b3, hlu, hlu2⟩ := hQ3
  have N4 := Fr.app N0 N3
  obtain ⟨h3, e3⟩ : ∃ h', T3.heap = h' := ⟨_, rfl⟩
  rw [e3] at Kc3 A_b3
  have E := E.keep Kc3
  have FV := FV.keep Kc3 nin0
  have FC := FC.keep Kc3 nin0
  have A := A.keep Kc3 nin0
  have OO := OO.keep Kc3 all0
  have K5 := K0.trans Kc3 all0
  have Zp6 := Nat.le_trans Z0 Kc3.1
  have ge_b3 : n0 ≤ b3 := Nat.le_trans Z0 sz3
  have sz_b3 : h0.size ≤ b3 := Nat.le_trans K0.1 sz3
  have ne_a1_b3 : a1 ≠ b3 := Nat.ne_of_lt (Nat.lt_of_lt_of_le lt_a1 sz3)
  have ne_a2_b3 : a2 ≠ b3 := Nat.ne_of_lt (Nat.lt_of_lt_of_le lt_a2 sz3)
  refine gS (fun _ r => XS.astore X3.here hx rfl (hb hby q18_39) rfl rfl (l' := #[vR a1, vR a2, .val (.int (0 : Int32)), vN n, .val .null, vR b3]) rfl r) ?_
  refine gS (fun _ r => XS.aloadN X3.here hx rfl (hb hby q18_41) rfl rfl r) ?_
  show Goes p ee below s _ _ _ (T3.setTop (mkF m 42 #[vR a1, vR a2, .val (.int (0 : Int32)), vN n, .val .null, vR b3] [(.ref a1)]))
  refine gS (fun _ r => XS.aload X3.here hx rfl (hb hby q18_42) rfl rfl r) ?_
  refine gS (fun _ r => XS.iloadN X3.here hx rfl (hb hby q18_44) rfl  r) ?_
  have lt_a1 := E.lt
  have lt_a2 := A.lt
  have lt_b3 := A_b3.lt
  obtain ⟨v7, T7, L7, X7, hQ7, st7⟩ := own_callS X3 hx hZ (y := (⟨"java/lang/StringUTF16", "coderFromArrayLen", "([BI)B"⟩ : MethodName)) hown (own_w hw 31 rfl) (own_w hw 32 rfl) (own_w hw 25 rfl) (own_w hw 33 rfl) (by decide) (argsL := [(.ref b3), (.int (Int32.ofNat n))]) (rm_cfa l Z a0 hw [] cs fm b3 n u _ h3 n0 Zp6 ST OO hn0 (by omega) A_b3) e3 (W := 1) (by decide) (by decide) (by decide) (by decide) (g := (mkF m 45 #[vR a1, vR a2, .val (.int (0 : Int32)), vN n, .val .null, vR b3] [(.int (Int32.ofNat n)), (.ref b3), (.ref a1)])) rfl (by rw [hml]; rfl) (rest := [(.ref a1)]) (lenOf pd_12 rfl) rfl (by show 2 * 0 + _ ≤ _; exact Nat.le_of_eq rfl) (hb hby q18_45)
  refine gS st7 ?_
  obtain ⟨rfl, N7, e7⟩ := hQ7
  have N8 := Fr.app N4 N7
  show Goes p ee below s _ _ _ (T7.setTop (mkF m 48 #[vR a1, vR a2, .val (.int (0 : Int32)), vN n, .val .null, vR b3] [(.int (own_cd u)), (.ref a1)]))
  obtain ⟨T9, h9, X9, e9, W9, st9⟩ := putFN X7 hx hZ hown (own_w hw 34 rfl) Via.refl e7 FC E (Or.inr ⟨(own_w hw 35 rfl), rfl, hnm⟩) (own_w hw 9 rfl) (ty := .byte) (v' := (.int (own_cd u))) (by decide) (own_cd_byte u).1 (own_cd_byte u).2 (g := (mkF m 48 #[vR a1, vR a2, .val (.int (0 : Int32)), vN n, .val .null, vR b3] [(.int (own_cd u)), (.ref a1)])) rfl rfl (hb hby q18_48)
  refine gS st9 ?_
  have E := E.wr W9
  have FV := FV.other W9 (Or.inr (slot_ne (Or.inr (own_w hw 37 rfl)) (Or.inr (own_w hw 35 rfl)) (by decide) (t := (.array .byte)) (t' := .byte) (by decide) (by decide)))
  have A := A.other W9 (Ne.symm ne12)
  have A_b3 := A_b3.other W9 (Ne.symm ne_a1_b3)
  have Zp10 := Nat.le_trans Zp6 (Keep.of_wr W9).1
  have FC := FC.same W9
  have N11 := Fr.snoc X9 N8 ge_a1
  have OO := OO.wr W9 ge_a1
  have K12 := K5.wr W9 (Or.inl (List.mem_of_getElem? (i := 0) rfl))
  show Goes p ee below s _ _ _ (T9.setTop (mkF m 51 #[vR a1, vR a2, .val (.int (0 : Int32)), vN n, .val .null, vR b3] []))
  refine gS (fun _ r => XS.aloadN X9.here hx rfl (hb hby q18_51) rfl rfl r) ?_
  refine gS (fun _ r => XS.aload X9.here hx rfl (hb hby q18_52) rfl rfl r) ?_
  show Goes p ee below s _ _ _ (T9.setTop (mkF m 54 #[vR a1, vR a2, .val (.int (0 : Int32)), vN n, .val .null, vR b3] [(.ref b3), (.ref a1)]))
  obtain ⟨T13, h13, X13, e13, W13, st13⟩ := putF X9 hx hZ hown (host := "") (Or.inl (own_w hw 36 rfl)) Via.refl e9 FV E (Or.inr ⟨(own_w hw 37 rfl), rfl, hnm⟩) (own_w hw 9 rfl) (ty := (.array .byte)) (by decide) rfl rfl (g := (mkF m 54 #[vR a1, vR a2, .val (.int (0 : Int32)), vN n, .val .null, vR b3] [(.ref b3), (.ref a1)])) rfl rfl (hb hby q18_54)
  refine gS st13 ?_
  have E := E.wr W13
  have FC := FC.other W13 (Or.inr (slot_ne (Or.inr (own_w hw 35 rfl)) (Or.inr (own_w hw 37 rfl)) (by decide) (t := .byte) (t' := (.array .byte)) (by decide) (by decide)))
  have A := A.other W13 (Ne.symm ne12)
  have A_b3 := A_b3.other W13 (Ne.symm ne_a1_b3)
  have Zp14 := Nat.le_trans Zp10 (Keep.of_wr W13).1
  have FV := FV.same W13
  have N15 := Fr.snoc X13 N11 ge_a1
  have OO := OO.wr W13 ge_a1
  have K16 := K12.wr W13 (Or.inl (List.mem_of_getElem? (i := 0) rfl))
  show Goes p ee below s _ _ _ (T13.setTop (mkF m 57 #[vR a1, vR a2, .val (.int (0 : Int32)), vN n, .val .null, vR b3] []))
  refine Goes.retV X13 hx Bd.notSynchronized Bd.returns (hb hby q18_57) (by decide) (by decide) ?_
  rw [e13]
  exact ⟨rfl, N15, K16, b3, u, sz_b3, E, FV, FC, A_b3, hlu, hlu2⟩
theorem ef_sin1 (m : MethodId) (x0 : Addr) (x1 : Addr) : entryFrame m #[(.ref x0), (.ref x1)] 2 = mkF m 0 #[.val (.ref x0), .val (.ref x1)] [] := by first | (simp [entryFrame, mkF, argsToLocals, Value.category]; done) | rfl
theorem q19_0 : decode c19_ 0 = .ok (.aload_n 0, 1) := by decide +kernel
theorem q19_1 : decode c19_ 1 = .ok (.aload_n 1, 1) := by decide +kernel
theorem q19_2 : decode c19_ 2 = .ok (.iconst 0, 1) := by decide +kernel
theorem q19_3 : decode c19_ 3 = .ok (.aload_n 1, 1) := by decide +kernel
theorem q19_4 : decode c19_ 4 = .ok (.arraylength, 1) := by decide +kernel
theorem q19_5 : decode c19_ 5 = .ok (.aconst_null, 1) := by decide +kernel
theorem pd_13 : parseMethodDescriptor "([CIILjava/lang/Void;)V" = some ⟨[(.array .char), .int, .int, (.object "java/lang/Void")], none⟩ := by decide +kernel
theorem q19_6 : decode c19_ 6 = .ok (.invokespecial 27, 3) := by decide +kernel
theorem q19_9 : decode c19_ 9 = .ok (.return_, 1) := by decide +kernel
def Q_sin1 (Z : State) (cs : Int32) (fm : Value) (a1 a2 : Addr) (n : Nat) (c : Nat → Nat) (uv uc : Value) (h0 : Heap) (n0 : Nat) (v : Option Value) (h : Heap) (L : List Loc) : Prop := v = none ∧ Fr n0 L ∧ Keep h0 h [a1] ∧ ∃ (b : Addr) (u : Bool), h0.size ≤ b ∧ Exa Z h a1 "java/lang/String" ∧ Fld Z h a1 "java/lang/String" "value" "[B" (.ref b) ∧ Fld Z h a1 "java/lang/String" "coder" "B" (.int (own_cd u)) ∧ OA Z h b .byte (own_len u n) (own_by u c) ∧ (u = false → ∀ j, j < n → c j < 256) ∧ (u = true → ∃ j, j < n ∧ 255 < c j)
set_option maxRecDepth 65536 in
set_option maxHeartbeats 40000000 in
theorem rm_sin1 (l : Launch) (Z : State) (a0 : Array Value) (hw : ∀ d ∈ tables_1, d.before a0 Z = true) (ws : List Jvm.Cond) (cs : Int32) (fm : Value) (a1 a2 : Addr) (n : Nat) (c : Nat → Nat) (uv uc : Value) (h0 : Heap) (n0 : Nat) (Z0 : n0 ≤ h0.size) (ST : own_ST Z cs fm) (OO : Old Z n0 h0) (hn0 : 0 < n) (hn : n ≤ 16) (hc : ∀ j, j < n → c j < 65536) (ge_a1 : n0 ≤ a1) (ne12 : a1 ≠ a2) (E : Exa Z h0 a1 "java/lang/String") (FV : Fld Z h0 a1 "java/lang/String" "value" "[B" uv) (FC : Fld Z h0 a1 "java/lang/String" "coder" "B" uc) (A : OA Z h0 a2 .char n (fun i => .int (Int32.ofNat (c i)))) :
    MetFree l (⟨"java/lang/String", "<init>", "([C)V"⟩ : MethodName) (head1 (Jvm.Cond.code (⟨"java/lang/String", "<init>", "([C)V"⟩ : MethodName) jdk_42_method_3_code 2 none :: ws) ({ frames := 5, cells := 2, slots := 48, locals := 74 } : Room)) (fun a U => a = #[(.ref a1), (.ref a2)] ∧ Z.Warmed39 U.vm ∧ U.heap = h0) (fun _ _ _ _ _ => True) (fun _ U o U' => ∃ v L, o = .returned v ∧ Q_sin1 Z cs fm a1 a2 n c uv uc h0 n0 v U'.heap L ∧ FrameEnd U o U' L ({ frames := 5, cells := 2, slots := 48, locals := 74 } : Room).cells ({ frames := 5, cells := 2, slots := 48, locals := 74 } : Room).slots) := by
  refine MetFree.of_bodySF (plainFor_of_name pn_java_lang_String) hisR ?_
  intro p ee s m args below meth cc s₁ Bd hml0 hP hK
  obtain ⟨rfl, hZ, hh⟩ := hP
  have hx := Bd.exec
  have hby := Bd.bytes
  have hml : cc.maxLocals = 2 := hml0
  have hown : s.vm.findClass "java/lang/String" = some m.cls := findClass_of_methodNamed Bd.named
  have hnm := (name_of_methodNamed Bd.named Bd.method).1
  have X0 : Stand p l ee ({ frames := 5, cells := 2, slots := 48, locals := 74 } : Room) s m #[(.ref a1), (.ref a2)] below meth cc s₁ [] 0 0 := Stand.of_body Bd
  have e0 : s₁.heap = h0 := by rw [← hh, Bd.state]; rfl
  have N0 := Fr.nil n0
  show Goes p ee below s ({ frames := 5, cells := 2, slots := 48, locals := 74 } : Room).cells ({ frames := 5, cells := 2, slots := 48, locals := 74 } : Room).slots (Q_sin1 Z cs fm a1 a2 n c uv uc h0 n0) (s₁.setTop (entryFrame m #[(.ref a1), (.ref a2)] 2))
  refine gS (fun _ r => castTop (ef_sin1 m a1 a2) r) ?_
  show Goes p ee below s _ _ _ (s₁.setTop (mkF m 0 #[vR a1, vR a2] []))
  have K0 := Keep.refl h0 ([a1] : List Addr)
  refine gS (fun _ r => XS.aloadN X0.here hx rfl (hb hby q19_0) rfl rfl r) ?_
  refine gS (fun _ r => XS.aloadN X0.here hx rfl (hb hby q19_1) rfl rfl r) ?_
  refine gS (fun _ r => XS.iconst X0.here hx rfl (hb hby q19_2) r) ?_
  refine gS (fun _ r => XS.aloadN X0.here hx rfl (hb hby q19_3) rfl rfl r) ?_
  refine gS (own_alen X0 hx hZ e0 A (z := (Int32.ofNat n)) rfl (g := (mkF m 4 #[vR a1, vR a2] [(.ref a2), (.int (0 : Int32)), (.ref a2), (.ref a1)])) rfl rfl (hb hby q19_4)) ?_
  refine gS (fun _ r => XS.aconstNull X0.here hx rfl (hb hby q19_5) r) ?_
  show Goes p ee below s _ _ _ (s₁.setTop (mkF m 6 #[vR a1, vR a2] [.null, (.int (Int32.ofNat n)), (.int (0 : Int32)), (.ref a2), (.ref a1)]))
  have lt_a1 := E.lt
  have lt_a2 := A.lt
  obtain ⟨v1, T1, L1, X1, hQ1, st1⟩ := own_callN X0 hx hZ (y := (⟨"java/lang/String", "<init>", "([CIILjava/lang/Void;)V"⟩ : MethodName)) rfl hown (own_w hw 15 rfl) (own_w hw 16 rfl) (own_w hw 10 rfl) (own_w hw 18 rfl) (by decide) (a := a1) (argsL := [(.ref a2), (.int (0 : Int32)), (.int (Int32.ofNat n)), .null]) (rm_sin5 l Z a0 hw [] cs fm a1 a2 n c uv uc h0 n0 Z0 ST OO hn0 hn hc ge_a1 ne12 E FV FC A) e0 (W := 0) (by decide) (by decide) (by decide) (by decide) (g := (mkF m 6 #[vR a1, vR a2] [.null, (.int (Int32.ofNat n)), (.int (0 : Int32)), (.ref a2), (.ref a1)])) rfl (by rw [hml]; rfl) (rest := []) (lenOf pd_13 rfl) rfl (by show 2 * 0 + _ ≤ _; exact Nat.le_of_eq rfl) (hb hby q19_6)
  refine gS st1 ?_
  obtain ⟨rfl, N1, Kc1, b1, u, sz1, Ei1, Fv1, Fc1, A_b1, hlu, hlu2⟩ := hQ1
  have N2 := Fr.app N0 N1
  obtain ⟨h1, e1⟩ : ∃ h', T1.heap = h' := ⟨_, rfl⟩
  rw [e1] at Kc1 Ei1 Fv1 Fc1 A_b1
  have A := A.keep Kc1 (ninS (Ne.symm ne12) nin0)
  have OO := OO.keep Kc1 (allS ge_a1 all0)
  have K3 := K0.trans Kc1 (allS (Or.inl (List.mem_of_getElem? (i := 0) rfl)) all0)
  have Zp4 := Nat.le_trans Z0 Kc1.1
  have ge_b1 : n0 ≤ b1 := Nat.le_trans Z0 sz1
  have sz_b1 : h0.size ≤ b1 := Nat.le_trans K0.1 sz1
  have ne_a1_b1 : a1 ≠ b1 := Nat.ne_of_lt (Nat.lt_of_lt_of_le lt_a1 sz1)
  have ne_a2_b1 : a2 ≠ b1 := Nat.ne_of_lt (Nat.lt_of_lt_of_le lt_a2 sz1)
  show Goes p ee below s _ _ _ (T1.setTop (mkF m 9 #[vR a1, vR a2] []))
  refine Goes.retV X1 hx Bd.notSynchronized Bd.returns (hb hby q19_9) (by decide) (by decide) ?_
  rw [e1]
  exact ⟨rfl, N2, K3, b1, u, sz_b1, Ei1, Fv1, Fc1, A_b1, hlu, hlu2⟩
theorem own_or_nneg {a b : Int32} (ha : ¬ a < 0) (hb : ¬ b < 0) : ¬ (a ||| b) < 0 := by
  have z0 : (0 : Int32).toInt = 0 := rfl
  rw [Int32.lt_iff_toInt_lt, z0] at ha hb ⊢
  have h1 : a.toBitVec.msb = false := by rw [BitVec.msb_eq_toInt]; exact decide_eq_false ha
  have h2 : b.toBitVec.msb = false := by rw [BitVec.msb_eq_toInt]; exact decide_eq_false hb
  have h3 : (a ||| b).toBitVec.msb = false := by rw [Int32.toBitVec_or, BitVec.msb_or, h1, h2]; rfl
  rw [BitVec.msb_eq_toInt] at h3
  exact of_decide_eq_false h3
theorem own_OAlt {Z : State} {h : Heap} {a : Addr} {ty : FieldType} {n : Nat} {f : Nat → Value} (A : OA Z h a ty n f) : n < 2 ^ 31 := by
  obtain ⟨c, A, r1, r2, H⟩ := A
  exact r2
theorem own_by_shift (c : Nat → Nat) (i j : Nat) : own_by true c (2 * i + j) = own_by true (fun t => c (i + t)) j := by
  have h1 : (2 * i + j) % 2 = j % 2 := by omega
  have h2 : (2 * i + j) / 2 = i + j / 2 := by omega
  simp only [own_by, if_true, h1, h2]
theorem own_by_shift0 (c : Nat → Nat) (i j : Nat) : own_by false c (i + j) = own_by false (fun t => c (i + t)) j := by simp [own_by]
theorem own_OAzero {Z : State} {h : Heap} {b : Addr} {u : Bool} {n i j : Nat} {c : Nat → Nat} (h1 : i = 0) (h2 : j = n) (A : OA Z h b .byte (own_len u n) (own_by u c)) : OA Z h b .byte (own_len u (j - i)) (own_by u (fun t => c (i + t))) := by
  subst h1
  subst h2
  have e : (fun t => c (0 + t)) = c := funext fun t => by rw [Nat.zero_add]
  rw [e]
  exact A
theorem own_len_le (u : Bool) (n : Nat) : n ≤ own_len u n ∧ own_len u n ≤ 2 * n := by
  cases u
  · exact ⟨Nat.le_refl _, by show n ≤ 2 * n; omega⟩
  · exact ⟨by show n ≤ 2 * n; omega, Nat.le_refl _⟩
theorem ef_min (m : MethodId) (x0 : Int32) (x1 : Int32) : entryFrame m #[(.int x0), (.int x1)] 2 = mkF m 0 #[.val (.int x0), .val (.int x1)] [] := by first | (simp [entryFrame, mkF, argsToLocals, Value.category]; done) | rfl
theorem q20_0 : decode c20_ 0 = .ok (.iload_n 0, 1) := by decide +kernel
theorem q20_1 : decode c20_ 1 = .ok (.iload_n 1, 1) := by decide +kernel
theorem q20_2 : decode c20_ 2 = .ok (.if_icmp .gt 7, 3) := by decide +kernel
theorem q20_9 : decode c20_ 9 = .ok (.iload_n 1, 1) := by decide +kernel
theorem q20_10 : decode c20_ 10 = .ok (.ireturn, 1) := by decide +kernel
theorem q20_5 : decode c20_ 5 = .ok (.iload_n 0, 1) := by decide +kernel
theorem q20_6 : decode c20_ 6 = .ok (.goto 4, 3) := by decide +kernel
def Q_min (Z : State) (i j : Nat) (h0 : Heap) (n0 : Nat) (v : Option Value) (h : Heap) (L : List Loc) : Prop := v = some (.int (Int32.ofNat j)) ∧ Fr n0 L ∧ h = h0
set_option maxRecDepth 65536 in
set_option maxHeartbeats 40000000 in
theorem rm_min (l : Launch) (Z : State) (a0 : Array Value) (hw : ∀ d ∈ tables_1, d.before a0 Z = true) (ws : List Jvm.Cond) (i j : Nat) (h0 : Heap) (n0 : Nat) (Z0 : n0 ≤ h0.size) (hi : i < 2 ^ 31) (hij : j ≤ i) :
    MetFree l (⟨"java/lang/Math", "min", "(II)I"⟩ : MethodName) (head1 (Jvm.Cond.code (⟨"java/lang/Math", "min", "(II)I"⟩ : MethodName) jdk_29_method_69_code 2 (some .int) :: ws) ({ frames := 0, cells := 0, slots := 0, locals := 0 } : Room)) (fun a U => a = #[(.int (Int32.ofNat i)), (.int (Int32.ofNat j))] ∧ Z.Warmed39 U.vm ∧ U.heap = h0) (fun _ _ _ _ _ => True) (fun _ U o U' => ∃ v L, o = .returned v ∧ Q_min Z i j h0 n0 v U'.heap L ∧ FrameEnd U o U' L ({ frames := 0, cells := 0, slots := 0, locals := 0 } : Room).cells ({ frames := 0, cells := 0, slots := 0, locals := 0 } : Room).slots) := by
  refine MetFree.of_bodySF (Jvm.Free.JP.mathPlain rfl (by decide +kernel)) hisR ?_
  intro p ee s m args below meth cc s₁ Bd hml0 hP hK
  obtain ⟨rfl, hZ, hh⟩ := hP
  have hx := Bd.exec
  have hby := Bd.bytes
  have hml : cc.maxLocals = 2 := hml0
  have hown : s.vm.findClass "java/lang/Math" = some m.cls := findClass_of_methodNamed Bd.named
  have hnm := (name_of_methodNamed Bd.named Bd.method).1
  have X0 : Stand p l ee ({ frames := 0, cells := 0, slots := 0, locals := 0 } : Room) s m #[(.int (Int32.ofNat i)), (.int (Int32.ofNat j))] below meth cc s₁ [] 0 0 := Stand.of_body Bd
  have e0 : s₁.heap = h0 := by rw [← hh, Bd.state]; rfl
  have N0 := Fr.nil n0
  show Goes p ee below s ({ frames := 0, cells := 0, slots := 0, locals := 0 } : Room).cells ({ frames := 0, cells := 0, slots := 0, locals := 0 } : Room).slots (Q_min Z i j h0 n0) (s₁.setTop (entryFrame m #[(.int (Int32.ofNat i)), (.int (Int32.ofNat j))] 2))
  refine gS (fun _ r => castTop (ef_min m (Int32.ofNat i) (Int32.ofNat j)) r) ?_
  show Goes p ee below s _ _ _ (s₁.setTop (mkF m 0 #[vN i, vN j] []))
  refine gS (fun _ r => XS.iloadN X0.here hx rfl (hb hby q20_0) rfl  r) ?_
  refine gS (fun _ r => XS.iloadN X0.here hx rfl (hb hby q20_1) rfl  r) ?_
  by_cases hn2_1 : j < i
  · refine gS (fun _ r => XS.icmpYes X0.here hx rfl (pc0 := 2) (pc' := 9) rfl (hb hby q20_2) rfl (tlt ((own_ltN j i (by omega) hi).mpr hn2_1)).2.2.1 (by decide) (by decide) r) ?_
    refine gS (fun _ r => XS.iloadN X0.here hx rfl (hb hby q20_9) rfl  r) ?_
    show Goes p ee below s _ _ _ (s₁.setTop (mkF m 10 #[vN i, vN j] [(.int (Int32.ofNat j))]))
    refine Goes.retI X0 hx Bd.notSynchronized Bd.returns (hb hby q20_10) (by decide) (by decide) ?_
    exact ⟨rfl, N0, e0⟩
  · refine gS (fun _ r => XS.icmpNo X0.here hx rfl (hb hby q20_2) rfl (flt (fun z => hn2_1 ((own_ltN j i (by omega) hi).mp z))).2.2.1 r) ?_
    refine gS (fun _ r => XS.iloadN X0.here hx rfl (hb hby q20_5) rfl  r) ?_
    refine gS (fun _ r => XS.goto X0.here hx rfl (pc0 := 6) (pc' := 10) rfl (hb hby q20_6) (by decide) (by decide) r) ?_
    show Goes p ee below s _ _ _ (s₁.setTop (mkF m 10 #[vN i, vN j] [(.int (Int32.ofNat i))]))
    refine Goes.retI X0 hx Bd.notSynchronized Bd.returns (hb hby q20_10) (by decide) (by decide) ?_
    exact ⟨by rw [show i = j by omega], N0, e0⟩
theorem ef_ckl (m : MethodId) (x0 : Int32) (x1 : Int32) : entryFrame m #[(.int x0), (.int x1)] 2 = mkF m 0 #[.val (.int x0), .val (.int x1)] [] := by first | (simp [entryFrame, mkF, argsToLocals, Value.category]; done) | rfl
theorem pn_java_util_Arrays : plainName "java/util/Arrays" = true := by first | (simp [plainName, overriddenIn]; done) | decide +kernel
theorem q21_0 : decode c21_ 0 = .ok (.iload_n 1, 1) := by decide +kernel
theorem q21_1 : decode c21_ 1 = .ok (.iload_n 0, 1) := by decide +kernel
theorem q21_2 : decode c21_ 2 = .ok (.if_icmp .ge 35, 3) := by decide +kernel
theorem q21_37 : decode c21_ 37 = .ok (.return_, 1) := by decide +kernel
def Q_ckl (Z : State) (i j : Nat) (h0 : Heap) (n0 : Nat) (v : Option Value) (h : Heap) (L : List Loc) : Prop := v = none ∧ Fr n0 L ∧ h = h0
set_option maxRecDepth 65536 in
set_option maxHeartbeats 40000000 in
theorem rm_ckl (l : Launch) (Z : State) (a0 : Array Value) (hw : ∀ d ∈ tables_1, d.before a0 Z = true) (ws : List Jvm.Cond) (i j : Nat) (h0 : Heap) (n0 : Nat) (Z0 : n0 ≤ h0.size) (hij : i ≤ j) (hj : j < 2 ^ 31) :
    MetFree l (⟨"java/util/Arrays", "checkLength", "(II)V"⟩ : MethodName) (head1 (Jvm.Cond.code (⟨"java/util/Arrays", "checkLength", "(II)V"⟩ : MethodName) jdk_65_method_131_code 2 none :: ws) ({ frames := 0, cells := 0, slots := 0, locals := 0 } : Room)) (fun a U => a = #[(.int (Int32.ofNat i)), (.int (Int32.ofNat j))] ∧ Z.Warmed39 U.vm ∧ U.heap = h0) (fun _ _ _ _ _ => True) (fun _ U o U' => ∃ v L, o = .returned v ∧ Q_ckl Z i j h0 n0 v U'.heap L ∧ FrameEnd U o U' L ({ frames := 0, cells := 0, slots := 0, locals := 0 } : Room).cells ({ frames := 0, cells := 0, slots := 0, locals := 0 } : Room).slots) := by
  refine MetFree.of_bodySF (plainFor_of_name pn_java_util_Arrays) hisR ?_
  intro p ee s m args below meth cc s₁ Bd hml0 hP hK
  obtain ⟨rfl, hZ, hh⟩ := hP
  have hx := Bd.exec
  have hby := Bd.bytes
  have hml : cc.maxLocals = 2 := hml0
  have hown : s.vm.findClass "java/util/Arrays" = some m.cls := findClass_of_methodNamed Bd.named
  have hnm := (name_of_methodNamed Bd.named Bd.method).1
  have X0 : Stand p l ee ({ frames := 0, cells := 0, slots := 0, locals := 0 } : Room) s m #[(.int (Int32.ofNat i)), (.int (Int32.ofNat j))] below meth cc s₁ [] 0 0 := Stand.of_body Bd
  have e0 : s₁.heap = h0 := by rw [← hh, Bd.state]; rfl
  have N0 := Fr.nil n0
  show Goes p ee below s ({ frames := 0, cells := 0, slots := 0, locals := 0 } : Room).cells ({ frames := 0, cells := 0, slots := 0, locals := 0 } : Room).slots (Q_ckl Z i j h0 n0) (s₁.setTop (entryFrame m #[(.int (Int32.ofNat i)), (.int (Int32.ofNat j))] 2))
  refine gS (fun _ r => castTop (ef_ckl m (Int32.ofNat i) (Int32.ofNat j)) r) ?_
  show Goes p ee below s _ _ _ (s₁.setTop (mkF m 0 #[vN i, vN j] []))
  refine gS (fun _ r => XS.iloadN X0.here hx rfl (hb hby q21_0) rfl  r) ?_
  refine gS (fun _ r => XS.iloadN X0.here hx rfl (hb hby q21_1) rfl  r) ?_
  refine gS (fun _ r => XS.icmpYes X0.here hx rfl (pc0 := 2) (pc' := 37) rfl (hb hby q21_2) rfl (flt (fun z => absurd ((own_ltN j i hj (by omega)).mp z) (by omega))).2.1 (by decide) (by decide) r) ?_
  show Goes p ee below s _ _ _ (s₁.setTop (mkF m 37 #[vN i, vN j] []))
  refine Goes.retV X0 hx Bd.notSynchronized Bd.returns (hb hby q21_37) (by decide) (by decide) ?_
  exact ⟨rfl, N0, e0⟩
theorem ef_corb (m : MethodId) (x0 : Addr) (x1 : Int32) (x2 : Int32) : entryFrame m #[(.ref x0), (.int x1), (.int x2)] 5 = mkF m 0 #[.val (.ref x0), .val (.int x1), .val (.int x2), .unset, .unset] [] := by first | (simp [entryFrame, mkF, argsToLocals, Value.category]; done) | rfl
theorem q22_0 : decode c22_ 0 = .ok (.iload_n 1, 1) := by decide +kernel
theorem q22_1 : decode c22_ 1 = .ok (.iload_n 2, 1) := by decide +kernel
theorem q22_2 : decode c22_ 2 = .ok (.invokestatic 343, 3) := by decide +kernel
theorem q22_5 : decode c22_ 5 = .ok (.iload_n 2, 1) := by decide +kernel
theorem q22_6 : decode c22_ 6 = .ok (.iload_n 1, 1) := by decide +kernel
theorem q22_7 : decode c22_ 7 = .ok (.isub, 1) := by decide +kernel
theorem q22_8 : decode c22_ 8 = .ok (.istore_n 3, 1) := by decide +kernel
theorem q22_9 : decode c22_ 9 = .ok (.iload_n 3, 1) := by decide +kernel
theorem q22_10 : decode c22_ 10 = .ok (.newarray .byte, 2) := by decide +kernel
theorem q22_12 : decode c22_ 12 = .ok (.astore 4, 2) := by decide +kernel
theorem q22_14 : decode c22_ 14 = .ok (.aload_n 0, 1) := by decide +kernel
theorem q22_15 : decode c22_ 15 = .ok (.iload_n 1, 1) := by decide +kernel
theorem q22_16 : decode c22_ 16 = .ok (.aload 4, 2) := by decide +kernel
theorem q22_18 : decode c22_ 18 = .ok (.iconst 0, 1) := by decide +kernel
theorem q22_19 : decode c22_ 19 = .ok (.aload_n 0, 1) := by decide +kernel
theorem q22_20 : decode c22_ 20 = .ok (.arraylength, 1) := by decide +kernel
theorem q22_21 : decode c22_ 21 = .ok (.iload_n 1, 1) := by decide +kernel
theorem q22_22 : decode c22_ 22 = .ok (.isub, 1) := by decide +kernel
theorem q22_23 : decode c22_ 23 = .ok (.iload_n 3, 1) := by decide +kernel
theorem pd_14 : parseMethodDescriptor "(II)I" = some ⟨[.int, .int], some .int⟩ := by decide +kernel
theorem q22_24 : decode c22_ 24 = .ok (.invokestatic 304, 3) := by decide +kernel
theorem q22_27 : decode c22_ 27 = .ok (.invokestatic 150, 3) := by decide +kernel
theorem q22_30 : decode c22_ 30 = .ok (.aload 4, 2) := by decide +kernel
theorem q22_32 : decode c22_ 32 = .ok (.areturn, 1) := by decide +kernel
def Q_corb (Z : State) (cs : Int32) (fm : Value) (a1 : Addr) (i j mm : Nat) (f : Nat → Value) (h0 : Heap) (n0 : Nat) (v : Option Value) (h : Heap) (L : List Loc) : Prop := ∃ b : Addr, v = some (.ref b) ∧ Fr n0 L ∧ h0.size ≤ b ∧ Keep h0 h [] ∧ OA Z h b .byte (j - i) (fun t => f (i + t))
set_option maxRecDepth 65536 in
set_option maxHeartbeats 40000000 in
theorem rm_corb (l : Launch) (Z : State) (a0 : Array Value) (hw : ∀ d ∈ tables_1, d.before a0 Z = true) (ws : List Jvm.Cond) (cs : Int32) (fm : Value) (a1 : Addr) (i j mm : Nat) (f : Nat → Value) (h0 : Heap) (n0 : Nat) (Z0 : n0 ≤ h0.size) (ST : own_ST Z cs fm) (OO : Old Z n0 h0) (hij : i ≤ j) (hjm : j ≤ mm) (hk : j - i ≤ 32) (A : OA Z h0 a1 .byte mm f) :
    MetFree l (⟨"java/util/Arrays", "copyOfRangeByte", "([BII)[B"⟩ : MethodName) (head1 (Jvm.Cond.code (⟨"java/util/Arrays", "copyOfRangeByte", "([BII)[B"⟩ : MethodName) jdk_65_method_133_code 5 (some (.array .byte)) :: ws) ({ frames := 1, cells := 1, slots := 32, locals := 18 } : Room)) (fun a U => a = #[(.ref a1), (.int (Int32.ofNat i)), (.int (Int32.ofNat j))] ∧ Z.Warmed39 U.vm ∧ U.heap = h0) (fun _ _ _ _ _ => True) (fun _ U o U' => ∃ v L, o = .returned v ∧ Q_corb Z cs fm a1 i j mm f h0 n0 v U'.heap L ∧ FrameEnd U o U' L ({ frames := 1, cells := 1, slots := 32, locals := 18 } : Room).cells ({ frames := 1, cells := 1, slots := 32, locals := 18 } : Room).slots) := by
  refine MetFree.of_bodySF (plainFor_of_name pn_java_util_Arrays) hisR ?_
  intro p ee s m args below meth cc s₁ Bd hml0 hP hK
  obtain ⟨rfl, hZ, hh⟩ := hP
  have hx := Bd.exec
  have hby := Bd.bytes
  have hml : cc.maxLocals = 5 := hml0
  have hown : s.vm.findClass "java/util/Arrays" = some m.cls := findClass_of_methodNamed Bd.named
  have hnm := (name_of_methodNamed Bd.named Bd.method).1
  have X0 : Stand p l ee ({ frames := 1, cells := 1, slots := 32, locals := 18 } : Room) s m #[(.ref a1), (.int (Int32.ofNat i)), (.int (Int32.ofNat j))] below meth cc s₁ [] 0 0 := Stand.of_body Bd
  have e0 : s₁.heap = h0 := by rw [← hh, Bd.state]; rfl
  have N0 := Fr.nil n0
  show Goes p ee below s ({ frames := 1, cells := 1, slots := 32, locals := 18 } : Room).cells ({ frames := 1, cells := 1, slots := 32, locals := 18 } : Room).slots (Q_corb Z cs fm a1 i j mm f h0 n0) (s₁.setTop (entryFrame m #[(.ref a1), (.int (Int32.ofNat i)), (.int (Int32.ofNat j))] 5))
  refine gS (fun _ r => castTop (ef_corb m a1 (Int32.ofNat i) (Int32.ofNat j)) r) ?_
  show Goes p ee below s _ _ _ (s₁.setTop (mkF m 0 #[vR a1, vN i, vN j, .unset, .unset] []))
  have K0 := Keep.refl h0 ([] : List Addr)
  have hm := own_OAlt A
  show Goes p ee below s _ _ _ (s₁.setTop (mkF m 0 #[vR a1, vN i, vN j, .unset, .unset] []))
  refine gS (fun _ r => XS.iloadN X0.here hx rfl (hb hby q22_0) rfl  r) ?_
  refine gS (fun _ r => XS.iloadN X0.here hx rfl (hb hby q22_1) rfl  r) ?_
  have lt_a1 := A.lt
  obtain ⟨v1, T1, L1, X1, hQ1, st1⟩ := own_callS X0 hx hZ (y := (⟨"java/util/Arrays", "checkLength", "(II)V"⟩ : MethodName)) hown (own_w hw 250 rfl) (own_w hw 251 rfl) (own_w hw 245 rfl) (own_w hw 252 rfl) (by decide) (argsL := [(.int (Int32.ofNat i)), (.int (Int32.ofNat j))]) (rm_ckl l Z a0 hw [] i j h0 n0 Z0 hij (by omega)) e0 (W := 0) (by decide) (by decide) (by decide) (by decide) (g := (mkF m 2 #[vR a1, vN i, vN j, .unset, .unset] [(.int (Int32.ofNat j)), (.int (Int32.ofNat i))])) rfl (by rw [hml]; rfl) (rest := []) (lenOf pd_1 rfl) rfl (by show 2 * 0 + _ ≤ _; exact Nat.le_of_eq rfl) (hb hby q22_2)
  refine gS st1 ?_
  obtain ⟨rfl, N1, e1⟩ := hQ1
  have N2 := Fr.app N0 N1
  refine gS (fun _ r => XS.iloadN X1.here hx rfl (hb hby q22_5) rfl  r) ?_
  refine gS (fun _ r => XS.iloadN X1.here hx rfl (hb hby q22_6) rfl  r) ?_
  refine gS (fun _ r => XS.isub X1.here hx rfl (hb hby q22_7) rfl r) ?_
  show Goes p ee below s _ _ _ (T1.setTop (mkF m 8 #[vR a1, vN i, vN j, .unset, .unset] [(.int ((Int32.ofNat j) - (Int32.ofNat i)))]))
  rw [own_subN j i (by omega) hij]
  show Goes p ee below s _ _ _ (T1.setTop (mkF m 8 #[vR a1, vN i, vN j, .unset, .unset] [(.int (Int32.ofNat (j - i)))]))
  refine gS (fun _ r => XS.istoreN X1.here hx rfl (hb hby q22_8) rfl  (l' := #[vR a1, vN i, vN j, vN (j - i), .unset]) rfl r) ?_
  refine gS (fun _ r => XS.iloadN X1.here hx rfl (hb hby q22_9) rfl  r) ?_
  show Goes p ee below s _ _ _ (T1.setTop (mkF m 10 #[vR a1, vN i, vN j, vN (j - i), .unset] [(.int (Int32.ofNat (j - i)))]))
  obtain ⟨T3, h3, X3, e3, E3, A3, st3⟩ := own_newP X1 hx hZ (aty := .byte) (own_w hw 27 rfl) e1 (z := (Int32.ofNat (j - i))) (own_nneg (j - i) (by omega)) (n := (j - i)) (own_clamp (j - i) (by omega)) (cap := 32) hk (by decide) (by decide) (by decide) (g := (mkF m 10 #[vR a1, vN i, vN j, vN (j - i), .unset] [(.int (Int32.ofNat (j - i)))])) rfl rfl (hb hby q22_10)
  obtain ⟨b3, g_b3⟩ : ∃ z, z = h0.size := ⟨_, rfl⟩
  have ne_a1_b3 : a1 ≠ b3 := Nat.ne_of_lt (Nat.lt_of_lt_of_le A.lt (Nat.le_of_eq g_b3.symm))
  have ge_b3 : n0 ≤ b3 := Nat.le_trans Z0 (Nat.le_of_eq g_b3.symm)
  have sz_b3 : h0.size ≤ b3 := Nat.le_trans K0.1 (Nat.le_of_eq g_b3.symm)
  rw [← g_b3] at A3 st3
  have A := A.ext E3
  have Zp4 := Nat.le_trans Z0 E3.1
  have OO := OO.ext E3
  have K5 := K0.ext E3
  refine gS st3 ?_
  have A_b3 : OA Z h3 b3 .byte (j - i) (fun _ => (.int 0)) := A3
  show Goes p ee below s _ _ _ (T3.setTop (mkF m 12 #[vR a1, vN i, vN j, vN (j - i), .unset] [(.ref b3)]))
  refine gS (fun _ r => XS.astore X3.here hx rfl (hb hby q22_12) rfl rfl (l' := #[vR a1, vN i, vN j, vN (j - i), vR b3]) rfl r) ?_
  refine gS (fun _ r => XS.aloadN X3.here hx rfl (hb hby q22_14) rfl rfl r) ?_
  refine gS (fun _ r => XS.iloadN X3.here hx rfl (hb hby q22_15) rfl  r) ?_
  refine gS (fun _ r => XS.aload X3.here hx rfl (hb hby q22_16) rfl rfl r) ?_
  refine gS (fun _ r => XS.iconst X3.here hx rfl (hb hby q22_18) r) ?_
  refine gS (fun _ r => XS.aloadN X3.here hx rfl (hb hby q22_19) rfl rfl r) ?_
  show Goes p ee below s _ _ _ (T3.setTop (mkF m 20 #[vR a1, vN i, vN j, vN (j - i), vR b3] [(.ref a1), (.int (0 : Int32)), (.ref b3), (.int (Int32.ofNat i)), (.ref a1)]))
  refine gS (own_alen X3 hx hZ e3 A (z := (Int32.ofNat mm)) rfl (g := (mkF m 20 #[vR a1, vN i, vN j, vN (j - i), vR b3] [(.ref a1), (.int (0 : Int32)), (.ref b3), (.int (Int32.ofNat i)), (.ref a1)])) rfl rfl (hb hby q22_20)) ?_
  refine gS (fun _ r => XS.iloadN X3.here hx rfl (hb hby q22_21) rfl  r) ?_
  refine gS (fun _ r => XS.isub X3.here hx rfl (hb hby q22_22) rfl r) ?_
  show Goes p ee below s _ _ _ (T3.setTop (mkF m 23 #[vR a1, vN i, vN j, vN (j - i), vR b3] [(.int ((Int32.ofNat mm) - (Int32.ofNat i))), (.int (0 : Int32)), (.ref b3), (.int (Int32.ofNat i)), (.ref a1)]))
  rw [own_subN mm i (by omega) (by omega)]
  show Goes p ee below s _ _ _ (T3.setTop (mkF m 23 #[vR a1, vN i, vN j, vN (j - i), vR b3] [(.int (Int32.ofNat (mm - i))), (.int (0 : Int32)), (.ref b3), (.int (Int32.ofNat i)), (.ref a1)]))
  refine gS (fun _ r => XS.iloadN X3.here hx rfl (hb hby q22_23) rfl  r) ?_
  have lt_a1 := A.lt
  have lt_b3 := A_b3.lt
  obtain ⟨v6, T6, L6, X6, hQ6, st6⟩ := own_callS X3 hx hZ (y := (⟨"java/lang/Math", "min", "(II)I"⟩ : MethodName)) hown (own_w hw 253 rfl) (own_w hw 113 rfl) (own_w hw 110 rfl) (own_w hw 114 rfl) (by decide) (argsL := [(.int (Int32.ofNat (mm - i))), (.int (Int32.ofNat (j - i)))]) (rm_min l Z a0 hw [] (mm - i) (j - i) h3 n0 Zp4 (by omega) (by omega)) e3 (W := 4) (by decide) (by decide) (by decide) (by decide) (g := (mkF m 24 #[vR a1, vN i, vN j, vN (j - i), vR b3] [(.int (Int32.ofNat (j - i))), (.int (Int32.ofNat (mm - i))), (.int (0 : Int32)), (.ref b3), (.int (Int32.ofNat i)), (.ref a1)])) rfl (by rw [hml]; rfl) (rest := [(.int (0 : Int32)), (.ref b3), (.int (Int32.ofNat i)), (.ref a1)]) (lenOf pd_14 rfl) rfl (by show 2 * 0 + _ ≤ _; exact Nat.le_of_eq rfl) (hb hby q22_24)
  refine gS st6 ?_
  obtain ⟨rfl, N6, e6⟩ := hQ6
  have N7 := Fr.app N2 N6
  obtain ⟨T8, h8, L8, X8, e8, Nc8, Kc8, Ac8, st8⟩ := own_copy X6 hx hZ hown (own_w hw 254 rfl) (own_w hw 201 rfl) (own_w hw 199 rfl) (own_w hw 200 rfl) e6 (sp := i) (dp := 0) (nn := (j - i)) A A_b3 rfl (by omega) (by omega) N7 ge_b3 (g := (mkF m 27 #[vR a1, vN i, vN j, vN (j - i), vR b3] [(.int (Int32.ofNat (j - i))), (.int (0 : Int32)), (.ref b3), (.int (Int32.ofNat i)), (.ref a1)])) rfl (by rw [hml]; rfl) (rest := []) rfl (hb hby q22_27) (by decide) (W := 0) (by show 2 * 0 + _ ≤ _; exact Nat.le_of_eq rfl) (by decide)
  refine gS st8 ?_
  have A := A.keep Kc8 (ninS ne_a1_b3 nin0)
  have OO := OO.keep Kc8 (allS ge_b3 all0)
  have K9 := K5.trans Kc8 (allS (Or.inr sz_b3) all0)
  have Zp10 := Nat.le_trans Zp4 Kc8.1
  have A_b3 := Ac8
  refine gS (fun _ r => XS.aload X8.here hx rfl (hb hby q22_30) rfl rfl r) ?_
  show Goes p ee below s _ _ _ (T8.setTop (mkF m 32 #[vR a1, vN i, vN j, vN (j - i), vR b3] [(.ref b3)]))
  refine Goes.retA X8 hx Bd.notSynchronized Bd.returns rfl rfl (hb hby q22_32) (by decide) (by decide) ?_
  rw [e8]
  exact ⟨_, rfl, Nc8, sz_b3, K9, A_b3.congr (fun t ht => if_pos ⟨Nat.zero_le _, by omega⟩)⟩
theorem ef_cor (m : MethodId) (x0 : Addr) (x1 : Int32) (x2 : Int32) : entryFrame m #[(.ref x0), (.int x1), (.int x2)] 3 = mkF m 0 #[.val (.ref x0), .val (.int x1), .val (.int x2)] [] := by first | (simp [entryFrame, mkF, argsToLocals, Value.category]; done) | rfl
theorem q23_0 : decode c23_ 0 = .ok (.iload_n 1, 1) := by decide +kernel
theorem q23_1 : decode c23_ 1 = .ok (.ifCond .ne 9, 3) := by decide +kernel
theorem q23_4 : decode c23_ 4 = .ok (.iload_n 2, 1) := by decide +kernel
theorem q23_5 : decode c23_ 5 = .ok (.aload_n 0, 1) := by decide +kernel
theorem q23_6 : decode c23_ 6 = .ok (.arraylength, 1) := by decide +kernel
theorem q23_7 : decode c23_ 7 = .ok (.if_icmp .eq 10, 3) := by decide +kernel
theorem q23_10 : decode c23_ 10 = .ok (.aload_n 0, 1) := by decide +kernel
theorem q23_11 : decode c23_ 11 = .ok (.iload_n 1, 1) := by decide +kernel
theorem q23_12 : decode c23_ 12 = .ok (.iload_n 2, 1) := by decide +kernel
theorem pd_15 : parseMethodDescriptor "([BII)[B" = some ⟨[(.array .byte), .int, .int], some (.array .byte)⟩ := by decide +kernel
theorem q23_13 : decode c23_ 13 = .ok (.invokestatic 339, 3) := by decide +kernel
theorem q23_16 : decode c23_ 16 = .ok (.areturn, 1) := by decide +kernel
def Q_cor (Z : State) (cs : Int32) (fm : Value) (a1 : Addr) (i j mm : Nat) (f : Nat → Value) (h0 : Heap) (n0 : Nat) (v : Option Value) (h : Heap) (L : List Loc) : Prop := ∃ b : Addr, v = some (.ref b) ∧ Fr n0 L ∧ h0.size ≤ b ∧ Keep h0 h [] ∧ OA Z h b .byte (j - i) (fun t => f (i + t))
set_option maxRecDepth 65536 in
set_option maxHeartbeats 40000000 in
theorem rm_cor (l : Launch) (Z : State) (a0 : Array Value) (hw : ∀ d ∈ tables_1, d.before a0 Z = true) (ws : List Jvm.Cond) (cs : Int32) (fm : Value) (a1 : Addr) (i j mm : Nat) (f : Nat → Value) (h0 : Heap) (n0 : Nat) (Z0 : n0 ≤ h0.size) (ST : own_ST Z cs fm) (OO : Old Z n0 h0) (hne : ¬ (i = 0 ∧ j = mm)) (hij : i ≤ j) (hjm : j ≤ mm) (hk : j - i ≤ 32) (A : OA Z h0 a1 .byte mm f) :
    MetFree l (⟨"java/util/Arrays", "copyOfRange", "([BII)[B"⟩ : MethodName) (head1 (Jvm.Cond.code (⟨"java/util/Arrays", "copyOfRange", "([BII)[B"⟩ : MethodName) jdk_65_method_132_code 3 (some (.array .byte)) :: ws) ({ frames := 2, cells := 1, slots := 32, locals := 34 } : Room)) (fun a U => a = #[(.ref a1), (.int (Int32.ofNat i)), (.int (Int32.ofNat j))] ∧ Z.Warmed39 U.vm ∧ U.heap = h0) (fun _ _ _ _ _ => True) (fun _ U o U' => ∃ v L, o = .returned v ∧ Q_cor Z cs fm a1 i j mm f h0 n0 v U'.heap L ∧ FrameEnd U o U' L ({ frames := 2, cells := 1, slots := 32, locals := 34 } : Room).cells ({ frames := 2, cells := 1, slots := 32, locals := 34 } : Room).slots) := by
  refine MetFree.of_bodySF (plainFor_of_name pn_java_util_Arrays) hisR ?_
  intro p ee s m args below meth cc s₁ Bd hml0 hP hK
  obtain ⟨rfl, hZ, hh⟩ := hP
  have hx := Bd.exec
  have hby := Bd.bytes
  have hml : cc.maxLocals = 3 := hml0
  have hown : s.vm.findClass "java/util/Arrays" = some m.cls := findClass_of_methodNamed Bd.named
  have hnm := (name_of_methodNamed Bd.named Bd.method).1
  have X0 : Stand p l ee ({ frames := 2, cells := 1, slots := 32, locals := 34 } : Room) s m #[(.ref a1), (.int (Int32.ofNat i)), (.int (Int32.ofNat j))] below meth cc s₁ [] 0 0 := Stand.of_body Bd
  have e0 : s₁.heap = h0 := by rw [← hh, Bd.state]; rfl
  have N0 := Fr.nil n0
  show Goes p ee below s ({ frames := 2, cells := 1, slots := 32, locals := 34 } : Room).cells ({ frames := 2, cells := 1, slots := 32, locals := 34 } : Room).slots (Q_cor Z cs fm a1 i j mm f h0 n0) (s₁.setTop (entryFrame m #[(.ref a1), (.int (Int32.ofNat i)), (.int (Int32.ofNat j))] 3))
  refine gS (fun _ r => castTop (ef_cor m a1 (Int32.ofNat i) (Int32.ofNat j)) r) ?_
  show Goes p ee below s _ _ _ (s₁.setTop (mkF m 0 #[vR a1, vN i, vN j] []))
  have K0 := Keep.refl h0 ([] : List Addr)
  have hm := own_OAlt A
  show Goes p ee below s _ _ _ (s₁.setTop (mkF m 0 #[vR a1, vN i, vN j] []))
  refine gS (fun _ r => XS.iloadN X0.here hx rfl (hb hby q23_0) rfl  r) ?_
  by_cases hn1_1 : i = 0
  · refine gS (fun _ r => XS.ifNo X0.here hx rfl (hb hby q23_1) rfl ((if0 _ _).trans (teq ((own_eqN i 0 (by omega) (by decide)).mpr hn1_1)).2) r) ?_
    refine gS (fun _ r => XS.iloadN X0.here hx rfl (hb hby q23_4) rfl  r) ?_
    refine gS (fun _ r => XS.aloadN X0.here hx rfl (hb hby q23_5) rfl rfl r) ?_
    refine gS (own_alen X0 hx hZ e0 A (z := (Int32.ofNat mm)) rfl (g := (mkF m 6 #[vR a1, vN i, vN j] [(.ref a1), (.int (Int32.ofNat j))])) rfl rfl (hb hby q23_6)) ?_
    refine gS (fun _ r => XS.icmpNo X0.here hx rfl (hb hby q23_7) rfl (feq (fun z => hne ⟨hn1_1, (own_eqN j mm (by omega) hm).mp z⟩)).1 r) ?_
    show Goes p ee below s _ _ _ (s₁.setTop (mkF m 10 #[vR a1, vN i, vN j] []))
    refine gS (fun _ r => XS.aloadN X0.here hx rfl (hb hby q23_10) rfl rfl r) ?_
    refine gS (fun _ r => XS.iloadN X0.here hx rfl (hb hby q23_11) rfl  r) ?_
    refine gS (fun _ r => XS.iloadN X0.here hx rfl (hb hby q23_12) rfl  r) ?_
    have lt_a1 := A.lt
    obtain ⟨v2, T2, L2, X2, hQ2, st2⟩ := own_callS X0 hx hZ (y := (⟨"java/util/Arrays", "copyOfRangeByte", "([BII)[B"⟩ : MethodName)) hown (own_w hw 247 rfl) (own_w hw 248 rfl) (own_w hw 245 rfl) (own_w hw 249 rfl) (by decide) (argsL := [(.ref a1), (.int (Int32.ofNat i)), (.int (Int32.ofNat j))]) (rm_corb l Z a0 hw [] cs fm a1 i j _ _ h0 n0 Z0 ST OO hij hjm hk A) e0 (W := 0) (by decide) (by decide) (by decide) (by decide) (g := (mkF m 13 #[vR a1, vN i, vN j] [(.int (Int32.ofNat j)), (.int (Int32.ofNat i)), (.ref a1)])) rfl (by rw [hml]; rfl) (rest := []) (lenOf pd_15 rfl) rfl (by show 2 * 0 + _ ≤ _; exact Nat.le_of_eq rfl) (hb hby q23_13)
    refine gS st2 ?_
    obtain ⟨b2, rfl, N2, sz2, Kc2, A_b2⟩ := hQ2
    have N3 := Fr.app N0 N2
    obtain ⟨h2, e2⟩ : ∃ h', T2.heap = h' := ⟨_, rfl⟩
    rw [e2] at Kc2 A_b2
    have A := A.keep Kc2 nin0
    have OO := OO.keep Kc2 all0
    have K4 := K0.trans Kc2 all0
    have Zp5 := Nat.le_trans Z0 Kc2.1
    have ge_b2 : n0 ≤ b2 := Nat.le_trans Z0 sz2
    have sz_b2 : h0.size ≤ b2 := Nat.le_trans K0.1 sz2
    have ne_a1_b2 : a1 ≠ b2 := Nat.ne_of_lt (Nat.lt_of_lt_of_le lt_a1 sz2)
    show Goes p ee below s _ _ _ (T2.setTop (mkF m 16 #[vR a1, vN i, vN j] [(.ref b2)]))
    refine Goes.retA X2 hx Bd.notSynchronized Bd.returns rfl rfl (hb hby q23_16) (by decide) (by decide) ?_
    rw [e2]
    exact ⟨_, rfl, N3, sz_b2, K4, A_b2⟩
  · refine gS (fun _ r => XS.ifYes X0.here hx rfl (pc0 := 1) (pc' := 10) rfl (hb hby q23_1) rfl ((if0 _ _).trans (feq (fun z => hn1_1 ((own_eqN i 0 (by omega) (by decide)).mp z))).2) (by decide) (by decide) r) ?_
    refine gS (fun _ r => XS.aloadN X0.here hx rfl (hb hby q23_10) rfl rfl r) ?_
    refine gS (fun _ r => XS.iloadN X0.here hx rfl (hb hby q23_11) rfl  r) ?_
    refine gS (fun _ r => XS.iloadN X0.here hx rfl (hb hby q23_12) rfl  r) ?_
    have lt_a1 := A.lt
    obtain ⟨v6, T6, L6, X6, hQ6, st6⟩ := own_callS X0 hx hZ (y := (⟨"java/util/Arrays", "copyOfRangeByte", "([BII)[B"⟩ : MethodName)) hown (own_w hw 247 rfl) (own_w hw 248 rfl) (own_w hw 245 rfl) (own_w hw 249 rfl) (by decide) (argsL := [(.ref a1), (.int (Int32.ofNat i)), (.int (Int32.ofNat j))]) (rm_corb l Z a0 hw [] cs fm a1 i j _ _ h0 n0 Z0 ST OO hij hjm hk A) e0 (W := 0) (by decide) (by decide) (by decide) (by decide) (g := (mkF m 13 #[vR a1, vN i, vN j] [(.int (Int32.ofNat j)), (.int (Int32.ofNat i)), (.ref a1)])) rfl (by rw [hml]; rfl) (rest := []) (lenOf pd_15 rfl) rfl (by show 2 * 0 + _ ≤ _; exact Nat.le_of_eq rfl) (hb hby q23_13)
    refine gS st6 ?_
    obtain ⟨b6, rfl, N6, sz6, Kc6, A_b6⟩ := hQ6
    have N7 := Fr.app N0 N6
    obtain ⟨h6, e6⟩ : ∃ h', T6.heap = h' := ⟨_, rfl⟩
    rw [e6] at Kc6 A_b6
    have A := A.keep Kc6 nin0
    have OO := OO.keep Kc6 all0
    have K8 := K0.trans Kc6 all0
    have Zp9 := Nat.le_trans Z0 Kc6.1
    have ge_b6 : n0 ≤ b6 := Nat.le_trans Z0 sz6
    have sz_b6 : h0.size ≤ b6 := Nat.le_trans K0.1 sz6
    have ne_a1_b6 : a1 ≠ b6 := Nat.ne_of_lt (Nat.lt_of_lt_of_le lt_a1 sz6)
    show Goes p ee below s _ _ _ (T6.setTop (mkF m 16 #[vR a1, vN i, vN j] [(.ref b6)]))
    refine Goes.retA X6 hx Bd.notSynchronized Bd.returns rfl rfl (hb hby q23_16) (by decide) (by decide) ?_
    rw [e6]
    exact ⟨_, rfl, N7, sz_b6, K8, A_b6⟩
theorem ef_pft (m : MethodId) (x0 : Int32) (x1 : Int32) (x2 : Int32) (x3 : Value) (hx3 : x3.isRef = true) : entryFrame m #[(.int x0), (.int x1), (.int x2), x3] 4 = mkF m 0 #[.val (.int x0), .val (.int x1), .val (.int x2), .val x3] [] := by cases x3 <;> simp [Value.isRef] at hx3 <;> first | (simp [entryFrame, mkF, argsToLocals, Value.category]; done) | rfl
theorem q24_0 : decode c24_ 0 = .ok (.iload_n 0, 1) := by decide +kernel
theorem q24_1 : decode c24_ 1 = .ok (.ifCond .lt 13, 3) := by decide +kernel
theorem q24_4 : decode c24_ 4 = .ok (.iload_n 0, 1) := by decide +kernel
theorem q24_5 : decode c24_ 5 = .ok (.iload_n 1, 1) := by decide +kernel
theorem q24_6 : decode c24_ 6 = .ok (.if_icmp .gt 8, 3) := by decide +kernel
theorem q24_9 : decode c24_ 9 = .ok (.iload_n 1, 1) := by decide +kernel
theorem q24_10 : decode c24_ 10 = .ok (.iload_n 2, 1) := by decide +kernel
theorem q24_11 : decode c24_ 11 = .ok (.if_icmp .le 11, 3) := by decide +kernel
theorem q24_22 : decode c24_ 22 = .ok (.iload_n 0, 1) := by decide +kernel
theorem q24_23 : decode c24_ 23 = .ok (.ireturn, 1) := by decide +kernel
def Q_pft (Z : State) (cs : Int32) (fm : Value) (i j n : Nat) (h0 : Heap) (n0 : Nat) (v : Option Value) (h : Heap) (L : List Loc) : Prop := v = some (.int (Int32.ofNat i)) ∧ Fr n0 L ∧ h = h0
set_option maxRecDepth 65536 in
set_option maxHeartbeats 40000000 in
theorem rm_pft (l : Launch) (Z : State) (a0 : Array Value) (hw : ∀ d ∈ tables_1, d.before a0 Z = true) (ws : List Jvm.Cond) (cs : Int32) (fm : Value) (i j n : Nat) (h0 : Heap) (n0 : Nat) (Z0 : n0 ≤ h0.size) (ST : own_ST Z cs fm) (OO : Old Z n0 h0) (hfm : fm.isRef = true) (hij : i ≤ j) (hjn : j ≤ n) (hn : n < 2 ^ 31) :
    MetFree l (⟨"jdk/internal/util/Preconditions", "checkFromToIndex", "(IIILjava/util/function/BiFunction;)I"⟩ : MethodName) (head1 (Jvm.Cond.code (⟨"jdk/internal/util/Preconditions", "checkFromToIndex", "(IIILjava/util/function/BiFunction;)I"⟩ : MethodName) jdk_41_method_12_code 4 (some .int) :: ws) ({ frames := 0, cells := 0, slots := 0, locals := 0 } : Room)) (fun a U => a = #[(.int (Int32.ofNat i)), (.int (Int32.ofNat j)), (.int (Int32.ofNat n)), fm] ∧ Z.Warmed39 U.vm ∧ U.heap = h0) (fun _ _ _ _ _ => True) (fun _ U o U' => ∃ v L, o = .returned v ∧ Q_pft Z cs fm i j n h0 n0 v U'.heap L ∧ FrameEnd U o U' L ({ frames := 0, cells := 0, slots := 0, locals := 0 } : Room).cells ({ frames := 0, cells := 0, slots := 0, locals := 0 } : Room).slots) := by
  refine MetFree.of_bodySF (plainFor_of_name pn_jdk_internal_util_Preconditions) hisR ?_
  intro p ee s m args below meth cc s₁ Bd hml0 hP hK
  obtain ⟨rfl, hZ, hh⟩ := hP
  have hx := Bd.exec
  have hby := Bd.bytes
  have hml : cc.maxLocals = 4 := hml0
  have hown : s.vm.findClass "jdk/internal/util/Preconditions" = some m.cls := findClass_of_methodNamed Bd.named
  have hnm := (name_of_methodNamed Bd.named Bd.method).1
  have X0 : Stand p l ee ({ frames := 0, cells := 0, slots := 0, locals := 0 } : Room) s m #[(.int (Int32.ofNat i)), (.int (Int32.ofNat j)), (.int (Int32.ofNat n)), fm] below meth cc s₁ [] 0 0 := Stand.of_body Bd
  have e0 : s₁.heap = h0 := by rw [← hh, Bd.state]; rfl
  have N0 := Fr.nil n0
  show Goes p ee below s ({ frames := 0, cells := 0, slots := 0, locals := 0 } : Room).cells ({ frames := 0, cells := 0, slots := 0, locals := 0 } : Room).slots (Q_pft Z cs fm i j n h0 n0) (s₁.setTop (entryFrame m #[(.int (Int32.ofNat i)), (.int (Int32.ofNat j)), (.int (Int32.ofNat n)), fm] 4))
  refine gS (fun _ r => castTop (ef_pft m (Int32.ofNat i) (Int32.ofNat j) (Int32.ofNat n) fm hfm) r) ?_
  show Goes p ee below s _ _ _ (s₁.setTop (mkF m 0 #[vN i, vN j, vN n, .val fm] []))
  refine gS (fun _ r => XS.iloadN X0.here hx rfl (hb hby q24_0) rfl  r) ?_
  refine gS (fun _ r => XS.ifNo X0.here hx rfl (hb hby q24_1) rfl ((if0 _ _).trans (flt (own_nneg i (by omega))).1) r) ?_
  refine gS (fun _ r => XS.iloadN X0.here hx rfl (hb hby q24_4) rfl  r) ?_
  refine gS (fun _ r => XS.iloadN X0.here hx rfl (hb hby q24_5) rfl  r) ?_
  refine gS (fun _ r => XS.icmpNo X0.here hx rfl (hb hby q24_6) rfl (flt (fun z => absurd ((own_ltN j i (by omega) (by omega)).mp z) (by omega))).2.2.1 r) ?_
  refine gS (fun _ r => XS.iloadN X0.here hx rfl (hb hby q24_9) rfl  r) ?_
  show Goes p ee below s _ _ _ (s₁.setTop (mkF m 10 #[vN i, vN j, vN n, .val fm] [(.int (Int32.ofNat j))]))
  refine gS (fun _ r => XS.iloadN X0.here hx rfl (hb hby q24_10) rfl  r) ?_
  refine gS (fun _ r => XS.icmpYes X0.here hx rfl (pc0 := 11) (pc' := 22) rfl (hb hby q24_11) rfl (flt (fun z => absurd ((own_ltN n j hn (by omega)).mp z) (by omega))).2.2.2 (by decide) (by decide) r) ?_
  refine gS (fun _ r => XS.iloadN X0.here hx rfl (hb hby q24_22) rfl  r) ?_
  show Goes p ee below s _ _ _ (s₁.setTop (mkF m 23 #[vN i, vN j, vN n, .val fm] [(.int (Int32.ofNat i))]))
  refine Goes.retI X0 hx Bd.notSynchronized Bd.returns (hb hby q24_23) (by decide) (by decide) ?_
  exact ⟨rfl, N0, e0⟩
theorem ef_sbe (m : MethodId) (x0 : Int32) (x1 : Int32) (x2 : Int32) : entryFrame m #[(.int x0), (.int x1), (.int x2)] 3 = mkF m 0 #[.val (.int x0), .val (.int x1), .val (.int x2)] [] := by first | (simp [entryFrame, mkF, argsToLocals, Value.category]; done) | rfl
theorem q25_0 : decode c25_ 0 = .ok (.iload_n 0, 1) := by decide +kernel
theorem q25_1 : decode c25_ 1 = .ok (.iload_n 1, 1) := by decide +kernel
theorem q25_2 : decode c25_ 2 = .ok (.iload_n 2, 1) := by decide +kernel
theorem q25_3 : decode c25_ 3 = .ok (.getstatic 1053, 3) := by decide +kernel
theorem pd_16 : parseMethodDescriptor "(IIILjava/util/function/BiFunction;)I" = some ⟨[.int, .int, .int, (.object "java/util/function/BiFunction")], some .int⟩ := by decide +kernel
theorem q25_6 : decode c25_ 6 = .ok (.invokestatic 1062, 3) := by decide +kernel
theorem q25_9 : decode c25_ 9 = .ok (.pop, 1) := by decide +kernel
theorem q25_10 : decode c25_ 10 = .ok (.return_, 1) := by decide +kernel
def Q_sbe (Z : State) (cs : Int32) (fm : Value) (i j n : Nat) (h0 : Heap) (n0 : Nat) (v : Option Value) (h : Heap) (L : List Loc) : Prop := v = none ∧ Fr n0 L ∧ h = h0
set_option maxRecDepth 65536 in
set_option maxHeartbeats 40000000 in
theorem rm_sbe (l : Launch) (Z : State) (a0 : Array Value) (hw : ∀ d ∈ tables_1, d.before a0 Z = true) (ws : List Jvm.Cond) (cs : Int32) (fm : Value) (i j n : Nat) (h0 : Heap) (n0 : Nat) (Z0 : n0 ≤ h0.size) (ST : own_ST Z cs fm) (OO : Old Z n0 h0) (hij : i ≤ j) (hjn : j ≤ n) (hn : n < 2 ^ 31) :
    MetFree l (⟨"java/lang/String", "checkBoundsBeginEnd", "(III)V"⟩ : MethodName) (head1 (Jvm.Cond.code (⟨"java/lang/String", "checkBoundsBeginEnd", "(III)V"⟩ : MethodName) jdk_42_method_158_code 3 none :: ws) ({ frames := 1, cells := 0, slots := 0, locals := 15 } : Room)) (fun a U => a = #[(.int (Int32.ofNat i)), (.int (Int32.ofNat j)), (.int (Int32.ofNat n))] ∧ Z.Warmed39 U.vm ∧ U.heap = h0) (fun _ _ _ _ _ => True) (fun _ U o U' => ∃ v L, o = .returned v ∧ Q_sbe Z cs fm i j n h0 n0 v U'.heap L ∧ FrameEnd U o U' L ({ frames := 1, cells := 0, slots := 0, locals := 15 } : Room).cells ({ frames := 1, cells := 0, slots := 0, locals := 15 } : Room).slots) := by
  refine MetFree.of_bodySF (plainFor_of_name pn_java_lang_String) hisR ?_
  intro p ee s m args below meth cc s₁ Bd hml0 hP hK
  obtain ⟨rfl, hZ, hh⟩ := hP
  have hx := Bd.exec
  have hby := Bd.bytes
  have hml : cc.maxLocals = 3 := hml0
  have hown : s.vm.findClass "java/lang/String" = some m.cls := findClass_of_methodNamed Bd.named
  have hnm := (name_of_methodNamed Bd.named Bd.method).1
  have X0 : Stand p l ee ({ frames := 1, cells := 0, slots := 0, locals := 15 } : Room) s m #[(.int (Int32.ofNat i)), (.int (Int32.ofNat j)), (.int (Int32.ofNat n))] below meth cc s₁ [] 0 0 := Stand.of_body Bd
  have e0 : s₁.heap = h0 := by rw [← hh, Bd.state]; rfl
  have N0 := Fr.nil n0
  show Goes p ee below s ({ frames := 1, cells := 0, slots := 0, locals := 15 } : Room).cells ({ frames := 1, cells := 0, slots := 0, locals := 15 } : Room).slots (Q_sbe Z cs fm i j n h0 n0) (s₁.setTop (entryFrame m #[(.int (Int32.ofNat i)), (.int (Int32.ofNat j)), (.int (Int32.ofNat n))] 3))
  refine gS (fun _ r => castTop (ef_sbe m (Int32.ofNat i) (Int32.ofNat j) (Int32.ofNat n)) r) ?_
  show Goes p ee below s _ _ _ (s₁.setTop (mkF m 0 #[vN i, vN j, vN n] []))
  refine gS (fun _ r => XS.iloadN X0.here hx rfl (hb hby q25_0) rfl  r) ?_
  refine gS (fun _ r => XS.iloadN X0.here hx rfl (hb hby q25_1) rfl  r) ?_
  refine gS (fun _ r => XS.iloadN X0.here hx rfl (hb hby q25_2) rfl  r) ?_
  obtain ⟨T1, X1, e1, st1⟩ := getS X0 hx hZ (host := "") hown (own_w hw 159 rfl) Via.refl e0 ((ST.2.2.1).ext OO.2) (g := (mkF m 3 #[vN i, vN j, vN n] [(.int (Int32.ofNat n)), (.int (Int32.ofNat j)), (.int (Int32.ofNat i))])) rfl (hb hby q25_3)
  refine gS st1 ?_
  obtain ⟨v2, T2, L2, X2, hQ2, st2⟩ := own_callS X1 hx hZ (y := (⟨"jdk/internal/util/Preconditions", "checkFromToIndex", "(IIILjava/util/function/BiFunction;)I"⟩ : MethodName)) hown (own_w hw 284 rfl) (own_w hw 285 rfl) (own_w hw 160 rfl) (own_w hw 286 rfl) (by decide) (argsL := [(.int (Int32.ofNat i)), (.int (Int32.ofNat j)), (.int (Int32.ofNat n)), fm]) (rm_pft l Z a0 hw [] cs fm i j n h0 n0 Z0 ST OO (ST.2.2.2.1) hij hjn hn) e1 (W := 0) (by decide) (by decide) (by decide) (by decide) (g := (mkF m 6 #[vN i, vN j, vN n] [fm, (.int (Int32.ofNat n)), (.int (Int32.ofNat j)), (.int (Int32.ofNat i))])) rfl (by rw [hml]; rfl) (rest := []) (lenOf pd_16 rfl) rfl (by show 2 * 0 + _ ≤ _; exact Nat.le_of_eq rfl) (hb hby q25_6)
  refine gS st2 ?_
  obtain ⟨rfl, N2, e2⟩ := hQ2
  have N3 := Fr.app N0 N2
  refine gS (fun _ r => XT.pop X2.here hx rfl (hb hby q25_9) rfl rfl r) ?_
  show Goes p ee below s _ _ _ (T2.setTop (mkF m 10 #[vN i, vN j, vN n] []))
  refine Goes.retV X2 hx Bd.notSynchronized Bd.returns (hb hby q25_10) (by decide) (by decide) ?_
  exact ⟨rfl, N3, e2⟩
theorem ef_pfs (m : MethodId) (x0 : Int32) (x1 : Int32) (x2 : Int32) (x3 : Value) (hx3 : x3.isRef = true) : entryFrame m #[(.int x0), (.int x1), (.int x2), x3] 4 = mkF m 0 #[.val (.int x0), .val (.int x1), .val (.int x2), .val x3] [] := by cases x3 <;> simp [Value.isRef] at hx3 <;> first | (simp [entryFrame, mkF, argsToLocals, Value.category]; done) | rfl
theorem q26_0 : decode c26_ 0 = .ok (.iload_n 2, 1) := by decide +kernel
theorem q26_1 : decode c26_ 1 = .ok (.iload_n 0, 1) := by decide +kernel
theorem q26_2 : decode c26_ 2 = .ok (.ior, 1) := by decide +kernel
theorem q26_3 : decode c26_ 3 = .ok (.iload_n 1, 1) := by decide +kernel
theorem q26_4 : decode c26_ 4 = .ok (.ior, 1) := by decide +kernel
theorem q26_5 : decode c26_ 5 = .ok (.ifCond .lt 10, 3) := by decide +kernel
theorem q26_8 : decode c26_ 8 = .ok (.iload_n 1, 1) := by decide +kernel
theorem q26_9 : decode c26_ 9 = .ok (.iload_n 2, 1) := by decide +kernel
theorem q26_10 : decode c26_ 10 = .ok (.iload_n 0, 1) := by decide +kernel
theorem q26_11 : decode c26_ 11 = .ok (.isub, 1) := by decide +kernel
theorem q26_12 : decode c26_ 12 = .ok (.if_icmp .le 11, 3) := by decide +kernel
theorem q26_23 : decode c26_ 23 = .ok (.iload_n 0, 1) := by decide +kernel
theorem q26_24 : decode c26_ 24 = .ok (.ireturn, 1) := by decide +kernel
def Q_pfs (Z : State) (cs : Int32) (fm : Value) (i k n : Nat) (h0 : Heap) (n0 : Nat) (v : Option Value) (h : Heap) (L : List Loc) : Prop := v = some (.int (Int32.ofNat i)) ∧ Fr n0 L ∧ h = h0
set_option maxRecDepth 65536 in
set_option maxHeartbeats 40000000 in
theorem rm_pfs (l : Launch) (Z : State) (a0 : Array Value) (hw : ∀ d ∈ tables_1, d.before a0 Z = true) (ws : List Jvm.Cond) (cs : Int32) (fm : Value) (i k n : Nat) (h0 : Heap) (n0 : Nat) (Z0 : n0 ≤ h0.size) (ST : own_ST Z cs fm) (OO : Old Z n0 h0) (hfm : fm.isRef = true) (hik : i + k ≤ n) (hn : n < 2 ^ 31) :
    MetFree l (⟨"jdk/internal/util/Preconditions", "checkFromIndexSize", "(IIILjava/util/function/BiFunction;)I"⟩ : MethodName) (head1 (Jvm.Cond.code (⟨"jdk/internal/util/Preconditions", "checkFromIndexSize", "(IIILjava/util/function/BiFunction;)I"⟩ : MethodName) jdk_41_method_13_code 4 (some .int) :: ws) ({ frames := 0, cells := 0, slots := 0, locals := 0 } : Room)) (fun a U => a = #[(.int (Int32.ofNat i)), (.int (Int32.ofNat k)), (.int (Int32.ofNat n)), fm] ∧ Z.Warmed39 U.vm ∧ U.heap = h0) (fun _ _ _ _ _ => True) (fun _ U o U' => ∃ v L, o = .returned v ∧ Q_pfs Z cs fm i k n h0 n0 v U'.heap L ∧ FrameEnd U o U' L ({ frames := 0, cells := 0, slots := 0, locals := 0 } : Room).cells ({ frames := 0, cells := 0, slots := 0, locals := 0 } : Room).slots) := by
  refine MetFree.of_bodySF (plainFor_of_name pn_jdk_internal_util_Preconditions) hisR ?_
  intro p ee s m args below meth cc s₁ Bd hml0 hP hK
  obtain ⟨rfl, hZ, hh⟩ := hP
  have hx := Bd.exec
  have hby := Bd.bytes
  have hml : cc.maxLocals = 4 := hml0
  have hown : s.vm.findClass "jdk/internal/util/Preconditions" = some m.cls := findClass_of_methodNamed Bd.named
  have hnm := (name_of_methodNamed Bd.named Bd.method).1
  have X0 : Stand p l ee ({ frames := 0, cells := 0, slots := 0, locals := 0 } : Room) s m #[(.int (Int32.ofNat i)), (.int (Int32.ofNat k)), (.int (Int32.ofNat n)), fm] below meth cc s₁ [] 0 0 := Stand.of_body Bd
  have e0 : s₁.heap = h0 := by rw [← hh, Bd.state]; rfl
  have N0 := Fr.nil n0
  show Goes p ee below s ({ frames := 0, cells := 0, slots := 0, locals := 0 } : Room).cells ({ frames := 0, cells := 0, slots := 0, locals := 0 } : Room).slots (Q_pfs Z cs fm i k n h0 n0) (s₁.setTop (entryFrame m #[(.int (Int32.ofNat i)), (.int (Int32.ofNat k)), (.int (Int32.ofNat n)), fm] 4))
  refine gS (fun _ r => castTop (ef_pfs m (Int32.ofNat i) (Int32.ofNat k) (Int32.ofNat n) fm hfm) r) ?_
  show Goes p ee below s _ _ _ (s₁.setTop (mkF m 0 #[vN i, vN k, vN n, .val fm] []))
  refine gS (fun _ r => XS.iloadN X0.here hx rfl (hb hby q26_0) rfl  r) ?_
  refine gS (fun _ r => XS.iloadN X0.here hx rfl (hb hby q26_1) rfl  r) ?_
  refine gS (fun _ r => XT.ior X0.here hx rfl (hb hby q26_2) rfl r) ?_
  refine gS (fun _ r => XS.iloadN X0.here hx rfl (hb hby q26_3) rfl  r) ?_
  refine gS (fun _ r => XT.ior X0.here hx rfl (hb hby q26_4) rfl r) ?_
  refine gS (fun _ r => XS.ifNo X0.here hx rfl (hb hby q26_5) rfl ((if0 _ _).trans (flt (own_or_nneg (own_or_nneg (own_nneg n hn) (own_nneg i (by omega))) (own_nneg k (by omega)))).1) r) ?_
  show Goes p ee below s _ _ _ (s₁.setTop (mkF m 8 #[vN i, vN k, vN n, .val fm] []))
  refine gS (fun _ r => XS.iloadN X0.here hx rfl (hb hby q26_8) rfl  r) ?_
  refine gS (fun _ r => XS.iloadN X0.here hx rfl (hb hby q26_9) rfl  r) ?_
  refine gS (fun _ r => XS.iloadN X0.here hx rfl (hb hby q26_10) rfl  r) ?_
  refine gS (fun _ r => XS.isub X0.here hx rfl (hb hby q26_11) rfl r) ?_
  show Goes p ee below s _ _ _ (s₁.setTop (mkF m 12 #[vN i, vN k, vN n, .val fm] [(.int ((Int32.ofNat n) - (Int32.ofNat i))), (.int (Int32.ofNat k))]))
  rw [own_subN n i hn (by omega)]
  show Goes p ee below s _ _ _ (s₁.setTop (mkF m 12 #[vN i, vN k, vN n, .val fm] [(.int (Int32.ofNat (n - i))), (.int (Int32.ofNat k))]))
  refine gS (fun _ r => XS.icmpYes X0.here hx rfl (pc0 := 12) (pc' := 23) rfl (hb hby q26_12) rfl (flt (fun z => absurd ((own_ltN (n - i) k (by omega) (by omega)).mp z) (by omega))).2.2.2 (by decide) (by decide) r) ?_
  refine gS (fun _ r => XS.iloadN X0.here hx rfl (hb hby q26_23) rfl  r) ?_
  show Goes p ee below s _ _ _ (s₁.setTop (mkF m 24 #[vN i, vN k, vN n, .val fm] [(.int (Int32.ofNat i))]))
  refine Goes.retI X0 hx Bd.notSynchronized Bd.returns (hb hby q26_24) (by decide) (by decide) ?_
  exact ⟨rfl, N0, e0⟩
theorem ef_soc (m : MethodId) (x0 : Int32) (x1 : Int32) (x2 : Int32) : entryFrame m #[(.int x0), (.int x1), (.int x2)] 3 = mkF m 0 #[.val (.int x0), .val (.int x1), .val (.int x2)] [] := by first | (simp [entryFrame, mkF, argsToLocals, Value.category]; done) | rfl
theorem q27_0 : decode c27_ 0 = .ok (.iload_n 0, 1) := by decide +kernel
theorem q27_1 : decode c27_ 1 = .ok (.iload_n 1, 1) := by decide +kernel
theorem q27_2 : decode c27_ 2 = .ok (.iload_n 2, 1) := by decide +kernel
theorem q27_3 : decode c27_ 3 = .ok (.getstatic 1053, 3) := by decide +kernel
theorem q27_6 : decode c27_ 6 = .ok (.invokestatic 1065, 3) := by decide +kernel
theorem q27_9 : decode c27_ 9 = .ok (.ireturn, 1) := by decide +kernel
def Q_soc (Z : State) (cs : Int32) (fm : Value) (i k n : Nat) (h0 : Heap) (n0 : Nat) (v : Option Value) (h : Heap) (L : List Loc) : Prop := v = some (.int (Int32.ofNat i)) ∧ Fr n0 L ∧ h = h0
set_option maxRecDepth 65536 in
set_option maxHeartbeats 40000000 in
theorem rm_soc (l : Launch) (Z : State) (a0 : Array Value) (hw : ∀ d ∈ tables_1, d.before a0 Z = true) (ws : List Jvm.Cond) (cs : Int32) (fm : Value) (i k n : Nat) (h0 : Heap) (n0 : Nat) (Z0 : n0 ≤ h0.size) (ST : own_ST Z cs fm) (OO : Old Z n0 h0) (hik : i + k ≤ n) (hn : n < 2 ^ 31) :
    MetFree l (⟨"java/lang/String", "checkBoundsOffCount", "(III)I"⟩ : MethodName) (head1 (Jvm.Cond.code (⟨"java/lang/String", "checkBoundsOffCount", "(III)I"⟩ : MethodName) jdk_42_method_157_code 3 (some .int) :: ws) ({ frames := 1, cells := 0, slots := 0, locals := 15 } : Room)) (fun a U => a = #[(.int (Int32.ofNat i)), (.int (Int32.ofNat k)), (.int (Int32.ofNat n))] ∧ Z.Warmed39 U.vm ∧ U.heap = h0) (fun _ _ _ _ _ => True) (fun _ U o U' => ∃ v L, o = .returned v ∧ Q_soc Z cs fm i k n h0 n0 v U'.heap L ∧ FrameEnd U o U' L ({ frames := 1, cells := 0, slots := 0, locals := 15 } : Room).cells ({ frames := 1, cells := 0, slots := 0, locals := 15 } : Room).slots) := by
  refine MetFree.of_bodySF (plainFor_of_name pn_java_lang_String) hisR ?_
  intro p ee s m args below meth cc s₁ Bd hml0 hP hK
  obtain ⟨rfl, hZ, hh⟩ := hP
  have hx := Bd.exec
  have hby := Bd.bytes
  have hml : cc.maxLocals = 3 := hml0
  have hown : s.vm.findClass "java/lang/String" = some m.cls := findClass_of_methodNamed Bd.named
  have hnm := (name_of_methodNamed Bd.named Bd.method).1
  have X0 : Stand p l ee ({ frames := 1, cells := 0, slots := 0, locals := 15 } : Room) s m #[(.int (Int32.ofNat i)), (.int (Int32.ofNat k)), (.int (Int32.ofNat n))] below meth cc s₁ [] 0 0 := Stand.of_body Bd
  have e0 : s₁.heap = h0 := by rw [← hh, Bd.state]; rfl
  have N0 := Fr.nil n0
  show Goes p ee below s ({ frames := 1, cells := 0, slots := 0, locals := 15 } : Room).cells ({ frames := 1, cells := 0, slots := 0, locals := 15 } : Room).slots (Q_soc Z cs fm i k n h0 n0) (s₁.setTop (entryFrame m #[(.int (Int32.ofNat i)), (.int (Int32.ofNat k)), (.int (Int32.ofNat n))] 3))
  refine gS (fun _ r => castTop (ef_soc m (Int32.ofNat i) (Int32.ofNat k) (Int32.ofNat n)) r) ?_
  show Goes p ee below s _ _ _ (s₁.setTop (mkF m 0 #[vN i, vN k, vN n] []))
  refine gS (fun _ r => XS.iloadN X0.here hx rfl (hb hby q27_0) rfl  r) ?_
  refine gS (fun _ r => XS.iloadN X0.here hx rfl (hb hby q27_1) rfl  r) ?_
  refine gS (fun _ r => XS.iloadN X0.here hx rfl (hb hby q27_2) rfl  r) ?_
  obtain ⟨T1, X1, e1, st1⟩ := getS X0 hx hZ (host := "") hown (own_w hw 159 rfl) Via.refl e0 ((ST.2.2.1).ext OO.2) (g := (mkF m 3 #[vN i, vN k, vN n] [(.int (Int32.ofNat n)), (.int (Int32.ofNat k)), (.int (Int32.ofNat i))])) rfl (hb hby q27_3)
  refine gS st1 ?_
  obtain ⟨v2, T2, L2, X2, hQ2, st2⟩ := own_callS X1 hx hZ (y := (⟨"jdk/internal/util/Preconditions", "checkFromIndexSize", "(IIILjava/util/function/BiFunction;)I"⟩ : MethodName)) hown (own_w hw 324 rfl) (own_w hw 325 rfl) (own_w hw 160 rfl) (own_w hw 326 rfl) (by decide) (argsL := [(.int (Int32.ofNat i)), (.int (Int32.ofNat k)), (.int (Int32.ofNat n)), fm]) (rm_pfs l Z a0 hw [] cs fm i k n h0 n0 Z0 ST OO (ST.2.2.2.1) hik hn) e1 (W := 0) (by decide) (by decide) (by decide) (by decide) (g := (mkF m 6 #[vN i, vN k, vN n] [fm, (.int (Int32.ofNat n)), (.int (Int32.ofNat k)), (.int (Int32.ofNat i))])) rfl (by rw [hml]; rfl) (rest := []) (lenOf pd_16 rfl) rfl (by show 2 * 0 + _ ≤ _; exact Nat.le_of_eq rfl) (hb hby q27_6)
  refine gS st2 ?_
  obtain ⟨rfl, N2, e2⟩ := hQ2
  have N3 := Fr.app N0 N2
  show Goes p ee below s _ _ _ (T2.setTop (mkF m 9 #[vN i, vN k, vN n] [(.int (Int32.ofNat i))]))
  refine Goes.retI X2 hx Bd.notSynchronized Bd.returns (hb hby q27_9) (by decide) (by decide) ?_
  exact ⟨rfl, N3, e2⟩
theorem ef_uoc (m : MethodId) (x0 : Int32) (x1 : Int32) (x2 : Addr) : entryFrame m #[(.int x0), (.int x1), (.ref x2)] 3 = mkF m 0 #[.val (.int x0), .val (.int x1), .val (.ref x2)] [] := by first | (simp [entryFrame, mkF, argsToLocals, Value.category]; done) | rfl
theorem q28_0 : decode c28_ 0 = .ok (.iload_n 0, 1) := by decide +kernel
theorem q28_1 : decode c28_ 1 = .ok (.iload_n 1, 1) := by decide +kernel
theorem q28_2 : decode c28_ 2 = .ok (.aload_n 2, 1) := by decide +kernel
theorem q28_3 : decode c28_ 3 = .ok (.invokestatic 48, 3) := by decide +kernel
theorem pd_17 : parseMethodDescriptor "(III)I" = some ⟨[.int, .int, .int], some .int⟩ := by decide +kernel
theorem q28_6 : decode c28_ 6 = .ok (.invokestatic 419, 3) := by decide +kernel
theorem q28_9 : decode c28_ 9 = .ok (.pop, 1) := by decide +kernel
theorem q28_10 : decode c28_ 10 = .ok (.return_, 1) := by decide +kernel
def Q_uoc (Z : State) (cs : Int32) (fm : Value) (i k : Nat) (a1 : Addr) (n : Nat) (f : Nat → Value) (h0 : Heap) (n0 : Nat) (v : Option Value) (h : Heap) (L : List Loc) : Prop := v = none ∧ Fr n0 L ∧ h = h0
set_option maxRecDepth 65536 in
set_option maxHeartbeats 40000000 in
theorem rm_uoc (l : Launch) (Z : State) (a0 : Array Value) (hw : ∀ d ∈ tables_1, d.before a0 Z = true) (ws : List Jvm.Cond) (cs : Int32) (fm : Value) (i k : Nat) (a1 : Addr) (n : Nat) (f : Nat → Value) (h0 : Heap) (n0 : Nat) (Z0 : n0 ≤ h0.size) (ST : own_ST Z cs fm) (OO : Old Z n0 h0) (hik : i + k ≤ n) (hn : n < 2 ^ 30) (A : OA Z h0 a1 .byte (2 * n) f) :
    MetFree l (⟨"java/lang/StringUTF16", "checkBoundsOffCount", "(II[B)V"⟩ : MethodName) (head1 (Jvm.Cond.code (⟨"java/lang/StringUTF16", "checkBoundsOffCount", "(II[B)V"⟩ : MethodName) jdk_52_method_94_code 3 none :: ws) ({ frames := 2, cells := 0, slots := 0, locals := 29 } : Room)) (fun a U => a = #[(.int (Int32.ofNat i)), (.int (Int32.ofNat k)), (.ref a1)] ∧ Z.Warmed39 U.vm ∧ U.heap = h0) (fun _ _ _ _ _ => True) (fun _ U o U' => ∃ v L, o = .returned v ∧ Q_uoc Z cs fm i k a1 n f h0 n0 v U'.heap L ∧ FrameEnd U o U' L ({ frames := 2, cells := 0, slots := 0, locals := 29 } : Room).cells ({ frames := 2, cells := 0, slots := 0, locals := 29 } : Room).slots) := by
  refine MetFree.of_bodySF (plainFor_of_name pn_java_lang_StringUTF16) hisR ?_
  intro p ee s m args below meth cc s₁ Bd hml0 hP hK
  obtain ⟨rfl, hZ, hh⟩ := hP
  have hx := Bd.exec
  have hby := Bd.bytes
  have hml : cc.maxLocals = 3 := hml0
  have hown : s.vm.findClass "java/lang/StringUTF16" = some m.cls := findClass_of_methodNamed Bd.named
  have hnm := (name_of_methodNamed Bd.named Bd.method).1
  have X0 : Stand p l ee ({ frames := 2, cells := 0, slots := 0, locals := 29 } : Room) s m #[(.int (Int32.ofNat i)), (.int (Int32.ofNat k)), (.ref a1)] below meth cc s₁ [] 0 0 := Stand.of_body Bd
  have e0 : s₁.heap = h0 := by rw [← hh, Bd.state]; rfl
  have N0 := Fr.nil n0
  show Goes p ee below s ({ frames := 2, cells := 0, slots := 0, locals := 29 } : Room).cells ({ frames := 2, cells := 0, slots := 0, locals := 29 } : Room).slots (Q_uoc Z cs fm i k a1 n f h0 n0) (s₁.setTop (entryFrame m #[(.int (Int32.ofNat i)), (.int (Int32.ofNat k)), (.ref a1)] 3))
  refine gS (fun _ r => castTop (ef_uoc m (Int32.ofNat i) (Int32.ofNat k) a1) r) ?_
  show Goes p ee below s _ _ _ (s₁.setTop (mkF m 0 #[vN i, vN k, vR a1] []))
  refine gS (fun _ r => XS.iloadN X0.here hx rfl (hb hby q28_0) rfl  r) ?_
  refine gS (fun _ r => XS.iloadN X0.here hx rfl (hb hby q28_1) rfl  r) ?_
  refine gS (fun _ r => XS.aloadN X0.here hx rfl (hb hby q28_2) rfl rfl r) ?_
  have lt_a1 := A.lt
  obtain ⟨v1, T1, L1, X1, hQ1, st1⟩ := own_callS X0 hx hZ (y := (⟨"java/lang/StringUTF16", "length", "([B)I"⟩ : MethodName)) hown (own_w hw 278 rfl) (own_w hw 279 rfl) (own_w hw 25 rfl) (own_w hw 280 rfl) (by decide) (argsL := [(.ref a1)]) (rm_u16l l Z a0 hw [] cs fm a1 n _ h0 n0 Z0 ST OO (by omega) A) e0 (W := 2) (by decide) (by decide) (by decide) (by decide) (g := (mkF m 3 #[vN i, vN k, vR a1] [(.ref a1), (.int (Int32.ofNat k)), (.int (Int32.ofNat i))])) rfl (by rw [hml]; rfl) (rest := [(.int (Int32.ofNat k)), (.int (Int32.ofNat i))]) (lenOf pd_2 rfl) rfl (by show 2 * 0 + _ ≤ _; exact Nat.le_of_eq rfl) (hb hby q28_3)
  refine gS st1 ?_
  obtain ⟨rfl, N1, e1⟩ := hQ1
  have N2 := Fr.app N0 N1
  have lt_a1 := A.lt
  obtain ⟨v3, T3, L3, X3, hQ3, st3⟩ := own_callS X1 hx hZ (y := (⟨"java/lang/String", "checkBoundsOffCount", "(III)I"⟩ : MethodName)) hown (own_w hw 321 rfl) (own_w hw 322 rfl) (own_w hw 10 rfl) (own_w hw 323 rfl) (by decide) (argsL := [(.int (Int32.ofNat i)), (.int (Int32.ofNat k)), (.int (Int32.ofNat n))]) (rm_soc l Z a0 hw [] cs fm i k n h0 n0 Z0 ST OO hik (by omega)) e1 (W := 0) (by decide) (by decide) (by decide) (by decide) (g := (mkF m 6 #[vN i, vN k, vR a1] [(.int (Int32.ofNat n)), (.int (Int32.ofNat k)), (.int (Int32.ofNat i))])) rfl (by rw [hml]; rfl) (rest := []) (lenOf pd_17 rfl) rfl (by show 2 * 0 + _ ≤ _; exact Nat.le_of_eq rfl) (hb hby q28_6)
  refine gS st3 ?_
  obtain ⟨rfl, N3, e3⟩ := hQ3
  have N4 := Fr.app N2 N3
  refine gS (fun _ r => XT.pop X3.here hx rfl (hb hby q28_9) rfl rfl r) ?_
  show Goes p ee below s _ _ _ (T3.setTop (mkF m 10 #[vN i, vN k, vR a1] []))
  refine Goes.retV X3 hx Bd.notSynchronized Bd.returns (hb hby q28_10) (by decide) (by decide) ?_
  exact ⟨rfl, N4, e3⟩
theorem ef_sbb (m : MethodId) (x0 : Addr) (x1 : Addr) (x2 : Int32) : entryFrame m #[(.ref x0), (.ref x1), (.int x2)] 3 = mkF m 0 #[.val (.ref x0), .val (.ref x1), .val (.int x2)] [] := by first | (simp [entryFrame, mkF, argsToLocals, Value.category]; done) | rfl
theorem q29_0 : decode c29_ 0 = .ok (.aload_n 0, 1) := by decide +kernel
theorem q29_1 : decode c29_ 1 = .ok (.invokespecial 1, 3) := by decide +kernel
theorem q29_4 : decode c29_ 4 = .ok (.aload_n 0, 1) := by decide +kernel
theorem q29_5 : decode c29_ 5 = .ok (.aload_n 1, 1) := by decide +kernel
theorem q29_6 : decode c29_ 6 = .ok (.putfield 9, 3) := by decide +kernel
theorem q29_9 : decode c29_ 9 = .ok (.aload_n 0, 1) := by decide +kernel
theorem q29_10 : decode c29_ 10 = .ok (.iload_n 2, 1) := by decide +kernel
theorem q29_11 : decode c29_ 11 = .ok (.putfield 15, 3) := by decide +kernel
theorem q29_14 : decode c29_ 14 = .ok (.return_, 1) := by decide +kernel
def Q_sbb (Z : State) (cs : Int32) (fm : Value) (a1 a2 : Addr) (u : Bool) (uv uc : Value) (h0 : Heap) (n0 : Nat) (v : Option Value) (h : Heap) (L : List Loc) : Prop := v = none ∧ Fr n0 L ∧ Keep h0 h [a1] ∧ Exa Z h a1 "java/lang/String" ∧ Fld Z h a1 "java/lang/String" "value" "[B" (.ref a2) ∧ Fld Z h a1 "java/lang/String" "coder" "B" (.int (own_cd u))
set_option maxRecDepth 65536 in
set_option maxHeartbeats 40000000 in
theorem rm_sbb (l : Launch) (Z : State) (a0 : Array Value) (hw : ∀ d ∈ tables_1, d.before a0 Z = true) (ws : List Jvm.Cond) (cs : Int32) (fm : Value) (a1 a2 : Addr) (u : Bool) (uv uc : Value) (h0 : Heap) (n0 : Nat) (Z0 : n0 ≤ h0.size) (ST : own_ST Z cs fm) (OO : Old Z n0 h0) (ge_a1 : n0 ≤ a1) (E : Exa Z h0 a1 "java/lang/String") (FV : Fld Z h0 a1 "java/lang/String" "value" "[B" uv) (FC : Fld Z h0 a1 "java/lang/String" "coder" "B" uc) :
    MetFree l (⟨"java/lang/String", "<init>", "([BB)V"⟩ : MethodName) (head1 (Jvm.Cond.code (⟨"java/lang/String", "<init>", "([BB)V"⟩ : MethodName) jdk_42_method_151_code 3 none :: ws) ({ frames := 1, cells := 0, slots := 0, locals := 12 } : Room)) (fun a U => a = #[(.ref a1), (.ref a2), (.int (own_cd u))] ∧ Z.Warmed39 U.vm ∧ U.heap = h0) (fun _ _ _ _ _ => True) (fun _ U o U' => ∃ v L, o = .returned v ∧ Q_sbb Z cs fm a1 a2 u uv uc h0 n0 v U'.heap L ∧ FrameEnd U o U' L ({ frames := 1, cells := 0, slots := 0, locals := 12 } : Room).cells ({ frames := 1, cells := 0, slots := 0, locals := 12 } : Room).slots) := by
  refine MetFree.of_bodySF (plainFor_of_name pn_java_lang_String) hisR ?_
  intro p ee s m args below meth cc s₁ Bd hml0 hP hK
  obtain ⟨rfl, hZ, hh⟩ := hP
  have hx := Bd.exec
  have hby := Bd.bytes
  have hml : cc.maxLocals = 3 := hml0
  have hown : s.vm.findClass "java/lang/String" = some m.cls := findClass_of_methodNamed Bd.named
  have hnm := (name_of_methodNamed Bd.named Bd.method).1
  have X0 : Stand p l ee ({ frames := 1, cells := 0, slots := 0, locals := 12 } : Room) s m #[(.ref a1), (.ref a2), (.int (own_cd u))] below meth cc s₁ [] 0 0 := Stand.of_body Bd
  have e0 : s₁.heap = h0 := by rw [← hh, Bd.state]; rfl
  have N0 := Fr.nil n0
  show Goes p ee below s ({ frames := 1, cells := 0, slots := 0, locals := 12 } : Room).cells ({ frames := 1, cells := 0, slots := 0, locals := 12 } : Room).slots (Q_sbb Z cs fm a1 a2 u uv uc h0 n0) (s₁.setTop (entryFrame m #[(.ref a1), (.ref a2), (.int (own_cd u))] 3))
  refine gS (fun _ r => castTop (ef_sbb m a1 a2 (own_cd u)) r) ?_
  show Goes p ee below s _ _ _ (s₁.setTop (mkF m 0 #[vR a1, vR a2, .val (.int (own_cd u))] []))
  have K0 := Keep.refl h0 ([a1] : List Addr)
  refine gS (fun _ r => XS.aloadN X0.here hx rfl (hb hby q29_0) rfl rfl r) ?_
  obtain ⟨T1, X1, e1, st1⟩ := initO X0 hx hZ hown (own_w hw 19 rfl) (own_w hw 20 rfl) (own_w hw 21 rfl) e0 (g := (mkF m 1 #[vR a1, vR a2, .val (.int (own_cd u))] [(.ref a1)])) rfl (by rw [hml]; rfl) rfl (hb hby q29_1) (by decide) (W := 0) (by show 2 * 0 + _ ≤ _; exact Nat.le_of_eq rfl) (by decide)
  refine gS st1 ?_
  refine gS (fun _ r => XS.aloadN X1.here hx rfl (hb hby q29_4) rfl rfl r) ?_
  refine gS (fun _ r => XS.aloadN X1.here hx rfl (hb hby q29_5) rfl rfl r) ?_
  show Goes p ee below s _ _ _ (T1.setTop (mkF m 6 #[vR a1, vR a2, .val (.int (own_cd u))] [(.ref a2), (.ref a1)]))
  obtain ⟨T2, h2, X2, e2, W2, st2⟩ := putF X1 hx hZ hown (host := "") (Or.inl (own_w hw 36 rfl)) Via.refl e1 FV E (Or.inr ⟨(own_w hw 37 rfl), rfl, hnm⟩) (own_w hw 9 rfl) (ty := (.array .byte)) (by decide) rfl rfl (g := (mkF m 6 #[vR a1, vR a2, .val (.int (own_cd u))] [(.ref a2), (.ref a1)])) rfl rfl (hb hby q29_6)
  refine gS st2 ?_
  have E := E.wr W2
  have FC := FC.other W2 (Or.inr (slot_ne (Or.inr (own_w hw 35 rfl)) (Or.inr (own_w hw 37 rfl)) (by decide) (t := .byte) (t' := (.array .byte)) (by decide) (by decide)))
  have Zp3 := Nat.le_trans Z0 (Keep.of_wr W2).1
  have FV := FV.same W2
  have N4 := Fr.snoc X2 N0 ge_a1
  have OO := OO.wr W2 ge_a1
  have K5 := K0.wr W2 (Or.inl (List.mem_of_getElem? (i := 0) rfl))
  show Goes p ee below s _ _ _ (T2.setTop (mkF m 9 #[vR a1, vR a2, .val (.int (own_cd u))] []))
  refine gS (fun _ r => XS.aloadN X2.here hx rfl (hb hby q29_9) rfl rfl r) ?_
  refine gS (fun _ r => XS.iloadN X2.here hx rfl (hb hby q29_10) rfl  r) ?_
  show Goes p ee below s _ _ _ (T2.setTop (mkF m 11 #[vR a1, vR a2, .val (.int (own_cd u))] [(.int (own_cd u)), (.ref a1)]))
  obtain ⟨T6, h6, X6, e6, W6, st6⟩ := putFN X2 hx hZ hown (own_w hw 34 rfl) Via.refl e2 FC E (Or.inr ⟨(own_w hw 35 rfl), rfl, hnm⟩) (own_w hw 9 rfl) (ty := .byte) (v' := (.int (own_cd u))) (by decide) (own_cd_byte u).1 (own_cd_byte u).2 (g := (mkF m 11 #[vR a1, vR a2, .val (.int (own_cd u))] [(.int (own_cd u)), (.ref a1)])) rfl rfl (hb hby q29_11)
  refine gS st6 ?_
  have E := E.wr W6
  have FV := FV.other W6 (Or.inr (slot_ne (Or.inr (own_w hw 37 rfl)) (Or.inr (own_w hw 35 rfl)) (by decide) (t := (.array .byte)) (t' := .byte) (by decide) (by decide)))
  have Zp7 := Nat.le_trans Zp3 (Keep.of_wr W6).1
  have FC := FC.same W6
  have N8 := Fr.snoc X6 N4 ge_a1
  have OO := OO.wr W6 ge_a1
  have K9 := K5.wr W6 (Or.inl (List.mem_of_getElem? (i := 0) rfl))
  show Goes p ee below s _ _ _ (T6.setTop (mkF m 14 #[vR a1, vR a2, .val (.int (own_cd u))] []))
  refine Goes.retV X6 hx Bd.notSynchronized Bd.returns (hb hby q29_14) (by decide) (by decide) ?_
  rw [e6]
  exact ⟨rfl, N8, K9, E, FV, FC⟩
section OwnSB
variable {p : Program} {l : Launch} {e : Env} {R : Room} {s : State} {m : MethodId} {args : Array Value} {below : List Frame} {meth : Method} {c : Code} {T : State} {locs : List Loc} {cells slots : Nat} {Z : State} {a0 : Array Value} {h h' : Heap}
theorem own_declares {y : MethodName} {bytes : ByteArray} {maxL : Nat} {ret : Option FieldType} (wi : (Cond.instanceMethod y).before a0 Z = true) (wc : (Cond.code y bytes maxL ret).before a0 Z = true) : (Cond.declares y).before a0 Z = true := by
  obtain ⟨mk, methM, hn, hm, hst, -⟩ := Cond.instanceMethod_spec wi
  obtain ⟨m2, cM, q1, -, -, -, -, -, -, hsig⟩ := Cond.code_spec hn wc
  cases hm.symm.trans q1
  simp [Cond.before, Cond.holds, Cond.value, hn, hm, hst, hsig]
theorem own_noface {C : String} {y z : MethodName} (hs : (Cond.selects C z z).before a0 Z = true) (hc : z.cls = y.cls) {r : MethodId} (hr : Z.methodNamed? y = some r) : ∃ k, Z.vm.classes[r.cls]? = some k ∧ k.isInterface = false := by
  obtain ⟨c2, r2, m2, -, -, q3, -, kP, hkP, hkPi⟩ := Cond.selects_spec hs
  have h1 := findClass_of_methodNamed q3
  have h2 := findClass_of_methodNamed hr
  rw [hc] at h1
  have e1 : m2.cls = r.cls := Option.some.inj (h1.symm.trans h2)
  exact ⟨kP, e1 ▸ hkP, hkPi⟩
theorem own_same {C : String} {y z : MethodName} (hs : (Cond.selects C z z).before a0 Z = true) (hc : z.cls = y.cls) (wi : (Cond.instanceMethod y).before a0 Z = true) (hy : y.cls ≠ "java/lang/invoke/MethodHandle" ∧ y.cls ≠ "java/lang/invoke/VarHandle") : (Cond.sameMethod y.cls y.cls y.name y.desc).before a0 Z = true := by
  obtain ⟨mk, methM, hn, hm, hst, -⟩ := Cond.instanceMethod_spec wi
  obtain ⟨k, hk, hi⟩ := own_noface hs hc hn
  have h1 := findClass_of_methodNamed hn
  have h2 := State.methodFound?_of_named hn hy
  simp [Cond.before, Cond.holds, Cond.value, h1, h2, show Z.methodNamed? ⟨y.cls, y.name, y.desc⟩ = some mk from hn, hk, hi]
theorem own_selPriv {y : MethodName} {n : Nat} (wn : (Cond.instantiable y.cls n).before a0 Z = true) (wp : (Cond.privateMethod y).before a0 Z = true) (wi : (Cond.instanceMethod y).before a0 Z = true) (hy : y.cls ≠ "java/lang/invoke/MethodHandle" ∧ y.cls ≠ "java/lang/invoke/VarHandle") : (Cond.selects y.cls y y).before a0 Z = true := by
  cases hc : Z.vm.findClass y.cls with
  | none => simp [Cond.before, Cond.holds, Cond.value, hc] at wn
  | some cc =>
    cases hk : Z.vm.classes[cc]? with
    | none => simp [Cond.before, Cond.holds, Cond.value, hc, hk] at wn
    | some k =>
      have q : k.isInterface = false := by
        simp [Cond.before, Cond.holds, Cond.value, hc, hk] at wn
        exact wn.1.1.2.1
      exact selects_self_of_private hc hk q (Cond.privateMethod_at wp) wi hy
/-- invokevirtual of y, which goes to z -/
theorem own_callVz (X : Stand p l e R s m args below meth c T locs cells slots) (hx : p.tables.exec = Jvm.exec) (hZ : Z.Warmed39 s.vm) {own C C' : String} {index : Nat} {y z z' : MethodName} {bytes : ByteArray} {maxL : Nat} {ret : Option FieldType} (hown : s.vm.findClass own = some m.cls)
    (w1 : (Cond.methodLink own index y).before a0 Z = true) (w2 : (Cond.declares y).before a0 Z = true) (w5 : (Cond.selects C y z).before a0 Z = true) (w7 : (Cond.selects C' z' z').before a0 Z = true) (hc' : z'.cls = y.cls) (w6 : (Cond.instanceMethod z).before a0 Z = true) (w3 : (Cond.initialized z.cls).before a0 Z = true) (w4 : (Cond.code z bytes maxL ret).before a0 Z = true) (hy : y.cls ≠ "java/lang/invoke/MethodHandle" ∧ y.cls ≠ "java/lang/invoke/VarHandle")
    {rm : Room} {a : Addr} {argsL : List Value} {Q : Option Value → Heap → List Loc → Prop}
    (hM : MetFree l z (head1 [Cond.code z bytes maxL ret] rm) (fun b U => b = (.ref a :: argsL).toArray ∧ Z.Warmed39 U.vm ∧ U.heap = h) (fun _ _ _ _ _ => True) (fun _ U o U' => ∃ v L, o = .returned v ∧ Q v U'.heap L ∧ FrameEnd U o U' L rm.cells rm.slots))
    (eT : T.heap = h) (E : Exa Z h a C) {W : Nat} (hf : rm.frames + 1 ≤ R.frames) (hl : W + (maxL + 11) + rm.locals ≤ R.locals) (hc : cells + rm.cells ≤ R.cells) (hsl : slots + rm.slots ≤ R.slots)
    {g : JFrame} (hg : g.method = m) (hsize : g.locals.size = c.maxLocals) {rest : List Value} (hlen : ∀ sig, parseMethodDescriptor y.desc = some sig → argsL.length = sig.parameters.length)
    (hstack : g.stack = argsL.reverse ++ .ref a :: rest) (hW : 2 * g.monitorRoom + (rest.map fun v => v.category).sum ≤ W) (hdg : decode c.code g.pc = .ok (.invokevirtual index, 3)) :
    ∃ (v : Option Value) (T' : State) (L : List Loc), Stand p l e R s m args below meth c T' (locs ++ L) (cells + rm.cells) (slots + rm.slots) ∧ Q v T'.heap L ∧
      ∀ t, Steps p.tables e below (T'.setTop { g with pc := g.pc + 3, stack := v.toList ++ rest }) t → Steps p.tables e below (T.setTop g) t := by
  obtain ⟨cB, kB, qa, qb, qc⟩ := isOf hZ eT E
  obtain ⟨v, _, ⟨U, Ls, k, n⟩, -, X', ⟨Lc, hQ, l1, y1, z1⟩, st⟩ := X.virtualBack hx (y := y) (z := z) hown (mvT hZ w1) (mvT hZ w2) (fun r hr => own_noface (a0 := #[]) (mvT hZ w7) hc' hr) (mvT hZ w5) (mvT hZ w6) hy (backOf (W := W) hM hZ w4 w3 hf hl) qa qc hg hsize (Steps.refl _) (argsL := argsL) (rest := rest) hlen hstack hW hdg (fun _ _ => ⟨rfl, eT, hc, hsl⟩)
  dsimp only [Pt.U, Pt.locs, Pt.cells, Pt.slots] at X' l1 y1 z1 st hQ
  subst l1 y1 z1
  exact ⟨v, U, Lc, X', hQ, fun t k => st.trans k⟩
/-- super.y(..) -/
theorem own_callUp (X : Stand p l e R s m args below meth c T locs cells slots) (hx : p.tables.exec = Jvm.exec) (hZ : Z.Warmed39 s.vm) {own C' K : String} {index : Nat} {y z' : MethodName} {bytes : ByteArray} {maxL : Nat} {ret : Option FieldType} (hown : s.vm.findClass own = some m.cls)
    (w1 : (Cond.methodLink own index y).before a0 Z = true) (w7 : (Cond.selects C' z' z').before a0 Z = true) (hc' : z'.cls = y.cls) (w6 : (Cond.instanceMethod y).before a0 Z = true) (w5 : (Cond.superclass own y.cls).before a0 Z = true) (hn : y.name ≠ "<init>") (w3 : (Cond.initialized y.cls).before a0 Z = true) (w4 : (Cond.code y bytes maxL ret).before a0 Z = true) (hy : y.cls ≠ "java/lang/invoke/MethodHandle" ∧ y.cls ≠ "java/lang/invoke/VarHandle")
    {rm : Room} {a : Addr} {argsL : List Value} {Q : Option Value → Heap → List Loc → Prop}
    (hM : MetFree l y (head1 [Cond.code y bytes maxL ret] rm) (fun b U => b = (.ref a :: argsL).toArray ∧ Z.Warmed39 U.vm ∧ U.heap = h) (fun _ _ _ _ _ => True) (fun _ U o U' => ∃ v L, o = .returned v ∧ Q v U'.heap L ∧ FrameEnd U o U' L rm.cells rm.slots))
    (eT : T.heap = h) (E : Exa Z h a K) {W : Nat} (hf : rm.frames + 1 ≤ R.frames) (hl : W + (maxL + 11) + rm.locals ≤ R.locals) (hc : cells + rm.cells ≤ R.cells) (hsl : slots + rm.slots ≤ R.slots)
    {g : JFrame} (hg : g.method = m) (hsize : g.locals.size = c.maxLocals) {rest : List Value} (hlen : ∀ sig, parseMethodDescriptor y.desc = some sig → argsL.length = sig.parameters.length)
    (hstack : g.stack = argsL.reverse ++ .ref a :: rest) (hW : 2 * g.monitorRoom + (rest.map fun v => v.category).sum ≤ W) (hdg : decode c.code g.pc = .ok (.invokespecial index, 3)) :
    ∃ (v : Option Value) (T' : State) (L : List Loc), Stand p l e R s m args below meth c T' (locs ++ L) (cells + rm.cells) (slots + rm.slots) ∧ Q v T'.heap L ∧
      ∀ t, Steps p.tables e below (T'.setTop { g with pc := g.pc + 3, stack := v.toList ++ rest }) t → Steps p.tables e below (T.setTop g) t := by
  obtain ⟨v, _, ⟨U, Ls, k, n⟩, -, X', ⟨Lc, hQ, l1, y1, z1⟩, st⟩ := superBack X hx hZ (y := y) hown w1 (own_same w7 hc' w6 hy) w6 w5 hn (backOf (W := W) hM hZ w4 w3 hf hl) eT (Ins.self E) hg hsize w4 (argsL := argsL) (rest := rest) hlen hstack hW hdg (fun _ _ => ⟨rfl, eT, hc, hsl⟩)
  dsimp only [Pt.U, Pt.locs, Pt.cells, Pt.slots] at X' l1 y1 z1 st hQ
  subst l1 y1 z1
  exact ⟨v, U, Lc, X', hQ, fun t k => st.trans k⟩
end OwnSB
def own_cat (n : Nat) (f g : Nat → Nat) : Nat → Nat := fun j => if j < n then f j else g (j - n)
theorem own_cat_lt {n j : Nat} {f g : Nat → Nat} (h : j < n) : own_cat n f g j = f j := if_pos h
theorem own_cat_ge {n j : Nat} {f g : Nat → Nat} (h : n ≤ j) : own_cat n f g j = g (j - n) := if_neg (Nat.not_lt.mpr h)
theorem own_cat_all {P : Nat → Prop} {n k : Nat} {f g : Nat → Nat} (hf : ∀ j, j < n → P (f j)) (hg : ∀ j, j < k → P (g j)) : ∀ j, j < n + k → P (own_cat n f g j) := fun j hj => by
  by_cases q : j < n
  · rw [own_cat_lt q]; exact hf j q
  · rw [own_cat_ge (Nat.le_of_not_lt q)]; exact hg _ (by omega)
theorem own_put (u : Bool) (n k : Nat) (c d : Nat → Nat) (f : Nat → Value) (hf : ∀ j, j < own_len u n → f j = own_by u c j) : ∀ j, j < own_len u (n + k) → (if own_len u n ≤ j ∧ j < own_len u n + own_len u k then own_by u d (0 + (j - own_len u n)) else f j) = own_by u (own_cat n c d) j := fun j hj => by
  rw [Nat.zero_add]
  cases u
  · simp only [own_len, own_by, Bool.false_eq_true, if_false] at *
    by_cases q : j < n
    · rw [if_neg (by omega), hf j q, own_cat_lt q]
    · rw [if_pos (by omega), own_cat_ge (by omega)]
  · simp only [own_len, own_by, if_true] at *
    by_cases q : j < 2 * n
    · rw [if_neg (by omega), hf j q, own_cat_lt (by omega)]
    · have e1 : (j - 2 * n) % 2 = j % 2 := by omega
      have e2 : (j - 2 * n) / 2 = j / 2 - n := by omega
      rw [if_pos (by omega), own_cat_ge (by omega), e1, e2]
theorem own_put0 (n k : Nat) (c d : Nat → Nat) (f : Nat → Value) (hf : ∀ j, j < n → f j = own_by false c j) : ∀ j, j < n + 1 → (if j = n then .int (own_bt k) else f j) = own_by false (own_cat n c (fun _ => k)) j := fun j hj => by
  by_cases q : j = n
  · rw [if_pos q, q]; simp only [own_by, Bool.false_eq_true, if_false]; rw [own_cat_ge (Nat.le_refl _)]
  · rw [if_neg q, hf j (by omega)]; simp only [own_by, Bool.false_eq_true, if_false]; rw [own_cat_lt (by omega)]
theorem own_put1 (n k : Nat) (c : Nat → Nat) (f : Nat → Value) (hf : ∀ j, j < 2 * n → f j = own_by true c j) : ∀ j, j < 2 * (n + 1) → (if j = 2 * n + 1 then .int (own_bt (k / 256)) else if j = 2 * n then .int (own_bt k) else f j) = own_by true (own_cat n c (fun _ => k)) j := fun j hj => by
  by_cases q : j = 2 * n + 1
  · rw [if_pos q, q, own_by_hi, own_cat_ge (Nat.le_refl _)]
  · rw [if_neg q]
    by_cases q2 : j = 2 * n
    · rw [if_pos q2, q2, own_by_lo, own_cat_ge (Nat.le_refl _)]
    · rw [if_neg q2, hf j (by omega)]
      simp only [own_by, if_true]
      rw [own_cat_lt (by omega)]
theorem own_bt_inj {a b : Nat} (ha : a < 256) (hb : b < 256) (e : own_bt a = own_bt b) : a = b := by
  have h1 := own_bt255 a (by omega)
  rw [e, own_bt255 b (by omega), Nat.mod_eq_of_lt ha, Nat.mod_eq_of_lt hb] at h1
  exact ((own_eqN b a (by omega) (by omega)).mp h1).symm
theorem own_ne2 {x b b' : Addr} {n : Nat} (hb : b' = b ∨ n ≤ b') (h1 : x ≠ b) (h2 : x < n) : x ≠ b' := by
  rcases hb with q | q
  · rw [q]; exact h1
  · exact Nat.ne_of_lt (Nat.lt_of_lt_of_le h2 q)
def own_B (Z : State) (h : Heap) (x y : Addr) (u : Bool) (n : Nat) : Prop :=
  Exa Z h x "java/lang/StringBuilder" ∧ Fld Z h x "java/lang/AbstractStringBuilder" "value" "[B" (.ref y) ∧ Fld Z h x "java/lang/AbstractStringBuilder" "coder" "B" (.int (own_cd u)) ∧ Fld Z h x "java/lang/AbstractStringBuilder" "count" "I" (.int (Int32.ofNat n)) ∧ Fld Z h x "java/lang/AbstractStringBuilder" "maybeLatin1" "Z" (.int 0)
theorem own_nlt (k q : Nat) (h : k ≤ q) (hq : q < 2 ^ 31) : ¬ (0 : Int32) < Int32.ofNat k - Int32.ofNat q := by
  have z0 : (0 : Int32).toInt = 0 := rfl
  rw [Int32.lt_iff_toInt_lt, own_subI k q (by omega) hq, z0]
  omega
theorem own_inf_next {Z : State} {h : Heap} {b : Addr} {N k t : Nat} {d : Nat → Nat} {g : Nat → Value} (A : OA Z h b .byte (2 * N) (fun j => if j = 2 * (k + t) + 1 then .int (own_bt (d t / 256)) else if j = 2 * (k + t) then .int (own_bt (d t)) else if 2 * k ≤ j ∧ j < 2 * k + 2 * t then own_by true d (0 + (j - 2 * k)) else g j)) :
    OA Z h b .byte (2 * N) (fun j => if 2 * k ≤ j ∧ j < 2 * k + 2 * (t + 1) then own_by true d (0 + (j - 2 * k)) else g j) := A.congr fun j hj => by
  by_cases q1 : j = 2 * (k + t) + 1
  · have e1 : 0 + (j - 2 * k) = 2 * t + 1 := by omega
    rw [if_pos q1, if_pos (by omega), e1, own_by_hi]
  · by_cases q2 : j = 2 * (k + t)
    · have e1 : 0 + (j - 2 * k) = 2 * t := by omega
      rw [if_neg q1, if_pos q2, if_pos (by omega), e1, own_by_lo]
    · by_cases q3 : 2 * k ≤ j ∧ j < 2 * k + 2 * t
      · rw [if_neg q1, if_neg q2, if_pos q3, if_pos (by omega)]
      · rw [if_neg q1, if_neg q2, if_neg q3, if_neg (by omega)]
theorem own_ge2 {b b' n k : Nat} (hb : b' = b ∨ n ≤ b') (h1 : k ≤ b) (h2 : k ≤ n) : k ≤ b' := by
  rcases hb with q | q
  · rw [q]; exact h1
  · exact Nat.le_trans h2 q
theorem own_kx {b b' n k : Nat} {ws : List Addr} (hb : b' = b ∨ n ≤ b') (h1 : b ∈ ws ∨ k ≤ b) (h2 : k ≤ n) : b' ∈ ws ∨ k ≤ b' := by
  rcases hb with q | q
  · rw [q]; exact h1
  · exact Or.inr (Nat.le_trans h2 q)
theorem own_sf2 {Z : State} {EL : List (String × Nat)} {vm : Vm} {h : Heap} {b b' : Addr} (hb : b' = b ∨ h.size ≤ b') (S : Safe Z EL vm h b) : Safe Z EL vm h b' := by
  rcases hb with q | q
  · rw [q]; exact S
  · exact Safe.new q
theorem own_or1 {a b : Bool} (h : (a || b) = false) : a = false := by cases a <;> simp_all
theorem own_or2 {a b : Bool} (h : (a || b) = false) : b = false := by cases b <;> simp_all

theorem ef_bisL (m : MethodId) (x0 : Addr) : entryFrame m #[(.ref x0)] 1 = mkF m 0 #[.val (.ref x0)] [] := by first | (simp [entryFrame, mkF, argsToLocals, Value.category]; done) | rfl
theorem pn_java_lang_AbstractStringBuilder : plainName "java/lang/AbstractStringBuilder" = true := by first | (simp [plainName, overriddenIn]; done) | decide +kernel
theorem q30_0 : decode c30_ 0 = .ok (.getstatic 18, 3) := by decide +kernel
theorem q30_3 : decode c30_ 3 = .ok (.ifCond .eq 14, 3) := by decide +kernel
theorem q30_6 : decode c30_ 6 = .ok (.aload_n 0, 1) := by decide +kernel
theorem q30_7 : decode c30_ 7 = .ok (.getfield 22, 3) := by decide +kernel
theorem q30_10 : decode c30_ 10 = .ok (.ifCond .ne 7, 3) := by decide +kernel
theorem q30_13 : decode c30_ 13 = .ok (.iconst 1, 1) := by decide +kernel
theorem q30_14 : decode c30_ 14 = .ok (.goto 4, 3) := by decide +kernel
theorem q30_18 : decode c30_ 18 = .ok (.ireturn, 1) := by decide +kernel
theorem q30_17 : decode c30_ 17 = .ok (.iconst 0, 1) := by decide +kernel
def Q_bisL (Z : State) (cs : Int32) (fm : Value) (a1 : Addr) (u : Bool) (h0 : Heap) (n0 : Nat) (v : Option Value) (h : Heap) (L : List Loc) : Prop := v = some (.int (if u then 0 else 1)) ∧ Fr n0 L ∧ h = h0
set_option maxRecDepth 65536 in
set_option maxHeartbeats 40000000 in
theorem rm_bisL (l : Launch) (Z : State) (a0 : Array Value) (hw : ∀ d ∈ tables_1, d.before a0 Z = true) (ws : List Jvm.Cond) (cs : Int32) (fm : Value) (a1 : Addr) (u : Bool) (h0 : Heap) (n0 : Nat) (Z0 : n0 ≤ h0.size) (ST : own_ST Z cs fm) (OO : Old Z n0 h0) (FC : Fld Z h0 a1 "java/lang/AbstractStringBuilder" "coder" "B" (.int (own_cd u))) :
    MetFree l (⟨"java/lang/AbstractStringBuilder", "isLatin1", "()Z"⟩ : MethodName) (head1 (Jvm.Cond.code (⟨"java/lang/AbstractStringBuilder", "isLatin1", "()Z"⟩ : MethodName) jdk_68_method_68_code 1 (some .boolean) :: ws) ({ frames := 0, cells := 0, slots := 0, locals := 0 } : Room)) (fun a U => a = #[(.ref a1)] ∧ Z.Warmed39 U.vm ∧ U.heap = h0) (fun _ _ _ _ _ => True) (fun _ U o U' => ∃ v L, o = .returned v ∧ Q_bisL Z cs fm a1 u h0 n0 v U'.heap L ∧ FrameEnd U o U' L ({ frames := 0, cells := 0, slots := 0, locals := 0 } : Room).cells ({ frames := 0, cells := 0, slots := 0, locals := 0 } : Room).slots) := by
  refine MetFree.of_bodySF (plainFor_of_name pn_java_lang_AbstractStringBuilder) hisR ?_
  intro p ee s m args below meth cc s₁ Bd hml0 hP hK
  obtain ⟨rfl, hZ, hh⟩ := hP
  have hx := Bd.exec
  have hby := Bd.bytes
  have hml : cc.maxLocals = 1 := hml0
  have hown : s.vm.findClass "java/lang/AbstractStringBuilder" = some m.cls := findClass_of_methodNamed Bd.named
  have hnm := (name_of_methodNamed Bd.named Bd.method).1
  have X0 : Stand p l ee ({ frames := 0, cells := 0, slots := 0, locals := 0 } : Room) s m #[(.ref a1)] below meth cc s₁ [] 0 0 := Stand.of_body Bd
  have e0 : s₁.heap = h0 := by rw [← hh, Bd.state]; rfl
  have N0 := Fr.nil n0
  show Goes p ee below s ({ frames := 0, cells := 0, slots := 0, locals := 0 } : Room).cells ({ frames := 0, cells := 0, slots := 0, locals := 0 } : Room).slots (Q_bisL Z cs fm a1 u h0 n0) (s₁.setTop (entryFrame m #[(.ref a1)] 1))
  refine gS (fun _ r => castTop (ef_bisL m a1) r) ?_
  show Goes p ee below s _ _ _ (s₁.setTop (mkF m 0 #[vR a1] []))
  cases u
  · have FC : Fld Z h0 a1 "java/lang/AbstractStringBuilder" "coder" "B" (.int 0) := FC
    show Goes p ee below s _ _ _ (s₁.setTop (mkF m 0 #[vR a1] []))
    obtain ⟨T1, X1, e1, st1⟩ := getS X0 hx hZ (host := "") hown (own_w hw 138 rfl) Via.refl e0 ((ST.1).ext OO.2) (g := (mkF m 0 #[vR a1] [])) rfl (hb hby q30_0)
    refine gS st1 ?_
    refine gS (fun _ r => XS.ifNo X1.here hx rfl (hb hby q30_3) rfl ((if0 _ _).trans (feq (ST.2.1)).1) r) ?_
    refine gS (fun _ r => XS.aloadN X1.here hx rfl (hb hby q30_6) rfl rfl r) ?_
    obtain ⟨T2, X2, e2, st2⟩ := getF X1 hx hZ hown (host := "") (Or.inl (own_w hw 141 rfl)) Via.refl e1 FC (g := (mkF m 7 #[vR a1] [(.ref a1)])) rfl rfl (hb hby q30_7)
    refine gS st2 ?_
    refine gS (fun _ r => XS.ifNo X2.here hx rfl (hb hby q30_10) rfl ((if0 _ _).trans (teq (by decide)).2) r) ?_
    refine gS (fun _ r => XS.iconst X2.here hx rfl (hb hby q30_13) r) ?_
    show Goes p ee below s _ _ _ (T2.setTop (mkF m 14 #[vR a1] [(.int (1 : Int32))]))
    refine gS (fun _ r => XS.goto X2.here hx rfl (pc0 := 14) (pc' := 18) rfl (hb hby q30_14) (by decide) (by decide) r) ?_
    show Goes p ee below s _ _ _ (T2.setTop (mkF m 18 #[vR a1] [(.int (1 : Int32))]))
    refine Goes.retZ X2 hx Bd.notSynchronized Bd.returns (by simp) rfl (hb hby q30_18) (by decide) (by decide) ?_
    exact ⟨rfl, N0, e2⟩
  · have FC : Fld Z h0 a1 "java/lang/AbstractStringBuilder" "coder" "B" (.int 1) := FC
    show Goes p ee below s _ _ _ (s₁.setTop (mkF m 0 #[vR a1] []))
    obtain ⟨T3, X3, e3, st3⟩ := getS X0 hx hZ (host := "") hown (own_w hw 138 rfl) Via.refl e0 ((ST.1).ext OO.2) (g := (mkF m 0 #[vR a1] [])) rfl (hb hby q30_0)
    refine gS st3 ?_
    refine gS (fun _ r => XS.ifNo X3.here hx rfl (hb hby q30_3) rfl ((if0 _ _).trans (feq (ST.2.1)).1) r) ?_
    refine gS (fun _ r => XS.aloadN X3.here hx rfl (hb hby q30_6) rfl rfl r) ?_
    obtain ⟨T4, X4, e4, st4⟩ := getF X3 hx hZ hown (host := "") (Or.inl (own_w hw 141 rfl)) Via.refl e3 FC (g := (mkF m 7 #[vR a1] [(.ref a1)])) rfl rfl (hb hby q30_7)
    refine gS st4 ?_
    refine gS (fun _ r => XS.ifYes X4.here hx rfl (pc0 := 10) (pc' := 17) rfl (hb hby q30_10) rfl ((if0 _ _).trans (feq (by decide)).2) (by decide) (by decide) r) ?_
    refine gS (fun _ r => XS.iconst X4.here hx rfl (hb hby q30_17) r) ?_
    show Goes p ee below s _ _ _ (T4.setTop (mkF m 18 #[vR a1] [(.int (0 : Int32))]))
    refine Goes.retZ X4 hx Bd.notSynchronized Bd.returns (by simp) rfl (hb hby q30_18) (by decide) (by decide) ?_
    exact ⟨rfl, N0, e4⟩
theorem ef_ens (m : MethodId) (x0 : Addr) (x1 : Int32) : entryFrame m #[(.ref x0), (.int x1)] 3 = mkF m 0 #[.val (.ref x0), .val (.int x1), .unset] [] := by first | (simp [entryFrame, mkF, argsToLocals, Value.category]; done) | rfl
theorem q31_0 : decode c31_ 0 = .ok (.aload_n 0, 1) := by decide +kernel
theorem q31_1 : decode c31_ 1 = .ok (.getfield 15, 3) := by decide +kernel
theorem q31_4 : decode c31_ 4 = .ok (.arraylength, 1) := by decide +kernel
theorem q31_5 : decode c31_ 5 = .ok (.aload_n 0, 1) := by decide +kernel
theorem q31_6 : decode c31_ 6 = .ok (.getfield 22, 3) := by decide +kernel
theorem q31_9 : decode c31_ 9 = .ok (.ishr, 1) := by decide +kernel
theorem q31_10 : decode c31_ 10 = .ok (.istore_n 2, 1) := by decide +kernel
theorem q31_11 : decode c31_ 11 = .ok (.iload_n 1, 1) := by decide +kernel
theorem q31_12 : decode c31_ 12 = .ok (.iload_n 2, 1) := by decide +kernel
theorem q31_13 : decode c31_ 13 = .ok (.isub, 1) := by decide +kernel
theorem q31_14 : decode c31_ 14 = .ok (.ifCond .le 24, 3) := by decide +kernel
theorem q31_38 : decode c31_ 38 = .ok (.return_, 1) := by decide +kernel
def Q_ens (Z : State) (cs : Int32) (fm : Value) (a1 b : Addr) (u : Bool) (n k : Nat) (f : Nat → Value) (h0 : Heap) (n0 : Nat) (v : Option Value) (h : Heap) (L : List Loc) : Prop := v = none ∧ Fr n0 L ∧ h = h0
set_option maxRecDepth 65536 in
set_option maxHeartbeats 40000000 in
theorem rm_ens (l : Launch) (Z : State) (a0 : Array Value) (hw : ∀ d ∈ tables_1, d.before a0 Z = true) (ws : List Jvm.Cond) (cs : Int32) (fm : Value) (a1 b : Addr) (u : Bool) (n k : Nat) (f : Nat → Value) (h0 : Heap) (n0 : Nat) (Z0 : n0 ≤ h0.size) (ST : own_ST Z cs fm) (OO : Old Z n0 h0) (hk : k ≤ 16) (B : own_B Z h0 a1 b u n) (A : OA Z h0 b .byte (own_len u 16) f) :
    MetFree l (⟨"java/lang/AbstractStringBuilder", "ensureCapacityInternal", "(I)V"⟩ : MethodName) (head1 (Jvm.Cond.code (⟨"java/lang/AbstractStringBuilder", "ensureCapacityInternal", "(I)V"⟩ : MethodName) jdk_68_method_9_code 3 none :: ws) ({ frames := 0, cells := 0, slots := 0, locals := 0 } : Room)) (fun a U => a = #[(.ref a1), (.int (Int32.ofNat k))] ∧ Z.Warmed39 U.vm ∧ U.heap = h0) (fun _ _ _ _ _ => True) (fun _ U o U' => ∃ v L, o = .returned v ∧ Q_ens Z cs fm a1 b u n k f h0 n0 v U'.heap L ∧ FrameEnd U o U' L ({ frames := 0, cells := 0, slots := 0, locals := 0 } : Room).cells ({ frames := 0, cells := 0, slots := 0, locals := 0 } : Room).slots) := by
  refine MetFree.of_bodySF (plainFor_of_name pn_java_lang_AbstractStringBuilder) hisR ?_
  intro p ee s m args below meth cc s₁ Bd hml0 hP hK
  obtain ⟨rfl, hZ, hh⟩ := hP
  have hx := Bd.exec
  have hby := Bd.bytes
  have hml : cc.maxLocals = 3 := hml0
  have hown : s.vm.findClass "java/lang/AbstractStringBuilder" = some m.cls := findClass_of_methodNamed Bd.named
  have hnm := (name_of_methodNamed Bd.named Bd.method).1
  have X0 : Stand p l ee ({ frames := 0, cells := 0, slots := 0, locals := 0 } : Room) s m #[(.ref a1), (.int (Int32.ofNat k))] below meth cc s₁ [] 0 0 := Stand.of_body Bd
  have e0 : s₁.heap = h0 := by rw [← hh, Bd.state]; rfl
  have N0 := Fr.nil n0
  show Goes p ee below s ({ frames := 0, cells := 0, slots := 0, locals := 0 } : Room).cells ({ frames := 0, cells := 0, slots := 0, locals := 0 } : Room).slots (Q_ens Z cs fm a1 b u n k f h0 n0) (s₁.setTop (entryFrame m #[(.ref a1), (.int (Int32.ofNat k))] 3))
  refine gS (fun _ r => castTop (ef_ens m a1 (Int32.ofNat k)) r) ?_
  show Goes p ee below s _ _ _ (s₁.setTop (mkF m 0 #[vR a1, vN k, .unset] []))
  obtain ⟨E, FV, FC, FN, FM⟩ := B
  show Goes p ee below s _ _ _ (s₁.setTop (mkF m 0 #[vR a1, vN k, .unset] []))
  cases u
  · have FC : Fld Z h0 a1 "java/lang/AbstractStringBuilder" "coder" "B" (.int 0) := FC
    have A : OA Z h0 b .byte 16 f := A
    show Goes p ee below s _ _ _ (s₁.setTop (mkF m 0 #[vR a1, vN k, .unset] []))
    refine gS (fun _ r => XS.aloadN X0.here hx rfl (hb hby q31_0) rfl rfl r) ?_
    obtain ⟨T1, X1, e1, st1⟩ := getF X0 hx hZ hown (host := "") (Or.inl (own_w hw 139 rfl)) Via.refl e0 FV (g := (mkF m 1 #[vR a1, vN k, .unset] [(.ref a1)])) rfl rfl (hb hby q31_1)
    refine gS st1 ?_
    refine gS (own_alen X1 hx hZ e1 A (z := (16 : Int32)) rfl (g := (mkF m 4 #[vR a1, vN k, .unset] [(.ref b)])) rfl rfl (hb hby q31_4)) ?_
    refine gS (fun _ r => XS.aloadN X1.here hx rfl (hb hby q31_5) rfl rfl r) ?_
    obtain ⟨T2, X2, e2, st2⟩ := getF X1 hx hZ hown (host := "") (Or.inl (own_w hw 141 rfl)) Via.refl e1 FC (g := (mkF m 6 #[vR a1, vN k, .unset] [(.ref a1), (.int (16 : Int32))])) rfl rfl (hb hby q31_6)
    refine gS st2 ?_
    refine gS (fun _ r => XT.ishr X2.here hx rfl (hb hby q31_9) rfl r) ?_
    show Goes p ee below s _ _ _ (T2.setTop (mkF m 10 #[vR a1, vN k, .unset] [(.int ((16 : Int32) >>> ((0 : Int32) &&& 31)))]))
    rw [show (16 : Int32) >>> ((0 : Int32) &&& 31) = (16 : Int32) from by decide]
    show Goes p ee below s _ _ _ (T2.setTop (mkF m 10 #[vR a1, vN k, .unset] [(.int (16 : Int32))]))
    refine gS (fun _ r => XS.istoreN X2.here hx rfl (hb hby q31_10) rfl  (l' := #[vR a1, vN k, .val (.int (16 : Int32))]) rfl r) ?_
    refine gS (fun _ r => XS.iloadN X2.here hx rfl (hb hby q31_11) rfl  r) ?_
    refine gS (fun _ r => XS.iloadN X2.here hx rfl (hb hby q31_12) rfl  r) ?_
    refine gS (fun _ r => XS.isub X2.here hx rfl (hb hby q31_13) rfl r) ?_
    refine gS (fun _ r => XS.ifYes X2.here hx rfl (pc0 := 14) (pc' := 38) rfl (hb hby q31_14) rfl ((if0 _ _).trans (flt (own_nlt k 16 hk (by decide))).2.2.2) (by decide) (by decide) r) ?_
    show Goes p ee below s _ _ _ (T2.setTop (mkF m 38 #[vR a1, vN k, .val (.int (16 : Int32))] []))
    refine Goes.retV X2 hx Bd.notSynchronized Bd.returns (hb hby q31_38) (by decide) (by decide) ?_
    exact ⟨rfl, N0, e2⟩
  · have FC : Fld Z h0 a1 "java/lang/AbstractStringBuilder" "coder" "B" (.int 1) := FC
    have A : OA Z h0 b .byte 32 f := A
    show Goes p ee below s _ _ _ (s₁.setTop (mkF m 0 #[vR a1, vN k, .unset] []))
    refine gS (fun _ r => XS.aloadN X0.here hx rfl (hb hby q31_0) rfl rfl r) ?_
    obtain ⟨T3, X3, e3, st3⟩ := getF X0 hx hZ hown (host := "") (Or.inl (own_w hw 139 rfl)) Via.refl e0 FV (g := (mkF m 1 #[vR a1, vN k, .unset] [(.ref a1)])) rfl rfl (hb hby q31_1)
    refine gS st3 ?_
    refine gS (own_alen X3 hx hZ e3 A (z := (32 : Int32)) rfl (g := (mkF m 4 #[vR a1, vN k, .unset] [(.ref b)])) rfl rfl (hb hby q31_4)) ?_
    refine gS (fun _ r => XS.aloadN X3.here hx rfl (hb hby q31_5) rfl rfl r) ?_
    obtain ⟨T4, X4, e4, st4⟩ := getF X3 hx hZ hown (host := "") (Or.inl (own_w hw 141 rfl)) Via.refl e3 FC (g := (mkF m 6 #[vR a1, vN k, .unset] [(.ref a1), (.int (32 : Int32))])) rfl rfl (hb hby q31_6)
    refine gS st4 ?_
    refine gS (fun _ r => XT.ishr X4.here hx rfl (hb hby q31_9) rfl r) ?_
    show Goes p ee below s _ _ _ (T4.setTop (mkF m 10 #[vR a1, vN k, .unset] [(.int ((32 : Int32) >>> ((1 : Int32) &&& 31)))]))
    rw [show (32 : Int32) >>> ((1 : Int32) &&& 31) = (16 : Int32) from by decide]
    show Goes p ee below s _ _ _ (T4.setTop (mkF m 10 #[vR a1, vN k, .unset] [(.int (16 : Int32))]))
    refine gS (fun _ r => XS.istoreN X4.here hx rfl (hb hby q31_10) rfl  (l' := #[vR a1, vN k, .val (.int (16 : Int32))]) rfl r) ?_
    refine gS (fun _ r => XS.iloadN X4.here hx rfl (hb hby q31_11) rfl  r) ?_
    refine gS (fun _ r => XS.iloadN X4.here hx rfl (hb hby q31_12) rfl  r) ?_
    refine gS (fun _ r => XS.isub X4.here hx rfl (hb hby q31_13) rfl r) ?_
    refine gS (fun _ r => XS.ifYes X4.here hx rfl (pc0 := 14) (pc' := 38) rfl (hb hby q31_14) rfl ((if0 _ _).trans (flt (own_nlt k 16 hk (by decide))).2.2.2) (by decide) (by decide) r) ?_
    show Goes p ee below s _ _ _ (T4.setTop (mkF m 38 #[vR a1, vN k, .val (.int (16 : Int32))] []))
    refine Goes.retV X4 hx Bd.notSynchronized Bd.returns (hb hby q31_38) (by decide) (by decide) ?_
    exact ⟨rfl, N0, e4⟩
theorem ef_uinf (m : MethodId) (x0 : Addr) (x1 : Int32) (x2 : Addr) (x3 : Int32) (x4 : Int32) : entryFrame m #[(.ref x0), (.int x1), (.ref x2), (.int x3), (.int x4)] 6 = mkF m 0 #[.val (.ref x0), .val (.int x1), .val (.ref x2), .val (.int x3), .val (.int x4), .unset] [] := by first | (simp [entryFrame, mkF, argsToLocals, Value.category]; done) | rfl
theorem q32_0 : decode c32_ 0 = .ok (.iload_n 3, 1) := by decide +kernel
theorem q32_1 : decode c32_ 1 = .ok (.iload 4, 2) := by decide +kernel
theorem q32_3 : decode c32_ 3 = .ok (.aload_n 2, 1) := by decide +kernel
theorem pd_18 : parseMethodDescriptor "(II[B)V" = some ⟨[.int, .int, (.array .byte)], none⟩ := by decide +kernel
theorem q32_4 : decode c32_ 4 = .ok (.invokestatic 173, 3) := by decide +kernel
theorem q32_7 : decode c32_ 7 = .ok (.iconst 0, 1) := by decide +kernel
theorem q32_8 : decode c32_ 8 = .ok (.istore 5, 2) := by decide +kernel
theorem q32_10 : decode c32_ 10 = .ok (.iload 5, 2) := by decide +kernel
theorem q32_12 : decode c32_ 12 = .ok (.iload 4, 2) := by decide +kernel
theorem q32_14 : decode c32_ 14 = .ok (.if_icmp .ge 27, 3) := by decide +kernel
theorem q32_17 : decode c32_ 17 = .ok (.aload_n 2, 1) := by decide +kernel
theorem q32_18 : decode c32_ 18 = .ok (.iload_n 3, 1) := by decide +kernel
theorem q32_19 : decode c32_ 19 = .ok (.iinc 3 1, 3) := by decide +kernel
theorem q32_22 : decode c32_ 22 = .ok (.aload_n 0, 1) := by decide +kernel
theorem q32_23 : decode c32_ 23 = .ok (.iload_n 1, 1) := by decide +kernel
theorem q32_24 : decode c32_ 24 = .ok (.iinc 1 1, 3) := by decide +kernel
theorem q32_27 : decode c32_ 27 = .ok (.baload, 1) := by decide +kernel
theorem q32_28 : decode c32_ 28 = .ok (.sipush 255, 3) := by decide +kernel
theorem q32_31 : decode c32_ 31 = .ok (.iand, 1) := by decide +kernel
theorem q32_32 : decode c32_ 32 = .ok (.invokestatic 111, 3) := by decide +kernel
theorem q32_35 : decode c32_ 35 = .ok (.iinc 5 1, 3) := by decide +kernel
theorem q32_38 : decode c32_ 38 = .ok (.goto (-28), 3) := by decide +kernel
theorem q32_41 : decode c32_ 41 = .ok (.return_, 1) := by decide +kernel
def Q_uinf (Z : State) (cs : Int32) (fm : Value) (a1 a2 : Addr) (k q ms N : Nat) (d : Nat → Nat) (fs g : Nat → Value) (h0 : Heap) (n0 : Nat) (v : Option Value) (h : Heap) (L : List Loc) : Prop := v = none ∧ Fr n0 L ∧ Keep h0 h [a2] ∧ OA Z h a2 .byte (2 * N) (fun j => if 2 * k ≤ j ∧ j < 2 * k + 2 * q then own_by true d (0 + (j - 2 * k)) else g j)
set_option maxRecDepth 65536 in
set_option maxHeartbeats 40000000 in
theorem rm_uinf (l : Launch) (Z : State) (a0 : Array Value) (hw : ∀ d ∈ tables_1, d.before a0 Z = true) (ws : List Jvm.Cond) (cs : Int32) (fm : Value) (a1 a2 : Addr) (k q ms N : Nat) (d : Nat → Nat) (fs g : Nat → Value) (h0 : Heap) (n0 : Nat) (Z0 : n0 ≤ h0.size) (ST : own_ST Z cs fm) (OO : Old Z n0 h0) (hkq : k + q ≤ N) (hN : N ≤ 16) (hq : q ≤ ms) (hd : ∀ j, j < q → d j < 256) (hsv : ∀ j, j < q → fs j = .int (own_bt (d j))) (ne12 : a1 ≠ a2) (ge_a2 : n0 ≤ a2) (A : OA Z h0 a1 .byte ms fs) (B : OA Z h0 a2 .byte (2 * N) g) :
    MetFree l (⟨"java/lang/StringUTF16", "inflate", "([BI[BII)V"⟩ : MethodName) (head1 (Jvm.Cond.code (⟨"java/lang/StringUTF16", "inflate", "([BI[BII)V"⟩ : MethodName) jdk_52_method_86_code 6 none :: ws) ({ frames := 3, cells := 0, slots := 0, locals := 43 } : Room)) (fun a U => a = #[(.ref a1), (.int (0 : Int32)), (.ref a2), (.int (Int32.ofNat k)), (.int (Int32.ofNat q))] ∧ Z.Warmed39 U.vm ∧ U.heap = h0) (fun _ _ _ _ _ => True) (fun _ U o U' => ∃ v L, o = .returned v ∧ Q_uinf Z cs fm a1 a2 k q ms N d fs g h0 n0 v U'.heap L ∧ FrameEnd U o U' L ({ frames := 3, cells := 0, slots := 0, locals := 43 } : Room).cells ({ frames := 3, cells := 0, slots := 0, locals := 43 } : Room).slots) := by
  refine MetFree.of_bodySF (plainFor_of_name pn_java_lang_StringUTF16) hisR ?_
  intro p ee s m args below meth cc s₁ Bd hml0 hP hK
  obtain ⟨rfl, hZ, hh⟩ := hP
  have hx := Bd.exec
  have hby := Bd.bytes
  have hml : cc.maxLocals = 6 := hml0
  have hown : s.vm.findClass "java/lang/StringUTF16" = some m.cls := findClass_of_methodNamed Bd.named
  have hnm := (name_of_methodNamed Bd.named Bd.method).1
  have X0 : Stand p l ee ({ frames := 3, cells := 0, slots := 0, locals := 43 } : Room) s m #[(.ref a1), (.int (0 : Int32)), (.ref a2), (.int (Int32.ofNat k)), (.int (Int32.ofNat q))] below meth cc s₁ [] 0 0 := Stand.of_body Bd
  have e0 : s₁.heap = h0 := by rw [← hh, Bd.state]; rfl
  have N0 := Fr.nil n0
  show Goes p ee below s ({ frames := 3, cells := 0, slots := 0, locals := 43 } : Room).cells ({ frames := 3, cells := 0, slots := 0, locals := 43 } : Room).slots (Q_uinf Z cs fm a1 a2 k q ms N d fs g h0 n0) (s₁.setTop (entryFrame m #[(.ref a1), (.int (0 : Int32)), (.ref a2), (.int (Int32.ofNat k)), (.int (Int32.ofNat q))] 6))
  refine gS (fun _ r => castTop (ef_uinf m a1 (0 : Int32) a2 (Int32.ofNat k) (Int32.ofNat q)) r) ?_
  show Goes p ee below s _ _ _ (s₁.setTop (mkF m 0 #[vR a1, .val (.int (0 : Int32)), vR a2, vN k, vN q, .unset] []))
  have K0 := Keep.refl h0 ([a2] : List Addr)
  have hms := own_OAlt A
  show Goes p ee below s _ _ _ (s₁.setTop (mkF m 0 #[vR a1, .val (.int (0 : Int32)), vR a2, vN k, vN q, .unset] []))
  refine gS (fun _ r => XS.iloadN X0.here hx rfl (hb hby q32_0) rfl  r) ?_
  refine gS (fun _ r => XS.iload X0.here hx rfl (hb hby q32_1) rfl  r) ?_
  refine gS (fun _ r => XS.aloadN X0.here hx rfl (hb hby q32_3) rfl rfl r) ?_
  have lt_a1 := A.lt
  have lt_a2 := B.lt
  obtain ⟨v1, T1, L1, X1, hQ1, st1⟩ := own_callS X0 hx hZ (y := (⟨"java/lang/StringUTF16", "checkBoundsOffCount", "(II[B)V"⟩ : MethodName)) hown (own_w hw 318 rfl) (own_w hw 319 rfl) (own_w hw 25 rfl) (own_w hw 320 rfl) (by decide) (argsL := [(.int (Int32.ofNat k)), (.int (Int32.ofNat q)), (.ref a2)]) (rm_uoc l Z a0 hw [] cs fm k q a2 N _ h0 n0 Z0 ST OO hkq (by omega) B) e0 (W := 0) (by decide) (by decide) (by decide) (by decide) (g := (mkF m 4 #[vR a1, .val (.int (0 : Int32)), vR a2, vN k, vN q, .unset] [(.ref a2), (.int (Int32.ofNat q)), (.int (Int32.ofNat k))])) rfl (by rw [hml]; rfl) (rest := []) (lenOf pd_18 rfl) rfl (by show 2 * 0 + _ ≤ _; exact Nat.le_of_eq rfl) (hb hby q32_4)
  refine gS st1 ?_
  obtain ⟨rfl, N1, e1⟩ := hQ1
  have N2 := Fr.app N0 N1
  refine gS (fun _ r => XS.iconst X1.here hx rfl (hb hby q32_7) r) ?_
  refine gS (fun _ r => XS.istore X1.here hx rfl (hb hby q32_8) rfl  (l' := #[vR a1, .val (.int (0 : Int32)), vR a2, vN k, vN q, .val (.int (0 : Int32))]) rfl r) ?_
  show Goes p ee below s _ _ _ (T1.setTop (mkF m 10 #[vR a1, .val (.int (0 : Int32)), vR a2, vN k, vN q, .val (.int (0 : Int32))] []))
  have loop : ∀ (dd t : Nat) (T : State) (locs : List Loc) (hh : Heap), Stand p l ee ({ frames := 3, cells := 0, slots := 0, locals := 43 } : Room) s m #[(.ref a1), (.int (0 : Int32)), (.ref a2), (.int (Int32.ofNat k)), (.int (Int32.ofNat q))] below meth cc T locs 0 0 → T.heap = hh → Fr n0 locs → n0 ≤ hh.size → Keep h0 hh [a2] → Old Z n0 hh → OA Z hh a1 .byte ms fs → OA Z hh a2 .byte (2 * N) (fun j => if 2 * k ≤ j ∧ j < 2 * k + 2 * t then own_by true d (0 + (j - 2 * k)) else g j) → 0 < dd → q < t + dd → t ≤ q → Goes p ee below s ({ frames := 3, cells := 0, slots := 0, locals := 43 } : Room).cells ({ frames := 3, cells := 0, slots := 0, locals := 43 } : Room).slots (Q_uinf Z cs fm a1 a2 k q ms N d fs g h0 n0) (T.setTop (mkF m 10 #[vR a1, vN t, vR a2, vN (k + t), vN q, vN t] [])) := by
    intro dd
    induction dd with
    | zero => intro t T locs hh X eT Nf Zp K OO A B q1; omega
    | succ dd ih =>
      intro t T locs hh X eT Nf Zp K OO A B q1 q2 q3
      show Goes p ee below s _ _ _ (T.setTop (mkF m 10 #[vR a1, vN t, vR a2, vN (k + t), vN q, vN t] []))
      refine gS (fun _ r => XS.iload X.here hx rfl (hb hby q32_10) rfl  r) ?_
      refine gS (fun _ r => XS.iload X.here hx rfl (hb hby q32_12) rfl  r) ?_
      by_cases hn14_3 : t < q
      · refine gS (fun _ r => XS.icmpNo X.here hx rfl (hb hby q32_14) rfl (tlt ((own_ltN t q (by omega) (by omega)).mpr hn14_3)).2.1 r) ?_
        refine gS (fun _ r => XS.aloadN X.here hx rfl (hb hby q32_17) rfl rfl r) ?_
        refine gS (fun _ r => XS.iloadN X.here hx rfl (hb hby q32_18) rfl  r) ?_
        refine gS (fun _ r => XS.iinc X.here hx rfl (hb hby q32_19) rfl (l' := #[vR a1, vN t, vR a2, .val (.int ((Int32.ofNat (k + t)) + (1 : Int32))), vN q, vN t]) rfl r) ?_
        show Goes p ee below s _ _ _ (T.setTop (mkF m 22 #[vR a1, vN t, vR a2, .val (.int ((Int32.ofNat (k + t)) + (1 : Int32))), vN q, vN t] [(.int (Int32.ofNat (k + t))), (.ref a2)]))
        refine gS (fun _ r => XS.aloadN X.here hx rfl (hb hby q32_22) rfl rfl r) ?_
        refine gS (fun _ r => XS.iloadN X.here hx rfl (hb hby q32_23) rfl  r) ?_
        refine gS (fun _ r => XS.iinc X.here hx rfl (hb hby q32_24) rfl (l' := #[vR a1, .val (.int ((Int32.ofNat t) + (1 : Int32))), vR a2, .val (.int ((Int32.ofNat (k + t)) + (1 : Int32))), vN q, vN t]) rfl r) ?_
        refine gS (own_baload X hx hZ eT A (j := (Int32.ofNat t)) (own_nneg t (by omega)) (k := t) (own_clamp t (by omega)) (by omega) (v := (.int (own_bt (d t)))) (hsv t hn14_3) (g := (mkF m 27 #[vR a1, .val (.int ((Int32.ofNat t) + (1 : Int32))), vR a2, .val (.int ((Int32.ofNat (k + t)) + (1 : Int32))), vN q, vN t] [(.int (Int32.ofNat t)), (.ref a1), (.int (Int32.ofNat (k + t))), (.ref a2)])) rfl rfl (hb hby q32_27)) ?_
        refine gS (fun _ r => XS.sipush X.here hx rfl (hb hby q32_28) r) ?_
        refine gS (fun _ r => XS.iand X.here hx rfl (hb hby q32_31) rfl r) ?_
        show Goes p ee below s _ _ _ (T.setTop (mkF m 32 #[vR a1, .val (.int ((Int32.ofNat t) + (1 : Int32))), vR a2, .val (.int ((Int32.ofNat (k + t)) + (1 : Int32))), vN q, vN t] [(.int ((own_bt (d t)) &&& (255 : Int32))), (.int (Int32.ofNat (k + t))), (.ref a2)]))
        have hdt := hd t hn14_3
        rw [own_bt255 (d t) (by omega), Nat.mod_eq_of_lt hdt]
        show Goes p ee below s _ _ _ (T.setTop (mkF m 32 #[vR a1, .val (.int ((Int32.ofNat t) + (1 : Int32))), vR a2, .val (.int ((Int32.ofNat (k + t)) + (1 : Int32))), vN q, vN t] [(.int (Int32.ofNat (d t))), (.int (Int32.ofNat (k + t))), (.ref a2)]))
        have lt_a1 := A.lt
        have lt_a2 := B.lt
        obtain ⟨v4, T4, L4, X4, hQ4, st4⟩ := own_callS X hx hZ (y := (⟨"java/lang/StringUTF16", "putChar", "([BII)V"⟩ : MethodName)) hown (own_w hw 260 rfl) (own_w hw 261 rfl) (own_w hw 25 rfl) (own_w hw 262 rfl) (by decide) (argsL := [(.ref a2), (.int (Int32.ofNat (k + t))), (.int (Int32.ofNat (d t)))]) (rm_putc l Z a0 hw [] cs fm a2 (k + t) (d t) N _ hh n0 Zp ST OO (by omega) (by omega) (by omega) ge_a2 B) eT (W := 0) (by decide) (by decide) (by decide) (by decide) (g := (mkF m 32 #[vR a1, .val (.int ((Int32.ofNat t) + (1 : Int32))), vR a2, .val (.int ((Int32.ofNat (k + t)) + (1 : Int32))), vN q, vN t] [(.int (Int32.ofNat (d t))), (.int (Int32.ofNat (k + t))), (.ref a2)])) rfl (by rw [hml]; rfl) (rest := []) (lenOf pd_9 rfl) rfl (by show 2 * 0 + _ ≤ _; exact Nat.le_of_eq rfl) (hb hby q32_32)
        refine gS st4 ?_
        obtain ⟨rfl, N4, Kc4, B⟩ := hQ4
        have N5 := Fr.app Nf N4
        obtain ⟨h4, e4⟩ : ∃ h', T4.heap = h' := ⟨_, rfl⟩
        rw [e4] at Kc4 B
        have A := A.keep Kc4 (ninS ne12 nin0)
        have OO := OO.keep Kc4 (allS ge_a2 all0)
        have K6 := K.trans Kc4 (allS (Or.inl (List.mem_of_getElem? (i := 0) rfl)) all0)
        have Zp7 := Nat.le_trans Zp Kc4.1
        refine gS (fun _ r => XS.iinc X4.here hx rfl (hb hby q32_35) rfl (l' := #[vR a1, .val (.int ((Int32.ofNat t) + (1 : Int32))), vR a2, .val (.int ((Int32.ofNat (k + t)) + (1 : Int32))), vN q, .val (.int ((Int32.ofNat t) + (1 : Int32)))]) rfl r) ?_
        show Goes p ee below s _ _ _ (T4.setTop (mkF m 38 #[vR a1, .val (.int ((Int32.ofNat t) + (1 : Int32))), vR a2, .val (.int ((Int32.ofNat (k + t)) + (1 : Int32))), vN q, .val (.int ((Int32.ofNat t) + (1 : Int32)))] []))
        rw [show Int32.ofNat (k + t) + (1 : Int32) = Int32.ofNat (k + (t + 1)) from own_addN (k + t) 1, show Int32.ofNat t + (1 : Int32) = Int32.ofNat (t + 1) from own_addN t 1]
        show Goes p ee below s _ _ _ (T4.setTop (mkF m 38 #[vR a1, vN (t + 1), vR a2, vN (k + (t + 1)), vN q, vN (t + 1)] []))
        refine gS (fun _ r => XS.goto X4.here hx rfl (pc0 := 38) (pc' := 10) rfl (hb hby q32_38) (by decide) (by decide) r) ?_
        show Goes p ee below s _ _ _ (T4.setTop (mkF m 10 #[vR a1, vN (t + 1), vR a2, vN (k + (t + 1)), vN q, vN (t + 1)] []))
        exact ih (t + 1) _ _ _ X4 e4 N5 Zp7 K6 OO A (own_inf_next B) (by omega) (by omega) (by omega)
      · refine gS (fun _ r => XS.icmpYes X.here hx rfl (pc0 := 14) (pc' := 41) rfl (hb hby q32_14) rfl (flt (fun z => hn14_3 ((own_ltN t q (by omega) (by omega)).mp z))).2.1 (by decide) (by decide) r) ?_
        show Goes p ee below s _ _ _ (T.setTop (mkF m 41 #[vR a1, vN t, vR a2, vN (k + t), vN q, vN t] []))
        refine Goes.retV X hx Bd.notSynchronized Bd.returns (hb hby q32_41) (by decide) (by decide) ?_
        rw [eT]
        exact ⟨rfl, Nf, K, (show t = q by omega) ▸ B⟩
  exact loop (q + 1) 0 _ _ _ X1 e1 N2 Z0 K0 OO A (B.congr (fun j hj => (if_neg (by omega)).symm)) (by omega) (by omega) (by omega)
theorem ef_linf (m : MethodId) (x0 : Addr) (x1 : Int32) (x2 : Addr) (x3 : Int32) (x4 : Int32) : entryFrame m #[(.ref x0), (.int x1), (.ref x2), (.int x3), (.int x4)] 5 = mkF m 0 #[.val (.ref x0), .val (.int x1), .val (.ref x2), .val (.int x3), .val (.int x4)] [] := by first | (simp [entryFrame, mkF, argsToLocals, Value.category]; done) | rfl
theorem q33_0 : decode c33_ 0 = .ok (.aload_n 0, 1) := by decide +kernel
theorem q33_1 : decode c33_ 1 = .ok (.iload_n 1, 1) := by decide +kernel
theorem q33_2 : decode c33_ 2 = .ok (.aload_n 2, 1) := by decide +kernel
theorem q33_3 : decode c33_ 3 = .ok (.iload_n 3, 1) := by decide +kernel
theorem q33_4 : decode c33_ 4 = .ok (.iload 4, 2) := by decide +kernel
theorem pd_19 : parseMethodDescriptor "([BI[BII)V" = some ⟨[(.array .byte), .int, (.array .byte), .int, .int], none⟩ := by decide +kernel
theorem q33_6 : decode c33_ 6 = .ok (.invokestatic 240, 3) := by decide +kernel
theorem q33_9 : decode c33_ 9 = .ok (.return_, 1) := by decide +kernel
def Q_linf (Z : State) (cs : Int32) (fm : Value) (a1 a2 : Addr) (k q ms N : Nat) (d : Nat → Nat) (fs g : Nat → Value) (h0 : Heap) (n0 : Nat) (v : Option Value) (h : Heap) (L : List Loc) : Prop := v = none ∧ Fr n0 L ∧ Keep h0 h [a2] ∧ OA Z h a2 .byte (2 * N) (fun j => if 2 * k ≤ j ∧ j < 2 * k + 2 * q then own_by true d (0 + (j - 2 * k)) else g j)
set_option maxRecDepth 65536 in
set_option maxHeartbeats 40000000 in
theorem rm_linf (l : Launch) (Z : State) (a0 : Array Value) (hw : ∀ d ∈ tables_1, d.before a0 Z = true) (ws : List Jvm.Cond) (cs : Int32) (fm : Value) (a1 a2 : Addr) (k q ms N : Nat) (d : Nat → Nat) (fs g : Nat → Value) (h0 : Heap) (n0 : Nat) (Z0 : n0 ≤ h0.size) (ST : own_ST Z cs fm) (OO : Old Z n0 h0) (hkq : k + q ≤ N) (hN : N ≤ 16) (hq : q ≤ ms) (hd : ∀ j, j < q → d j < 256) (hsv : ∀ j, j < q → fs j = .int (own_bt (d j))) (ne12 : a1 ≠ a2) (ge_a2 : n0 ≤ a2) (A : OA Z h0 a1 .byte ms fs) (B : OA Z h0 a2 .byte (2 * N) g) :
    MetFree l (⟨"java/lang/StringLatin1", "inflate", "([BI[BII)V"⟩ : MethodName) (head1 (Jvm.Cond.code (⟨"java/lang/StringLatin1", "inflate", "([BI[BII)V"⟩ : MethodName) jdk_43_method_50_code 5 none :: ws) ({ frames := 4, cells := 0, slots := 0, locals := 60 } : Room)) (fun a U => a = #[(.ref a1), (.int (0 : Int32)), (.ref a2), (.int (Int32.ofNat k)), (.int (Int32.ofNat q))] ∧ Z.Warmed39 U.vm ∧ U.heap = h0) (fun _ _ _ _ _ => True) (fun _ U o U' => ∃ v L, o = .returned v ∧ Q_linf Z cs fm a1 a2 k q ms N d fs g h0 n0 v U'.heap L ∧ FrameEnd U o U' L ({ frames := 4, cells := 0, slots := 0, locals := 60 } : Room).cells ({ frames := 4, cells := 0, slots := 0, locals := 60 } : Room).slots) := by
  refine MetFree.of_bodySF (plainFor_of_name pn_java_lang_StringLatin1) hisR ?_
  intro p ee s m args below meth cc s₁ Bd hml0 hP hK
  obtain ⟨rfl, hZ, hh⟩ := hP
  have hx := Bd.exec
  have hby := Bd.bytes
  have hml : cc.maxLocals = 5 := hml0
  have hown : s.vm.findClass "java/lang/StringLatin1" = some m.cls := findClass_of_methodNamed Bd.named
  have hnm := (name_of_methodNamed Bd.named Bd.method).1
  have X0 : Stand p l ee ({ frames := 4, cells := 0, slots := 0, locals := 60 } : Room) s m #[(.ref a1), (.int (0 : Int32)), (.ref a2), (.int (Int32.ofNat k)), (.int (Int32.ofNat q))] below meth cc s₁ [] 0 0 := Stand.of_body Bd
  have e0 : s₁.heap = h0 := by rw [← hh, Bd.state]; rfl
  have N0 := Fr.nil n0
  show Goes p ee below s ({ frames := 4, cells := 0, slots := 0, locals := 60 } : Room).cells ({ frames := 4, cells := 0, slots := 0, locals := 60 } : Room).slots (Q_linf Z cs fm a1 a2 k q ms N d fs g h0 n0) (s₁.setTop (entryFrame m #[(.ref a1), (.int (0 : Int32)), (.ref a2), (.int (Int32.ofNat k)), (.int (Int32.ofNat q))] 5))
  refine gS (fun _ r => castTop (ef_linf m a1 (0 : Int32) a2 (Int32.ofNat k) (Int32.ofNat q)) r) ?_
  show Goes p ee below s _ _ _ (s₁.setTop (mkF m 0 #[vR a1, .val (.int (0 : Int32)), vR a2, vN k, vN q] []))
  have K0 := Keep.refl h0 ([a2] : List Addr)
  refine gS (fun _ r => XS.aloadN X0.here hx rfl (hb hby q33_0) rfl rfl r) ?_
  refine gS (fun _ r => XS.iloadN X0.here hx rfl (hb hby q33_1) rfl  r) ?_
  refine gS (fun _ r => XS.aloadN X0.here hx rfl (hb hby q33_2) rfl rfl r) ?_
  refine gS (fun _ r => XS.iloadN X0.here hx rfl (hb hby q33_3) rfl  r) ?_
  refine gS (fun _ r => XS.iload X0.here hx rfl (hb hby q33_4) rfl  r) ?_
  have lt_a1 := A.lt
  have lt_a2 := B.lt
  obtain ⟨v1, T1, L1, X1, hQ1, st1⟩ := own_callS X0 hx hZ (y := (⟨"java/lang/StringUTF16", "inflate", "([BI[BII)V"⟩ : MethodName)) hown (own_w hw 315 rfl) (own_w hw 316 rfl) (own_w hw 25 rfl) (own_w hw 317 rfl) (by decide) (argsL := [(.ref a1), (.int (0 : Int32)), (.ref a2), (.int (Int32.ofNat k)), (.int (Int32.ofNat q))]) (rm_uinf l Z a0 hw [] cs fm a1 a2 k q ms N d fs g h0 n0 Z0 ST OO hkq hN hq hd hsv ne12 ge_a2 A B) e0 (W := 0) (by decide) (by decide) (by decide) (by decide) (g := (mkF m 6 #[vR a1, .val (.int (0 : Int32)), vR a2, vN k, vN q] [(.int (Int32.ofNat q)), (.int (Int32.ofNat k)), (.ref a2), (.int (0 : Int32)), (.ref a1)])) rfl (by rw [hml]; rfl) (rest := []) (lenOf pd_19 rfl) rfl (by show 2 * 0 + _ ≤ _; exact Nat.le_of_eq rfl) (hb hby q33_6)
  refine gS st1 ?_
  obtain ⟨rfl, N1, Kc1, B⟩ := hQ1
  have N2 := Fr.app N0 N1
  obtain ⟨h1, e1⟩ : ∃ h', T1.heap = h' := ⟨_, rfl⟩
  rw [e1] at Kc1 B
  have A := A.keep Kc1 (ninS ne12 nin0)
  have OO := OO.keep Kc1 (allS ge_a2 all0)
  have K3 := K0.trans Kc1 (allS (Or.inl (List.mem_of_getElem? (i := 0) rfl)) all0)
  have Zp4 := Nat.le_trans Z0 Kc1.1
  show Goes p ee below s _ _ _ (T1.setTop (mkF m 9 #[vR a1, .val (.int (0 : Int32)), vR a2, vN k, vN q] []))
  refine Goes.retV X1 hx Bd.notSynchronized Bd.returns (hb hby q33_9) (by decide) (by decide) ?_
  rw [e1]
  exact ⟨rfl, N2, K3, B⟩
theorem ef_binT (m : MethodId) (x0 : Addr) : entryFrame m #[(.ref x0)] 2 = mkF m 0 #[.val (.ref x0), .unset] [] := by first | (simp [entryFrame, mkF, argsToLocals, Value.category]; done) | rfl
theorem q34_0 : decode c34_ 0 = .ok (.aload_n 0, 1) := by decide +kernel
theorem q34_1 : decode c34_ 1 = .ok (.invokevirtual 83, 3) := by decide +kernel
theorem q34_4 : decode c34_ 4 = .ok (.ifCond .ne 4, 3) := by decide +kernel
theorem q34_7 : decode c34_ 7 = .ok (.return_, 1) := by decide +kernel
def Q_binT (Z : State) (cs : Int32) (fm : Value) (a1 : Addr) (h0 : Heap) (n0 : Nat) (v : Option Value) (h : Heap) (L : List Loc) : Prop := v = none ∧ Fr n0 L ∧ h = h0
set_option maxRecDepth 65536 in
set_option maxHeartbeats 40000000 in
theorem rm_binT (l : Launch) (Z : State) (a0 : Array Value) (hw : ∀ d ∈ tables_1, d.before a0 Z = true) (ws : List Jvm.Cond) (cs : Int32) (fm : Value) (a1 : Addr) (h0 : Heap) (n0 : Nat) (Z0 : n0 ≤ h0.size) (ST : own_ST Z cs fm) (OO : Old Z n0 h0) (E : Exa Z h0 a1 "java/lang/StringBuilder") (FC : Fld Z h0 a1 "java/lang/AbstractStringBuilder" "coder" "B" (.int 1)) :
    MetFree l (⟨"java/lang/AbstractStringBuilder", "inflate", "()V"⟩ : MethodName) (head1 (Jvm.Cond.code (⟨"java/lang/AbstractStringBuilder", "inflate", "()V"⟩ : MethodName) jdk_68_method_11_code 2 none :: ws) ({ frames := 1, cells := 0, slots := 0, locals := 12 } : Room)) (fun a U => a = #[(.ref a1)] ∧ Z.Warmed39 U.vm ∧ U.heap = h0) (fun _ _ _ _ _ => True) (fun _ U o U' => ∃ v L, o = .returned v ∧ Q_binT Z cs fm a1 h0 n0 v U'.heap L ∧ FrameEnd U o U' L ({ frames := 1, cells := 0, slots := 0, locals := 12 } : Room).cells ({ frames := 1, cells := 0, slots := 0, locals := 12 } : Room).slots) := by
  refine MetFree.of_bodySF (plainFor_of_name pn_java_lang_AbstractStringBuilder) hisR ?_
  intro p ee s m args below meth cc s₁ Bd hml0 hP hK
  obtain ⟨rfl, hZ, hh⟩ := hP
  have hx := Bd.exec
  have hby := Bd.bytes
  have hml : cc.maxLocals = 2 := hml0
  have hown : s.vm.findClass "java/lang/AbstractStringBuilder" = some m.cls := findClass_of_methodNamed Bd.named
  have hnm := (name_of_methodNamed Bd.named Bd.method).1
  have X0 : Stand p l ee ({ frames := 1, cells := 0, slots := 0, locals := 12 } : Room) s m #[(.ref a1)] below meth cc s₁ [] 0 0 := Stand.of_body Bd
  have e0 : s₁.heap = h0 := by rw [← hh, Bd.state]; rfl
  have N0 := Fr.nil n0
  show Goes p ee below s ({ frames := 1, cells := 0, slots := 0, locals := 12 } : Room).cells ({ frames := 1, cells := 0, slots := 0, locals := 12 } : Room).slots (Q_binT Z cs fm a1 h0 n0) (s₁.setTop (entryFrame m #[(.ref a1)] 2))
  refine gS (fun _ r => castTop (ef_binT m a1) r) ?_
  show Goes p ee below s _ _ _ (s₁.setTop (mkF m 0 #[vR a1, .unset] []))
  refine gS (fun _ r => XS.aloadN X0.here hx rfl (hb hby q34_0) rfl rfl r) ?_
  have lt_a1 := E.lt
  obtain ⟨v1, T1, L1, X1, hQ1, st1⟩ := own_callV X0 hx hZ (y := (⟨"java/lang/AbstractStringBuilder", "isLatin1", "()Z"⟩ : MethodName)) hown (own_w hw 211 rfl) (own_w hw 212 rfl) (own_w hw 214 rfl) (own_w hw 213 rfl) (own_w hw 135 rfl) (own_w hw 215 rfl) (by decide) (a := a1) (argsL := []) (rm_bisL l Z a0 hw [] cs fm a1 true h0 n0 Z0 ST OO FC) e0 E (W := 0) (by decide) (by decide) (by decide) (by decide) (g := (mkF m 1 #[vR a1, .unset] [(.ref a1)])) rfl (by rw [hml]; rfl) (rest := []) (lenOf pd_6 rfl) rfl (by show 2 * 0 + _ ≤ _; exact Nat.le_of_eq rfl) (hb hby q34_1)
  refine gS st1 ?_
  obtain ⟨rfl, N1, e1⟩ := hQ1
  have N2 := Fr.app N0 N1
  refine gS (fun _ r => XS.ifNo X1.here hx rfl (hb hby q34_4) rfl ((if0 _ _).trans (teq (by decide)).2) r) ?_
  show Goes p ee below s _ _ _ (T1.setTop (mkF m 7 #[vR a1, .unset] []))
  refine Goes.retV X1 hx Bd.notSynchronized Bd.returns (hb hby q34_7) (by decide) (by decide) ?_
  exact ⟨rfl, N2, e1⟩
theorem ef_binF (m : MethodId) (x0 : Addr) : entryFrame m #[(.ref x0)] 2 = mkF m 0 #[.val (.ref x0), .unset] [] := by first | (simp [entryFrame, mkF, argsToLocals, Value.category]; done) | rfl
theorem q34_8 : decode c34_ 8 = .ok (.aload_n 0, 1) := by decide +kernel
theorem q34_9 : decode c34_ 9 = .ok (.getfield 15, 3) := by decide +kernel
theorem q34_12 : decode c34_ 12 = .ok (.arraylength, 1) := by decide +kernel
theorem q34_13 : decode c34_ 13 = .ok (.invokestatic 26, 3) := by decide +kernel
theorem q34_16 : decode c34_ 16 = .ok (.astore_n 1, 1) := by decide +kernel
theorem q34_17 : decode c34_ 17 = .ok (.aload_n 0, 1) := by decide +kernel
theorem q34_18 : decode c34_ 18 = .ok (.getfield 15, 3) := by decide +kernel
theorem q34_21 : decode c34_ 21 = .ok (.iconst 0, 1) := by decide +kernel
theorem q34_22 : decode c34_ 22 = .ok (.aload_n 1, 1) := by decide +kernel
theorem q34_23 : decode c34_ 23 = .ok (.iconst 0, 1) := by decide +kernel
theorem q34_24 : decode c34_ 24 = .ok (.aload_n 0, 1) := by decide +kernel
theorem q34_25 : decode c34_ 25 = .ok (.getfield 79, 3) := by decide +kernel
theorem q34_28 : decode c34_ 28 = .ok (.invokestatic 125, 3) := by decide +kernel
theorem q34_31 : decode c34_ 31 = .ok (.aload_n 0, 1) := by decide +kernel
theorem q34_32 : decode c34_ 32 = .ok (.aload_n 1, 1) := by decide +kernel
theorem q34_33 : decode c34_ 33 = .ok (.putfield 15, 3) := by decide +kernel
theorem q34_36 : decode c34_ 36 = .ok (.aload_n 0, 1) := by decide +kernel
theorem q34_37 : decode c34_ 37 = .ok (.iconst 1, 1) := by decide +kernel
theorem q34_38 : decode c34_ 38 = .ok (.putfield 22, 3) := by decide +kernel
theorem q34_41 : decode c34_ 41 = .ok (.return_, 1) := by decide +kernel
def Q_binF (Z : State) (cs : Int32) (fm : Value) (a1 b : Addr) (n : Nat) (c : Nat → Nat) (f : Nat → Value) (h0 : Heap) (n0 : Nat) (v : Option Value) (h : Heap) (L : List Loc) : Prop := v = none ∧ Fr n0 L ∧ Keep h0 h [a1] ∧ ∃ (b' : Addr) (f' : Nat → Value), h0.size ≤ b' ∧ own_B Z h a1 b' true n ∧ OA Z h b' .byte 32 f' ∧ ∀ j, j < 2 * n → f' j = own_by true c j
set_option maxRecDepth 65536 in
set_option maxHeartbeats 40000000 in
theorem rm_binF (l : Launch) (Z : State) (a0 : Array Value) (hw : ∀ d ∈ tables_1, d.before a0 Z = true) (ws : List Jvm.Cond) (cs : Int32) (fm : Value) (a1 b : Addr) (n : Nat) (c : Nat → Nat) (f : Nat → Value) (h0 : Heap) (n0 : Nat) (Z0 : n0 ≤ h0.size) (ST : own_ST Z cs fm) (OO : Old Z n0 h0) (hn : n ≤ 16) (hl : ∀ j, j < n → c j < 256) (ge_a1 : n0 ≤ a1) (neab : a1 ≠ b) (B : own_B Z h0 a1 b false n) (A : OA Z h0 b .byte 16 f) (hf : ∀ j, j < n → f j = own_by false c j) :
    MetFree l (⟨"java/lang/AbstractStringBuilder", "inflate", "()V"⟩ : MethodName) (head1 (Jvm.Cond.code (⟨"java/lang/AbstractStringBuilder", "inflate", "()V"⟩ : MethodName) jdk_68_method_11_code 2 none :: ws) ({ frames := 5, cells := 1, slots := 32, locals := 76 } : Room)) (fun a U => a = #[(.ref a1)] ∧ Z.Warmed39 U.vm ∧ U.heap = h0) (fun _ _ _ _ _ => True) (fun _ U o U' => ∃ v L, o = .returned v ∧ Q_binF Z cs fm a1 b n c f h0 n0 v U'.heap L ∧ FrameEnd U o U' L ({ frames := 5, cells := 1, slots := 32, locals := 76 } : Room).cells ({ frames := 5, cells := 1, slots := 32, locals := 76 } : Room).slots) := by
  refine MetFree.of_bodySF (plainFor_of_name pn_java_lang_AbstractStringBuilder) hisR ?_
  intro p ee s m args below meth cc s₁ Bd hml0 hP hK
  obtain ⟨rfl, hZ, hh⟩ := hP
  have hx := Bd.exec
  have hby := Bd.bytes
  have hml : cc.maxLocals = 2 := hml0
  have hown : s.vm.findClass "java/lang/AbstractStringBuilder" = some m.cls := findClass_of_methodNamed Bd.named
  have hnm := (name_of_methodNamed Bd.named Bd.method).1
  have X0 : Stand p l ee ({ frames := 5, cells := 1, slots := 32, locals := 76 } : Room) s m #[(.ref a1)] below meth cc s₁ [] 0 0 := Stand.of_body Bd
  have e0 : s₁.heap = h0 := by rw [← hh, Bd.state]; rfl
  have N0 := Fr.nil n0
  show Goes p ee below s ({ frames := 5, cells := 1, slots := 32, locals := 76 } : Room).cells ({ frames := 5, cells := 1, slots := 32, locals := 76 } : Room).slots (Q_binF Z cs fm a1 b n c f h0 n0) (s₁.setTop (entryFrame m #[(.ref a1)] 2))
  refine gS (fun _ r => castTop (ef_binF m a1) r) ?_
  show Goes p ee below s _ _ _ (s₁.setTop (mkF m 0 #[vR a1, .unset] []))
  obtain ⟨E, FV, FC, FN, FM⟩ := B
  show Goes p ee below s _ _ _ (s₁.setTop (mkF m 0 #[vR a1, .unset] []))
  have K0 := Keep.refl h0 ([a1] : List Addr)
  refine gS (fun _ r => XS.aloadN X0.here hx rfl (hb hby q34_0) rfl rfl r) ?_
  have lt_a1 := E.lt
  have lt_b := A.lt
  obtain ⟨v1, T1, L1, X1, hQ1, st1⟩ := own_callV X0 hx hZ (y := (⟨"java/lang/AbstractStringBuilder", "isLatin1", "()Z"⟩ : MethodName)) hown (own_w hw 211 rfl) (own_w hw 212 rfl) (own_w hw 214 rfl) (own_w hw 213 rfl) (own_w hw 135 rfl) (own_w hw 215 rfl) (by decide) (a := a1) (argsL := []) (rm_bisL l Z a0 hw [] cs fm a1 false h0 n0 Z0 ST OO FC) e0 E (W := 0) (by decide) (by decide) (by decide) (by decide) (g := (mkF m 1 #[vR a1, .unset] [(.ref a1)])) rfl (by rw [hml]; rfl) (rest := []) (lenOf pd_6 rfl) rfl (by show 2 * 0 + _ ≤ _; exact Nat.le_of_eq rfl) (hb hby q34_1)
  refine gS st1 ?_
  obtain ⟨rfl, N1, e1⟩ := hQ1
  have N2 := Fr.app N0 N1
  refine gS (fun _ r => XS.ifYes X1.here hx rfl (pc0 := 4) (pc' := 8) rfl (hb hby q34_4) rfl ((if0 _ _).trans (feq (by decide)).2) (by decide) (by decide) r) ?_
  refine gS (fun _ r => XS.aloadN X1.here hx rfl (hb hby q34_8) rfl rfl r) ?_
  obtain ⟨T3, X3, e3, st3⟩ := getF X1 hx hZ hown (host := "") (Or.inl (own_w hw 139 rfl)) Via.refl e1 FV (g := (mkF m 9 #[vR a1, .unset] [(.ref a1)])) rfl rfl (hb hby q34_9)
  refine gS st3 ?_
  refine gS (own_alen X3 hx hZ e3 A (z := (16 : Int32)) rfl (g := (mkF m 12 #[vR a1, .unset] [(.ref b)])) rfl rfl (hb hby q34_12)) ?_
  show Goes p ee below s _ _ _ (T3.setTop (mkF m 13 #[vR a1, .unset] [(.int (16 : Int32))]))
  have lt_a1 := E.lt
  have lt_b := A.lt
  obtain ⟨v4, T4, L4, X4, hQ4, st4⟩ := own_callS X3 hx hZ (y := (⟨"java/lang/StringUTF16", "newBytesFor", "(I)[B"⟩ : MethodName)) hown (own_w hw 305 rfl) (own_w hw 306 rfl) (own_w hw 25 rfl) (own_w hw 307 rfl) (by decide) (argsL := [(.int (16 : Int32))]) (rm_nbf l Z a0 hw [] cs fm 16 h0 n0 Z0 ST OO (by decide)) e3 (W := 0) (by decide) (by decide) (by decide) (by decide) (g := (mkF m 13 #[vR a1, .unset] [(.int (16 : Int32))])) rfl (by rw [hml]; rfl) (rest := []) (lenOf pd_8 rfl) rfl (by show 2 * 0 + _ ≤ _; exact Nat.le_of_eq rfl) (hb hby q34_13)
  refine gS st4 ?_
  obtain ⟨b4, rfl, N4, sz4, Kc4, A_b4⟩ := hQ4
  have N5 := Fr.app N2 N4
  obtain ⟨h4, e4⟩ : ∃ h', T4.heap = h' := ⟨_, rfl⟩
  rw [e4] at Kc4 A_b4
  have E := E.keep Kc4
  have FV := FV.keep Kc4 nin0
  have FC := FC.keep Kc4 nin0
  have FN := FN.keep Kc4 nin0
  have FM := FM.keep Kc4 nin0
  have A := A.keep Kc4 nin0
  have OO := OO.keep Kc4 all0
  have K6 := K0.trans Kc4 all0
  have Zp7 := Nat.le_trans Z0 Kc4.1
  have ge_b4 : n0 ≤ b4 := Nat.le_trans Z0 sz4
  have sz_b4 : h0.size ≤ b4 := Nat.le_trans K0.1 sz4
  have ne_a1_b4 : a1 ≠ b4 := Nat.ne_of_lt (Nat.lt_of_lt_of_le lt_a1 sz4)
  have ne_b_b4 : b ≠ b4 := Nat.ne_of_lt (Nat.lt_of_lt_of_le lt_b sz4)
  refine gS (fun _ r => XS.astoreN X4.here hx rfl (hb hby q34_16) rfl rfl (l' := #[vR a1, vR b4]) rfl r) ?_
  refine gS (fun _ r => XS.aloadN X4.here hx rfl (hb hby q34_17) rfl rfl r) ?_
  obtain ⟨T8, X8, e8, st8⟩ := getF X4 hx hZ hown (host := "") (Or.inl (own_w hw 139 rfl)) Via.refl e4 FV (g := (mkF m 18 #[vR a1, vR b4] [(.ref a1)])) rfl rfl (hb hby q34_18)
  refine gS st8 ?_
  refine gS (fun _ r => XS.iconst X8.here hx rfl (hb hby q34_21) r) ?_
  refine gS (fun _ r => XS.aloadN X8.here hx rfl (hb hby q34_22) rfl rfl r) ?_
  show Goes p ee below s _ _ _ (T8.setTop (mkF m 23 #[vR a1, vR b4] [(.ref b4), (.int (0 : Int32)), (.ref b)]))
  refine gS (fun _ r => XS.iconst X8.here hx rfl (hb hby q34_23) r) ?_
  refine gS (fun _ r => XS.aloadN X8.here hx rfl (hb hby q34_24) rfl rfl r) ?_
  obtain ⟨T9, X9, e9, st9⟩ := getF X8 hx hZ hown (host := "") (Or.inl (own_w hw 175 rfl)) Via.refl e8 FN (g := (mkF m 25 #[vR a1, vR b4] [(.ref a1), (.int (0 : Int32)), (.ref b4), (.int (0 : Int32)), (.ref b)])) rfl rfl (hb hby q34_25)
  refine gS st9 ?_
  have lt_a1 := E.lt
  have lt_b := A.lt
  have lt_b4 := A_b4.lt
  obtain ⟨v10, T10, L10, X10, hQ10, st10⟩ := own_callS X9 hx hZ (y := (⟨"java/lang/StringLatin1", "inflate", "([BI[BII)V"⟩ : MethodName)) hown (own_w hw 312 rfl) (own_w hw 313 rfl) (own_w hw 43 rfl) (own_w hw 314 rfl) (by decide) (argsL := [(.ref b), (.int (0 : Int32)), (.ref b4), (.int (0 : Int32)), (.int (Int32.ofNat n))]) (rm_linf l Z a0 hw [] cs fm b b4 0 n 16 16 c f _ h4 n0 Zp7 ST OO (by omega) (by decide) hn hl hf ne_b_b4 ge_b4 A A_b4) e9 (W := 0) (by decide) (by decide) (by decide) (by decide) (g := (mkF m 28 #[vR a1, vR b4] [(.int (Int32.ofNat n)), (.int (0 : Int32)), (.ref b4), (.int (0 : Int32)), (.ref b)])) rfl (by rw [hml]; rfl) (rest := []) (lenOf pd_19 rfl) rfl (by show 2 * 0 + _ ≤ _; exact Nat.le_of_eq rfl) (hb hby q34_28)
  refine gS st10 ?_
  obtain ⟨rfl, N10, Kc10, A_b4⟩ := hQ10
  have N11 := Fr.app N5 N10
  obtain ⟨h10, e10⟩ : ∃ h', T10.heap = h' := ⟨_, rfl⟩
  rw [e10] at Kc10 A_b4
  have E := E.keep Kc10
  have FV := FV.keep Kc10 (ninS ne_a1_b4 nin0)
  have FC := FC.keep Kc10 (ninS ne_a1_b4 nin0)
  have FN := FN.keep Kc10 (ninS ne_a1_b4 nin0)
  have FM := FM.keep Kc10 (ninS ne_a1_b4 nin0)
  have A := A.keep Kc10 (ninS ne_b_b4 nin0)
  have OO := OO.keep Kc10 (allS ge_b4 all0)
  have K12 := K6.trans Kc10 (allS (Or.inr sz_b4) all0)
  have Zp13 := Nat.le_trans Zp7 Kc10.1
  refine gS (fun _ r => XS.aloadN X10.here hx rfl (hb hby q34_31) rfl rfl r) ?_
  refine gS (fun _ r => XS.aloadN X10.here hx rfl (hb hby q34_32) rfl rfl r) ?_
  show Goes p ee below s _ _ _ (T10.setTop (mkF m 33 #[vR a1, vR b4] [(.ref b4), (.ref a1)]))
  obtain ⟨T14, h14, X14, e14, W14, st14⟩ := putF X10 hx hZ hown (host := "") (Or.inl (own_w hw 139 rfl)) Via.refl e10 FV E (Or.inl (own_w hw 140 rfl)) (own_w hw 126 rfl) (ty := (.array .byte)) (by decide) rfl rfl (g := (mkF m 33 #[vR a1, vR b4] [(.ref b4), (.ref a1)])) rfl rfl (hb hby q34_33)
  refine gS st14 ?_
  have E := E.wr W14
  have FC := FC.other W14 (Or.inr (slot_ne (Or.inl (own_w hw 142 rfl)) (Or.inl (own_w hw 140 rfl)) (by decide) (t := .byte) (t' := (.array .byte)) (by decide) (by decide)))
  have FN := FN.other W14 (Or.inr (slot_ne (Or.inl (own_w hw 176 rfl)) (Or.inl (own_w hw 140 rfl)) (by decide) (t := .int) (t' := (.array .byte)) (by decide) (by decide)))
  have FM := FM.other W14 (Or.inr (slot_ne (Or.inl (own_w hw 331 rfl)) (Or.inl (own_w hw 140 rfl)) (by decide) (t := .boolean) (t' := (.array .byte)) (by decide) (by decide)))
  have A := A.other W14 (Ne.symm neab)
  have A_b4 := A_b4.other W14 (Ne.symm ne_a1_b4)
  have Zp15 := Nat.le_trans Zp13 (Keep.of_wr W14).1
  have FV := FV.same W14
  have N16 := Fr.snoc X14 N11 ge_a1
  have OO := OO.wr W14 ge_a1
  have K17 := K12.wr W14 (Or.inl (List.mem_of_getElem? (i := 0) rfl))
  show Goes p ee below s _ _ _ (T14.setTop (mkF m 36 #[vR a1, vR b4] []))
  refine gS (fun _ r => XS.aloadN X14.here hx rfl (hb hby q34_36) rfl rfl r) ?_
  refine gS (fun _ r => XS.iconst X14.here hx rfl (hb hby q34_37) r) ?_
  show Goes p ee below s _ _ _ (T14.setTop (mkF m 38 #[vR a1, vR b4] [(.int (1 : Int32)), (.ref a1)]))
  obtain ⟨T18, h18, X18, e18, W18, st18⟩ := putFN X14 hx hZ hown (own_w hw 141 rfl) Via.refl e14 FC E (Or.inl (own_w hw 142 rfl)) (own_w hw 126 rfl) (ty := .byte) (v' := (.int (1 : Int32))) (by decide) rfl rfl (g := (mkF m 38 #[vR a1, vR b4] [(.int (1 : Int32)), (.ref a1)])) rfl rfl (hb hby q34_38)
  refine gS st18 ?_
  have E := E.wr W18
  have FV := FV.other W18 (Or.inr (slot_ne (Or.inl (own_w hw 140 rfl)) (Or.inl (own_w hw 142 rfl)) (by decide) (t := (.array .byte)) (t' := .byte) (by decide) (by decide)))
  have FN := FN.other W18 (Or.inr (slot_ne (Or.inl (own_w hw 176 rfl)) (Or.inl (own_w hw 142 rfl)) (by decide) (t := .int) (t' := .byte) (by decide) (by decide)))
  have FM := FM.other W18 (Or.inr (slot_ne (Or.inl (own_w hw 331 rfl)) (Or.inl (own_w hw 142 rfl)) (by decide) (t := .boolean) (t' := .byte) (by decide) (by decide)))
  have A := A.other W18 (Ne.symm neab)
  have A_b4 := A_b4.other W18 (Ne.symm ne_a1_b4)
  have Zp19 := Nat.le_trans Zp15 (Keep.of_wr W18).1
  have FC := FC.same W18
  have N20 := Fr.snoc X18 N16 ge_a1
  have OO := OO.wr W18 ge_a1
  have K21 := K17.wr W18 (Or.inl (List.mem_of_getElem? (i := 0) rfl))
  show Goes p ee below s _ _ _ (T18.setTop (mkF m 41 #[vR a1, vR b4] []))
  refine Goes.retV X18 hx Bd.notSynchronized Bd.returns (hb hby q34_41) (by decide) (by decide) ?_
  rw [e18]
  exact ⟨rfl, N20, K21, b4, _, sz_b4, ⟨E, FV, FC, FN, FM⟩, A_b4, fun j hj => (if_pos ⟨by omega, by omega⟩).trans (congrArg (own_by true c) (by omega))⟩
theorem ef_iin (m : MethodId) (x0 : Addr) (x1 : Addr) : entryFrame m #[(.ref x0), (.ref x1)] 2 = mkF m 0 #[.val (.ref x0), .val (.ref x1)] [] := by first | (simp [entryFrame, mkF, argsToLocals, Value.category]; done) | rfl
theorem q35_0 : decode c35_ 0 = .ok (.getstatic 18, 3) := by decide +kernel
theorem q35_3 : decode c35_ 3 = .ok (.ifCond .eq 18, 3) := by decide +kernel
theorem q35_6 : decode c35_ 6 = .ok (.aload_n 0, 1) := by decide +kernel
theorem q35_7 : decode c35_ 7 = .ok (.getfield 22, 3) := by decide +kernel
theorem q35_10 : decode c35_ 10 = .ok (.aload_n 1, 1) := by decide +kernel
theorem q35_11 : decode c35_ 11 = .ok (.invokevirtual 40, 3) := by decide +kernel
theorem q35_14 : decode c35_ 14 = .ok (.if_icmp .eq 7, 3) := by decide +kernel
theorem q35_21 : decode c35_ 21 = .ok (.return_, 1) := by decide +kernel
theorem q35_17 : decode c35_ 17 = .ok (.aload_n 0, 1) := by decide +kernel
theorem pd_20 : parseMethodDescriptor "()V" = some ⟨[], none⟩ := by decide +kernel
theorem q35_18 : decode c35_ 18 = .ok (.invokevirtual 195, 3) := by decide +kernel
def Q_iin (Z : State) (cs : Int32) (fm : Value) (a1 a2 b : Addr) (u : Bool) (n : Nat) (c : Nat → Nat) (f : Nat → Value) (u1 : Bool) (h0 : Heap) (n0 : Nat) (v : Option Value) (h : Heap) (L : List Loc) : Prop := v = none ∧ Fr n0 L ∧ Keep h0 h [a1] ∧ ∃ (b' : Addr) (f' : Nat → Value), (b' = b ∨ h0.size ≤ b') ∧ own_B Z h a1 b' (u || u1) n ∧ OA Z h b' .byte (own_len (u || u1) 16) f' ∧ ∀ j, j < own_len (u || u1) n → f' j = own_by (u || u1) c j
set_option maxRecDepth 65536 in
set_option maxHeartbeats 40000000 in
theorem rm_iin (l : Launch) (Z : State) (a0 : Array Value) (hw : ∀ d ∈ tables_1, d.before a0 Z = true) (ws : List Jvm.Cond) (cs : Int32) (fm : Value) (a1 a2 b : Addr) (u : Bool) (n : Nat) (c : Nat → Nat) (f : Nat → Value) (u1 : Bool) (h0 : Heap) (n0 : Nat) (Z0 : n0 ≤ h0.size) (ST : own_ST Z cs fm) (OO : Old Z n0 h0) (hn : n ≤ 16) (hl : u = false → ∀ j, j < n → c j < 256) (ge_a1 : n0 ≤ a1) (neab : a1 ≠ b) (ne12 : a1 ≠ a2) (B : own_B Z h0 a1 b u n) (A : OA Z h0 b .byte (own_len u 16) f) (hf : ∀ j, j < own_len u n → f j = own_by u c j) (SFC : Fld Z h0 a2 "java/lang/String" "coder" "B" (.int (own_cd u1))) (SE : Exa Z h0 a2 "java/lang/String") :
    MetFree l (⟨"java/lang/AbstractStringBuilder", "inflateIfNeededFor", "(Ljava/lang/String;)V"⟩ : MethodName) (head1 (Jvm.Cond.code (⟨"java/lang/AbstractStringBuilder", "inflateIfNeededFor", "(Ljava/lang/String;)V"⟩ : MethodName) jdk_68_method_71_code 2 none :: ws) ({ frames := 6, cells := 1, slots := 32, locals := 89 } : Room)) (fun a U => a = #[(.ref a1), (.ref a2)] ∧ Z.Warmed39 U.vm ∧ U.heap = h0) (fun _ _ _ _ _ => True) (fun _ U o U' => ∃ v L, o = .returned v ∧ Q_iin Z cs fm a1 a2 b u n c f u1 h0 n0 v U'.heap L ∧ FrameEnd U o U' L ({ frames := 6, cells := 1, slots := 32, locals := 89 } : Room).cells ({ frames := 6, cells := 1, slots := 32, locals := 89 } : Room).slots) := by
  refine MetFree.of_bodySF (plainFor_of_name pn_java_lang_AbstractStringBuilder) hisR ?_
  intro p ee s m args below meth cc s₁ Bd hml0 hP hK
  obtain ⟨rfl, hZ, hh⟩ := hP
  have hx := Bd.exec
  have hby := Bd.bytes
  have hml : cc.maxLocals = 2 := hml0
  have hown : s.vm.findClass "java/lang/AbstractStringBuilder" = some m.cls := findClass_of_methodNamed Bd.named
  have hnm := (name_of_methodNamed Bd.named Bd.method).1
  have X0 : Stand p l ee ({ frames := 6, cells := 1, slots := 32, locals := 89 } : Room) s m #[(.ref a1), (.ref a2)] below meth cc s₁ [] 0 0 := Stand.of_body Bd
  have e0 : s₁.heap = h0 := by rw [← hh, Bd.state]; rfl
  have N0 := Fr.nil n0
  show Goes p ee below s ({ frames := 6, cells := 1, slots := 32, locals := 89 } : Room).cells ({ frames := 6, cells := 1, slots := 32, locals := 89 } : Room).slots (Q_iin Z cs fm a1 a2 b u n c f u1 h0 n0) (s₁.setTop (entryFrame m #[(.ref a1), (.ref a2)] 2))
  refine gS (fun _ r => castTop (ef_iin m a1 a2) r) ?_
  show Goes p ee below s _ _ _ (s₁.setTop (mkF m 0 #[vR a1, vR a2] []))
  obtain ⟨E, FV, FC, FN, FM⟩ := B
  show Goes p ee below s _ _ _ (s₁.setTop (mkF m 0 #[vR a1, vR a2] []))
  have K0 := Keep.refl h0 ([a1] : List Addr)
  cases u <;> cases u1
  · have FC : Fld Z h0 a1 "java/lang/AbstractStringBuilder" "coder" "B" (.int 0) := FC
    have A : OA Z h0 b .byte 16 f := A
    have hf : ∀ j, j < n → f j = own_by false c j := hf
    have SFC : Fld Z h0 a2 "java/lang/String" "coder" "B" (.int 0) := SFC
    have hl := hl rfl
    show Goes p ee below s _ _ _ (s₁.setTop (mkF m 0 #[vR a1, vR a2] []))
    obtain ⟨T1, X1, e1, st1⟩ := getS X0 hx hZ (host := "") hown (own_w hw 138 rfl) Via.refl e0 ((ST.1).ext OO.2) (g := (mkF m 0 #[vR a1, vR a2] [])) rfl (hb hby q35_0)
    refine gS st1 ?_
    refine gS (fun _ r => XS.ifNo X1.here hx rfl (hb hby q35_3) rfl ((if0 _ _).trans (feq (ST.2.1)).1) r) ?_
    refine gS (fun _ r => XS.aloadN X1.here hx rfl (hb hby q35_6) rfl rfl r) ?_
    obtain ⟨T2, X2, e2, st2⟩ := getF X1 hx hZ hown (host := "") (Or.inl (own_w hw 141 rfl)) Via.refl e1 FC (g := (mkF m 7 #[vR a1, vR a2] [(.ref a1)])) rfl rfl (hb hby q35_7)
    refine gS st2 ?_
    refine gS (fun _ r => XS.aloadN X2.here hx rfl (hb hby q35_10) rfl rfl r) ?_
    have lt_a1 := E.lt
    have lt_b := A.lt
    have lt_a2 := SE.lt
    obtain ⟨v3, T3, L3, X3, hQ3, st3⟩ := own_callV X2 hx hZ (y := (⟨"java/lang/String", "coder", "()B"⟩ : MethodName)) hown (own_w hw 192 rfl) (own_w hw 98 rfl) (own_w hw 100 rfl) (own_w hw 99 rfl) (own_w hw 10 rfl) (own_w hw 101 rfl) (by decide) (a := a2) (argsL := []) (rm_coder l Z a0 hw [] cs fm a2 false h0 n0 Z0 ST OO SFC) e2 SE (W := 1) (by decide) (by decide) (by decide) (by decide) (g := (mkF m 11 #[vR a1, vR a2] [(.ref a2), (.int (0 : Int32))])) rfl (by rw [hml]; rfl) (rest := [(.int (0 : Int32))]) (lenOf pd_5 rfl) rfl (by show 2 * 0 + _ ≤ _; exact Nat.le_of_eq rfl) (hb hby q35_11)
    refine gS st3 ?_
    obtain ⟨rfl, N3, e3⟩ := hQ3
    have N4 := Fr.app N0 N3
    show Goes p ee below s _ _ _ (T3.setTop (mkF m 14 #[vR a1, vR a2] [(.int (0 : Int32)), (.int (0 : Int32))]))
    refine gS (fun _ r => XS.icmpYes X3.here hx rfl (pc0 := 14) (pc' := 21) rfl (hb hby q35_14) rfl (teq (by decide)).1 (by decide) (by decide) r) ?_
    show Goes p ee below s _ _ _ (T3.setTop (mkF m 21 #[vR a1, vR a2] []))
    refine Goes.retV X3 hx Bd.notSynchronized Bd.returns (hb hby q35_21) (by decide) (by decide) ?_
    rw [e3]
    exact ⟨rfl, N4, K0, b, _, (Or.inl rfl), ⟨E, FV, FC, FN, FM⟩, A, hf⟩
  · have FC : Fld Z h0 a1 "java/lang/AbstractStringBuilder" "coder" "B" (.int 0) := FC
    have A : OA Z h0 b .byte 16 f := A
    have hf : ∀ j, j < n → f j = own_by false c j := hf
    have SFC : Fld Z h0 a2 "java/lang/String" "coder" "B" (.int 1) := SFC
    have hl := hl rfl
    show Goes p ee below s _ _ _ (s₁.setTop (mkF m 0 #[vR a1, vR a2] []))
    obtain ⟨T5, X5, e5, st5⟩ := getS X0 hx hZ (host := "") hown (own_w hw 138 rfl) Via.refl e0 ((ST.1).ext OO.2) (g := (mkF m 0 #[vR a1, vR a2] [])) rfl (hb hby q35_0)
    refine gS st5 ?_
    refine gS (fun _ r => XS.ifNo X5.here hx rfl (hb hby q35_3) rfl ((if0 _ _).trans (feq (ST.2.1)).1) r) ?_
    refine gS (fun _ r => XS.aloadN X5.here hx rfl (hb hby q35_6) rfl rfl r) ?_
    obtain ⟨T6, X6, e6, st6⟩ := getF X5 hx hZ hown (host := "") (Or.inl (own_w hw 141 rfl)) Via.refl e5 FC (g := (mkF m 7 #[vR a1, vR a2] [(.ref a1)])) rfl rfl (hb hby q35_7)
    refine gS st6 ?_
    refine gS (fun _ r => XS.aloadN X6.here hx rfl (hb hby q35_10) rfl rfl r) ?_
    have lt_a1 := E.lt
    have lt_b := A.lt
    have lt_a2 := SE.lt
    obtain ⟨v7, T7, L7, X7, hQ7, st7⟩ := own_callV X6 hx hZ (y := (⟨"java/lang/String", "coder", "()B"⟩ : MethodName)) hown (own_w hw 192 rfl) (own_w hw 98 rfl) (own_w hw 100 rfl) (own_w hw 99 rfl) (own_w hw 10 rfl) (own_w hw 101 rfl) (by decide) (a := a2) (argsL := []) (rm_coder l Z a0 hw [] cs fm a2 true h0 n0 Z0 ST OO SFC) e6 SE (W := 1) (by decide) (by decide) (by decide) (by decide) (g := (mkF m 11 #[vR a1, vR a2] [(.ref a2), (.int (0 : Int32))])) rfl (by rw [hml]; rfl) (rest := [(.int (0 : Int32))]) (lenOf pd_5 rfl) rfl (by show 2 * 0 + _ ≤ _; exact Nat.le_of_eq rfl) (hb hby q35_11)
    refine gS st7 ?_
    obtain ⟨rfl, N7, e7⟩ := hQ7
    have N8 := Fr.app N0 N7
    show Goes p ee below s _ _ _ (T7.setTop (mkF m 14 #[vR a1, vR a2] [(.int (1 : Int32)), (.int (0 : Int32))]))
    refine gS (fun _ r => XS.icmpNo X7.here hx rfl (hb hby q35_14) rfl (feq (by decide)).1 r) ?_
    refine gS (fun _ r => XS.aloadN X7.here hx rfl (hb hby q35_17) rfl rfl r) ?_
    have lt_a1 := E.lt
    have lt_b := A.lt
    have lt_a2 := SE.lt
    obtain ⟨v9, T9, L9, X9, hQ9, st9⟩ := own_callV X7 hx hZ (y := (⟨"java/lang/AbstractStringBuilder", "inflate", "()V"⟩ : MethodName)) hown (own_w hw 300 rfl) (own_declares (own_w hw 301 rfl) (own_w hw 304 rfl)) (own_w hw 303 rfl) (own_w hw 301 rfl) (own_w hw 135 rfl) (own_w hw 304 rfl) (by decide) (a := a1) (argsL := []) (rm_binF l Z a0 hw [] cs fm a1 b n c f h0 n0 Z0 ST OO hn hl ge_a1 neab ⟨E, FV, FC, FN, FM⟩ A hf) e7 E (W := 0) (by decide) (by decide) (by decide) (by decide) (g := (mkF m 18 #[vR a1, vR a2] [(.ref a1)])) rfl (by rw [hml]; rfl) (rest := []) (lenOf pd_20 rfl) rfl (by show 2 * 0 + _ ≤ _; exact Nat.le_of_eq rfl) (hb hby q35_18)
    refine gS st9 ?_
    obtain ⟨rfl, N9, Kc9, b9, f9, sz9, B9, A_b9, hf9⟩ := hQ9
    have N10 := Fr.app N8 N9
    obtain ⟨h9, e9⟩ : ∃ h', T9.heap = h' := ⟨_, rfl⟩
    rw [e9] at Kc9 B9 A_b9
    have A := A.keep Kc9 (ninS (Ne.symm neab) nin0)
    have SE := SE.keep Kc9
    have SFC := SFC.keep Kc9 (ninS (Ne.symm ne12) nin0)
    have OO := OO.keep Kc9 (allS ge_a1 all0)
    have K11 := K0.trans Kc9 (allS (Or.inl (List.mem_of_getElem? (i := 0) rfl)) all0)
    have Zp12 := Nat.le_trans Z0 Kc9.1
    have ge_b9 : n0 ≤ b9 := Nat.le_trans Z0 sz9
    have sz_b9 : h0.size ≤ b9 := Nat.le_trans K0.1 sz9
    have ne_a1_b9 : a1 ≠ b9 := Nat.ne_of_lt (Nat.lt_of_lt_of_le lt_a1 sz9)
    have ne_b_b9 : b ≠ b9 := Nat.ne_of_lt (Nat.lt_of_lt_of_le lt_b sz9)
    have ne_a2_b9 : a2 ≠ b9 := Nat.ne_of_lt (Nat.lt_of_lt_of_le lt_a2 sz9)
    obtain ⟨E9, FV9, FC9, FN9, FM9⟩ := B9
    show Goes p ee below s _ _ _ (T9.setTop (mkF m 21 #[vR a1, vR a2] []))
    refine Goes.retV X9 hx Bd.notSynchronized Bd.returns (hb hby q35_21) (by decide) (by decide) ?_
    rw [e9]
    exact ⟨rfl, N10, K11, b9, _, (Or.inr sz_b9), ⟨E9, FV9, FC9, FN9, FM9⟩, A_b9, hf9⟩
  · have FC : Fld Z h0 a1 "java/lang/AbstractStringBuilder" "coder" "B" (.int 1) := FC
    have A : OA Z h0 b .byte 32 f := A
    have hf : ∀ j, j < 2 * n → f j = own_by true c j := hf
    have SFC : Fld Z h0 a2 "java/lang/String" "coder" "B" (.int 0) := SFC
    show Goes p ee below s _ _ _ (s₁.setTop (mkF m 0 #[vR a1, vR a2] []))
    obtain ⟨T13, X13, e13, st13⟩ := getS X0 hx hZ (host := "") hown (own_w hw 138 rfl) Via.refl e0 ((ST.1).ext OO.2) (g := (mkF m 0 #[vR a1, vR a2] [])) rfl (hb hby q35_0)
    refine gS st13 ?_
    refine gS (fun _ r => XS.ifNo X13.here hx rfl (hb hby q35_3) rfl ((if0 _ _).trans (feq (ST.2.1)).1) r) ?_
    refine gS (fun _ r => XS.aloadN X13.here hx rfl (hb hby q35_6) rfl rfl r) ?_
    obtain ⟨T14, X14, e14, st14⟩ := getF X13 hx hZ hown (host := "") (Or.inl (own_w hw 141 rfl)) Via.refl e13 FC (g := (mkF m 7 #[vR a1, vR a2] [(.ref a1)])) rfl rfl (hb hby q35_7)
    refine gS st14 ?_
    refine gS (fun _ r => XS.aloadN X14.here hx rfl (hb hby q35_10) rfl rfl r) ?_
    have lt_a1 := E.lt
    have lt_b := A.lt
    have lt_a2 := SE.lt
    obtain ⟨v15, T15, L15, X15, hQ15, st15⟩ := own_callV X14 hx hZ (y := (⟨"java/lang/String", "coder", "()B"⟩ : MethodName)) hown (own_w hw 192 rfl) (own_w hw 98 rfl) (own_w hw 100 rfl) (own_w hw 99 rfl) (own_w hw 10 rfl) (own_w hw 101 rfl) (by decide) (a := a2) (argsL := []) (rm_coder l Z a0 hw [] cs fm a2 false h0 n0 Z0 ST OO SFC) e14 SE (W := 1) (by decide) (by decide) (by decide) (by decide) (g := (mkF m 11 #[vR a1, vR a2] [(.ref a2), (.int (1 : Int32))])) rfl (by rw [hml]; rfl) (rest := [(.int (1 : Int32))]) (lenOf pd_5 rfl) rfl (by show 2 * 0 + _ ≤ _; exact Nat.le_of_eq rfl) (hb hby q35_11)
    refine gS st15 ?_
    obtain ⟨rfl, N15, e15⟩ := hQ15
    have N16 := Fr.app N0 N15
    show Goes p ee below s _ _ _ (T15.setTop (mkF m 14 #[vR a1, vR a2] [(.int (0 : Int32)), (.int (1 : Int32))]))
    refine gS (fun _ r => XS.icmpNo X15.here hx rfl (hb hby q35_14) rfl (feq (by decide)).1 r) ?_
    refine gS (fun _ r => XS.aloadN X15.here hx rfl (hb hby q35_17) rfl rfl r) ?_
    have lt_a1 := E.lt
    have lt_b := A.lt
    have lt_a2 := SE.lt
    obtain ⟨v17, T17, L17, X17, hQ17, st17⟩ := own_callV X15 hx hZ (y := (⟨"java/lang/AbstractStringBuilder", "inflate", "()V"⟩ : MethodName)) hown (own_w hw 300 rfl) (own_declares (own_w hw 301 rfl) (own_w hw 304 rfl)) (own_w hw 303 rfl) (own_w hw 301 rfl) (own_w hw 135 rfl) (own_w hw 304 rfl) (by decide) (a := a1) (argsL := []) (rm_binT l Z a0 hw [] cs fm a1 h0 n0 Z0 ST OO E FC) e15 E (W := 0) (by decide) (by decide) (by decide) (by decide) (g := (mkF m 18 #[vR a1, vR a2] [(.ref a1)])) rfl (by rw [hml]; rfl) (rest := []) (lenOf pd_20 rfl) rfl (by show 2 * 0 + _ ≤ _; exact Nat.le_of_eq rfl) (hb hby q35_18)
    refine gS st17 ?_
    obtain ⟨rfl, N17, e17⟩ := hQ17
    have N18 := Fr.app N16 N17
    show Goes p ee below s _ _ _ (T17.setTop (mkF m 21 #[vR a1, vR a2] []))
    refine Goes.retV X17 hx Bd.notSynchronized Bd.returns (hb hby q35_21) (by decide) (by decide) ?_
    rw [e17]
    exact ⟨rfl, N18, K0, b, _, (Or.inl rfl), ⟨E, FV, FC, FN, FM⟩, A, hf⟩
  · have FC : Fld Z h0 a1 "java/lang/AbstractStringBuilder" "coder" "B" (.int 1) := FC
    have A : OA Z h0 b .byte 32 f := A
    have hf : ∀ j, j < 2 * n → f j = own_by true c j := hf
    have SFC : Fld Z h0 a2 "java/lang/String" "coder" "B" (.int 1) := SFC
    show Goes p ee below s _ _ _ (s₁.setTop (mkF m 0 #[vR a1, vR a2] []))
    obtain ⟨T19, X19, e19, st19⟩ := getS X0 hx hZ (host := "") hown (own_w hw 138 rfl) Via.refl e0 ((ST.1).ext OO.2) (g := (mkF m 0 #[vR a1, vR a2] [])) rfl (hb hby q35_0)
    refine gS st19 ?_
    refine gS (fun _ r => XS.ifNo X19.here hx rfl (hb hby q35_3) rfl ((if0 _ _).trans (feq (ST.2.1)).1) r) ?_
    refine gS (fun _ r => XS.aloadN X19.here hx rfl (hb hby q35_6) rfl rfl r) ?_
    obtain ⟨T20, X20, e20, st20⟩ := getF X19 hx hZ hown (host := "") (Or.inl (own_w hw 141 rfl)) Via.refl e19 FC (g := (mkF m 7 #[vR a1, vR a2] [(.ref a1)])) rfl rfl (hb hby q35_7)
    refine gS st20 ?_
    refine gS (fun _ r => XS.aloadN X20.here hx rfl (hb hby q35_10) rfl rfl r) ?_
    have lt_a1 := E.lt
    have lt_b := A.lt
    have lt_a2 := SE.lt
    obtain ⟨v21, T21, L21, X21, hQ21, st21⟩ := own_callV X20 hx hZ (y := (⟨"java/lang/String", "coder", "()B"⟩ : MethodName)) hown (own_w hw 192 rfl) (own_w hw 98 rfl) (own_w hw 100 rfl) (own_w hw 99 rfl) (own_w hw 10 rfl) (own_w hw 101 rfl) (by decide) (a := a2) (argsL := []) (rm_coder l Z a0 hw [] cs fm a2 true h0 n0 Z0 ST OO SFC) e20 SE (W := 1) (by decide) (by decide) (by decide) (by decide) (g := (mkF m 11 #[vR a1, vR a2] [(.ref a2), (.int (1 : Int32))])) rfl (by rw [hml]; rfl) (rest := [(.int (1 : Int32))]) (lenOf pd_5 rfl) rfl (by show 2 * 0 + _ ≤ _; exact Nat.le_of_eq rfl) (hb hby q35_11)
    refine gS st21 ?_
    obtain ⟨rfl, N21, e21⟩ := hQ21
    have N22 := Fr.app N0 N21
    show Goes p ee below s _ _ _ (T21.setTop (mkF m 14 #[vR a1, vR a2] [(.int (1 : Int32)), (.int (1 : Int32))]))
    refine gS (fun _ r => XS.icmpYes X21.here hx rfl (pc0 := 14) (pc' := 21) rfl (hb hby q35_14) rfl (teq (by decide)).1 (by decide) (by decide) r) ?_
    show Goes p ee below s _ _ _ (T21.setTop (mkF m 21 #[vR a1, vR a2] []))
    refine Goes.retV X21 hx Bd.notSynchronized Bd.returns (hb hby q35_21) (by decide) (by decide) ?_
    rw [e21]
    exact ⟨rfl, N22, K0, b, _, (Or.inl rfl), ⟨E, FV, FC, FN, FM⟩, A, hf⟩
theorem ef_gby (m : MethodId) (x0 : Addr) (x1 : Addr) (x2 : Int32) (x3 : Int32) : entryFrame m #[(.ref x0), (.ref x1), (.int x2), (.int x3)] 4 = mkF m 0 #[.val (.ref x0), .val (.ref x1), .val (.int x2), .val (.int x3)] [] := by first | (simp [entryFrame, mkF, argsToLocals, Value.category]; done) | rfl
theorem q36_0 : decode c36_ 0 = .ok (.aload_n 0, 1) := by decide +kernel
theorem q36_1 : decode c36_ 1 = .ok (.invokevirtual 335, 3) := by decide +kernel
theorem q36_4 : decode c36_ 4 = .ok (.iload_n 3, 1) := by decide +kernel
theorem q36_5 : decode c36_ 5 = .ok (.if_icmp .ne 23, 3) := by decide +kernel
theorem q36_8 : decode c36_ 8 = .ok (.aload_n 0, 1) := by decide +kernel
theorem q36_9 : decode c36_ 9 = .ok (.getfield 9, 3) := by decide +kernel
theorem q36_12 : decode c36_ 12 = .ok (.iconst 0, 1) := by decide +kernel
theorem q36_13 : decode c36_ 13 = .ok (.aload_n 1, 1) := by decide +kernel
theorem q36_14 : decode c36_ 14 = .ok (.iload_n 2, 1) := by decide +kernel
theorem q36_15 : decode c36_ 15 = .ok (.iload_n 3, 1) := by decide +kernel
theorem q36_16 : decode c36_ 16 = .ok (.ishl, 1) := by decide +kernel
theorem q36_17 : decode c36_ 17 = .ok (.aload_n 0, 1) := by decide +kernel
theorem q36_18 : decode c36_ 18 = .ok (.getfield 9, 3) := by decide +kernel
theorem q36_21 : decode c36_ 21 = .ok (.arraylength, 1) := by decide +kernel
theorem q36_22 : decode c36_ 22 = .ok (.invokestatic 212, 3) := by decide +kernel
theorem q36_25 : decode c36_ 25 = .ok (.goto 18, 3) := by decide +kernel
theorem q36_43 : decode c36_ 43 = .ok (.return_, 1) := by decide +kernel
theorem q36_28 : decode c36_ 28 = .ok (.aload_n 0, 1) := by decide +kernel
theorem q36_29 : decode c36_ 29 = .ok (.getfield 9, 3) := by decide +kernel
theorem q36_32 : decode c36_ 32 = .ok (.iconst 0, 1) := by decide +kernel
theorem q36_33 : decode c36_ 33 = .ok (.aload_n 1, 1) := by decide +kernel
theorem q36_34 : decode c36_ 34 = .ok (.iload_n 2, 1) := by decide +kernel
theorem q36_35 : decode c36_ 35 = .ok (.aload_n 0, 1) := by decide +kernel
theorem q36_36 : decode c36_ 36 = .ok (.getfield 9, 3) := by decide +kernel
theorem q36_39 : decode c36_ 39 = .ok (.arraylength, 1) := by decide +kernel
theorem q36_40 : decode c36_ 40 = .ok (.invokestatic 106, 3) := by decide +kernel
def Q_gby (Z : State) (cs : Int32) (fm : Value) (a1 bs a2 : Addr) (u1 u : Bool) (n q : Nat) (c d : Nat → Nat) (f : Nat → Value) (h0 : Heap) (n0 : Nat) (v : Option Value) (h : Heap) (L : List Loc) : Prop := v = none ∧ Fr n0 L ∧ Keep h0 h [a2] ∧ ∃ f', OA Z h a2 .byte (own_len u 16) f' ∧ ∀ j, j < own_len u (n + q) → f' j = own_by u (own_cat n c d) j
set_option maxRecDepth 65536 in
set_option maxHeartbeats 40000000 in
theorem rm_gby (l : Launch) (Z : State) (a0 : Array Value) (hw : ∀ d ∈ tables_1, d.before a0 Z = true) (ws : List Jvm.Cond) (cs : Int32) (fm : Value) (a1 bs a2 : Addr) (u1 u : Bool) (n q : Nat) (c d : Nat → Nat) (f : Nat → Value) (h0 : Heap) (n0 : Nat) (Z0 : n0 ≤ h0.size) (ST : own_ST Z cs fm) (OO : Old Z n0 h0) (hnq : n + q ≤ 16) (hu : u1 = true → u = true) (hl1 : u1 = false → ∀ j, j < q → d j < 256) (ne12 : a1 ≠ a2) (neb2 : bs ≠ a2) (ge_a2 : n0 ≤ a2) (SE : Exa Z h0 a1 "java/lang/String") (SFV : Fld Z h0 a1 "java/lang/String" "value" "[B" (.ref bs)) (SFC : Fld Z h0 a1 "java/lang/String" "coder" "B" (.int (own_cd u1))) (SA : OA Z h0 bs .byte (own_len u1 q) (own_by u1 d)) (A : OA Z h0 a2 .byte (own_len u 16) f) (hf : ∀ j, j < own_len u n → f j = own_by u c j) :
    MetFree l (⟨"java/lang/String", "getBytes", "([BIB)V"⟩ : MethodName) (head1 (Jvm.Cond.code (⟨"java/lang/String", "getBytes", "([BIB)V"⟩ : MethodName) jdk_42_method_147_code 4 none :: ws) ({ frames := 5, cells := 0, slots := 0, locals := 76 } : Room)) (fun a U => a = #[(.ref a1), (.ref a2), (.int (Int32.ofNat n)), (.int (own_cd u))] ∧ Z.Warmed39 U.vm ∧ U.heap = h0) (fun _ _ _ _ _ => True) (fun _ U o U' => ∃ v L, o = .returned v ∧ Q_gby Z cs fm a1 bs a2 u1 u n q c d f h0 n0 v U'.heap L ∧ FrameEnd U o U' L ({ frames := 5, cells := 0, slots := 0, locals := 76 } : Room).cells ({ frames := 5, cells := 0, slots := 0, locals := 76 } : Room).slots) := by
  refine MetFree.of_bodySF (plainFor_of_name pn_java_lang_String) hisR ?_
  intro p ee s m args below meth cc s₁ Bd hml0 hP hK
  obtain ⟨rfl, hZ, hh⟩ := hP
  have hx := Bd.exec
  have hby := Bd.bytes
  have hml : cc.maxLocals = 4 := hml0
  have hown : s.vm.findClass "java/lang/String" = some m.cls := findClass_of_methodNamed Bd.named
  have hnm := (name_of_methodNamed Bd.named Bd.method).1
  have X0 : Stand p l ee ({ frames := 5, cells := 0, slots := 0, locals := 76 } : Room) s m #[(.ref a1), (.ref a2), (.int (Int32.ofNat n)), (.int (own_cd u))] below meth cc s₁ [] 0 0 := Stand.of_body Bd
  have e0 : s₁.heap = h0 := by rw [← hh, Bd.state]; rfl
  have N0 := Fr.nil n0
  show Goes p ee below s ({ frames := 5, cells := 0, slots := 0, locals := 76 } : Room).cells ({ frames := 5, cells := 0, slots := 0, locals := 76 } : Room).slots (Q_gby Z cs fm a1 bs a2 u1 u n q c d f h0 n0) (s₁.setTop (entryFrame m #[(.ref a1), (.ref a2), (.int (Int32.ofNat n)), (.int (own_cd u))] 4))
  refine gS (fun _ r => castTop (ef_gby m a1 a2 (Int32.ofNat n) (own_cd u)) r) ?_
  show Goes p ee below s _ _ _ (s₁.setTop (mkF m 0 #[vR a1, vR a2, vN n, .val (.int (own_cd u))] []))
  have K0 := Keep.refl h0 ([a2] : List Addr)
  cases u1 <;> cases u
  · have SFC : Fld Z h0 a1 "java/lang/String" "coder" "B" (.int 0) := SFC
    have SA : OA Z h0 bs .byte q (own_by false d) := SA
    have A : OA Z h0 a2 .byte 16 f := A
    show Goes p ee below s _ _ _ (s₁.setTop (mkF m 0 #[vR a1, vR a2, vN n, .val (.int (0 : Int32))] []))
    refine gS (fun _ r => XS.aloadN X0.here hx rfl (hb hby q36_0) rfl rfl r) ?_
    have lt_a1 := SE.lt
    have lt_bs := SA.lt
    have lt_a2 := A.lt
    obtain ⟨v1, T1, L1, X1, hQ1, st1⟩ := own_callV X0 hx hZ (y := (⟨"java/lang/String", "coder", "()B"⟩ : MethodName)) hown (own_w hw 97 rfl) (own_w hw 98 rfl) (own_w hw 100 rfl) (own_w hw 99 rfl) (own_w hw 10 rfl) (own_w hw 101 rfl) (by decide) (a := a1) (argsL := []) (rm_coder l Z a0 hw [] cs fm a1 false h0 n0 Z0 ST OO SFC) e0 SE (W := 0) (by decide) (by decide) (by decide) (by decide) (g := (mkF m 1 #[vR a1, vR a2, vN n, .val (.int (0 : Int32))] [(.ref a1)])) rfl (by rw [hml]; rfl) (rest := []) (lenOf pd_5 rfl) rfl (by show 2 * 0 + _ ≤ _; exact Nat.le_of_eq rfl) (hb hby q36_1)
    refine gS st1 ?_
    obtain ⟨rfl, N1, e1⟩ := hQ1
    have N2 := Fr.app N0 N1
    refine gS (fun _ r => XS.iloadN X1.here hx rfl (hb hby q36_4) rfl  r) ?_
    refine gS (fun _ r => XS.icmpNo X1.here hx rfl (hb hby q36_5) rfl (teq (by decide)).2 r) ?_
    refine gS (fun _ r => XS.aloadN X1.here hx rfl (hb hby q36_8) rfl rfl r) ?_
    obtain ⟨T3, X3, e3, st3⟩ := getF X1 hx hZ hown (host := "") (Or.inl (own_w hw 36 rfl)) Via.refl e1 SFV (g := (mkF m 9 #[vR a1, vR a2, vN n, .val (.int (0 : Int32))] [(.ref a1)])) rfl rfl (hb hby q36_9)
    refine gS st3 ?_
    show Goes p ee below s _ _ _ (T3.setTop (mkF m 12 #[vR a1, vR a2, vN n, .val (.int (0 : Int32))] [(.ref bs)]))
    refine gS (fun _ r => XS.iconst X3.here hx rfl (hb hby q36_12) r) ?_
    refine gS (fun _ r => XS.aloadN X3.here hx rfl (hb hby q36_13) rfl rfl r) ?_
    refine gS (fun _ r => XS.iloadN X3.here hx rfl (hb hby q36_14) rfl  r) ?_
    refine gS (fun _ r => XS.iloadN X3.here hx rfl (hb hby q36_15) rfl  r) ?_
    refine gS (fun _ r => XT.ishl X3.here hx rfl (hb hby q36_16) rfl r) ?_
    show Goes p ee below s _ _ _ (T3.setTop (mkF m 17 #[vR a1, vR a2, vN n, .val (.int (0 : Int32))] [(.int ((Int32.ofNat n) <<< ((0 : Int32) &&& 31))), (.ref a2), (.int (0 : Int32)), (.ref bs)]))
    rw [own_shl0 n (by omega)]
    show Goes p ee below s _ _ _ (T3.setTop (mkF m 17 #[vR a1, vR a2, vN n, .val (.int (0 : Int32))] [(.int (Int32.ofNat n)), (.ref a2), (.int (0 : Int32)), (.ref bs)]))
    refine gS (fun _ r => XS.aloadN X3.here hx rfl (hb hby q36_17) rfl rfl r) ?_
    obtain ⟨T4, X4, e4, st4⟩ := getF X3 hx hZ hown (host := "") (Or.inl (own_w hw 36 rfl)) Via.refl e3 SFV (g := (mkF m 18 #[vR a1, vR a2, vN n, .val (.int (0 : Int32))] [(.ref a1), (.int (Int32.ofNat n)), (.ref a2), (.int (0 : Int32)), (.ref bs)])) rfl rfl (hb hby q36_18)
    refine gS st4 ?_
    refine gS (own_alen X4 hx hZ e4 SA (z := (Int32.ofNat q)) rfl (g := (mkF m 21 #[vR a1, vR a2, vN n, .val (.int (0 : Int32))] [(.ref bs), (.int (Int32.ofNat n)), (.ref a2), (.int (0 : Int32)), (.ref bs)])) rfl rfl (hb hby q36_21)) ?_
    obtain ⟨T5, h5, L5, X5, e5, Nc5, Kc5, Ac5, st5⟩ := own_copy X4 hx hZ hown (own_w hw 198 rfl) (own_w hw 201 rfl) (own_w hw 199 rfl) (own_w hw 200 rfl) e4 (sp := 0) (dp := n) (nn := q) SA A rfl (by omega) (by omega) N2 ge_a2 (g := (mkF m 22 #[vR a1, vR a2, vN n, .val (.int (0 : Int32))] [(.int (Int32.ofNat q)), (.int (Int32.ofNat n)), (.ref a2), (.int (0 : Int32)), (.ref bs)])) rfl (by rw [hml]; rfl) (rest := []) rfl (hb hby q36_22) (by decide) (W := 0) (by show 2 * 0 + _ ≤ _; exact Nat.le_of_eq rfl) (by decide)
    refine gS st5 ?_
    have SE := SE.keep Kc5
    have SFV := SFV.keep Kc5 (ninS ne12 nin0)
    have SFC := SFC.keep Kc5 (ninS ne12 nin0)
    have SA := SA.keep Kc5 (ninS neb2 nin0)
    have OO := OO.keep Kc5 (allS ge_a2 all0)
    have K6 := K0.trans Kc5 (allS (Or.inl (List.mem_of_getElem? (i := 0) rfl)) all0)
    have Zp7 := Nat.le_trans Z0 Kc5.1
    have A := Ac5
    refine gS (fun _ r => XS.goto X5.here hx rfl (pc0 := 25) (pc' := 43) rfl (hb hby q36_25) (by decide) (by decide) r) ?_
    show Goes p ee below s _ _ _ (T5.setTop (mkF m 43 #[vR a1, vR a2, vN n, .val (.int (0 : Int32))] []))
    refine Goes.retV X5 hx Bd.notSynchronized Bd.returns (hb hby q36_43) (by decide) (by decide) ?_
    rw [e5]
    exact ⟨rfl, Nc5, K6, _, A, own_put false n q c d f hf⟩
  · have SFC : Fld Z h0 a1 "java/lang/String" "coder" "B" (.int 0) := SFC
    have SA : OA Z h0 bs .byte q (own_by false d) := SA
    have A : OA Z h0 a2 .byte 32 f := A
    show Goes p ee below s _ _ _ (s₁.setTop (mkF m 0 #[vR a1, vR a2, vN n, .val (.int (1 : Int32))] []))
    refine gS (fun _ r => XS.aloadN X0.here hx rfl (hb hby q36_0) rfl rfl r) ?_
    have lt_a1 := SE.lt
    have lt_bs := SA.lt
    have lt_a2 := A.lt
    obtain ⟨v8, T8, L8, X8, hQ8, st8⟩ := own_callV X0 hx hZ (y := (⟨"java/lang/String", "coder", "()B"⟩ : MethodName)) hown (own_w hw 97 rfl) (own_w hw 98 rfl) (own_w hw 100 rfl) (own_w hw 99 rfl) (own_w hw 10 rfl) (own_w hw 101 rfl) (by decide) (a := a1) (argsL := []) (rm_coder l Z a0 hw [] cs fm a1 false h0 n0 Z0 ST OO SFC) e0 SE (W := 0) (by decide) (by decide) (by decide) (by decide) (g := (mkF m 1 #[vR a1, vR a2, vN n, .val (.int (1 : Int32))] [(.ref a1)])) rfl (by rw [hml]; rfl) (rest := []) (lenOf pd_5 rfl) rfl (by show 2 * 0 + _ ≤ _; exact Nat.le_of_eq rfl) (hb hby q36_1)
    refine gS st8 ?_
    obtain ⟨rfl, N8, e8⟩ := hQ8
    have N9 := Fr.app N0 N8
    refine gS (fun _ r => XS.iloadN X8.here hx rfl (hb hby q36_4) rfl  r) ?_
    refine gS (fun _ r => XS.icmpYes X8.here hx rfl (pc0 := 5) (pc' := 28) rfl (hb hby q36_5) rfl (feq (by decide)).2 (by decide) (by decide) r) ?_
    refine gS (fun _ r => XS.aloadN X8.here hx rfl (hb hby q36_28) rfl rfl r) ?_
    obtain ⟨T10, X10, e10, st10⟩ := getF X8 hx hZ hown (host := "") (Or.inl (own_w hw 36 rfl)) Via.refl e8 SFV (g := (mkF m 29 #[vR a1, vR a2, vN n, .val (.int (1 : Int32))] [(.ref a1)])) rfl rfl (hb hby q36_29)
    refine gS st10 ?_
    show Goes p ee below s _ _ _ (T10.setTop (mkF m 32 #[vR a1, vR a2, vN n, .val (.int (1 : Int32))] [(.ref bs)]))
    refine gS (fun _ r => XS.iconst X10.here hx rfl (hb hby q36_32) r) ?_
    refine gS (fun _ r => XS.aloadN X10.here hx rfl (hb hby q36_33) rfl rfl r) ?_
    refine gS (fun _ r => XS.iloadN X10.here hx rfl (hb hby q36_34) rfl  r) ?_
    refine gS (fun _ r => XS.aloadN X10.here hx rfl (hb hby q36_35) rfl rfl r) ?_
    obtain ⟨T11, X11, e11, st11⟩ := getF X10 hx hZ hown (host := "") (Or.inl (own_w hw 36 rfl)) Via.refl e10 SFV (g := (mkF m 36 #[vR a1, vR a2, vN n, .val (.int (1 : Int32))] [(.ref a1), (.int (Int32.ofNat n)), (.ref a2), (.int (0 : Int32)), (.ref bs)])) rfl rfl (hb hby q36_36)
    refine gS st11 ?_
    refine gS (own_alen X11 hx hZ e11 SA (z := (Int32.ofNat q)) rfl (g := (mkF m 39 #[vR a1, vR a2, vN n, .val (.int (1 : Int32))] [(.ref bs), (.int (Int32.ofNat n)), (.ref a2), (.int (0 : Int32)), (.ref bs)])) rfl rfl (hb hby q36_39)) ?_
    show Goes p ee below s _ _ _ (T11.setTop (mkF m 40 #[vR a1, vR a2, vN n, .val (.int (1 : Int32))] [(.int (Int32.ofNat q)), (.int (Int32.ofNat n)), (.ref a2), (.int (0 : Int32)), (.ref bs)]))
    have lt_a1 := SE.lt
    have lt_bs := SA.lt
    have lt_a2 := A.lt
    obtain ⟨v12, T12, L12, X12, hQ12, st12⟩ := own_callS X11 hx hZ (y := (⟨"java/lang/StringLatin1", "inflate", "([BI[BII)V"⟩ : MethodName)) hown (own_w hw 332 rfl) (own_w hw 313 rfl) (own_w hw 43 rfl) (own_w hw 314 rfl) (by decide) (argsL := [(.ref bs), (.int (0 : Int32)), (.ref a2), (.int (Int32.ofNat n)), (.int (Int32.ofNat q))]) (rm_linf l Z a0 hw [] cs fm bs a2 n q q 16 d _ f h0 n0 Z0 ST OO hnq (by decide) (Nat.le_refl _) (hl1 rfl) (fun j hj => rfl) neb2 ge_a2 SA A) e11 (W := 0) (by decide) (by decide) (by decide) (by decide) (g := (mkF m 40 #[vR a1, vR a2, vN n, .val (.int (1 : Int32))] [(.int (Int32.ofNat q)), (.int (Int32.ofNat n)), (.ref a2), (.int (0 : Int32)), (.ref bs)])) rfl (by rw [hml]; rfl) (rest := []) (lenOf pd_19 rfl) rfl (by show 2 * 0 + _ ≤ _; exact Nat.le_of_eq rfl) (hb hby q36_40)
    refine gS st12 ?_
    obtain ⟨rfl, N12, Kc12, A⟩ := hQ12
    have N13 := Fr.app N9 N12
    obtain ⟨h12, e12⟩ : ∃ h', T12.heap = h' := ⟨_, rfl⟩
    rw [e12] at Kc12 A
    have SE := SE.keep Kc12
    have SFV := SFV.keep Kc12 (ninS ne12 nin0)
    have SFC := SFC.keep Kc12 (ninS ne12 nin0)
    have SA := SA.keep Kc12 (ninS neb2 nin0)
    have OO := OO.keep Kc12 (allS ge_a2 all0)
    have K14 := K0.trans Kc12 (allS (Or.inl (List.mem_of_getElem? (i := 0) rfl)) all0)
    have Zp15 := Nat.le_trans Z0 Kc12.1
    show Goes p ee below s _ _ _ (T12.setTop (mkF m 43 #[vR a1, vR a2, vN n, .val (.int (1 : Int32))] []))
    refine Goes.retV X12 hx Bd.notSynchronized Bd.returns (hb hby q36_43) (by decide) (by decide) ?_
    rw [e12]
    exact ⟨rfl, N13, K14, _, A, own_put true n q c d f hf⟩
  · exact absurd (hu rfl) (by decide)
  · have SFC : Fld Z h0 a1 "java/lang/String" "coder" "B" (.int 1) := SFC
    have SA : OA Z h0 bs .byte (2 * q) (own_by true d) := SA
    have A : OA Z h0 a2 .byte 32 f := A
    show Goes p ee below s _ _ _ (s₁.setTop (mkF m 0 #[vR a1, vR a2, vN n, .val (.int (1 : Int32))] []))
    refine gS (fun _ r => XS.aloadN X0.here hx rfl (hb hby q36_0) rfl rfl r) ?_
    have lt_a1 := SE.lt
    have lt_bs := SA.lt
    have lt_a2 := A.lt
    obtain ⟨v16, T16, L16, X16, hQ16, st16⟩ := own_callV X0 hx hZ (y := (⟨"java/lang/String", "coder", "()B"⟩ : MethodName)) hown (own_w hw 97 rfl) (own_w hw 98 rfl) (own_w hw 100 rfl) (own_w hw 99 rfl) (own_w hw 10 rfl) (own_w hw 101 rfl) (by decide) (a := a1) (argsL := []) (rm_coder l Z a0 hw [] cs fm a1 true h0 n0 Z0 ST OO SFC) e0 SE (W := 0) (by decide) (by decide) (by decide) (by decide) (g := (mkF m 1 #[vR a1, vR a2, vN n, .val (.int (1 : Int32))] [(.ref a1)])) rfl (by rw [hml]; rfl) (rest := []) (lenOf pd_5 rfl) rfl (by show 2 * 0 + _ ≤ _; exact Nat.le_of_eq rfl) (hb hby q36_1)
    refine gS st16 ?_
    obtain ⟨rfl, N16, e16⟩ := hQ16
    have N17 := Fr.app N0 N16
    refine gS (fun _ r => XS.iloadN X16.here hx rfl (hb hby q36_4) rfl  r) ?_
    refine gS (fun _ r => XS.icmpNo X16.here hx rfl (hb hby q36_5) rfl (teq (by decide)).2 r) ?_
    refine gS (fun _ r => XS.aloadN X16.here hx rfl (hb hby q36_8) rfl rfl r) ?_
    obtain ⟨T18, X18, e18, st18⟩ := getF X16 hx hZ hown (host := "") (Or.inl (own_w hw 36 rfl)) Via.refl e16 SFV (g := (mkF m 9 #[vR a1, vR a2, vN n, .val (.int (1 : Int32))] [(.ref a1)])) rfl rfl (hb hby q36_9)
    refine gS st18 ?_
    show Goes p ee below s _ _ _ (T18.setTop (mkF m 12 #[vR a1, vR a2, vN n, .val (.int (1 : Int32))] [(.ref bs)]))
    refine gS (fun _ r => XS.iconst X18.here hx rfl (hb hby q36_12) r) ?_
    refine gS (fun _ r => XS.aloadN X18.here hx rfl (hb hby q36_13) rfl rfl r) ?_
    refine gS (fun _ r => XS.iloadN X18.here hx rfl (hb hby q36_14) rfl  r) ?_
    refine gS (fun _ r => XS.iloadN X18.here hx rfl (hb hby q36_15) rfl  r) ?_
    refine gS (fun _ r => XT.ishl X18.here hx rfl (hb hby q36_16) rfl r) ?_
    show Goes p ee below s _ _ _ (T18.setTop (mkF m 17 #[vR a1, vR a2, vN n, .val (.int (1 : Int32))] [(.int ((Int32.ofNat n) <<< ((1 : Int32) &&& 31))), (.ref a2), (.int (0 : Int32)), (.ref bs)]))
    rw [own_shl1 n (by omega)]
    show Goes p ee below s _ _ _ (T18.setTop (mkF m 17 #[vR a1, vR a2, vN n, .val (.int (1 : Int32))] [(.int (Int32.ofNat (2 * n))), (.ref a2), (.int (0 : Int32)), (.ref bs)]))
    refine gS (fun _ r => XS.aloadN X18.here hx rfl (hb hby q36_17) rfl rfl r) ?_
    obtain ⟨T19, X19, e19, st19⟩ := getF X18 hx hZ hown (host := "") (Or.inl (own_w hw 36 rfl)) Via.refl e18 SFV (g := (mkF m 18 #[vR a1, vR a2, vN n, .val (.int (1 : Int32))] [(.ref a1), (.int (Int32.ofNat (2 * n))), (.ref a2), (.int (0 : Int32)), (.ref bs)])) rfl rfl (hb hby q36_18)
    refine gS st19 ?_
    refine gS (own_alen X19 hx hZ e19 SA (z := (Int32.ofNat (2 * q))) rfl (g := (mkF m 21 #[vR a1, vR a2, vN n, .val (.int (1 : Int32))] [(.ref bs), (.int (Int32.ofNat (2 * n))), (.ref a2), (.int (0 : Int32)), (.ref bs)])) rfl rfl (hb hby q36_21)) ?_
    obtain ⟨T20, h20, L20, X20, e20, Nc20, Kc20, Ac20, st20⟩ := own_copy X19 hx hZ hown (own_w hw 198 rfl) (own_w hw 201 rfl) (own_w hw 199 rfl) (own_w hw 200 rfl) e19 (sp := 0) (dp := (2 * n)) (nn := (2 * q)) SA A rfl (by omega) (by omega) N17 ge_a2 (g := (mkF m 22 #[vR a1, vR a2, vN n, .val (.int (1 : Int32))] [(.int (Int32.ofNat (2 * q))), (.int (Int32.ofNat (2 * n))), (.ref a2), (.int (0 : Int32)), (.ref bs)])) rfl (by rw [hml]; rfl) (rest := []) rfl (hb hby q36_22) (by decide) (W := 0) (by show 2 * 0 + _ ≤ _; exact Nat.le_of_eq rfl) (by decide)
    refine gS st20 ?_
    have SE := SE.keep Kc20
    have SFV := SFV.keep Kc20 (ninS ne12 nin0)
    have SFC := SFC.keep Kc20 (ninS ne12 nin0)
    have SA := SA.keep Kc20 (ninS neb2 nin0)
    have OO := OO.keep Kc20 (allS ge_a2 all0)
    have K21 := K0.trans Kc20 (allS (Or.inl (List.mem_of_getElem? (i := 0) rfl)) all0)
    have Zp22 := Nat.le_trans Z0 Kc20.1
    have A := Ac20
    refine gS (fun _ r => XS.goto X20.here hx rfl (pc0 := 25) (pc' := 43) rfl (hb hby q36_25) (by decide) (by decide) r) ?_
    show Goes p ee below s _ _ _ (T20.setTop (mkF m 43 #[vR a1, vR a2, vN n, .val (.int (1 : Int32))] []))
    refine Goes.retV X20 hx Bd.notSynchronized Bd.returns (hb hby q36_43) (by decide) (by decide) ?_
    rw [e20]
    exact ⟨rfl, Nc20, K21, _, A, own_put true n q c d f hf⟩
theorem ef_psa (m : MethodId) (x0 : Addr) (x1 : Int32) (x2 : Addr) : entryFrame m #[(.ref x0), (.int x1), (.ref x2)] 3 = mkF m 0 #[.val (.ref x0), .val (.int x1), .val (.ref x2)] [] := by first | (simp [entryFrame, mkF, argsToLocals, Value.category]; done) | rfl
theorem q37_0 : decode c37_ 0 = .ok (.aload_n 0, 1) := by decide +kernel
theorem q37_1 : decode c37_ 1 = .ok (.aload_n 2, 1) := by decide +kernel
theorem pd_21 : parseMethodDescriptor "(Ljava/lang/String;)V" = some ⟨[(.object "java/lang/String")], none⟩ := by decide +kernel
theorem q37_2 : decode c37_ 2 = .ok (.invokevirtual 397, 3) := by decide +kernel
theorem q37_5 : decode c37_ 5 = .ok (.aload_n 2, 1) := by decide +kernel
theorem q37_6 : decode c37_ 6 = .ok (.aload_n 0, 1) := by decide +kernel
theorem q37_7 : decode c37_ 7 = .ok (.getfield 15, 3) := by decide +kernel
theorem q37_10 : decode c37_ 10 = .ok (.iload_n 1, 1) := by decide +kernel
theorem q37_11 : decode c37_ 11 = .ok (.aload_n 0, 1) := by decide +kernel
theorem q37_12 : decode c37_ 12 = .ok (.getfield 22, 3) := by decide +kernel
theorem pd_22 : parseMethodDescriptor "([BIB)V" = some ⟨[(.array .byte), .int, .byte], none⟩ := by decide +kernel
theorem q37_15 : decode c37_ 15 = .ok (.invokevirtual 399, 3) := by decide +kernel
theorem q37_18 : decode c37_ 18 = .ok (.return_, 1) := by decide +kernel
def Q_psa (Z : State) (cs : Int32) (fm : Value) (a1 a2 b bs : Addr) (u u1 : Bool) (n q : Nat) (c d : Nat → Nat) (f : Nat → Value) (h0 : Heap) (n0 : Nat) (v : Option Value) (h : Heap) (L : List Loc) : Prop := v = none ∧ Fr n0 L ∧ Keep h0 h [a1, b] ∧ ∃ (b' : Addr) (f' : Nat → Value), (b' = b ∨ h0.size ≤ b') ∧ own_B Z h a1 b' (u || u1) n ∧ OA Z h b' .byte (own_len (u || u1) 16) f' ∧ ∀ j, j < own_len (u || u1) (n + q) → f' j = own_by (u || u1) (own_cat n c d) j
set_option maxRecDepth 65536 in
set_option maxHeartbeats 40000000 in
theorem rm_psa (l : Launch) (Z : State) (a0 : Array Value) (hw : ∀ d ∈ tables_1, d.before a0 Z = true) (ws : List Jvm.Cond) (cs : Int32) (fm : Value) (a1 a2 b bs : Addr) (u u1 : Bool) (n q : Nat) (c d : Nat → Nat) (f : Nat → Value) (h0 : Heap) (n0 : Nat) (Z0 : n0 ≤ h0.size) (ST : own_ST Z cs fm) (OO : Old Z n0 h0) (hnq : n + q ≤ 16) (hl : u = false → ∀ j, j < n → c j < 256) (hl1 : u1 = false → ∀ j, j < q → d j < 256) (ge_a1 : n0 ≤ a1) (ge_b : n0 ≤ b) (neab : a1 ≠ b) (ne12 : a1 ≠ a2) (neb1 : a1 ≠ bs) (nb2 : b ≠ a2) (nbb : b ≠ bs) (B : own_B Z h0 a1 b u n) (A : OA Z h0 b .byte (own_len u 16) f) (hf : ∀ j, j < own_len u n → f j = own_by u c j) (SE : Exa Z h0 a2 "java/lang/String") (SFV : Fld Z h0 a2 "java/lang/String" "value" "[B" (.ref bs)) (SFC : Fld Z h0 a2 "java/lang/String" "coder" "B" (.int (own_cd u1))) (SA : OA Z h0 bs .byte (own_len u1 q) (own_by u1 d)) :
    MetFree l (⟨"java/lang/AbstractStringBuilder", "putStringAt", "(ILjava/lang/String;)V"⟩ : MethodName) (head1 (Jvm.Cond.code (⟨"java/lang/AbstractStringBuilder", "putStringAt", "(ILjava/lang/String;)V"⟩ : MethodName) jdk_68_method_73_code 3 none :: ws) ({ frames := 7, cells := 1, slots := 32, locals := 102 } : Room)) (fun a U => a = #[(.ref a1), (.int (Int32.ofNat n)), (.ref a2)] ∧ Z.Warmed39 U.vm ∧ U.heap = h0) (fun _ _ _ _ _ => True) (fun _ U o U' => ∃ v L, o = .returned v ∧ Q_psa Z cs fm a1 a2 b bs u u1 n q c d f h0 n0 v U'.heap L ∧ FrameEnd U o U' L ({ frames := 7, cells := 1, slots := 32, locals := 102 } : Room).cells ({ frames := 7, cells := 1, slots := 32, locals := 102 } : Room).slots) := by
  refine MetFree.of_bodySF (plainFor_of_name pn_java_lang_AbstractStringBuilder) hisR ?_
  intro p ee s m args below meth cc s₁ Bd hml0 hP hK
  obtain ⟨rfl, hZ, hh⟩ := hP
  have hx := Bd.exec
  have hby := Bd.bytes
  have hml : cc.maxLocals = 3 := hml0
  have hown : s.vm.findClass "java/lang/AbstractStringBuilder" = some m.cls := findClass_of_methodNamed Bd.named
  have hnm := (name_of_methodNamed Bd.named Bd.method).1
  have X0 : Stand p l ee ({ frames := 7, cells := 1, slots := 32, locals := 102 } : Room) s m #[(.ref a1), (.int (Int32.ofNat n)), (.ref a2)] below meth cc s₁ [] 0 0 := Stand.of_body Bd
  have e0 : s₁.heap = h0 := by rw [← hh, Bd.state]; rfl
  have N0 := Fr.nil n0
  show Goes p ee below s ({ frames := 7, cells := 1, slots := 32, locals := 102 } : Room).cells ({ frames := 7, cells := 1, slots := 32, locals := 102 } : Room).slots (Q_psa Z cs fm a1 a2 b bs u u1 n q c d f h0 n0) (s₁.setTop (entryFrame m #[(.ref a1), (.int (Int32.ofNat n)), (.ref a2)] 3))
  refine gS (fun _ r => castTop (ef_psa m a1 (Int32.ofNat n) a2) r) ?_
  show Goes p ee below s _ _ _ (s₁.setTop (mkF m 0 #[vR a1, vN n, vR a2] []))
  obtain ⟨E, FV, FC, FN, FM⟩ := B
  show Goes p ee below s _ _ _ (s₁.setTop (mkF m 0 #[vR a1, vN n, vR a2] []))
  have K0 := Keep.refl h0 ([a1, b] : List Addr)
  refine gS (fun _ r => XS.aloadN X0.here hx rfl (hb hby q37_0) rfl rfl r) ?_
  refine gS (fun _ r => XS.aloadN X0.here hx rfl (hb hby q37_1) rfl rfl r) ?_
  have lt_a1 := E.lt
  have lt_b := A.lt
  have lt_a2 := SE.lt
  have lt_bs := SA.lt
  obtain ⟨v1, T1, L1, X1, hQ1, st1⟩ := own_callV X0 hx hZ (y := (⟨"java/lang/AbstractStringBuilder", "inflateIfNeededFor", "(Ljava/lang/String;)V"⟩ : MethodName)) hown (own_w hw 187 rfl) (own_declares (own_w hw 188 rfl) (own_w hw 191 rfl)) (own_w hw 190 rfl) (own_w hw 188 rfl) (own_w hw 135 rfl) (own_w hw 191 rfl) (by decide) (a := a1) (argsL := [(.ref a2)]) (rm_iin l Z a0 hw [] cs fm a1 a2 b u n c f u1 h0 n0 Z0 ST OO (by omega) hl ge_a1 neab ne12 ⟨E, FV, FC, FN, FM⟩ A hf SFC SE) e0 E (W := 0) (by decide) (by decide) (by decide) (by decide) (g := (mkF m 2 #[vR a1, vN n, vR a2] [(.ref a2), (.ref a1)])) rfl (by rw [hml]; rfl) (rest := []) (lenOf pd_21 rfl) rfl (by show 2 * 0 + _ ≤ _; exact Nat.le_of_eq rfl) (hb hby q37_2)
  refine gS st1 ?_
  obtain ⟨rfl, N1, Kc1, b1, f1, hb1, B1, A_b1, hf1⟩ := hQ1
  have ge_b1 : n0 ≤ b1 := own_ge2 hb1 ge_b Z0
  have kx_b1 := own_kx (ws := [a1, b]) hb1 (Or.inl (List.mem_of_getElem? (i := 1) rfl)) K0.1
  have ne_a1_b1 : a1 ≠ b1 := own_ne2 hb1 neab lt_a1
  have ne_a2_b1 : a2 ≠ b1 := own_ne2 hb1 (Ne.symm nb2) lt_a2
  have ne_bs_b1 : bs ≠ b1 := own_ne2 hb1 (Ne.symm nbb) lt_bs
  have N2 := Fr.app N0 N1
  obtain ⟨h1, e1⟩ : ∃ h', T1.heap = h' := ⟨_, rfl⟩
  rw [e1] at Kc1 B1 A_b1
  have SE := SE.keep Kc1
  have SFV := SFV.keep Kc1 (ninS (Ne.symm ne12) nin0)
  have SFC := SFC.keep Kc1 (ninS (Ne.symm ne12) nin0)
  have SA := SA.keep Kc1 (ninS (Ne.symm neb1) nin0)
  have OO := OO.keep Kc1 (allS ge_a1 all0)
  have K3 := K0.trans Kc1 (allS (Or.inl (List.mem_of_getElem? (i := 0) rfl)) all0)
  have Zp4 := Nat.le_trans Z0 Kc1.1
  obtain ⟨E1, FV1, FC1, FN1, FM1⟩ := B1
  refine gS (fun _ r => XS.aloadN X1.here hx rfl (hb hby q37_5) rfl rfl r) ?_
  refine gS (fun _ r => XS.aloadN X1.here hx rfl (hb hby q37_6) rfl rfl r) ?_
  obtain ⟨T5, X5, e5, st5⟩ := getF X1 hx hZ hown (host := "") (Or.inl (own_w hw 139 rfl)) Via.refl e1 FV1 (g := (mkF m 7 #[vR a1, vN n, vR a2] [(.ref a1), (.ref a2)])) rfl rfl (hb hby q37_7)
  refine gS st5 ?_
  show Goes p ee below s _ _ _ (T5.setTop (mkF m 10 #[vR a1, vN n, vR a2] [(.ref b1), (.ref a2)]))
  refine gS (fun _ r => XS.iloadN X5.here hx rfl (hb hby q37_10) rfl  r) ?_
  refine gS (fun _ r => XS.aloadN X5.here hx rfl (hb hby q37_11) rfl rfl r) ?_
  obtain ⟨T6, X6, e6, st6⟩ := getF X5 hx hZ hown (host := "") (Or.inl (own_w hw 141 rfl)) Via.refl e5 FC1 (g := (mkF m 12 #[vR a1, vN n, vR a2] [(.ref a1), (.int (Int32.ofNat n)), (.ref b1), (.ref a2)])) rfl rfl (hb hby q37_12)
  refine gS st6 ?_
  have lt_a2 := SE.lt
  have lt_bs := SA.lt
  have lt_a1 := E1.lt
  have lt_b1 := A_b1.lt
  obtain ⟨v7, T7, L7, X7, hQ7, st7⟩ := own_callV X6 hx hZ (y := (⟨"java/lang/String", "getBytes", "([BIB)V"⟩ : MethodName)) hown (own_w hw 193 rfl) (own_w hw 194 rfl) (own_w hw 196 rfl) (own_w hw 195 rfl) (own_w hw 10 rfl) (own_w hw 197 rfl) (by decide) (a := a2) (argsL := [(.ref b1), (.int (Int32.ofNat n)), (.int (own_cd (u || u1)))]) (rm_gby l Z a0 hw [] cs fm a2 bs b1 u1 (u || u1) n q c d _ h1 n0 Zp4 ST OO hnq (fun e1 => by rw [e1]; cases u <;> rfl) hl1 ne_a2_b1 ne_bs_b1 ge_b1 SE SFV SFC SA A_b1 hf1) e6 SE (W := 0) (by decide) (by decide) (by decide) (by decide) (g := (mkF m 15 #[vR a1, vN n, vR a2] [(.int (own_cd (u || u1))), (.int (Int32.ofNat n)), (.ref b1), (.ref a2)])) rfl (by rw [hml]; rfl) (rest := []) (lenOf pd_22 rfl) rfl (by show 2 * 0 + _ ≤ _; exact Nat.le_of_eq rfl) (hb hby q37_15)
  refine gS st7 ?_
  obtain ⟨rfl, N7, Kc7, f7, A_b1, hf7⟩ := hQ7
  have N8 := Fr.app N2 N7
  obtain ⟨h7, e7⟩ : ∃ h', T7.heap = h' := ⟨_, rfl⟩
  rw [e7] at Kc7 A_b1
  have SE := SE.keep Kc7
  have SFV := SFV.keep Kc7 (ninS ne_a2_b1 nin0)
  have SFC := SFC.keep Kc7 (ninS ne_a2_b1 nin0)
  have SA := SA.keep Kc7 (ninS ne_bs_b1 nin0)
  have E1 := E1.keep Kc7
  have FV1 := FV1.keep Kc7 (ninS ne_a1_b1 nin0)
  have FC1 := FC1.keep Kc7 (ninS ne_a1_b1 nin0)
  have FN1 := FN1.keep Kc7 (ninS ne_a1_b1 nin0)
  have FM1 := FM1.keep Kc7 (ninS ne_a1_b1 nin0)
  have OO := OO.keep Kc7 (allS ge_b1 all0)
  have K9 := K3.trans Kc7 (allS kx_b1 all0)
  have Zp10 := Nat.le_trans Zp4 Kc7.1
  show Goes p ee below s _ _ _ (T7.setTop (mkF m 18 #[vR a1, vN n, vR a2] []))
  refine Goes.retV X7 hx Bd.notSynchronized Bd.returns (hb hby q37_18) (by decide) (by decide) ?_
  rw [e7]
  exact ⟨rfl, N8, K9, b1, f7, hb1, ⟨E1, FV1, FC1, FN1, FM1⟩, A_b1, hf7⟩
theorem ef_bas (m : MethodId) (x0 : Addr) (x1 : Addr) : entryFrame m #[(.ref x0), (.ref x1)] 3 = mkF m 0 #[.val (.ref x0), .val (.ref x1), .unset] [] := by first | (simp [entryFrame, mkF, argsToLocals, Value.category]; done) | rfl
theorem q38_0 : decode c38_ 0 = .ok (.aload_n 1, 1) := by decide +kernel
theorem q38_1 : decode c38_ 1 = .ok (.ifnonnull 8, 3) := by decide +kernel
theorem q38_9 : decode c38_ 9 = .ok (.aload_n 1, 1) := by decide +kernel
theorem pd_23 : parseMethodDescriptor "()I" = some ⟨[], some .int⟩ := by decide +kernel
theorem q38_10 : decode c38_ 10 = .ok (.invokevirtual 32, 3) := by decide +kernel
theorem q38_13 : decode c38_ 13 = .ok (.istore_n 2, 1) := by decide +kernel
theorem q38_14 : decode c38_ 14 = .ok (.aload_n 0, 1) := by decide +kernel
theorem q38_15 : decode c38_ 15 = .ok (.aload_n 0, 1) := by decide +kernel
theorem q38_16 : decode c38_ 16 = .ok (.getfield 79, 3) := by decide +kernel
theorem q38_19 : decode c38_ 19 = .ok (.iload_n 2, 1) := by decide +kernel
theorem q38_20 : decode c38_ 20 = .ok (.iadd, 1) := by decide +kernel
theorem pd_24 : parseMethodDescriptor "(I)V" = some ⟨[.int], none⟩ := by decide +kernel
theorem q38_21 : decode c38_ 21 = .ok (.invokevirtual 100, 3) := by decide +kernel
theorem q38_24 : decode c38_ 24 = .ok (.aload_n 0, 1) := by decide +kernel
theorem q38_25 : decode c38_ 25 = .ok (.aload_n 0, 1) := by decide +kernel
theorem q38_26 : decode c38_ 26 = .ok (.getfield 79, 3) := by decide +kernel
theorem q38_29 : decode c38_ 29 = .ok (.aload_n 1, 1) := by decide +kernel
theorem pd_25 : parseMethodDescriptor "(ILjava/lang/String;)V" = some ⟨[.int, (.object "java/lang/String")], none⟩ := by decide +kernel
theorem q38_30 : decode c38_ 30 = .ok (.invokevirtual 208, 3) := by decide +kernel
theorem q38_33 : decode c38_ 33 = .ok (.aload_n 0, 1) := by decide +kernel
theorem q38_34 : decode c38_ 34 = .ok (.dup, 1) := by decide +kernel
theorem q38_35 : decode c38_ 35 = .ok (.getfield 79, 3) := by decide +kernel
theorem q38_38 : decode c38_ 38 = .ok (.iload_n 2, 1) := by decide +kernel
theorem q38_39 : decode c38_ 39 = .ok (.iadd, 1) := by decide +kernel
theorem q38_40 : decode c38_ 40 = .ok (.putfield 79, 3) := by decide +kernel
theorem q38_43 : decode c38_ 43 = .ok (.aload_n 0, 1) := by decide +kernel
theorem q38_44 : decode c38_ 44 = .ok (.areturn, 1) := by decide +kernel
def Q_bas (Z : State) (cs : Int32) (fm : Value) (a1 a2 b bs : Addr) (u u1 : Bool) (n q : Nat) (c d : Nat → Nat) (f : Nat → Value) (h0 : Heap) (n0 : Nat) (v : Option Value) (h : Heap) (L : List Loc) : Prop := v = some (.ref a1) ∧ Fr n0 L ∧ Keep h0 h [a1, b] ∧ ∃ (b' : Addr) (f' : Nat → Value), (b' = b ∨ h0.size ≤ b') ∧ own_B Z h a1 b' (u || u1) (n + q) ∧ OA Z h b' .byte (own_len (u || u1) 16) f' ∧ ∀ j, j < own_len (u || u1) (n + q) → f' j = own_by (u || u1) (own_cat n c d) j
set_option maxRecDepth 65536 in
set_option maxHeartbeats 40000000 in
theorem rm_bas (l : Launch) (Z : State) (a0 : Array Value) (hw : ∀ d ∈ tables_1, d.before a0 Z = true) (ws : List Jvm.Cond) (cs : Int32) (fm : Value) (a1 a2 b bs : Addr) (u u1 : Bool) (n q : Nat) (c d : Nat → Nat) (f : Nat → Value) (h0 : Heap) (n0 : Nat) (Z0 : n0 ≤ h0.size) (ST : own_ST Z cs fm) (OO : Old Z n0 h0) (hnq : n + q ≤ 16) (hl : u = false → ∀ j, j < n → c j < 256) (hl1 : u1 = false → ∀ j, j < q → d j < 256) (ge_a1 : n0 ≤ a1) (ge_b : n0 ≤ b) (neab : a1 ≠ b) (ne12 : a1 ≠ a2) (neb1 : a1 ≠ bs) (nb2 : b ≠ a2) (nbb : b ≠ bs) (B : own_B Z h0 a1 b u n) (A : OA Z h0 b .byte (own_len u 16) f) (hf : ∀ j, j < own_len u n → f j = own_by u c j) (SE : Exa Z h0 a2 "java/lang/String") (SFV : Fld Z h0 a2 "java/lang/String" "value" "[B" (.ref bs)) (SFC : Fld Z h0 a2 "java/lang/String" "coder" "B" (.int (own_cd u1))) (SA : OA Z h0 bs .byte (own_len u1 q) (own_by u1 d)) :
    MetFree l (⟨"java/lang/AbstractStringBuilder", "append", "(Ljava/lang/String;)Ljava/lang/AbstractStringBuilder;"⟩ : MethodName) (head1 (Jvm.Cond.code (⟨"java/lang/AbstractStringBuilder", "append", "(Ljava/lang/String;)Ljava/lang/AbstractStringBuilder;"⟩ : MethodName) jdk_68_method_22_code 3 (some (.object "java/lang/AbstractStringBuilder")) :: ws) ({ frames := 8, cells := 1, slots := 32, locals := 116 } : Room)) (fun a U => a = #[(.ref a1), (.ref a2)] ∧ Z.Warmed39 U.vm ∧ U.heap = h0) (fun _ _ _ _ _ => True) (fun _ U o U' => ∃ v L, o = .returned v ∧ Q_bas Z cs fm a1 a2 b bs u u1 n q c d f h0 n0 v U'.heap L ∧ FrameEnd U o U' L ({ frames := 8, cells := 1, slots := 32, locals := 116 } : Room).cells ({ frames := 8, cells := 1, slots := 32, locals := 116 } : Room).slots) := by
  refine MetFree.of_bodySF (plainFor_of_name pn_java_lang_AbstractStringBuilder) hisR ?_
  intro p ee s m args below meth cc s₁ Bd hml0 hP hK
  obtain ⟨rfl, hZ, hh⟩ := hP
  have hx := Bd.exec
  have hby := Bd.bytes
  have hml : cc.maxLocals = 3 := hml0
  have hown : s.vm.findClass "java/lang/AbstractStringBuilder" = some m.cls := findClass_of_methodNamed Bd.named
  have hnm := (name_of_methodNamed Bd.named Bd.method).1
  have X0 : Stand p l ee ({ frames := 8, cells := 1, slots := 32, locals := 116 } : Room) s m #[(.ref a1), (.ref a2)] below meth cc s₁ [] 0 0 := Stand.of_body Bd
  have e0 : s₁.heap = h0 := by rw [← hh, Bd.state]; rfl
  have N0 := Fr.nil n0
  show Goes p ee below s ({ frames := 8, cells := 1, slots := 32, locals := 116 } : Room).cells ({ frames := 8, cells := 1, slots := 32, locals := 116 } : Room).slots (Q_bas Z cs fm a1 a2 b bs u u1 n q c d f h0 n0) (s₁.setTop (entryFrame m #[(.ref a1), (.ref a2)] 3))
  refine gS (fun _ r => castTop (ef_bas m a1 a2) r) ?_
  show Goes p ee below s _ _ _ (s₁.setTop (mkF m 0 #[vR a1, vR a2, .unset] []))
  obtain ⟨E, FV, FC, FN, FM⟩ := B
  show Goes p ee below s _ _ _ (s₁.setTop (mkF m 0 #[vR a1, vR a2, .unset] []))
  have K0 := Keep.refl h0 ([a1, b] : List Addr)
  refine gS (fun _ r => XS.aloadN X0.here hx rfl (hb hby q38_0) rfl rfl r) ?_
  refine gS (fun _ r => XT.ifnonnullYes X0.here hx rfl (pc0 := 1) (pc' := 9) rfl (hb hby q38_1) rfl (by decide) (by decide) r) ?_
  refine gS (fun _ r => XS.aloadN X0.here hx rfl (hb hby q38_9) rfl rfl r) ?_
  have lt_a1 := E.lt
  have lt_b := A.lt
  have lt_a2 := SE.lt
  have lt_bs := SA.lt
  obtain ⟨v1, T1, L1, X1, hQ1, st1⟩ := own_callV X0 hx hZ (y := (⟨"java/lang/String", "length", "()I"⟩ : MethodName)) hown (own_w hw 174 rfl) (own_w hw 93 rfl) (own_w hw 95 rfl) (own_w hw 94 rfl) (own_w hw 10 rfl) (own_w hw 96 rfl) (by decide) (a := a2) (argsL := []) (rm_slen l Z a0 hw [] cs fm a2 bs u1 q d h0 n0 Z0 ST OO (by omega) SE SFV SFC SA) e0 SE (W := 0) (by decide) (by decide) (by decide) (by decide) (g := (mkF m 10 #[vR a1, vR a2, .unset] [(.ref a2)])) rfl (by rw [hml]; rfl) (rest := []) (lenOf pd_23 rfl) rfl (by show 2 * 0 + _ ≤ _; exact Nat.le_of_eq rfl) (hb hby q38_10)
  refine gS st1 ?_
  obtain ⟨rfl, N1, e1⟩ := hQ1
  have N2 := Fr.app N0 N1
  refine gS (fun _ r => XS.istoreN X1.here hx rfl (hb hby q38_13) rfl  (l' := #[vR a1, vR a2, vN q]) rfl r) ?_
  refine gS (fun _ r => XS.aloadN X1.here hx rfl (hb hby q38_14) rfl rfl r) ?_
  show Goes p ee below s _ _ _ (T1.setTop (mkF m 15 #[vR a1, vR a2, vN q] [(.ref a1)]))
  refine gS (fun _ r => XS.aloadN X1.here hx rfl (hb hby q38_15) rfl rfl r) ?_
  obtain ⟨T3, X3, e3, st3⟩ := getF X1 hx hZ hown (host := "") (Or.inl (own_w hw 175 rfl)) Via.refl e1 FN (g := (mkF m 16 #[vR a1, vR a2, vN q] [(.ref a1), (.ref a1)])) rfl rfl (hb hby q38_16)
  refine gS st3 ?_
  refine gS (fun _ r => XS.iloadN X3.here hx rfl (hb hby q38_19) rfl  r) ?_
  refine gS (fun _ r => XS.iadd X3.here hx rfl (hb hby q38_20) rfl r) ?_
  show Goes p ee below s _ _ _ (T3.setTop (mkF m 21 #[vR a1, vR a2, vN q] [(.int ((Int32.ofNat n) + (Int32.ofNat q))), (.ref a1)]))
  rw [own_addN n q]
  show Goes p ee below s _ _ _ (T3.setTop (mkF m 21 #[vR a1, vR a2, vN q] [(.int (Int32.ofNat (n + q))), (.ref a1)]))
  have lt_a1 := E.lt
  have lt_b := A.lt
  have lt_a2 := SE.lt
  have lt_bs := SA.lt
  obtain ⟨v4, T4, L4, X4, hQ4, st4⟩ := own_callV X3 hx hZ (y := (⟨"java/lang/AbstractStringBuilder", "ensureCapacityInternal", "(I)V"⟩ : MethodName)) hown (own_w hw 177 rfl) (own_declares (own_w hw 178 rfl) (own_w hw 181 rfl)) (own_w hw 180 rfl) (own_w hw 178 rfl) (own_w hw 135 rfl) (own_w hw 181 rfl) (by decide) (a := a1) (argsL := [(.int (Int32.ofNat (n + q)))]) (rm_ens l Z a0 hw [] cs fm a1 b u n (n + q) _ h0 n0 Z0 ST OO (by omega) ⟨E, FV, FC, FN, FM⟩ A) e3 E (W := 0) (by decide) (by decide) (by decide) (by decide) (g := (mkF m 21 #[vR a1, vR a2, vN q] [(.int (Int32.ofNat (n + q))), (.ref a1)])) rfl (by rw [hml]; rfl) (rest := []) (lenOf pd_24 rfl) rfl (by show 2 * 0 + _ ≤ _; exact Nat.le_of_eq rfl) (hb hby q38_21)
  refine gS st4 ?_
  obtain ⟨rfl, N4, e4⟩ := hQ4
  have N5 := Fr.app N2 N4
  refine gS (fun _ r => XS.aloadN X4.here hx rfl (hb hby q38_24) rfl rfl r) ?_
  refine gS (fun _ r => XS.aloadN X4.here hx rfl (hb hby q38_25) rfl rfl r) ?_
  obtain ⟨T6, X6, e6, st6⟩ := getF X4 hx hZ hown (host := "") (Or.inl (own_w hw 175 rfl)) Via.refl e4 FN (g := (mkF m 26 #[vR a1, vR a2, vN q] [(.ref a1), (.ref a1)])) rfl rfl (hb hby q38_26)
  refine gS st6 ?_
  refine gS (fun _ r => XS.aloadN X6.here hx rfl (hb hby q38_29) rfl rfl r) ?_
  have lt_a1 := E.lt
  have lt_b := A.lt
  have lt_a2 := SE.lt
  have lt_bs := SA.lt
  obtain ⟨v7, T7, L7, X7, hQ7, st7⟩ := own_callV X6 hx hZ (y := (⟨"java/lang/AbstractStringBuilder", "putStringAt", "(ILjava/lang/String;)V"⟩ : MethodName)) hown (own_w hw 182 rfl) (own_declares (own_w hw 183 rfl) (own_w hw 186 rfl)) (own_w hw 185 rfl) (own_w hw 183 rfl) (own_w hw 135 rfl) (own_w hw 186 rfl) (by decide) (a := a1) (argsL := [(.int (Int32.ofNat n)), (.ref a2)]) (rm_psa l Z a0 hw [] cs fm a1 a2 b bs u u1 n q c d f h0 n0 Z0 ST OO hnq hl hl1 ge_a1 ge_b neab ne12 neb1 nb2 nbb ⟨E, FV, FC, FN, FM⟩ A hf SE SFV SFC SA) e6 E (W := 0) (by decide) (by decide) (by decide) (by decide) (g := (mkF m 30 #[vR a1, vR a2, vN q] [(.ref a2), (.int (Int32.ofNat n)), (.ref a1)])) rfl (by rw [hml]; rfl) (rest := []) (lenOf pd_25 rfl) rfl (by show 2 * 0 + _ ≤ _; exact Nat.le_of_eq rfl) (hb hby q38_30)
  refine gS st7 ?_
  obtain ⟨rfl, N7, Kc7, b7, f7, hb7, B7, A_b7, hf7⟩ := hQ7
  have ge_b7 : n0 ≤ b7 := own_ge2 hb7 ge_b Z0
  have kx_b7 := own_kx (ws := [a1, b]) hb7 (Or.inl (List.mem_of_getElem? (i := 1) rfl)) K0.1
  have ne_a1_b7 : a1 ≠ b7 := own_ne2 hb7 neab lt_a1
  have ne_a2_b7 : a2 ≠ b7 := own_ne2 hb7 (Ne.symm nb2) lt_a2
  have ne_bs_b7 : bs ≠ b7 := own_ne2 hb7 (Ne.symm nbb) lt_bs
  have N8 := Fr.app N5 N7
  obtain ⟨h7, e7⟩ : ∃ h', T7.heap = h' := ⟨_, rfl⟩
  rw [e7] at Kc7 B7 A_b7
  have SE := SE.keep Kc7
  have SFV := SFV.keep Kc7 (ninS (Ne.symm ne12) (ninS (Ne.symm nb2) nin0))
  have SFC := SFC.keep Kc7 (ninS (Ne.symm ne12) (ninS (Ne.symm nb2) nin0))
  have SA := SA.keep Kc7 (ninS (Ne.symm neb1) (ninS (Ne.symm nbb) nin0))
  have OO := OO.keep Kc7 (allS ge_a1 (allS ge_b all0))
  have K9 := K0.trans Kc7 (allS (Or.inl (List.mem_of_getElem? (i := 0) rfl)) (allS (Or.inl (List.mem_of_getElem? (i := 1) rfl)) all0))
  have Zp10 := Nat.le_trans Z0 Kc7.1
  obtain ⟨E7, FV7, FC7, FN7, FM7⟩ := B7
  show Goes p ee below s _ _ _ (T7.setTop (mkF m 33 #[vR a1, vR a2, vN q] []))
  refine gS (fun _ r => XS.aloadN X7.here hx rfl (hb hby q38_33) rfl rfl r) ?_
  refine gS (fun _ r => XS.dup X7.here hx rfl (hb hby q38_34) rfl rfl r) ?_
  obtain ⟨T11, X11, e11, st11⟩ := getF X7 hx hZ hown (host := "") (Or.inl (own_w hw 175 rfl)) Via.refl e7 FN7 (g := (mkF m 35 #[vR a1, vR a2, vN q] [(.ref a1), (.ref a1)])) rfl rfl (hb hby q38_35)
  refine gS st11 ?_
  refine gS (fun _ r => XS.iloadN X11.here hx rfl (hb hby q38_38) rfl  r) ?_
  refine gS (fun _ r => XS.iadd X11.here hx rfl (hb hby q38_39) rfl r) ?_
  show Goes p ee below s _ _ _ (T11.setTop (mkF m 40 #[vR a1, vR a2, vN q] [(.int ((Int32.ofNat n) + (Int32.ofNat q))), (.ref a1)]))
  rw [own_addN n q]
  show Goes p ee below s _ _ _ (T11.setTop (mkF m 40 #[vR a1, vR a2, vN q] [(.int (Int32.ofNat (n + q))), (.ref a1)]))
  obtain ⟨T12, h12, X12, e12, W12, st12⟩ := putF X11 hx hZ hown (host := "") (Or.inl (own_w hw 175 rfl)) Via.refl e11 FN7 E7 (Or.inl (own_w hw 176 rfl)) (own_w hw 126 rfl) (ty := .int) (by decide) rfl rfl (g := (mkF m 40 #[vR a1, vR a2, vN q] [(.int (Int32.ofNat (n + q))), (.ref a1)])) rfl rfl (hb hby q38_40)
  refine gS st12 ?_
  have SE := SE.wr W12
  have SFV := SFV.other W12 (Or.inl (Ne.symm ne12))
  have SFC := SFC.other W12 (Or.inl (Ne.symm ne12))
  have SA := SA.other W12 (Ne.symm neb1)
  have E7 := E7.wr W12
  have FV7 := FV7.other W12 (Or.inr (slot_ne (Or.inl (own_w hw 140 rfl)) (Or.inl (own_w hw 176 rfl)) (by decide) (t := (.array .byte)) (t' := .int) (by decide) (by decide)))
  have FC7 := FC7.other W12 (Or.inr (slot_ne (Or.inl (own_w hw 142 rfl)) (Or.inl (own_w hw 176 rfl)) (by decide) (t := .byte) (t' := .int) (by decide) (by decide)))
  have FM7 := FM7.other W12 (Or.inr (slot_ne (Or.inl (own_w hw 331 rfl)) (Or.inl (own_w hw 176 rfl)) (by decide) (t := .boolean) (t' := .int) (by decide) (by decide)))
  have A_b7 := A_b7.other W12 (Ne.symm ne_a1_b7)
  have Zp13 := Nat.le_trans Zp10 (Keep.of_wr W12).1
  have FN7 := FN7.same W12
  have N14 := Fr.snoc X12 N8 ge_a1
  have OO := OO.wr W12 ge_a1
  have K15 := K9.wr W12 (Or.inl (List.mem_of_getElem? (i := 0) rfl))
  show Goes p ee below s _ _ _ (T12.setTop (mkF m 43 #[vR a1, vR a2, vN q] []))
  refine gS (fun _ r => XS.aloadN X12.here hx rfl (hb hby q38_43) rfl rfl r) ?_
  show Goes p ee below s _ _ _ (T12.setTop (mkF m 44 #[vR a1, vR a2, vN q] [(.ref a1)]))
  refine Goes.retA X12 hx Bd.notSynchronized Bd.returns rfl rfl (hb hby q38_44) (by decide) (by decide) ?_
  rw [e12]
  exact ⟨rfl, N14, K15, b7, f7, hb7, ⟨E7, FV7, FC7, FN7, FM7⟩, A_b7, hf7⟩
theorem ef_sas (m : MethodId) (x0 : Addr) (x1 : Addr) : entryFrame m #[(.ref x0), (.ref x1)] 2 = mkF m 0 #[.val (.ref x0), .val (.ref x1)] [] := by first | (simp [entryFrame, mkF, argsToLocals, Value.category]; done) | rfl
theorem pn_java_lang_StringBuilder : plainName "java/lang/StringBuilder" = true := by first | (simp [plainName, overriddenIn]; done) | decide +kernel
theorem q39_0 : decode c39_ 0 = .ok (.aload_n 0, 1) := by decide +kernel
theorem q39_1 : decode c39_ 1 = .ok (.aload_n 1, 1) := by decide +kernel
theorem pd_26 : parseMethodDescriptor "(Ljava/lang/String;)Ljava/lang/AbstractStringBuilder;" = some ⟨[(.object "java/lang/String")], some (.object "java/lang/AbstractStringBuilder")⟩ := by decide +kernel
theorem q39_2 : decode c39_ 2 = .ok (.invokespecial 29, 3) := by decide +kernel
theorem q39_5 : decode c39_ 5 = .ok (.pop, 1) := by decide +kernel
theorem q39_6 : decode c39_ 6 = .ok (.aload_n 0, 1) := by decide +kernel
theorem q39_7 : decode c39_ 7 = .ok (.areturn, 1) := by decide +kernel
def Q_sas (Z : State) (cs : Int32) (fm : Value) (a1 a2 b bs : Addr) (u u1 : Bool) (n q : Nat) (c d : Nat → Nat) (f : Nat → Value) (h0 : Heap) (n0 : Nat) (v : Option Value) (h : Heap) (L : List Loc) : Prop := v = some (.ref a1) ∧ Fr n0 L ∧ Keep h0 h [a1, b] ∧ ∃ (b' : Addr) (f' : Nat → Value), (b' = b ∨ h0.size ≤ b') ∧ own_B Z h a1 b' (u || u1) (n + q) ∧ OA Z h b' .byte (own_len (u || u1) 16) f' ∧ ∀ j, j < own_len (u || u1) (n + q) → f' j = own_by (u || u1) (own_cat n c d) j
set_option maxRecDepth 65536 in
set_option maxHeartbeats 40000000 in
theorem rm_sas (l : Launch) (Z : State) (a0 : Array Value) (hw : ∀ d ∈ tables_1, d.before a0 Z = true) (ws : List Jvm.Cond) (cs : Int32) (fm : Value) (a1 a2 b bs : Addr) (u u1 : Bool) (n q : Nat) (c d : Nat → Nat) (f : Nat → Value) (h0 : Heap) (n0 : Nat) (Z0 : n0 ≤ h0.size) (ST : own_ST Z cs fm) (OO : Old Z n0 h0) (hnq : n + q ≤ 16) (hl : u = false → ∀ j, j < n → c j < 256) (hl1 : u1 = false → ∀ j, j < q → d j < 256) (ge_a1 : n0 ≤ a1) (ge_b : n0 ≤ b) (neab : a1 ≠ b) (ne12 : a1 ≠ a2) (neb1 : a1 ≠ bs) (nb2 : b ≠ a2) (nbb : b ≠ bs) (B : own_B Z h0 a1 b u n) (A : OA Z h0 b .byte (own_len u 16) f) (hf : ∀ j, j < own_len u n → f j = own_by u c j) (SE : Exa Z h0 a2 "java/lang/String") (SFV : Fld Z h0 a2 "java/lang/String" "value" "[B" (.ref bs)) (SFC : Fld Z h0 a2 "java/lang/String" "coder" "B" (.int (own_cd u1))) (SA : OA Z h0 bs .byte (own_len u1 q) (own_by u1 d)) :
    MetFree l (⟨"java/lang/StringBuilder", "append", "(Ljava/lang/String;)Ljava/lang/StringBuilder;"⟩ : MethodName) (head1 (Jvm.Cond.code (⟨"java/lang/StringBuilder", "append", "(Ljava/lang/String;)Ljava/lang/StringBuilder;"⟩ : MethodName) jdk_67_method_7_code 2 (some (.object "java/lang/StringBuilder")) :: ws) ({ frames := 9, cells := 1, slots := 32, locals := 130 } : Room)) (fun a U => a = #[(.ref a1), (.ref a2)] ∧ Z.Warmed39 U.vm ∧ U.heap = h0) (fun _ _ _ _ _ => True) (fun _ U o U' => ∃ v L, o = .returned v ∧ Q_sas Z cs fm a1 a2 b bs u u1 n q c d f h0 n0 v U'.heap L ∧ FrameEnd U o U' L ({ frames := 9, cells := 1, slots := 32, locals := 130 } : Room).cells ({ frames := 9, cells := 1, slots := 32, locals := 130 } : Room).slots) := by
  refine MetFree.of_bodySF (plainFor_of_name pn_java_lang_StringBuilder) hisR ?_
  intro p ee s m args below meth cc s₁ Bd hml0 hP hK
  obtain ⟨rfl, hZ, hh⟩ := hP
  have hx := Bd.exec
  have hby := Bd.bytes
  have hml : cc.maxLocals = 2 := hml0
  have hown : s.vm.findClass "java/lang/StringBuilder" = some m.cls := findClass_of_methodNamed Bd.named
  have hnm := (name_of_methodNamed Bd.named Bd.method).1
  have X0 : Stand p l ee ({ frames := 9, cells := 1, slots := 32, locals := 130 } : Room) s m #[(.ref a1), (.ref a2)] below meth cc s₁ [] 0 0 := Stand.of_body Bd
  have e0 : s₁.heap = h0 := by rw [← hh, Bd.state]; rfl
  have N0 := Fr.nil n0
  show Goes p ee below s ({ frames := 9, cells := 1, slots := 32, locals := 130 } : Room).cells ({ frames := 9, cells := 1, slots := 32, locals := 130 } : Room).slots (Q_sas Z cs fm a1 a2 b bs u u1 n q c d f h0 n0) (s₁.setTop (entryFrame m #[(.ref a1), (.ref a2)] 2))
  refine gS (fun _ r => castTop (ef_sas m a1 a2) r) ?_
  show Goes p ee below s _ _ _ (s₁.setTop (mkF m 0 #[vR a1, vR a2] []))
  obtain ⟨E, FV, FC, FN, FM⟩ := B
  show Goes p ee below s _ _ _ (s₁.setTop (mkF m 0 #[vR a1, vR a2] []))
  have K0 := Keep.refl h0 ([a1, b] : List Addr)
  refine gS (fun _ r => XS.aloadN X0.here hx rfl (hb hby q39_0) rfl rfl r) ?_
  refine gS (fun _ r => XS.aloadN X0.here hx rfl (hb hby q39_1) rfl rfl r) ?_
  have lt_a1 := E.lt
  have lt_b := A.lt
  have lt_a2 := SE.lt
  have lt_bs := SA.lt
  obtain ⟨v1, T1, L1, X1, hQ1, st1⟩ := own_callUp X0 hx hZ (y := (⟨"java/lang/AbstractStringBuilder", "append", "(Ljava/lang/String;)Ljava/lang/AbstractStringBuilder;"⟩ : MethodName)) hown (own_w hw 169 rfl) (own_w hw 180 rfl) rfl (own_w hw 170 rfl) (own_w hw 171 rfl) (by decide) (own_w hw 135 rfl) (own_w hw 173 rfl) (by decide) (a := a1) (argsL := [(.ref a2)]) (rm_bas l Z a0 hw [] cs fm a1 a2 b bs u u1 n q c d f h0 n0 Z0 ST OO hnq hl hl1 ge_a1 ge_b neab ne12 neb1 nb2 nbb ⟨E, FV, FC, FN, FM⟩ A hf SE SFV SFC SA) e0 E (W := 0) (by decide) (by decide) (by decide) (by decide) (g := (mkF m 2 #[vR a1, vR a2] [(.ref a2), (.ref a1)])) rfl (by rw [hml]; rfl) (rest := []) (lenOf pd_26 rfl) rfl (by show 2 * 0 + _ ≤ _; exact Nat.le_of_eq rfl) (hb hby q39_2)
  refine gS st1 ?_
  obtain ⟨rfl, N1, Kc1, b1, f1, hb1, B1, A_b1, hf1⟩ := hQ1
  have ge_b1 : n0 ≤ b1 := own_ge2 hb1 ge_b Z0
  have kx_b1 := own_kx (ws := [a1, b]) hb1 (Or.inl (List.mem_of_getElem? (i := 1) rfl)) K0.1
  have ne_a1_b1 : a1 ≠ b1 := own_ne2 hb1 neab lt_a1
  have ne_a2_b1 : a2 ≠ b1 := own_ne2 hb1 (Ne.symm nb2) lt_a2
  have ne_bs_b1 : bs ≠ b1 := own_ne2 hb1 (Ne.symm nbb) lt_bs
  have N2 := Fr.app N0 N1
  obtain ⟨h1, e1⟩ : ∃ h', T1.heap = h' := ⟨_, rfl⟩
  rw [e1] at Kc1 B1 A_b1
  have SE := SE.keep Kc1
  have SFV := SFV.keep Kc1 (ninS (Ne.symm ne12) (ninS (Ne.symm nb2) nin0))
  have SFC := SFC.keep Kc1 (ninS (Ne.symm ne12) (ninS (Ne.symm nb2) nin0))
  have SA := SA.keep Kc1 (ninS (Ne.symm neb1) (ninS (Ne.symm nbb) nin0))
  have OO := OO.keep Kc1 (allS ge_a1 (allS ge_b all0))
  have K3 := K0.trans Kc1 (allS (Or.inl (List.mem_of_getElem? (i := 0) rfl)) (allS (Or.inl (List.mem_of_getElem? (i := 1) rfl)) all0))
  have Zp4 := Nat.le_trans Z0 Kc1.1
  obtain ⟨E1, FV1, FC1, FN1, FM1⟩ := B1
  refine gS (fun _ r => XT.pop X1.here hx rfl (hb hby q39_5) rfl rfl r) ?_
  refine gS (fun _ r => XS.aloadN X1.here hx rfl (hb hby q39_6) rfl rfl r) ?_
  show Goes p ee below s _ _ _ (T1.setTop (mkF m 7 #[vR a1, vR a2] [(.ref a1)]))
  refine Goes.retA X1 hx Bd.notSynchronized Bd.returns rfl rfl (hb hby q39_7) (by decide) (by decide) ?_
  rw [e1]
  exact ⟨rfl, N2, K3, b1, f1, hb1, ⟨E1, FV1, FC1, FN1, FM1⟩, A_b1, hf1⟩
theorem ef_canc (m : MethodId) (x0 : Int32) : entryFrame m #[(.int x0)] 1 = mkF m 0 #[.val (.int x0)] [] := by first | (simp [entryFrame, mkF, argsToLocals, Value.category]; done) | rfl
theorem q40_0 : decode c40_ 0 = .ok (.iload_n 0, 1) := by decide +kernel
theorem q40_1 : decode c40_ 1 = .ok (.sipush 255, 3) := by decide +kernel
theorem q40_4 : decode c40_ 4 = .ok (.if_icmp .gt 7, 3) := by decide +kernel
theorem q40_11 : decode c40_ 11 = .ok (.iconst 0, 1) := by decide +kernel
theorem q40_12 : decode c40_ 12 = .ok (.ireturn, 1) := by decide +kernel
theorem q40_7 : decode c40_ 7 = .ok (.iconst 1, 1) := by decide +kernel
theorem q40_8 : decode c40_ 8 = .ok (.goto 4, 3) := by decide +kernel
def Q_canc (Z : State) (k : Nat) (h0 : Heap) (n0 : Nat) (v : Option Value) (h : Heap) (L : List Loc) : Prop := v = some (.int (if k < 256 then 1 else 0)) ∧ Fr n0 L ∧ h = h0
set_option maxRecDepth 65536 in
set_option maxHeartbeats 40000000 in
theorem rm_canc (l : Launch) (Z : State) (a0 : Array Value) (hw : ∀ d ∈ tables_1, d.before a0 Z = true) (ws : List Jvm.Cond) (k : Nat) (h0 : Heap) (n0 : Nat) (Z0 : n0 ≤ h0.size) (hk : k < 65536) :
    MetFree l (⟨"java/lang/StringLatin1", "canEncode", "(C)Z"⟩ : MethodName) (head1 (Jvm.Cond.code (⟨"java/lang/StringLatin1", "canEncode", "(C)Z"⟩ : MethodName) jdk_43_method_3_code 1 (some .boolean) :: ws) ({ frames := 0, cells := 0, slots := 0, locals := 0 } : Room)) (fun a U => a = #[(.int (Int32.ofNat k))] ∧ Z.Warmed39 U.vm ∧ U.heap = h0) (fun _ _ _ _ _ => True) (fun _ U o U' => ∃ v L, o = .returned v ∧ Q_canc Z k h0 n0 v U'.heap L ∧ FrameEnd U o U' L ({ frames := 0, cells := 0, slots := 0, locals := 0 } : Room).cells ({ frames := 0, cells := 0, slots := 0, locals := 0 } : Room).slots) := by
  refine MetFree.of_bodySF (plainFor_of_name pn_java_lang_StringLatin1) hisR ?_
  intro p ee s m args below meth cc s₁ Bd hml0 hP hK
  obtain ⟨rfl, hZ, hh⟩ := hP
  have hx := Bd.exec
  have hby := Bd.bytes
  have hml : cc.maxLocals = 1 := hml0
  have hown : s.vm.findClass "java/lang/StringLatin1" = some m.cls := findClass_of_methodNamed Bd.named
  have hnm := (name_of_methodNamed Bd.named Bd.method).1
  have X0 : Stand p l ee ({ frames := 0, cells := 0, slots := 0, locals := 0 } : Room) s m #[(.int (Int32.ofNat k))] below meth cc s₁ [] 0 0 := Stand.of_body Bd
  have e0 : s₁.heap = h0 := by rw [← hh, Bd.state]; rfl
  have N0 := Fr.nil n0
  show Goes p ee below s ({ frames := 0, cells := 0, slots := 0, locals := 0 } : Room).cells ({ frames := 0, cells := 0, slots := 0, locals := 0 } : Room).slots (Q_canc Z k h0 n0) (s₁.setTop (entryFrame m #[(.int (Int32.ofNat k))] 1))
  refine gS (fun _ r => castTop (ef_canc m (Int32.ofNat k)) r) ?_
  show Goes p ee below s _ _ _ (s₁.setTop (mkF m 0 #[vN k] []))
  refine gS (fun _ r => XS.iloadN X0.here hx rfl (hb hby q40_0) rfl  r) ?_
  refine gS (fun _ r => XS.sipush X0.here hx rfl (hb hby q40_1) r) ?_
  by_cases hn4_1 : 255 < k
  · refine gS (fun _ r => XS.icmpYes X0.here hx rfl (pc0 := 4) (pc' := 11) rfl (hb hby q40_4) rfl (tlt ((own_ltN 255 k (by decide) (by omega)).mpr hn4_1)).2.2.1 (by decide) (by decide) r) ?_
    refine gS (fun _ r => XS.iconst X0.here hx rfl (hb hby q40_11) r) ?_
    show Goes p ee below s _ _ _ (s₁.setTop (mkF m 12 #[vN k] [(.int (0 : Int32))]))
    refine Goes.retZ X0 hx Bd.notSynchronized Bd.returns (by simp) rfl (hb hby q40_12) (by decide) (by decide) ?_
    exact ⟨by rw [if_neg (by omega)], N0, e0⟩
  · refine gS (fun _ r => XS.icmpNo X0.here hx rfl (hb hby q40_4) rfl (flt (fun z => hn4_1 ((own_ltN 255 k (by decide) (by omega)).mp z))).2.2.1 r) ?_
    refine gS (fun _ r => XS.iconst X0.here hx rfl (hb hby q40_7) r) ?_
    refine gS (fun _ r => XS.goto X0.here hx rfl (pc0 := 8) (pc' := 12) rfl (hb hby q40_8) (by decide) (by decide) r) ?_
    show Goes p ee below s _ _ _ (s₁.setTop (mkF m 12 #[vN k] [(.int (1 : Int32))]))
    refine Goes.retZ X0 hx Bd.notSynchronized Bd.returns (by simp) rfl (hb hby q40_12) (by decide) (by decide) ?_
    exact ⟨by rw [if_pos (by omega)], N0, e0⟩
theorem ef_pcs (m : MethodId) (x0 : Addr) (x1 : Int32) (x2 : Int32) : entryFrame m #[(.ref x0), (.int x1), (.int x2)] 3 = mkF m 0 #[.val (.ref x0), .val (.int x1), .val (.int x2)] [] := by first | (simp [entryFrame, mkF, argsToLocals, Value.category]; done) | rfl
theorem q41_0 : decode c41_ 0 = .ok (.iload_n 1, 1) := by decide +kernel
theorem q41_1 : decode c41_ 1 = .ok (.aload_n 0, 1) := by decide +kernel
theorem q41_2 : decode c41_ 2 = .ok (.invokestatic 67, 3) := by decide +kernel
theorem q41_5 : decode c41_ 5 = .ok (.aload_n 0, 1) := by decide +kernel
theorem q41_6 : decode c41_ 6 = .ok (.iload_n 1, 1) := by decide +kernel
theorem q41_7 : decode c41_ 7 = .ok (.iload_n 2, 1) := by decide +kernel
theorem q41_8 : decode c41_ 8 = .ok (.invokestatic 111, 3) := by decide +kernel
theorem q41_11 : decode c41_ 11 = .ok (.return_, 1) := by decide +kernel
def Q_pcs (Z : State) (cs : Int32) (fm : Value) (a1 : Addr) (i k n : Nat) (f : Nat → Value) (h0 : Heap) (n0 : Nat) (v : Option Value) (h : Heap) (L : List Loc) : Prop := v = none ∧ Fr n0 L ∧ Keep h0 h [a1] ∧ OA Z h a1 .byte (2 * n) (fun j => if j = 2 * i + 1 then .int (own_bt (k / 256)) else if j = 2 * i then .int (own_bt k) else f j)
set_option maxRecDepth 65536 in
set_option maxHeartbeats 40000000 in
theorem rm_pcs (l : Launch) (Z : State) (a0 : Array Value) (hw : ∀ d ∈ tables_1, d.before a0 Z = true) (ws : List Jvm.Cond) (cs : Int32) (fm : Value) (a1 : Addr) (i k n : Nat) (f : Nat → Value) (h0 : Heap) (n0 : Nat) (Z0 : n0 ≤ h0.size) (ST : own_ST Z cs fm) (OO : Old Z n0 h0) (hi : i < n) (hk : k < 65536) (hn : n < 2 ^ 30) (ge_a1 : n0 ≤ a1) (A : OA Z h0 a1 .byte (2 * n) f) :
    MetFree l (⟨"java/lang/StringUTF16", "putCharSB", "([BII)V"⟩ : MethodName) (head1 (Jvm.Cond.code (⟨"java/lang/StringUTF16", "putCharSB", "([BII)V"⟩ : MethodName) jdk_52_method_71_code 3 none :: ws) ({ frames := 3, cells := 0, slots := 0, locals := 40 } : Room)) (fun a U => a = #[(.ref a1), (.int (Int32.ofNat i)), (.int (Int32.ofNat k))] ∧ Z.Warmed39 U.vm ∧ U.heap = h0) (fun _ _ _ _ _ => True) (fun _ U o U' => ∃ v L, o = .returned v ∧ Q_pcs Z cs fm a1 i k n f h0 n0 v U'.heap L ∧ FrameEnd U o U' L ({ frames := 3, cells := 0, slots := 0, locals := 40 } : Room).cells ({ frames := 3, cells := 0, slots := 0, locals := 40 } : Room).slots) := by
  refine MetFree.of_bodySF (plainFor_of_name pn_java_lang_StringUTF16) hisR ?_
  intro p ee s m args below meth cc s₁ Bd hml0 hP hK
  obtain ⟨rfl, hZ, hh⟩ := hP
  have hx := Bd.exec
  have hby := Bd.bytes
  have hml : cc.maxLocals = 3 := hml0
  have hown : s.vm.findClass "java/lang/StringUTF16" = some m.cls := findClass_of_methodNamed Bd.named
  have hnm := (name_of_methodNamed Bd.named Bd.method).1
  have X0 : Stand p l ee ({ frames := 3, cells := 0, slots := 0, locals := 40 } : Room) s m #[(.ref a1), (.int (Int32.ofNat i)), (.int (Int32.ofNat k))] below meth cc s₁ [] 0 0 := Stand.of_body Bd
  have e0 : s₁.heap = h0 := by rw [← hh, Bd.state]; rfl
  have N0 := Fr.nil n0
  show Goes p ee below s ({ frames := 3, cells := 0, slots := 0, locals := 40 } : Room).cells ({ frames := 3, cells := 0, slots := 0, locals := 40 } : Room).slots (Q_pcs Z cs fm a1 i k n f h0 n0) (s₁.setTop (entryFrame m #[(.ref a1), (.int (Int32.ofNat i)), (.int (Int32.ofNat k))] 3))
  refine gS (fun _ r => castTop (ef_pcs m a1 (Int32.ofNat i) (Int32.ofNat k)) r) ?_
  show Goes p ee below s _ _ _ (s₁.setTop (mkF m 0 #[vR a1, vN i, vN k] []))
  have K0 := Keep.refl h0 ([a1] : List Addr)
  refine gS (fun _ r => XS.iloadN X0.here hx rfl (hb hby q41_0) rfl  r) ?_
  refine gS (fun _ r => XS.aloadN X0.here hx rfl (hb hby q41_1) rfl rfl r) ?_
  have lt_a1 := A.lt
  obtain ⟨v1, T1, L1, X1, hQ1, st1⟩ := own_callS X0 hx hZ (y := (⟨"java/lang/StringUTF16", "checkIndex", "(I[B)V"⟩ : MethodName)) hown (own_w hw 296 rfl) (own_w hw 297 rfl) (own_w hw 25 rfl) (own_w hw 298 rfl) (by decide) (argsL := [(.int (Int32.ofNat i)), (.ref a1)]) (rm_u16ci l Z a0 hw [] cs fm i a1 n _ h0 n0 Z0 ST OO hi hn A) e0 (W := 0) (by decide) (by decide) (by decide) (by decide) (g := (mkF m 2 #[vR a1, vN i, vN k] [(.ref a1), (.int (Int32.ofNat i))])) rfl (by rw [hml]; rfl) (rest := []) (lenOf pd_3 rfl) rfl (by show 2 * 0 + _ ≤ _; exact Nat.le_of_eq rfl) (hb hby q41_2)
  refine gS st1 ?_
  obtain ⟨rfl, N1, e1⟩ := hQ1
  have N2 := Fr.app N0 N1
  refine gS (fun _ r => XS.aloadN X1.here hx rfl (hb hby q41_5) rfl rfl r) ?_
  refine gS (fun _ r => XS.iloadN X1.here hx rfl (hb hby q41_6) rfl  r) ?_
  refine gS (fun _ r => XS.iloadN X1.here hx rfl (hb hby q41_7) rfl  r) ?_
  show Goes p ee below s _ _ _ (T1.setTop (mkF m 8 #[vR a1, vN i, vN k] [(.int (Int32.ofNat k)), (.int (Int32.ofNat i)), (.ref a1)]))
  have lt_a1 := A.lt
  obtain ⟨v3, T3, L3, X3, hQ3, st3⟩ := own_callS X1 hx hZ (y := (⟨"java/lang/StringUTF16", "putChar", "([BII)V"⟩ : MethodName)) hown (own_w hw 260 rfl) (own_w hw 261 rfl) (own_w hw 25 rfl) (own_w hw 262 rfl) (by decide) (argsL := [(.ref a1), (.int (Int32.ofNat i)), (.int (Int32.ofNat k))]) (rm_putc l Z a0 hw [] cs fm a1 i k n _ h0 n0 Z0 ST OO hi hk (by omega) ge_a1 A) e1 (W := 0) (by decide) (by decide) (by decide) (by decide) (g := (mkF m 8 #[vR a1, vN i, vN k] [(.int (Int32.ofNat k)), (.int (Int32.ofNat i)), (.ref a1)])) rfl (by rw [hml]; rfl) (rest := []) (lenOf pd_9 rfl) rfl (by show 2 * 0 + _ ≤ _; exact Nat.le_of_eq rfl) (hb hby q41_8)
  refine gS st3 ?_
  obtain ⟨rfl, N3, Kc3, A⟩ := hQ3
  have N4 := Fr.app N2 N3
  obtain ⟨h3, e3⟩ : ∃ h', T3.heap = h' := ⟨_, rfl⟩
  rw [e3] at Kc3 A
  have OO := OO.keep Kc3 (allS ge_a1 all0)
  have K5 := K0.trans Kc3 (allS (Or.inl (List.mem_of_getElem? (i := 0) rfl)) all0)
  have Zp6 := Nat.le_trans Z0 Kc3.1
  show Goes p ee below s _ _ _ (T3.setTop (mkF m 11 #[vR a1, vN i, vN k] []))
  refine Goes.retV X3 hx Bd.notSynchronized Bd.returns (hb hby q41_11) (by decide) (by decide) ?_
  rw [e3]
  exact ⟨rfl, N4, K5, A⟩
theorem ef_bac (m : MethodId) (x0 : Addr) (x1 : Int32) : entryFrame m #[(.ref x0), (.int x1)] 2 = mkF m 0 #[.val (.ref x0), .val (.int x1)] [] := by first | (simp [entryFrame, mkF, argsToLocals, Value.category]; done) | rfl
theorem q42_0 : decode c42_ 0 = .ok (.aload_n 0, 1) := by decide +kernel
theorem q42_1 : decode c42_ 1 = .ok (.aload_n 0, 1) := by decide +kernel
theorem q42_2 : decode c42_ 2 = .ok (.getfield 79, 3) := by decide +kernel
theorem q42_5 : decode c42_ 5 = .ok (.iconst 1, 1) := by decide +kernel
theorem q42_6 : decode c42_ 6 = .ok (.iadd, 1) := by decide +kernel
theorem q42_7 : decode c42_ 7 = .ok (.invokevirtual 100, 3) := by decide +kernel
theorem q42_10 : decode c42_ 10 = .ok (.aload_n 0, 1) := by decide +kernel
theorem q42_11 : decode c42_ 11 = .ok (.invokevirtual 83, 3) := by decide +kernel
theorem q42_14 : decode c42_ 14 = .ok (.ifCond .eq 31, 3) := by decide +kernel
theorem q42_17 : decode c42_ 17 = .ok (.iload_n 1, 1) := by decide +kernel
theorem pd_27 : parseMethodDescriptor "(C)Z" = some ⟨[.char], some .boolean⟩ := by decide +kernel
theorem q42_18 : decode c42_ 18 = .ok (.invokestatic 191, 3) := by decide +kernel
theorem q42_21 : decode c42_ 21 = .ok (.ifCond .eq 24, 3) := by decide +kernel
theorem q42_24 : decode c42_ 24 = .ok (.aload_n 0, 1) := by decide +kernel
theorem q42_25 : decode c42_ 25 = .ok (.getfield 15, 3) := by decide +kernel
theorem q42_28 : decode c42_ 28 = .ok (.aload_n 0, 1) := by decide +kernel
theorem q42_29 : decode c42_ 29 = .ok (.dup, 1) := by decide +kernel
theorem q42_30 : decode c42_ 30 = .ok (.getfield 79, 3) := by decide +kernel
theorem q42_33 : decode c42_ 33 = .ok (.dup_x1, 1) := by decide +kernel
theorem q42_34 : decode c42_ 34 = .ok (.iconst 1, 1) := by decide +kernel
theorem q42_35 : decode c42_ 35 = .ok (.iadd, 1) := by decide +kernel
theorem q42_36 : decode c42_ 36 = .ok (.putfield 79, 3) := by decide +kernel
theorem q42_39 : decode c42_ 39 = .ok (.iload_n 1, 1) := by decide +kernel
theorem q42_40 : decode c42_ 40 = .ok (.i2b, 1) := by decide +kernel
theorem q42_41 : decode c42_ 41 = .ok (.bastore, 1) := by decide +kernel
theorem q42_42 : decode c42_ 42 = .ok (.goto 33, 3) := by decide +kernel
theorem q42_75 : decode c42_ 75 = .ok (.aload_n 0, 1) := by decide +kernel
theorem q42_76 : decode c42_ 76 = .ok (.areturn, 1) := by decide +kernel
theorem q42_45 : decode c42_ 45 = .ok (.aload_n 0, 1) := by decide +kernel
theorem q42_46 : decode c42_ 46 = .ok (.invokevirtual 83, 3) := by decide +kernel
theorem q42_49 : decode c42_ 49 = .ok (.ifCond .eq 7, 3) := by decide +kernel
theorem q42_56 : decode c42_ 56 = .ok (.aload_n 0, 1) := by decide +kernel
theorem q42_57 : decode c42_ 57 = .ok (.getfield 15, 3) := by decide +kernel
theorem q42_60 : decode c42_ 60 = .ok (.aload_n 0, 1) := by decide +kernel
theorem q42_61 : decode c42_ 61 = .ok (.dup, 1) := by decide +kernel
theorem q42_62 : decode c42_ 62 = .ok (.getfield 79, 3) := by decide +kernel
theorem q42_65 : decode c42_ 65 = .ok (.dup_x1, 1) := by decide +kernel
theorem q42_66 : decode c42_ 66 = .ok (.iconst 1, 1) := by decide +kernel
theorem q42_67 : decode c42_ 67 = .ok (.iadd, 1) := by decide +kernel
theorem q42_68 : decode c42_ 68 = .ok (.putfield 79, 3) := by decide +kernel
theorem q42_71 : decode c42_ 71 = .ok (.iload_n 1, 1) := by decide +kernel
theorem q42_72 : decode c42_ 72 = .ok (.invokestatic 197, 3) := by decide +kernel
def Q_bac (Z : State) (cs : Int32) (fm : Value) (a1 b : Addr) (u : Bool) (n : Nat) (c : Nat → Nat) (f : Nat → Value) (k : Nat) (h0 : Heap) (n0 : Nat) (v : Option Value) (h : Heap) (L : List Loc) : Prop := v = some (.ref a1) ∧ Fr n0 L ∧ Keep h0 h [a1, b] ∧ ∃ f' : Nat → Value, own_B Z h a1 b u (n + 1) ∧ OA Z h b .byte (own_len u 16) f' ∧ ∀ j, j < own_len u (n + 1) → f' j = own_by u (own_cat n c (fun _ => k)) j
set_option maxRecDepth 65536 in
set_option maxHeartbeats 40000000 in
theorem rm_bac (l : Launch) (Z : State) (a0 : Array Value) (hw : ∀ d ∈ tables_1, d.before a0 Z = true) (ws : List Jvm.Cond) (cs : Int32) (fm : Value) (a1 b : Addr) (u : Bool) (n : Nat) (c : Nat → Nat) (f : Nat → Value) (k : Nat) (h0 : Heap) (n0 : Nat) (Z0 : n0 ≤ h0.size) (ST : own_ST Z cs fm) (OO : Old Z n0 h0) (hn : n < 16) (hk : k < 256) (ge_a1 : n0 ≤ a1) (ge_b : n0 ≤ b) (neab : a1 ≠ b) (B : own_B Z h0 a1 b u n) (A : OA Z h0 b .byte (own_len u 16) f) (hf : ∀ j, j < own_len u n → f j = own_by u c j) :
    MetFree l (⟨"java/lang/AbstractStringBuilder", "append", "(C)Ljava/lang/AbstractStringBuilder;"⟩ : MethodName) (head1 (Jvm.Cond.code (⟨"java/lang/AbstractStringBuilder", "append", "(C)Ljava/lang/AbstractStringBuilder;"⟩ : MethodName) jdk_68_method_31_code 2 (some (.object "java/lang/AbstractStringBuilder")) :: ws) ({ frames := 4, cells := 0, slots := 0, locals := 54 } : Room)) (fun a U => a = #[(.ref a1), (.int (Int32.ofNat k))] ∧ Z.Warmed39 U.vm ∧ U.heap = h0) (fun _ _ _ _ _ => True) (fun _ U o U' => ∃ v L, o = .returned v ∧ Q_bac Z cs fm a1 b u n c f k h0 n0 v U'.heap L ∧ FrameEnd U o U' L ({ frames := 4, cells := 0, slots := 0, locals := 54 } : Room).cells ({ frames := 4, cells := 0, slots := 0, locals := 54 } : Room).slots) := by
  refine MetFree.of_bodySF (plainFor_of_name pn_java_lang_AbstractStringBuilder) hisR ?_
  intro p ee s m args below meth cc s₁ Bd hml0 hP hK
  obtain ⟨rfl, hZ, hh⟩ := hP
  have hx := Bd.exec
  have hby := Bd.bytes
  have hml : cc.maxLocals = 2 := hml0
  have hown : s.vm.findClass "java/lang/AbstractStringBuilder" = some m.cls := findClass_of_methodNamed Bd.named
  have hnm := (name_of_methodNamed Bd.named Bd.method).1
  have X0 : Stand p l ee ({ frames := 4, cells := 0, slots := 0, locals := 54 } : Room) s m #[(.ref a1), (.int (Int32.ofNat k))] below meth cc s₁ [] 0 0 := Stand.of_body Bd
  have e0 : s₁.heap = h0 := by rw [← hh, Bd.state]; rfl
  have N0 := Fr.nil n0
  show Goes p ee below s ({ frames := 4, cells := 0, slots := 0, locals := 54 } : Room).cells ({ frames := 4, cells := 0, slots := 0, locals := 54 } : Room).slots (Q_bac Z cs fm a1 b u n c f k h0 n0) (s₁.setTop (entryFrame m #[(.ref a1), (.int (Int32.ofNat k))] 2))
  refine gS (fun _ r => castTop (ef_bac m a1 (Int32.ofNat k)) r) ?_
  show Goes p ee below s _ _ _ (s₁.setTop (mkF m 0 #[vR a1, vN k] []))
  obtain ⟨E, FV, FC, FN, FM⟩ := B
  show Goes p ee below s _ _ _ (s₁.setTop (mkF m 0 #[vR a1, vN k] []))
  have K0 := Keep.refl h0 ([a1, b] : List Addr)
  cases u
  · have FC : Fld Z h0 a1 "java/lang/AbstractStringBuilder" "coder" "B" (.int 0) := FC
    have A : OA Z h0 b .byte 16 f := A
    have hf : ∀ j, j < n → f j = own_by false c j := hf
    show Goes p ee below s _ _ _ (s₁.setTop (mkF m 0 #[vR a1, vN k] []))
    refine gS (fun _ r => XS.aloadN X0.here hx rfl (hb hby q42_0) rfl rfl r) ?_
    refine gS (fun _ r => XS.aloadN X0.here hx rfl (hb hby q42_1) rfl rfl r) ?_
    obtain ⟨T1, X1, e1, st1⟩ := getF X0 hx hZ hown (host := "") (Or.inl (own_w hw 175 rfl)) Via.refl e0 FN (g := (mkF m 2 #[vR a1, vN k] [(.ref a1), (.ref a1)])) rfl rfl (hb hby q42_2)
    refine gS st1 ?_
    refine gS (fun _ r => XS.iconst X1.here hx rfl (hb hby q42_5) r) ?_
    refine gS (fun _ r => XS.iadd X1.here hx rfl (hb hby q42_6) rfl r) ?_
    show Goes p ee below s _ _ _ (T1.setTop (mkF m 7 #[vR a1, vN k] [(.int ((Int32.ofNat n) + (1 : Int32))), (.ref a1)]))
    rw [show Int32.ofNat n + (1 : Int32) = Int32.ofNat (n + 1) from own_addN n 1]
    show Goes p ee below s _ _ _ (T1.setTop (mkF m 7 #[vR a1, vN k] [(.int (Int32.ofNat (n + 1))), (.ref a1)]))
    have lt_a1 := E.lt
    have lt_b := A.lt
    obtain ⟨v2, T2, L2, X2, hQ2, st2⟩ := own_callV X1 hx hZ (y := (⟨"java/lang/AbstractStringBuilder", "ensureCapacityInternal", "(I)V"⟩ : MethodName)) hown (own_w hw 177 rfl) (own_declares (own_w hw 178 rfl) (own_w hw 181 rfl)) (own_w hw 180 rfl) (own_w hw 178 rfl) (own_w hw 135 rfl) (own_w hw 181 rfl) (by decide) (a := a1) (argsL := [(.int (Int32.ofNat (n + 1)))]) (rm_ens l Z a0 hw [] cs fm a1 b false n (n + 1) _ h0 n0 Z0 ST OO (by omega) ⟨E, FV, FC, FN, FM⟩ A) e1 E (W := 0) (by decide) (by decide) (by decide) (by decide) (g := (mkF m 7 #[vR a1, vN k] [(.int (Int32.ofNat (n + 1))), (.ref a1)])) rfl (by rw [hml]; rfl) (rest := []) (lenOf pd_24 rfl) rfl (by show 2 * 0 + _ ≤ _; exact Nat.le_of_eq rfl) (hb hby q42_7)
    refine gS st2 ?_
    obtain ⟨rfl, N2, e2⟩ := hQ2
    have N3 := Fr.app N0 N2
    refine gS (fun _ r => XS.aloadN X2.here hx rfl (hb hby q42_10) rfl rfl r) ?_
    have lt_a1 := E.lt
    have lt_b := A.lt
    obtain ⟨v4, T4, L4, X4, hQ4, st4⟩ := own_callV X2 hx hZ (y := (⟨"java/lang/AbstractStringBuilder", "isLatin1", "()Z"⟩ : MethodName)) hown (own_w hw 211 rfl) (own_w hw 212 rfl) (own_w hw 214 rfl) (own_w hw 213 rfl) (own_w hw 135 rfl) (own_w hw 215 rfl) (by decide) (a := a1) (argsL := []) (rm_bisL l Z a0 hw [] cs fm a1 false h0 n0 Z0 ST OO FC) e2 E (W := 0) (by decide) (by decide) (by decide) (by decide) (g := (mkF m 11 #[vR a1, vN k] [(.ref a1)])) rfl (by rw [hml]; rfl) (rest := []) (lenOf pd_6 rfl) rfl (by show 2 * 0 + _ ≤ _; exact Nat.le_of_eq rfl) (hb hby q42_11)
    refine gS st4 ?_
    obtain ⟨rfl, N4, e4⟩ := hQ4
    have N5 := Fr.app N3 N4
    refine gS (fun _ r => XS.ifNo X4.here hx rfl (hb hby q42_14) rfl ((if0 _ _).trans (feq (by decide)).1) r) ?_
    refine gS (fun _ r => XS.iloadN X4.here hx rfl (hb hby q42_17) rfl  r) ?_
    have lt_a1 := E.lt
    have lt_b := A.lt
    obtain ⟨v6, T6, L6, X6, hQ6, st6⟩ := own_callS X4 hx hZ (y := (⟨"java/lang/StringLatin1", "canEncode", "(C)Z"⟩ : MethodName)) hown (own_w hw 216 rfl) (own_w hw 42 rfl) (own_w hw 43 rfl) (own_w hw 44 rfl) (by decide) (argsL := [(.int (Int32.ofNat k))]) (rm_canc l Z a0 hw [] k h0 n0 Z0 (by omega)) e4 (W := 0) (by decide) (by decide) (by decide) (by decide) (g := (mkF m 18 #[vR a1, vN k] [(.int (Int32.ofNat k))])) rfl (by rw [hml]; rfl) (rest := []) (lenOf pd_27 rfl) rfl (by show 2 * 0 + _ ≤ _; exact Nat.le_of_eq rfl) (hb hby q42_18)
    refine gS st6 ?_
    obtain ⟨rfl, N6, e6⟩ := hQ6
    have N7 := Fr.app N5 N6
    show Goes p ee below s _ _ _ (T6.setTop (mkF m 21 #[vR a1, vN k] [(.int (if k < 256 then (1 : Int32) else 0))]))
    rw [if_pos hk]
    show Goes p ee below s _ _ _ (T6.setTop (mkF m 21 #[vR a1, vN k] [(.int (1 : Int32))]))
    refine gS (fun _ r => XS.ifNo X6.here hx rfl (hb hby q42_21) rfl ((if0 _ _).trans (feq (by decide)).1) r) ?_
    refine gS (fun _ r => XS.aloadN X6.here hx rfl (hb hby q42_24) rfl rfl r) ?_
    obtain ⟨T8, X8, e8, st8⟩ := getF X6 hx hZ hown (host := "") (Or.inl (own_w hw 139 rfl)) Via.refl e6 FV (g := (mkF m 25 #[vR a1, vN k] [(.ref a1)])) rfl rfl (hb hby q42_25)
    refine gS st8 ?_
    refine gS (fun _ r => XS.aloadN X8.here hx rfl (hb hby q42_28) rfl rfl r) ?_
    refine gS (fun _ r => XS.dup X8.here hx rfl (hb hby q42_29) rfl rfl r) ?_
    obtain ⟨T9, X9, e9, st9⟩ := getF X8 hx hZ hown (host := "") (Or.inl (own_w hw 175 rfl)) Via.refl e8 FN (g := (mkF m 30 #[vR a1, vN k] [(.ref a1), (.ref a1), (.ref b)])) rfl rfl (hb hby q42_30)
    refine gS st9 ?_
    show Goes p ee below s _ _ _ (T9.setTop (mkF m 33 #[vR a1, vN k] [(.int (Int32.ofNat n)), (.ref a1), (.ref b)]))
    refine gS (fun _ r => XT.dupX1 X9.here hx rfl (hb hby q42_33) rfl rfl rfl r) ?_
    refine gS (fun _ r => XS.iconst X9.here hx rfl (hb hby q42_34) r) ?_
    refine gS (fun _ r => XS.iadd X9.here hx rfl (hb hby q42_35) rfl r) ?_
    show Goes p ee below s _ _ _ (T9.setTop (mkF m 36 #[vR a1, vN k] [(.int ((Int32.ofNat n) + (1 : Int32))), (.ref a1), (.int (Int32.ofNat n)), (.ref b)]))
    rw [show Int32.ofNat n + (1 : Int32) = Int32.ofNat (n + 1) from own_addN n 1]
    show Goes p ee below s _ _ _ (T9.setTop (mkF m 36 #[vR a1, vN k] [(.int (Int32.ofNat (n + 1))), (.ref a1), (.int (Int32.ofNat n)), (.ref b)]))
    obtain ⟨T10, h10, X10, e10, W10, st10⟩ := putF X9 hx hZ hown (host := "") (Or.inl (own_w hw 175 rfl)) Via.refl e9 FN E (Or.inl (own_w hw 176 rfl)) (own_w hw 126 rfl) (ty := .int) (by decide) rfl rfl (g := (mkF m 36 #[vR a1, vN k] [(.int (Int32.ofNat (n + 1))), (.ref a1), (.int (Int32.ofNat n)), (.ref b)])) rfl rfl (hb hby q42_36)
    refine gS st10 ?_
    have E := E.wr W10
    have FV := FV.other W10 (Or.inr (slot_ne (Or.inl (own_w hw 140 rfl)) (Or.inl (own_w hw 176 rfl)) (by decide) (t := (.array .byte)) (t' := .int) (by decide) (by decide)))
    have FC := FC.other W10 (Or.inr (slot_ne (Or.inl (own_w hw 142 rfl)) (Or.inl (own_w hw 176 rfl)) (by decide) (t := .byte) (t' := .int) (by decide) (by decide)))
    have FM := FM.other W10 (Or.inr (slot_ne (Or.inl (own_w hw 331 rfl)) (Or.inl (own_w hw 176 rfl)) (by decide) (t := .boolean) (t' := .int) (by decide) (by decide)))
    have A := A.other W10 (Ne.symm neab)
    have Zp11 := Nat.le_trans Z0 (Keep.of_wr W10).1
    have FN := FN.same W10
    have N12 := Fr.snoc X10 N7 ge_a1
    have OO := OO.wr W10 ge_a1
    have K13 := K0.wr W10 (Or.inl (List.mem_of_getElem? (i := 0) rfl))
    show Goes p ee below s _ _ _ (T10.setTop (mkF m 39 #[vR a1, vN k] [(.int (Int32.ofNat n)), (.ref b)]))
    refine gS (fun _ r => XS.iloadN X10.here hx rfl (hb hby q42_39) rfl  r) ?_
    refine gS (fun _ r => XT.i2b X10.here hx rfl (hb hby q42_40) rfl r) ?_
    show Goes p ee below s _ _ _ (T10.setTop (mkF m 41 #[vR a1, vN k] [(.int (Int32.ofNat k).toInt8.toInt32), (.int (Int32.ofNat n)), (.ref b)]))
    obtain ⟨T14, h14, X14, e14, W14, A14, st14⟩ := own_stB X10 hx hZ e10 A (x := (Int32.ofNat k).toInt8.toInt32) (j := (Int32.ofNat n)) (own_nneg n (by omega)) (k := n) (own_clamp n (by omega)) hn (g := (mkF m 41 #[vR a1, vN k] [(.int (Int32.ofNat k).toInt8.toInt32), (.int (Int32.ofNat n)), (.ref b)])) rfl rfl (hb hby q42_41)
    refine gS st14 ?_
    have E := E.wr W14
    have FV := FV.other W14 (Or.inl neab)
    have FC := FC.other W14 (Or.inl neab)
    have FN := FN.other W14 (Or.inl neab)
    have FM := FM.other W14 (Or.inl neab)
    have Zp15 := Nat.le_trans Zp11 (Keep.of_wr W14).1
    have N16 := Fr.snoc X14 N12 ge_b
    have OO := OO.wr W14 ge_b
    have K17 := K13.wr W14 (Or.inl (List.mem_of_getElem? (i := 1) rfl))
    have A : OA Z h14 b .byte 16 (fun j => if j = n then .int (own_bt k) else f j) := A14.congr (fun j hj => by rw [own_bt_nar]; rfl)
    show Goes p ee below s _ _ _ (T14.setTop (mkF m 42 #[vR a1, vN k] []))
    refine gS (fun _ r => XS.goto X14.here hx rfl (pc0 := 42) (pc' := 75) rfl (hb hby q42_42) (by decide) (by decide) r) ?_
    refine gS (fun _ r => XS.aloadN X14.here hx rfl (hb hby q42_75) rfl rfl r) ?_
    show Goes p ee below s _ _ _ (T14.setTop (mkF m 76 #[vR a1, vN k] [(.ref a1)]))
    refine Goes.retA X14 hx Bd.notSynchronized Bd.returns rfl rfl (hb hby q42_76) (by decide) (by decide) ?_
    rw [e14]
    exact ⟨rfl, N16, K17, _, ⟨E, FV, FC, FN, FM⟩, A, own_put0 n k c (fun _ => 0) f hf⟩
  · have FC : Fld Z h0 a1 "java/lang/AbstractStringBuilder" "coder" "B" (.int 1) := FC
    have A : OA Z h0 b .byte 32 f := A
    have hf : ∀ j, j < 2 * n → f j = own_by true c j := hf
    show Goes p ee below s _ _ _ (s₁.setTop (mkF m 0 #[vR a1, vN k] []))
    refine gS (fun _ r => XS.aloadN X0.here hx rfl (hb hby q42_0) rfl rfl r) ?_
    refine gS (fun _ r => XS.aloadN X0.here hx rfl (hb hby q42_1) rfl rfl r) ?_
    obtain ⟨T18, X18, e18, st18⟩ := getF X0 hx hZ hown (host := "") (Or.inl (own_w hw 175 rfl)) Via.refl e0 FN (g := (mkF m 2 #[vR a1, vN k] [(.ref a1), (.ref a1)])) rfl rfl (hb hby q42_2)
    refine gS st18 ?_
    refine gS (fun _ r => XS.iconst X18.here hx rfl (hb hby q42_5) r) ?_
    refine gS (fun _ r => XS.iadd X18.here hx rfl (hb hby q42_6) rfl r) ?_
    show Goes p ee below s _ _ _ (T18.setTop (mkF m 7 #[vR a1, vN k] [(.int ((Int32.ofNat n) + (1 : Int32))), (.ref a1)]))
    rw [show Int32.ofNat n + (1 : Int32) = Int32.ofNat (n + 1) from own_addN n 1]
    show Goes p ee below s _ _ _ (T18.setTop (mkF m 7 #[vR a1, vN k] [(.int (Int32.ofNat (n + 1))), (.ref a1)]))
    have lt_a1 := E.lt
    have lt_b := A.lt
    obtain ⟨v19, T19, L19, X19, hQ19, st19⟩ := own_callV X18 hx hZ (y := (⟨"java/lang/AbstractStringBuilder", "ensureCapacityInternal", "(I)V"⟩ : MethodName)) hown (own_w hw 177 rfl) (own_declares (own_w hw 178 rfl) (own_w hw 181 rfl)) (own_w hw 180 rfl) (own_w hw 178 rfl) (own_w hw 135 rfl) (own_w hw 181 rfl) (by decide) (a := a1) (argsL := [(.int (Int32.ofNat (n + 1)))]) (rm_ens l Z a0 hw [] cs fm a1 b true n (n + 1) _ h0 n0 Z0 ST OO (by omega) ⟨E, FV, FC, FN, FM⟩ A) e18 E (W := 0) (by decide) (by decide) (by decide) (by decide) (g := (mkF m 7 #[vR a1, vN k] [(.int (Int32.ofNat (n + 1))), (.ref a1)])) rfl (by rw [hml]; rfl) (rest := []) (lenOf pd_24 rfl) rfl (by show 2 * 0 + _ ≤ _; exact Nat.le_of_eq rfl) (hb hby q42_7)
    refine gS st19 ?_
    obtain ⟨rfl, N19, e19⟩ := hQ19
    have N20 := Fr.app N0 N19
    refine gS (fun _ r => XS.aloadN X19.here hx rfl (hb hby q42_10) rfl rfl r) ?_
    have lt_a1 := E.lt
    have lt_b := A.lt
    obtain ⟨v21, T21, L21, X21, hQ21, st21⟩ := own_callV X19 hx hZ (y := (⟨"java/lang/AbstractStringBuilder", "isLatin1", "()Z"⟩ : MethodName)) hown (own_w hw 211 rfl) (own_w hw 212 rfl) (own_w hw 214 rfl) (own_w hw 213 rfl) (own_w hw 135 rfl) (own_w hw 215 rfl) (by decide) (a := a1) (argsL := []) (rm_bisL l Z a0 hw [] cs fm a1 true h0 n0 Z0 ST OO FC) e19 E (W := 0) (by decide) (by decide) (by decide) (by decide) (g := (mkF m 11 #[vR a1, vN k] [(.ref a1)])) rfl (by rw [hml]; rfl) (rest := []) (lenOf pd_6 rfl) rfl (by show 2 * 0 + _ ≤ _; exact Nat.le_of_eq rfl) (hb hby q42_11)
    refine gS st21 ?_
    obtain ⟨rfl, N21, e21⟩ := hQ21
    have N22 := Fr.app N20 N21
    refine gS (fun _ r => XS.ifYes X21.here hx rfl (pc0 := 14) (pc' := 45) rfl (hb hby q42_14) rfl ((if0 _ _).trans (teq (by decide)).1) (by decide) (by decide) r) ?_
    refine gS (fun _ r => XS.aloadN X21.here hx rfl (hb hby q42_45) rfl rfl r) ?_
    have lt_a1 := E.lt
    have lt_b := A.lt
    obtain ⟨v23, T23, L23, X23, hQ23, st23⟩ := own_callV X21 hx hZ (y := (⟨"java/lang/AbstractStringBuilder", "isLatin1", "()Z"⟩ : MethodName)) hown (own_w hw 211 rfl) (own_w hw 212 rfl) (own_w hw 214 rfl) (own_w hw 213 rfl) (own_w hw 135 rfl) (own_w hw 215 rfl) (by decide) (a := a1) (argsL := []) (rm_bisL l Z a0 hw [] cs fm a1 true h0 n0 Z0 ST OO FC) e21 E (W := 0) (by decide) (by decide) (by decide) (by decide) (g := (mkF m 46 #[vR a1, vN k] [(.ref a1)])) rfl (by rw [hml]; rfl) (rest := []) (lenOf pd_6 rfl) rfl (by show 2 * 0 + _ ≤ _; exact Nat.le_of_eq rfl) (hb hby q42_46)
    refine gS st23 ?_
    obtain ⟨rfl, N23, e23⟩ := hQ23
    have N24 := Fr.app N22 N23
    show Goes p ee below s _ _ _ (T23.setTop (mkF m 49 #[vR a1, vN k] [(.int (0 : Int32))]))
    refine gS (fun _ r => XS.ifYes X23.here hx rfl (pc0 := 49) (pc' := 56) rfl (hb hby q42_49) rfl ((if0 _ _).trans (teq (by decide)).1) (by decide) (by decide) r) ?_
    refine gS (fun _ r => XS.aloadN X23.here hx rfl (hb hby q42_56) rfl rfl r) ?_
    obtain ⟨T25, X25, e25, st25⟩ := getF X23 hx hZ hown (host := "") (Or.inl (own_w hw 139 rfl)) Via.refl e23 FV (g := (mkF m 57 #[vR a1, vN k] [(.ref a1)])) rfl rfl (hb hby q42_57)
    refine gS st25 ?_
    refine gS (fun _ r => XS.aloadN X25.here hx rfl (hb hby q42_60) rfl rfl r) ?_
    refine gS (fun _ r => XS.dup X25.here hx rfl (hb hby q42_61) rfl rfl r) ?_
    obtain ⟨T26, X26, e26, st26⟩ := getF X25 hx hZ hown (host := "") (Or.inl (own_w hw 175 rfl)) Via.refl e25 FN (g := (mkF m 62 #[vR a1, vN k] [(.ref a1), (.ref a1), (.ref b)])) rfl rfl (hb hby q42_62)
    refine gS st26 ?_
    show Goes p ee below s _ _ _ (T26.setTop (mkF m 65 #[vR a1, vN k] [(.int (Int32.ofNat n)), (.ref a1), (.ref b)]))
    refine gS (fun _ r => XT.dupX1 X26.here hx rfl (hb hby q42_65) rfl rfl rfl r) ?_
    refine gS (fun _ r => XS.iconst X26.here hx rfl (hb hby q42_66) r) ?_
    refine gS (fun _ r => XS.iadd X26.here hx rfl (hb hby q42_67) rfl r) ?_
    show Goes p ee below s _ _ _ (T26.setTop (mkF m 68 #[vR a1, vN k] [(.int ((Int32.ofNat n) + (1 : Int32))), (.ref a1), (.int (Int32.ofNat n)), (.ref b)]))
    rw [show Int32.ofNat n + (1 : Int32) = Int32.ofNat (n + 1) from own_addN n 1]
    show Goes p ee below s _ _ _ (T26.setTop (mkF m 68 #[vR a1, vN k] [(.int (Int32.ofNat (n + 1))), (.ref a1), (.int (Int32.ofNat n)), (.ref b)]))
    obtain ⟨T27, h27, X27, e27, W27, st27⟩ := putF X26 hx hZ hown (host := "") (Or.inl (own_w hw 175 rfl)) Via.refl e26 FN E (Or.inl (own_w hw 176 rfl)) (own_w hw 126 rfl) (ty := .int) (by decide) rfl rfl (g := (mkF m 68 #[vR a1, vN k] [(.int (Int32.ofNat (n + 1))), (.ref a1), (.int (Int32.ofNat n)), (.ref b)])) rfl rfl (hb hby q42_68)
    refine gS st27 ?_
    have E := E.wr W27
    have FV := FV.other W27 (Or.inr (slot_ne (Or.inl (own_w hw 140 rfl)) (Or.inl (own_w hw 176 rfl)) (by decide) (t := (.array .byte)) (t' := .int) (by decide) (by decide)))
    have FC := FC.other W27 (Or.inr (slot_ne (Or.inl (own_w hw 142 rfl)) (Or.inl (own_w hw 176 rfl)) (by decide) (t := .byte) (t' := .int) (by decide) (by decide)))
    have FM := FM.other W27 (Or.inr (slot_ne (Or.inl (own_w hw 331 rfl)) (Or.inl (own_w hw 176 rfl)) (by decide) (t := .boolean) (t' := .int) (by decide) (by decide)))
    have A := A.other W27 (Ne.symm neab)
    have Zp28 := Nat.le_trans Z0 (Keep.of_wr W27).1
    have FN := FN.same W27
    have N29 := Fr.snoc X27 N24 ge_a1
    have OO := OO.wr W27 ge_a1
    have K30 := K0.wr W27 (Or.inl (List.mem_of_getElem? (i := 0) rfl))
    show Goes p ee below s _ _ _ (T27.setTop (mkF m 71 #[vR a1, vN k] [(.int (Int32.ofNat n)), (.ref b)]))
    refine gS (fun _ r => XS.iloadN X27.here hx rfl (hb hby q42_71) rfl  r) ?_
    have lt_a1 := E.lt
    have lt_b := A.lt
    obtain ⟨v31, T31, L31, X31, hQ31, st31⟩ := own_callS X27 hx hZ (y := (⟨"java/lang/StringUTF16", "putCharSB", "([BII)V"⟩ : MethodName)) hown (own_w hw 327 rfl) (own_w hw 328 rfl) (own_w hw 25 rfl) (own_w hw 329 rfl) (by decide) (argsL := [(.ref b), (.int (Int32.ofNat n)), (.int (Int32.ofNat k))]) (rm_pcs l Z a0 hw [] cs fm b n k 16 _ h27 n0 Zp28 ST OO hn (by omega) (by decide) ge_b A) e27 (W := 0) (by decide) (by decide) (by decide) (by decide) (g := (mkF m 72 #[vR a1, vN k] [(.int (Int32.ofNat k)), (.int (Int32.ofNat n)), (.ref b)])) rfl (by rw [hml]; rfl) (rest := []) (lenOf pd_9 rfl) rfl (by show 2 * 0 + _ ≤ _; exact Nat.le_of_eq rfl) (hb hby q42_72)
    refine gS st31 ?_
    obtain ⟨rfl, N31, Kc31, A⟩ := hQ31
    have N32 := Fr.app N29 N31
    obtain ⟨h31, e31⟩ : ∃ h', T31.heap = h' := ⟨_, rfl⟩
    rw [e31] at Kc31 A
    have E := E.keep Kc31
    have FV := FV.keep Kc31 (ninS neab nin0)
    have FC := FC.keep Kc31 (ninS neab nin0)
    have FN := FN.keep Kc31 (ninS neab nin0)
    have FM := FM.keep Kc31 (ninS neab nin0)
    have OO := OO.keep Kc31 (allS ge_b all0)
    have K33 := K30.trans Kc31 (allS (Or.inl (List.mem_of_getElem? (i := 1) rfl)) all0)
    have Zp34 := Nat.le_trans Zp28 Kc31.1
    refine gS (fun _ r => XS.aloadN X31.here hx rfl (hb hby q42_75) rfl rfl r) ?_
    show Goes p ee below s _ _ _ (T31.setTop (mkF m 76 #[vR a1, vN k] [(.ref a1)]))
    refine Goes.retA X31 hx Bd.notSynchronized Bd.returns rfl rfl (hb hby q42_76) (by decide) (by decide) ?_
    rw [e31]
    exact ⟨rfl, N32, K33, _, ⟨E, FV, FC, FN, FM⟩, A, own_put1 n k c f hf⟩
theorem ef_sac (m : MethodId) (x0 : Addr) (x1 : Int32) : entryFrame m #[(.ref x0), (.int x1)] 2 = mkF m 0 #[.val (.ref x0), .val (.int x1)] [] := by first | (simp [entryFrame, mkF, argsToLocals, Value.category]; done) | rfl
theorem q43_0 : decode c43_ 0 = .ok (.aload_n 0, 1) := by decide +kernel
theorem q43_1 : decode c43_ 1 = .ok (.iload_n 1, 1) := by decide +kernel
theorem pd_28 : parseMethodDescriptor "(C)Ljava/lang/AbstractStringBuilder;" = some ⟨[.char], some (.object "java/lang/AbstractStringBuilder")⟩ := by decide +kernel
theorem q43_2 : decode c43_ 2 = .ok (.invokespecial 50, 3) := by decide +kernel
theorem q43_5 : decode c43_ 5 = .ok (.pop, 1) := by decide +kernel
theorem q43_6 : decode c43_ 6 = .ok (.aload_n 0, 1) := by decide +kernel
theorem q43_7 : decode c43_ 7 = .ok (.areturn, 1) := by decide +kernel
def Q_sac (Z : State) (cs : Int32) (fm : Value) (a1 b : Addr) (u : Bool) (n : Nat) (c : Nat → Nat) (f : Nat → Value) (k : Nat) (h0 : Heap) (n0 : Nat) (v : Option Value) (h : Heap) (L : List Loc) : Prop := v = some (.ref a1) ∧ Fr n0 L ∧ Keep h0 h [a1, b] ∧ ∃ f' : Nat → Value, own_B Z h a1 b u (n + 1) ∧ OA Z h b .byte (own_len u 16) f' ∧ ∀ j, j < own_len u (n + 1) → f' j = own_by u (own_cat n c (fun _ => k)) j
set_option maxRecDepth 65536 in
set_option maxHeartbeats 40000000 in
theorem rm_sac (l : Launch) (Z : State) (a0 : Array Value) (hw : ∀ d ∈ tables_1, d.before a0 Z = true) (ws : List Jvm.Cond) (cs : Int32) (fm : Value) (a1 b : Addr) (u : Bool) (n : Nat) (c : Nat → Nat) (f : Nat → Value) (k : Nat) (h0 : Heap) (n0 : Nat) (Z0 : n0 ≤ h0.size) (ST : own_ST Z cs fm) (OO : Old Z n0 h0) (hn : n < 16) (hk : k < 256) (ge_a1 : n0 ≤ a1) (ge_b : n0 ≤ b) (neab : a1 ≠ b) (B : own_B Z h0 a1 b u n) (A : OA Z h0 b .byte (own_len u 16) f) (hf : ∀ j, j < own_len u n → f j = own_by u c j) :
    MetFree l (⟨"java/lang/StringBuilder", "append", "(C)Ljava/lang/StringBuilder;"⟩ : MethodName) (head1 (Jvm.Cond.code (⟨"java/lang/StringBuilder", "append", "(C)Ljava/lang/StringBuilder;"⟩ : MethodName) jdk_67_method_14_code 2 (some (.object "java/lang/StringBuilder")) :: ws) ({ frames := 5, cells := 0, slots := 0, locals := 67 } : Room)) (fun a U => a = #[(.ref a1), (.int (Int32.ofNat k))] ∧ Z.Warmed39 U.vm ∧ U.heap = h0) (fun _ _ _ _ _ => True) (fun _ U o U' => ∃ v L, o = .returned v ∧ Q_sac Z cs fm a1 b u n c f k h0 n0 v U'.heap L ∧ FrameEnd U o U' L ({ frames := 5, cells := 0, slots := 0, locals := 67 } : Room).cells ({ frames := 5, cells := 0, slots := 0, locals := 67 } : Room).slots) := by
  refine MetFree.of_bodySF (plainFor_of_name pn_java_lang_StringBuilder) hisR ?_
  intro p ee s m args below meth cc s₁ Bd hml0 hP hK
  obtain ⟨rfl, hZ, hh⟩ := hP
  have hx := Bd.exec
  have hby := Bd.bytes
  have hml : cc.maxLocals = 2 := hml0
  have hown : s.vm.findClass "java/lang/StringBuilder" = some m.cls := findClass_of_methodNamed Bd.named
  have hnm := (name_of_methodNamed Bd.named Bd.method).1
  have X0 : Stand p l ee ({ frames := 5, cells := 0, slots := 0, locals := 67 } : Room) s m #[(.ref a1), (.int (Int32.ofNat k))] below meth cc s₁ [] 0 0 := Stand.of_body Bd
  have e0 : s₁.heap = h0 := by rw [← hh, Bd.state]; rfl
  have N0 := Fr.nil n0
  show Goes p ee below s ({ frames := 5, cells := 0, slots := 0, locals := 67 } : Room).cells ({ frames := 5, cells := 0, slots := 0, locals := 67 } : Room).slots (Q_sac Z cs fm a1 b u n c f k h0 n0) (s₁.setTop (entryFrame m #[(.ref a1), (.int (Int32.ofNat k))] 2))
  refine gS (fun _ r => castTop (ef_sac m a1 (Int32.ofNat k)) r) ?_
  show Goes p ee below s _ _ _ (s₁.setTop (mkF m 0 #[vR a1, vN k] []))
  obtain ⟨E, FV, FC, FN, FM⟩ := B
  show Goes p ee below s _ _ _ (s₁.setTop (mkF m 0 #[vR a1, vN k] []))
  have K0 := Keep.refl h0 ([a1, b] : List Addr)
  refine gS (fun _ r => XS.aloadN X0.here hx rfl (hb hby q43_0) rfl rfl r) ?_
  refine gS (fun _ r => XS.iloadN X0.here hx rfl (hb hby q43_1) rfl  r) ?_
  have lt_a1 := E.lt
  have lt_b := A.lt
  obtain ⟨v1, T1, L1, X1, hQ1, st1⟩ := own_callUp X0 hx hZ (y := (⟨"java/lang/AbstractStringBuilder", "append", "(C)Ljava/lang/AbstractStringBuilder;"⟩ : MethodName)) hown (own_w hw 207 rfl) (own_w hw 180 rfl) rfl (own_w hw 208 rfl) (own_w hw 171 rfl) (by decide) (own_w hw 135 rfl) (own_w hw 210 rfl) (by decide) (a := a1) (argsL := [(.int (Int32.ofNat k))]) (rm_bac l Z a0 hw [] cs fm a1 b u n c f k h0 n0 Z0 ST OO hn hk ge_a1 ge_b neab ⟨E, FV, FC, FN, FM⟩ A hf) e0 E (W := 0) (by decide) (by decide) (by decide) (by decide) (g := (mkF m 2 #[vR a1, vN k] [(.int (Int32.ofNat k)), (.ref a1)])) rfl (by rw [hml]; rfl) (rest := []) (lenOf pd_28 rfl) rfl (by show 2 * 0 + _ ≤ _; exact Nat.le_of_eq rfl) (hb hby q43_2)
  refine gS st1 ?_
  obtain ⟨rfl, N1, Kc1, f1, B1, A_b, hf1⟩ := hQ1
  have N2 := Fr.app N0 N1
  obtain ⟨h1, e1⟩ : ∃ h', T1.heap = h' := ⟨_, rfl⟩
  rw [e1] at Kc1 B1 A_b
  have OO := OO.keep Kc1 (allS ge_a1 (allS ge_b all0))
  have K3 := K0.trans Kc1 (allS (Or.inl (List.mem_of_getElem? (i := 0) rfl)) (allS (Or.inl (List.mem_of_getElem? (i := 1) rfl)) all0))
  have Zp4 := Nat.le_trans Z0 Kc1.1
  obtain ⟨E1, FV1, FC1, FN1, FM1⟩ := B1
  refine gS (fun _ r => XT.pop X1.here hx rfl (hb hby q43_5) rfl rfl r) ?_
  refine gS (fun _ r => XS.aloadN X1.here hx rfl (hb hby q43_6) rfl rfl r) ?_
  show Goes p ee below s _ _ _ (T1.setTop (mkF m 7 #[vR a1, vN k] [(.ref a1)]))
  refine Goes.retA X1 hx Bd.notSynchronized Bd.returns rfl rfl (hb hby q43_7) (by decide) (by decide) ?_
  rw [e1]
  exact ⟨rfl, N2, K3, _, ⟨E1, FV1, FC1, FN1, FM1⟩, A_b, hf1⟩
theorem ef_gv (m : MethodId) (x0 : Addr) : entryFrame m #[(.ref x0)] 1 = mkF m 0 #[.val (.ref x0)] [] := by first | (simp [entryFrame, mkF, argsToLocals, Value.category]; done) | rfl
theorem q44_0 : decode c44_ 0 = .ok (.aload_n 0, 1) := by decide +kernel
theorem q44_1 : decode c44_ 1 = .ok (.getfield 15, 3) := by decide +kernel
theorem q44_4 : decode c44_ 4 = .ok (.areturn, 1) := by decide +kernel
def Q_gv (Z : State) (cs : Int32) (fm : Value) (a1 b : Addr) (h0 : Heap) (n0 : Nat) (v : Option Value) (h : Heap) (L : List Loc) : Prop := v = some (.ref b) ∧ Fr n0 L ∧ h = h0
set_option maxRecDepth 65536 in
set_option maxHeartbeats 40000000 in
theorem rm_gv (l : Launch) (Z : State) (a0 : Array Value) (hw : ∀ d ∈ tables_1, d.before a0 Z = true) (ws : List Jvm.Cond) (cs : Int32) (fm : Value) (a1 b : Addr) (h0 : Heap) (n0 : Nat) (Z0 : n0 ≤ h0.size) (ST : own_ST Z cs fm) (OO : Old Z n0 h0) (FV : Fld Z h0 a1 "java/lang/AbstractStringBuilder" "value" "[B" (.ref b)) :
    MetFree l (⟨"java/lang/AbstractStringBuilder", "getValue", "()[B"⟩ : MethodName) (head1 (Jvm.Cond.code (⟨"java/lang/AbstractStringBuilder", "getValue", "()[B"⟩ : MethodName) jdk_68_method_64_code 1 (some (.array .byte)) :: ws) ({ frames := 0, cells := 0, slots := 0, locals := 0 } : Room)) (fun a U => a = #[(.ref a1)] ∧ Z.Warmed39 U.vm ∧ U.heap = h0) (fun _ _ _ _ _ => True) (fun _ U o U' => ∃ v L, o = .returned v ∧ Q_gv Z cs fm a1 b h0 n0 v U'.heap L ∧ FrameEnd U o U' L ({ frames := 0, cells := 0, slots := 0, locals := 0 } : Room).cells ({ frames := 0, cells := 0, slots := 0, locals := 0 } : Room).slots) := by
  refine MetFree.of_bodySF (plainFor_of_name pn_java_lang_AbstractStringBuilder) hisR ?_
  intro p ee s m args below meth cc s₁ Bd hml0 hP hK
  obtain ⟨rfl, hZ, hh⟩ := hP
  have hx := Bd.exec
  have hby := Bd.bytes
  have hml : cc.maxLocals = 1 := hml0
  have hown : s.vm.findClass "java/lang/AbstractStringBuilder" = some m.cls := findClass_of_methodNamed Bd.named
  have hnm := (name_of_methodNamed Bd.named Bd.method).1
  have X0 : Stand p l ee ({ frames := 0, cells := 0, slots := 0, locals := 0 } : Room) s m #[(.ref a1)] below meth cc s₁ [] 0 0 := Stand.of_body Bd
  have e0 : s₁.heap = h0 := by rw [← hh, Bd.state]; rfl
  have N0 := Fr.nil n0
  show Goes p ee below s ({ frames := 0, cells := 0, slots := 0, locals := 0 } : Room).cells ({ frames := 0, cells := 0, slots := 0, locals := 0 } : Room).slots (Q_gv Z cs fm a1 b h0 n0) (s₁.setTop (entryFrame m #[(.ref a1)] 1))
  refine gS (fun _ r => castTop (ef_gv m a1) r) ?_
  show Goes p ee below s _ _ _ (s₁.setTop (mkF m 0 #[vR a1] []))
  refine gS (fun _ r => XS.aloadN X0.here hx rfl (hb hby q44_0) rfl rfl r) ?_
  obtain ⟨T1, X1, e1, st1⟩ := getF X0 hx hZ hown (host := "") (Or.inl (own_w hw 139 rfl)) Via.refl e0 FV (g := (mkF m 1 #[vR a1] [(.ref a1)])) rfl rfl (hb hby q44_1)
  refine gS st1 ?_
  show Goes p ee below s _ _ _ (T1.setTop (mkF m 4 #[vR a1] [(.ref b)]))
  refine Goes.retA X1 hx Bd.notSynchronized Bd.returns rfl rfl (hb hby q44_4) (by decide) (by decide) ?_
  exact ⟨rfl, N0, e1⟩
theorem ef_bln (m : MethodId) (x0 : Addr) : entryFrame m #[(.ref x0)] 1 = mkF m 0 #[.val (.ref x0)] [] := by first | (simp [entryFrame, mkF, argsToLocals, Value.category]; done) | rfl
theorem q45_0 : decode c45_ 0 = .ok (.aload_n 0, 1) := by decide +kernel
theorem q45_1 : decode c45_ 1 = .ok (.getfield 79, 3) := by decide +kernel
theorem q45_4 : decode c45_ 4 = .ok (.ireturn, 1) := by decide +kernel
def Q_bln (Z : State) (cs : Int32) (fm : Value) (a1 : Addr) (n : Nat) (h0 : Heap) (n0 : Nat) (v : Option Value) (h : Heap) (L : List Loc) : Prop := v = some (.int (Int32.ofNat n)) ∧ Fr n0 L ∧ h = h0
set_option maxRecDepth 65536 in
set_option maxHeartbeats 40000000 in
theorem rm_bln (l : Launch) (Z : State) (a0 : Array Value) (hw : ∀ d ∈ tables_1, d.before a0 Z = true) (ws : List Jvm.Cond) (cs : Int32) (fm : Value) (a1 : Addr) (n : Nat) (h0 : Heap) (n0 : Nat) (Z0 : n0 ≤ h0.size) (ST : own_ST Z cs fm) (OO : Old Z n0 h0) (E : Exa Z h0 a1 "java/lang/StringBuilder") (FN : Fld Z h0 a1 "java/lang/AbstractStringBuilder" "count" "I" (.int (Int32.ofNat n))) :
    MetFree l (⟨"java/lang/AbstractStringBuilder", "length", "()I"⟩ : MethodName) (head1 (Jvm.Cond.code (⟨"java/lang/AbstractStringBuilder", "length", "()I"⟩ : MethodName) jdk_68_method_6_code 1 (some .int) :: ws) ({ frames := 0, cells := 0, slots := 0, locals := 0 } : Room)) (fun a U => a = #[(.ref a1)] ∧ Z.Warmed39 U.vm ∧ U.heap = h0) (fun _ _ _ _ _ => True) (fun _ U o U' => ∃ v L, o = .returned v ∧ Q_bln Z cs fm a1 n h0 n0 v U'.heap L ∧ FrameEnd U o U' L ({ frames := 0, cells := 0, slots := 0, locals := 0 } : Room).cells ({ frames := 0, cells := 0, slots := 0, locals := 0 } : Room).slots) := by
  refine MetFree.of_bodySF (plainFor_of_name pn_java_lang_AbstractStringBuilder) hisR ?_
  intro p ee s m args below meth cc s₁ Bd hml0 hP hK
  obtain ⟨rfl, hZ, hh⟩ := hP
  have hx := Bd.exec
  have hby := Bd.bytes
  have hml : cc.maxLocals = 1 := hml0
  have hown : s.vm.findClass "java/lang/AbstractStringBuilder" = some m.cls := findClass_of_methodNamed Bd.named
  have hnm := (name_of_methodNamed Bd.named Bd.method).1
  have X0 : Stand p l ee ({ frames := 0, cells := 0, slots := 0, locals := 0 } : Room) s m #[(.ref a1)] below meth cc s₁ [] 0 0 := Stand.of_body Bd
  have e0 : s₁.heap = h0 := by rw [← hh, Bd.state]; rfl
  have N0 := Fr.nil n0
  show Goes p ee below s ({ frames := 0, cells := 0, slots := 0, locals := 0 } : Room).cells ({ frames := 0, cells := 0, slots := 0, locals := 0 } : Room).slots (Q_bln Z cs fm a1 n h0 n0) (s₁.setTop (entryFrame m #[(.ref a1)] 1))
  refine gS (fun _ r => castTop (ef_bln m a1) r) ?_
  show Goes p ee below s _ _ _ (s₁.setTop (mkF m 0 #[vR a1] []))
  refine gS (fun _ r => XS.aloadN X0.here hx rfl (hb hby q45_0) rfl rfl r) ?_
  obtain ⟨T1, X1, e1, st1⟩ := getF X0 hx hZ hown (host := "") (Or.inl (own_w hw 175 rfl)) Via.refl e0 FN (g := (mkF m 1 #[vR a1] [(.ref a1)])) rfl rfl (hb hby q45_1)
  refine gS st1 ?_
  show Goes p ee below s _ _ _ (T1.setTop (mkF m 4 #[vR a1] [(.int (Int32.ofNat n))]))
  refine Goes.retI X1 hx Bd.notSynchronized Bd.returns (hb hby q45_4) (by decide) (by decide) ?_
  exact ⟨rfl, N0, e1⟩
theorem ef_sln (m : MethodId) (x0 : Addr) : entryFrame m #[(.ref x0)] 1 = mkF m 0 #[.val (.ref x0)] [] := by first | (simp [entryFrame, mkF, argsToLocals, Value.category]; done) | rfl
theorem q46_0 : decode c46_ 0 = .ok (.aload_n 0, 1) := by decide +kernel
theorem q46_1 : decode c46_ 1 = .ok (.invokespecial 343, 3) := by decide +kernel
theorem q46_4 : decode c46_ 4 = .ok (.ireturn, 1) := by decide +kernel
def Q_sln (Z : State) (cs : Int32) (fm : Value) (a1 : Addr) (n : Nat) (h0 : Heap) (n0 : Nat) (v : Option Value) (h : Heap) (L : List Loc) : Prop := v = some (.int (Int32.ofNat n)) ∧ Fr n0 L ∧ h = h0
set_option maxRecDepth 65536 in
set_option maxHeartbeats 40000000 in
theorem rm_sln (l : Launch) (Z : State) (a0 : Array Value) (hw : ∀ d ∈ tables_1, d.before a0 Z = true) (ws : List Jvm.Cond) (cs : Int32) (fm : Value) (a1 : Addr) (n : Nat) (h0 : Heap) (n0 : Nat) (Z0 : n0 ≤ h0.size) (ST : own_ST Z cs fm) (OO : Old Z n0 h0) (E : Exa Z h0 a1 "java/lang/StringBuilder") (FN : Fld Z h0 a1 "java/lang/AbstractStringBuilder" "count" "I" (.int (Int32.ofNat n))) :
    MetFree l (⟨"java/lang/StringBuilder", "length", "()I"⟩ : MethodName) (head1 (Jvm.Cond.code (⟨"java/lang/StringBuilder", "length", "()I"⟩ : MethodName) jdk_67_method_93_code 1 (some .int) :: ws) ({ frames := 1, cells := 0, slots := 0, locals := 12 } : Room)) (fun a U => a = #[(.ref a1)] ∧ Z.Warmed39 U.vm ∧ U.heap = h0) (fun _ _ _ _ _ => True) (fun _ U o U' => ∃ v L, o = .returned v ∧ Q_sln Z cs fm a1 n h0 n0 v U'.heap L ∧ FrameEnd U o U' L ({ frames := 1, cells := 0, slots := 0, locals := 12 } : Room).cells ({ frames := 1, cells := 0, slots := 0, locals := 12 } : Room).slots) := by
  refine MetFree.of_bodySF (plainFor_of_name pn_java_lang_StringBuilder) hisR ?_
  intro p ee s m args below meth cc s₁ Bd hml0 hP hK
  obtain ⟨rfl, hZ, hh⟩ := hP
  have hx := Bd.exec
  have hby := Bd.bytes
  have hml : cc.maxLocals = 1 := hml0
  have hown : s.vm.findClass "java/lang/StringBuilder" = some m.cls := findClass_of_methodNamed Bd.named
  have hnm := (name_of_methodNamed Bd.named Bd.method).1
  have X0 : Stand p l ee ({ frames := 1, cells := 0, slots := 0, locals := 12 } : Room) s m #[(.ref a1)] below meth cc s₁ [] 0 0 := Stand.of_body Bd
  have e0 : s₁.heap = h0 := by rw [← hh, Bd.state]; rfl
  have N0 := Fr.nil n0
  show Goes p ee below s ({ frames := 1, cells := 0, slots := 0, locals := 12 } : Room).cells ({ frames := 1, cells := 0, slots := 0, locals := 12 } : Room).slots (Q_sln Z cs fm a1 n h0 n0) (s₁.setTop (entryFrame m #[(.ref a1)] 1))
  refine gS (fun _ r => castTop (ef_sln m a1) r) ?_
  show Goes p ee below s _ _ _ (s₁.setTop (mkF m 0 #[vR a1] []))
  refine gS (fun _ r => XS.aloadN X0.here hx rfl (hb hby q46_0) rfl rfl r) ?_
  have lt_a1 := E.lt
  obtain ⟨v1, T1, L1, X1, hQ1, st1⟩ := own_callUp X0 hx hZ (y := (⟨"java/lang/AbstractStringBuilder", "length", "()I"⟩ : MethodName)) hown (own_w hw 240 rfl) (own_w hw 180 rfl) rfl (own_w hw 236 rfl) (own_w hw 171 rfl) (by decide) (own_w hw 135 rfl) (own_w hw 241 rfl) (by decide) (a := a1) (argsL := []) (rm_bln l Z a0 hw [] cs fm a1 n h0 n0 Z0 ST OO E FN) e0 E (W := 0) (by decide) (by decide) (by decide) (by decide) (g := (mkF m 1 #[vR a1] [(.ref a1)])) rfl (by rw [hml]; rfl) (rest := []) (lenOf pd_23 rfl) rfl (by show 2 * 0 + _ ≤ _; exact Nat.le_of_eq rfl) (hb hby q46_1)
  refine gS st1 ?_
  obtain ⟨rfl, N1, e1⟩ := hQ1
  have N2 := Fr.app N0 N1
  show Goes p ee below s _ _ _ (T1.setTop (mkF m 4 #[vR a1] [(.int (Int32.ofNat n))]))
  refine Goes.retI X1 hx Bd.notSynchronized Bd.returns (hb hby q46_4) (by decide) (by decide) ?_
  exact ⟨rfl, N2, e1⟩
theorem ef_sia (m : MethodId) (x0 : Addr) (x1 : Addr) : entryFrame m #[(.ref x0), (.ref x1), .null] 5 = mkF m 0 #[.val (.ref x0), .val (.ref x1), .val .null, .unset, .unset] [] := by first | (simp [entryFrame, mkF, argsToLocals, Value.category]; done) | rfl
theorem q47_0 : decode c47_ 0 = .ok (.aload_n 0, 1) := by decide +kernel
theorem q47_1 : decode c47_ 1 = .ok (.invokespecial 1, 3) := by decide +kernel
theorem q47_4 : decode c47_ 4 = .ok (.aload_n 1, 1) := by decide +kernel
theorem pd_29 : parseMethodDescriptor "()[B" = some ⟨[], some (.array .byte)⟩ := by decide +kernel
theorem q47_5 : decode c47_ 5 = .ok (.invokevirtual 552, 3) := by decide +kernel
theorem q47_8 : decode c47_ 8 = .ok (.astore_n 3, 1) := by decide +kernel
theorem q47_9 : decode c47_ 9 = .ok (.aload_n 1, 1) := by decide +kernel
theorem q47_10 : decode c47_ 10 = .ok (.invokevirtual 549, 3) := by decide +kernel
theorem q47_13 : decode c47_ 13 = .ok (.istore 4, 2) := by decide +kernel
theorem q47_15 : decode c47_ 15 = .ok (.aload_n 1, 1) := by decide +kernel
theorem q47_16 : decode c47_ 16 = .ok (.invokevirtual 1047, 3) := by decide +kernel
theorem q47_19 : decode c47_ 19 = .ok (.ifCond .eq 22, 3) := by decide +kernel
theorem q47_22 : decode c47_ 22 = .ok (.aload_n 0, 1) := by decide +kernel
theorem q47_23 : decode c47_ 23 = .ok (.iconst 0, 1) := by decide +kernel
theorem q47_24 : decode c47_ 24 = .ok (.putfield 15, 3) := by decide +kernel
theorem q47_27 : decode c47_ 27 = .ok (.aload_n 0, 1) := by decide +kernel
theorem q47_28 : decode c47_ 28 = .ok (.aload_n 3, 1) := by decide +kernel
theorem q47_29 : decode c47_ 29 = .ok (.iconst 0, 1) := by decide +kernel
theorem q47_30 : decode c47_ 30 = .ok (.iload 4, 2) := by decide +kernel
theorem q47_32 : decode c47_ 32 = .ok (.invokestatic 54, 3) := by decide +kernel
theorem q47_35 : decode c47_ 35 = .ok (.putfield 9, 3) := by decide +kernel
theorem q47_38 : decode c47_ 38 = .ok (.goto 59, 3) := by decide +kernel
theorem q47_97 : decode c47_ 97 = .ok (.return_, 1) := by decide +kernel
theorem q47_41 : decode c47_ 41 = .ok (.getstatic 38, 3) := by decide +kernel
theorem q47_44 : decode c47_ 44 = .ok (.ifCond .eq 35, 3) := by decide +kernel
theorem q47_47 : decode c47_ 47 = .ok (.aload_n 1, 1) := by decide +kernel
theorem q47_48 : decode c47_ 48 = .ok (.getfield 1048, 3) := by decide +kernel
theorem q47_51 : decode c47_ 51 = .ok (.ifCond .eq 28, 3) := by decide +kernel
theorem q47_79 : decode c47_ 79 = .ok (.aload_n 0, 1) := by decide +kernel
theorem q47_80 : decode c47_ 80 = .ok (.iconst 1, 1) := by decide +kernel
theorem q47_81 : decode c47_ 81 = .ok (.putfield 15, 3) := by decide +kernel
theorem q47_84 : decode c47_ 84 = .ok (.aload_n 0, 1) := by decide +kernel
theorem q47_85 : decode c47_ 85 = .ok (.aload_n 3, 1) := by decide +kernel
theorem q47_86 : decode c47_ 86 = .ok (.iconst 0, 1) := by decide +kernel
theorem q47_87 : decode c47_ 87 = .ok (.iload 4, 2) := by decide +kernel
theorem q47_89 : decode c47_ 89 = .ok (.iconst 1, 1) := by decide +kernel
theorem q47_90 : decode c47_ 90 = .ok (.ishl, 1) := by decide +kernel
theorem q47_91 : decode c47_ 91 = .ok (.invokestatic 54, 3) := by decide +kernel
theorem q47_94 : decode c47_ 94 = .ok (.putfield 9, 3) := by decide +kernel
def Q_sia (Z : State) (cs : Int32) (fm : Value) (a1 a2 b : Addr) (u : Bool) (n : Nat) (c : Nat → Nat) (f : Nat → Value) (uv uc : Value) (h0 : Heap) (n0 : Nat) (v : Option Value) (h : Heap) (L : List Loc) : Prop := v = none ∧ Fr n0 L ∧ Keep h0 h [a1] ∧ ∃ b' : Addr, h0.size ≤ b' ∧ Exa Z h a1 "java/lang/String" ∧ Fld Z h a1 "java/lang/String" "value" "[B" (.ref b') ∧ Fld Z h a1 "java/lang/String" "coder" "B" (.int (own_cd u)) ∧ OA Z h b' .byte (own_len u n) (own_by u c)
set_option maxRecDepth 65536 in
set_option maxHeartbeats 40000000 in
theorem rm_sia (l : Launch) (Z : State) (a0 : Array Value) (hw : ∀ d ∈ tables_1, d.before a0 Z = true) (ws : List Jvm.Cond) (cs : Int32) (fm : Value) (a1 a2 b : Addr) (u : Bool) (n : Nat) (c : Nat → Nat) (f : Nat → Value) (uv uc : Value) (h0 : Heap) (n0 : Nat) (Z0 : n0 ≤ h0.size) (ST : own_ST Z cs fm) (OO : Old Z n0 h0) (hn : n < 16) (ge_a1 : n0 ≤ a1) (ne12 : a1 ≠ a2) (ne1b : a1 ≠ b) (ES : Exa Z h0 a1 "java/lang/String") (FVS : Fld Z h0 a1 "java/lang/String" "value" "[B" uv) (FCS : Fld Z h0 a1 "java/lang/String" "coder" "B" uc) (B : own_B Z h0 a2 b u n) (A : OA Z h0 b .byte (own_len u 16) f) (hf : ∀ j, j < own_len u n → f j = own_by u c j) :
    MetFree l (⟨"java/lang/String", "<init>", "(Ljava/lang/AbstractStringBuilder;Ljava/lang/Void;)V"⟩ : MethodName) (head1 (Jvm.Cond.code (⟨"java/lang/String", "<init>", "(Ljava/lang/AbstractStringBuilder;Ljava/lang/Void;)V"⟩ : MethodName) jdk_42_method_150_code 5 none :: ws) ({ frames := 3, cells := 1, slots := 32, locals := 49 } : Room)) (fun a U => a = #[(.ref a1), (.ref a2), .null] ∧ Z.Warmed39 U.vm ∧ U.heap = h0) (fun _ _ _ _ _ => True) (fun _ U o U' => ∃ v L, o = .returned v ∧ Q_sia Z cs fm a1 a2 b u n c f uv uc h0 n0 v U'.heap L ∧ FrameEnd U o U' L ({ frames := 3, cells := 1, slots := 32, locals := 49 } : Room).cells ({ frames := 3, cells := 1, slots := 32, locals := 49 } : Room).slots) := by
  refine MetFree.of_bodySF (plainFor_of_name pn_java_lang_String) hisR ?_
  intro p ee s m args below meth cc s₁ Bd hml0 hP hK
  obtain ⟨rfl, hZ, hh⟩ := hP
  have hx := Bd.exec
  have hby := Bd.bytes
  have hml : cc.maxLocals = 5 := hml0
  have hown : s.vm.findClass "java/lang/String" = some m.cls := findClass_of_methodNamed Bd.named
  have hnm := (name_of_methodNamed Bd.named Bd.method).1
  have X0 : Stand p l ee ({ frames := 3, cells := 1, slots := 32, locals := 49 } : Room) s m #[(.ref a1), (.ref a2), .null] below meth cc s₁ [] 0 0 := Stand.of_body Bd
  have e0 : s₁.heap = h0 := by rw [← hh, Bd.state]; rfl
  have N0 := Fr.nil n0
  show Goes p ee below s ({ frames := 3, cells := 1, slots := 32, locals := 49 } : Room).cells ({ frames := 3, cells := 1, slots := 32, locals := 49 } : Room).slots (Q_sia Z cs fm a1 a2 b u n c f uv uc h0 n0) (s₁.setTop (entryFrame m #[(.ref a1), (.ref a2), .null] 5))
  refine gS (fun _ r => castTop (ef_sia m a1 a2) r) ?_
  show Goes p ee below s _ _ _ (s₁.setTop (mkF m 0 #[vR a1, vR a2, .val .null, .unset, .unset] []))
  obtain ⟨E, FV, FC, FN, FM⟩ := B
  show Goes p ee below s _ _ _ (s₁.setTop (mkF m 0 #[vR a1, vR a2, .val .null, .unset, .unset] []))
  have K0 := Keep.refl h0 ([a1] : List Addr)
  cases u
  · have FC : Fld Z h0 a2 "java/lang/AbstractStringBuilder" "coder" "B" (.int 0) := FC
    have A : OA Z h0 b .byte 16 f := A
    have hf : ∀ j, j < n → f j = own_by false c j := hf
    show Goes p ee below s _ _ _ (s₁.setTop (mkF m 0 #[vR a1, vR a2, .val .null, .unset, .unset] []))
    refine gS (fun _ r => XS.aloadN X0.here hx rfl (hb hby q47_0) rfl rfl r) ?_
    obtain ⟨T1, X1, e1, st1⟩ := initO X0 hx hZ hown (own_w hw 19 rfl) (own_w hw 20 rfl) (own_w hw 21 rfl) e0 (g := (mkF m 1 #[vR a1, vR a2, .val .null, .unset, .unset] [(.ref a1)])) rfl (by rw [hml]; rfl) rfl (hb hby q47_1) (by decide) (W := 0) (by show 2 * 0 + _ ≤ _; exact Nat.le_of_eq rfl) (by decide)
    refine gS st1 ?_
    refine gS (fun _ r => XS.aloadN X1.here hx rfl (hb hby q47_4) rfl rfl r) ?_
    have lt_a2 := E.lt
    have lt_b := A.lt
    have lt_a1 := ES.lt
    obtain ⟨v2, T2, L2, X2, hQ2, st2⟩ := own_callV X1 hx hZ (y := (⟨"java/lang/AbstractStringBuilder", "getValue", "()[B"⟩ : MethodName)) hown (own_w hw 229 rfl) (own_w hw 230 rfl) (own_w hw 232 rfl) (own_w hw 231 rfl) (own_w hw 135 rfl) (own_w hw 233 rfl) (by decide) (a := a2) (argsL := []) (rm_gv l Z a0 hw [] cs fm a2 b h0 n0 Z0 ST OO FV) e1 E (W := 0) (by decide) (by decide) (by decide) (by decide) (g := (mkF m 5 #[vR a1, vR a2, .val .null, .unset, .unset] [(.ref a2)])) rfl (by rw [hml]; rfl) (rest := []) (lenOf pd_29 rfl) rfl (by show 2 * 0 + _ ≤ _; exact Nat.le_of_eq rfl) (hb hby q47_5)
    refine gS st2 ?_
    obtain ⟨rfl, N2, e2⟩ := hQ2
    have N3 := Fr.app N0 N2
    refine gS (fun _ r => XS.astoreN X2.here hx rfl (hb hby q47_8) rfl rfl (l' := #[vR a1, vR a2, .val .null, vR b, .unset]) rfl r) ?_
    refine gS (fun _ r => XS.aloadN X2.here hx rfl (hb hby q47_9) rfl rfl r) ?_
    show Goes p ee below s _ _ _ (T2.setTop (mkF m 10 #[vR a1, vR a2, .val .null, vR b, .unset] [(.ref a2)]))
    have lt_a2 := E.lt
    have lt_b := A.lt
    have lt_a1 := ES.lt
    obtain ⟨v4, T4, L4, X4, hQ4, st4⟩ := own_callVz X2 hx hZ (y := (⟨"java/lang/AbstractStringBuilder", "length", "()I"⟩ : MethodName)) (z := (⟨"java/lang/StringBuilder", "length", "()I"⟩ : MethodName)) hown (own_w hw 234 rfl) (own_w hw 235 rfl) (own_w hw 237 rfl) (own_w hw 180 rfl) rfl (own_w hw 238 rfl) (own_w hw 127 rfl) (own_w hw 239 rfl) (by decide) (a := a2) (argsL := []) (rm_sln l Z a0 hw [] cs fm a2 n h0 n0 Z0 ST OO E FN) e2 E (W := 0) (by decide) (by decide) (by decide) (by decide) (g := (mkF m 10 #[vR a1, vR a2, .val .null, vR b, .unset] [(.ref a2)])) rfl (by rw [hml]; rfl) (rest := []) (lenOf pd_23 rfl) rfl (by show 2 * 0 + _ ≤ _; exact Nat.le_of_eq rfl) (hb hby q47_10)
    refine gS st4 ?_
    obtain ⟨rfl, N4, e4⟩ := hQ4
    have N5 := Fr.app N3 N4
    refine gS (fun _ r => XS.istore X4.here hx rfl (hb hby q47_13) rfl  (l' := #[vR a1, vR a2, .val .null, vR b, vN n]) rfl r) ?_
    refine gS (fun _ r => XS.aloadN X4.here hx rfl (hb hby q47_15) rfl rfl r) ?_
    have lt_a2 := E.lt
    have lt_b := A.lt
    have lt_a1 := ES.lt
    obtain ⟨v6, T6, L6, X6, hQ6, st6⟩ := own_callV X4 hx hZ (y := (⟨"java/lang/AbstractStringBuilder", "isLatin1", "()Z"⟩ : MethodName)) hown (own_w hw 242 rfl) (own_w hw 212 rfl) (own_w hw 214 rfl) (own_w hw 213 rfl) (own_w hw 135 rfl) (own_w hw 215 rfl) (by decide) (a := a2) (argsL := []) (rm_bisL l Z a0 hw [] cs fm a2 false h0 n0 Z0 ST OO FC) e4 E (W := 0) (by decide) (by decide) (by decide) (by decide) (g := (mkF m 16 #[vR a1, vR a2, .val .null, vR b, vN n] [(.ref a2)])) rfl (by rw [hml]; rfl) (rest := []) (lenOf pd_6 rfl) rfl (by show 2 * 0 + _ ≤ _; exact Nat.le_of_eq rfl) (hb hby q47_16)
    refine gS st6 ?_
    obtain ⟨rfl, N6, e6⟩ := hQ6
    have N7 := Fr.app N5 N6
    refine gS (fun _ r => XS.ifNo X6.here hx rfl (hb hby q47_19) rfl ((if0 _ _).trans (feq (by decide)).1) r) ?_
    refine gS (fun _ r => XS.aloadN X6.here hx rfl (hb hby q47_22) rfl rfl r) ?_
    show Goes p ee below s _ _ _ (T6.setTop (mkF m 23 #[vR a1, vR a2, .val .null, vR b, vN n] [(.ref a1)]))
    refine gS (fun _ r => XS.iconst X6.here hx rfl (hb hby q47_23) r) ?_
    show Goes p ee below s _ _ _ (T6.setTop (mkF m 24 #[vR a1, vR a2, .val .null, vR b, vN n] [(.int (0 : Int32)), (.ref a1)]))
    obtain ⟨T8, h8, X8, e8, W8, st8⟩ := putFN X6 hx hZ hown (own_w hw 34 rfl) Via.refl e6 FCS ES (Or.inr ⟨(own_w hw 35 rfl), rfl, hnm⟩) (own_w hw 9 rfl) (ty := .byte) (v' := (.int (0 : Int32))) (by decide) rfl rfl (g := (mkF m 24 #[vR a1, vR a2, .val .null, vR b, vN n] [(.int (0 : Int32)), (.ref a1)])) rfl rfl (hb hby q47_24)
    refine gS st8 ?_
    have E := E.wr W8
    have FV := FV.other W8 (Or.inl (Ne.symm ne12))
    have FC := FC.other W8 (Or.inl (Ne.symm ne12))
    have FN := FN.other W8 (Or.inl (Ne.symm ne12))
    have FM := FM.other W8 (Or.inl (Ne.symm ne12))
    have A := A.other W8 (Ne.symm ne1b)
    have ES := ES.wr W8
    have FVS := FVS.other W8 (Or.inr (slot_ne (Or.inr (own_w hw 37 rfl)) (Or.inr (own_w hw 35 rfl)) (by decide) (t := (.array .byte)) (t' := .byte) (by decide) (by decide)))
    have Zp9 := Nat.le_trans Z0 (Keep.of_wr W8).1
    have FCS := FCS.same W8
    have N10 := Fr.snoc X8 N7 ge_a1
    have OO := OO.wr W8 ge_a1
    have K11 := K0.wr W8 (Or.inl (List.mem_of_getElem? (i := 0) rfl))
    show Goes p ee below s _ _ _ (T8.setTop (mkF m 27 #[vR a1, vR a2, .val .null, vR b, vN n] []))
    refine gS (fun _ r => XS.aloadN X8.here hx rfl (hb hby q47_27) rfl rfl r) ?_
    refine gS (fun _ r => XS.aloadN X8.here hx rfl (hb hby q47_28) rfl rfl r) ?_
    refine gS (fun _ r => XS.iconst X8.here hx rfl (hb hby q47_29) r) ?_
    refine gS (fun _ r => XS.iload X8.here hx rfl (hb hby q47_30) rfl  r) ?_
    have lt_a2 := E.lt
    have lt_b := A.lt
    have lt_a1 := ES.lt
    obtain ⟨v12, T12, L12, X12, hQ12, st12⟩ := own_callS X8 hx hZ (y := (⟨"java/util/Arrays", "copyOfRange", "([BII)[B"⟩ : MethodName)) hown (own_w hw 243 rfl) (own_w hw 244 rfl) (own_w hw 245 rfl) (own_w hw 246 rfl) (by decide) (argsL := [(.ref b), (.int (0 : Int32)), (.int (Int32.ofNat n))]) (rm_cor l Z a0 hw [] cs fm b 0 n _ _ h8 n0 Zp9 ST OO (by omega) (Nat.zero_le _) (by omega) (by omega) A) e8 (W := 1) (by decide) (by decide) (by decide) (by decide) (g := (mkF m 32 #[vR a1, vR a2, .val .null, vR b, vN n] [(.int (Int32.ofNat n)), (.int (0 : Int32)), (.ref b), (.ref a1)])) rfl (by rw [hml]; rfl) (rest := [(.ref a1)]) (lenOf pd_15 rfl) rfl (by show 2 * 0 + _ ≤ _; exact Nat.le_of_eq rfl) (hb hby q47_32)
    refine gS st12 ?_
    obtain ⟨b12, rfl, N12, sz12, Kc12, A_b12⟩ := hQ12
    have N13 := Fr.app N10 N12
    obtain ⟨h12, e12⟩ : ∃ h', T12.heap = h' := ⟨_, rfl⟩
    rw [e12] at Kc12 A_b12
    have E := E.keep Kc12
    have FV := FV.keep Kc12 nin0
    have FC := FC.keep Kc12 nin0
    have FN := FN.keep Kc12 nin0
    have FM := FM.keep Kc12 nin0
    have A := A.keep Kc12 nin0
    have ES := ES.keep Kc12
    have FVS := FVS.keep Kc12 nin0
    have FCS := FCS.keep Kc12 nin0
    have OO := OO.keep Kc12 all0
    have K14 := K11.trans Kc12 all0
    have Zp15 := Nat.le_trans Zp9 Kc12.1
    have ge_b12 : n0 ≤ b12 := Nat.le_trans Zp9 sz12
    have sz_b12 : h0.size ≤ b12 := Nat.le_trans K11.1 sz12
    have ne_a2_b12 : a2 ≠ b12 := Nat.ne_of_lt (Nat.lt_of_lt_of_le lt_a2 sz12)
    have ne_b_b12 : b ≠ b12 := Nat.ne_of_lt (Nat.lt_of_lt_of_le lt_b sz12)
    have ne_a1_b12 : a1 ≠ b12 := Nat.ne_of_lt (Nat.lt_of_lt_of_le lt_a1 sz12)
    have A_b12 : OA Z h12 b12 .byte (own_len false n) (own_by false c) := (by
      show OA Z h12 _ .byte n _
      exact A_b12.congr (fun t ht => (congrArg f (Nat.zero_add t)).trans (hf t ht)))
    show Goes p ee below s _ _ _ (T12.setTop (mkF m 35 #[vR a1, vR a2, .val .null, vR b, vN n] [(.ref b12), (.ref a1)]))
    obtain ⟨T16, h16, X16, e16, W16, st16⟩ := putF X12 hx hZ hown (host := "") (Or.inl (own_w hw 36 rfl)) Via.refl e12 FVS ES (Or.inr ⟨(own_w hw 37 rfl), rfl, hnm⟩) (own_w hw 9 rfl) (ty := (.array .byte)) (by decide) rfl rfl (g := (mkF m 35 #[vR a1, vR a2, .val .null, vR b, vN n] [(.ref b12), (.ref a1)])) rfl rfl (hb hby q47_35)
    refine gS st16 ?_
    have E := E.wr W16
    have FV := FV.other W16 (Or.inl (Ne.symm ne12))
    have FC := FC.other W16 (Or.inl (Ne.symm ne12))
    have FN := FN.other W16 (Or.inl (Ne.symm ne12))
    have FM := FM.other W16 (Or.inl (Ne.symm ne12))
    have A := A.other W16 (Ne.symm ne1b)
    have ES := ES.wr W16
    have FCS := FCS.other W16 (Or.inr (slot_ne (Or.inr (own_w hw 35 rfl)) (Or.inr (own_w hw 37 rfl)) (by decide) (t := .byte) (t' := (.array .byte)) (by decide) (by decide)))
    have A_b12 := A_b12.other W16 (Ne.symm ne_a1_b12)
    have Zp17 := Nat.le_trans Zp15 (Keep.of_wr W16).1
    have FVS := FVS.same W16
    have N18 := Fr.snoc X16 N13 ge_a1
    have OO := OO.wr W16 ge_a1
    have K19 := K14.wr W16 (Or.inl (List.mem_of_getElem? (i := 0) rfl))
    show Goes p ee below s _ _ _ (T16.setTop (mkF m 38 #[vR a1, vR a2, .val .null, vR b, vN n] []))
    refine gS (fun _ r => XS.goto X16.here hx rfl (pc0 := 38) (pc' := 97) rfl (hb hby q47_38) (by decide) (by decide) r) ?_
    show Goes p ee below s _ _ _ (T16.setTop (mkF m 97 #[vR a1, vR a2, .val .null, vR b, vN n] []))
    refine Goes.retV X16 hx Bd.notSynchronized Bd.returns (hb hby q47_97) (by decide) (by decide) ?_
    rw [e16]
    exact ⟨rfl, N18, K19, b12, sz_b12, ES, FVS, FCS, A_b12⟩
  · have FC : Fld Z h0 a2 "java/lang/AbstractStringBuilder" "coder" "B" (.int 1) := FC
    have A : OA Z h0 b .byte 32 f := A
    have hf : ∀ j, j < 2 * n → f j = own_by true c j := hf
    show Goes p ee below s _ _ _ (s₁.setTop (mkF m 0 #[vR a1, vR a2, .val .null, .unset, .unset] []))
    refine gS (fun _ r => XS.aloadN X0.here hx rfl (hb hby q47_0) rfl rfl r) ?_
    obtain ⟨T20, X20, e20, st20⟩ := initO X0 hx hZ hown (own_w hw 19 rfl) (own_w hw 20 rfl) (own_w hw 21 rfl) e0 (g := (mkF m 1 #[vR a1, vR a2, .val .null, .unset, .unset] [(.ref a1)])) rfl (by rw [hml]; rfl) rfl (hb hby q47_1) (by decide) (W := 0) (by show 2 * 0 + _ ≤ _; exact Nat.le_of_eq rfl) (by decide)
    refine gS st20 ?_
    refine gS (fun _ r => XS.aloadN X20.here hx rfl (hb hby q47_4) rfl rfl r) ?_
    have lt_a2 := E.lt
    have lt_b := A.lt
    have lt_a1 := ES.lt
    obtain ⟨v21, T21, L21, X21, hQ21, st21⟩ := own_callV X20 hx hZ (y := (⟨"java/lang/AbstractStringBuilder", "getValue", "()[B"⟩ : MethodName)) hown (own_w hw 229 rfl) (own_w hw 230 rfl) (own_w hw 232 rfl) (own_w hw 231 rfl) (own_w hw 135 rfl) (own_w hw 233 rfl) (by decide) (a := a2) (argsL := []) (rm_gv l Z a0 hw [] cs fm a2 b h0 n0 Z0 ST OO FV) e20 E (W := 0) (by decide) (by decide) (by decide) (by decide) (g := (mkF m 5 #[vR a1, vR a2, .val .null, .unset, .unset] [(.ref a2)])) rfl (by rw [hml]; rfl) (rest := []) (lenOf pd_29 rfl) rfl (by show 2 * 0 + _ ≤ _; exact Nat.le_of_eq rfl) (hb hby q47_5)
    refine gS st21 ?_
    obtain ⟨rfl, N21, e21⟩ := hQ21
    have N22 := Fr.app N0 N21
    refine gS (fun _ r => XS.astoreN X21.here hx rfl (hb hby q47_8) rfl rfl (l' := #[vR a1, vR a2, .val .null, vR b, .unset]) rfl r) ?_
    refine gS (fun _ r => XS.aloadN X21.here hx rfl (hb hby q47_9) rfl rfl r) ?_
    show Goes p ee below s _ _ _ (T21.setTop (mkF m 10 #[vR a1, vR a2, .val .null, vR b, .unset] [(.ref a2)]))
    have lt_a2 := E.lt
    have lt_b := A.lt
    have lt_a1 := ES.lt
    obtain ⟨v23, T23, L23, X23, hQ23, st23⟩ := own_callVz X21 hx hZ (y := (⟨"java/lang/AbstractStringBuilder", "length", "()I"⟩ : MethodName)) (z := (⟨"java/lang/StringBuilder", "length", "()I"⟩ : MethodName)) hown (own_w hw 234 rfl) (own_w hw 235 rfl) (own_w hw 237 rfl) (own_w hw 180 rfl) rfl (own_w hw 238 rfl) (own_w hw 127 rfl) (own_w hw 239 rfl) (by decide) (a := a2) (argsL := []) (rm_sln l Z a0 hw [] cs fm a2 n h0 n0 Z0 ST OO E FN) e21 E (W := 0) (by decide) (by decide) (by decide) (by decide) (g := (mkF m 10 #[vR a1, vR a2, .val .null, vR b, .unset] [(.ref a2)])) rfl (by rw [hml]; rfl) (rest := []) (lenOf pd_23 rfl) rfl (by show 2 * 0 + _ ≤ _; exact Nat.le_of_eq rfl) (hb hby q47_10)
    refine gS st23 ?_
    obtain ⟨rfl, N23, e23⟩ := hQ23
    have N24 := Fr.app N22 N23
    refine gS (fun _ r => XS.istore X23.here hx rfl (hb hby q47_13) rfl  (l' := #[vR a1, vR a2, .val .null, vR b, vN n]) rfl r) ?_
    refine gS (fun _ r => XS.aloadN X23.here hx rfl (hb hby q47_15) rfl rfl r) ?_
    have lt_a2 := E.lt
    have lt_b := A.lt
    have lt_a1 := ES.lt
    obtain ⟨v25, T25, L25, X25, hQ25, st25⟩ := own_callV X23 hx hZ (y := (⟨"java/lang/AbstractStringBuilder", "isLatin1", "()Z"⟩ : MethodName)) hown (own_w hw 242 rfl) (own_w hw 212 rfl) (own_w hw 214 rfl) (own_w hw 213 rfl) (own_w hw 135 rfl) (own_w hw 215 rfl) (by decide) (a := a2) (argsL := []) (rm_bisL l Z a0 hw [] cs fm a2 true h0 n0 Z0 ST OO FC) e23 E (W := 0) (by decide) (by decide) (by decide) (by decide) (g := (mkF m 16 #[vR a1, vR a2, .val .null, vR b, vN n] [(.ref a2)])) rfl (by rw [hml]; rfl) (rest := []) (lenOf pd_6 rfl) rfl (by show 2 * 0 + _ ≤ _; exact Nat.le_of_eq rfl) (hb hby q47_16)
    refine gS st25 ?_
    obtain ⟨rfl, N25, e25⟩ := hQ25
    have N26 := Fr.app N24 N25
    refine gS (fun _ r => XS.ifYes X25.here hx rfl (pc0 := 19) (pc' := 41) rfl (hb hby q47_19) rfl ((if0 _ _).trans (teq (by decide)).1) (by decide) (by decide) r) ?_
    obtain ⟨T27, X27, e27, st27⟩ := getS X25 hx hZ (host := "") hown (own_w hw 22 rfl) Via.refl e25 ((ST.1).ext OO.2) (g := (mkF m 41 #[vR a1, vR a2, .val .null, vR b, vN n] [])) rfl (hb hby q47_41)
    refine gS st27 ?_
    show Goes p ee below s _ _ _ (T27.setTop (mkF m 44 #[vR a1, vR a2, .val .null, vR b, vN n] [(.int cs)]))
    refine gS (fun _ r => XS.ifNo X27.here hx rfl (hb hby q47_44) rfl ((if0 _ _).trans (feq (ST.2.1)).1) r) ?_
    refine gS (fun _ r => XS.aloadN X27.here hx rfl (hb hby q47_47) rfl rfl r) ?_
    obtain ⟨T28, X28, e28, st28⟩ := getF X27 hx hZ hown (host := "") (Or.inl (own_w hw 330 rfl)) Via.refl e27 FM (g := (mkF m 48 #[vR a1, vR a2, .val .null, vR b, vN n] [(.ref a2)])) rfl rfl (hb hby q47_48)
    refine gS st28 ?_
    refine gS (fun _ r => XS.ifYes X28.here hx rfl (pc0 := 51) (pc' := 79) rfl (hb hby q47_51) rfl ((if0 _ _).trans (teq (by decide)).1) (by decide) (by decide) r) ?_
    refine gS (fun _ r => XS.aloadN X28.here hx rfl (hb hby q47_79) rfl rfl r) ?_
    refine gS (fun _ r => XS.iconst X28.here hx rfl (hb hby q47_80) r) ?_
    show Goes p ee below s _ _ _ (T28.setTop (mkF m 81 #[vR a1, vR a2, .val .null, vR b, vN n] [(.int (1 : Int32)), (.ref a1)]))
    obtain ⟨T29, h29, X29, e29, W29, st29⟩ := putFN X28 hx hZ hown (own_w hw 34 rfl) Via.refl e28 FCS ES (Or.inr ⟨(own_w hw 35 rfl), rfl, hnm⟩) (own_w hw 9 rfl) (ty := .byte) (v' := (.int (1 : Int32))) (by decide) rfl rfl (g := (mkF m 81 #[vR a1, vR a2, .val .null, vR b, vN n] [(.int (1 : Int32)), (.ref a1)])) rfl rfl (hb hby q47_81)
    refine gS st29 ?_
    have E := E.wr W29
    have FV := FV.other W29 (Or.inl (Ne.symm ne12))
    have FC := FC.other W29 (Or.inl (Ne.symm ne12))
    have FN := FN.other W29 (Or.inl (Ne.symm ne12))
    have FM := FM.other W29 (Or.inl (Ne.symm ne12))
    have A := A.other W29 (Ne.symm ne1b)
    have ES := ES.wr W29
    have FVS := FVS.other W29 (Or.inr (slot_ne (Or.inr (own_w hw 37 rfl)) (Or.inr (own_w hw 35 rfl)) (by decide) (t := (.array .byte)) (t' := .byte) (by decide) (by decide)))
    have Zp30 := Nat.le_trans Z0 (Keep.of_wr W29).1
    have FCS := FCS.same W29
    have N31 := Fr.snoc X29 N26 ge_a1
    have OO := OO.wr W29 ge_a1
    have K32 := K0.wr W29 (Or.inl (List.mem_of_getElem? (i := 0) rfl))
    show Goes p ee below s _ _ _ (T29.setTop (mkF m 84 #[vR a1, vR a2, .val .null, vR b, vN n] []))
    refine gS (fun _ r => XS.aloadN X29.here hx rfl (hb hby q47_84) rfl rfl r) ?_
    refine gS (fun _ r => XS.aloadN X29.here hx rfl (hb hby q47_85) rfl rfl r) ?_
    refine gS (fun _ r => XS.iconst X29.here hx rfl (hb hby q47_86) r) ?_
    refine gS (fun _ r => XS.iload X29.here hx rfl (hb hby q47_87) rfl  r) ?_
    refine gS (fun _ r => XS.iconst X29.here hx rfl (hb hby q47_89) r) ?_
    refine gS (fun _ r => XT.ishl X29.here hx rfl (hb hby q47_90) rfl r) ?_
    show Goes p ee below s _ _ _ (T29.setTop (mkF m 91 #[vR a1, vR a2, .val .null, vR b, vN n] [(.int ((Int32.ofNat n) <<< ((1 : Int32) &&& 31))), (.int (0 : Int32)), (.ref b), (.ref a1)]))
    rw [own_shl1 n (by omega)]
    show Goes p ee below s _ _ _ (T29.setTop (mkF m 91 #[vR a1, vR a2, .val .null, vR b, vN n] [(.int (Int32.ofNat (2 * n))), (.int (0 : Int32)), (.ref b), (.ref a1)]))
    have lt_a2 := E.lt
    have lt_b := A.lt
    have lt_a1 := ES.lt
    obtain ⟨v33, T33, L33, X33, hQ33, st33⟩ := own_callS X29 hx hZ (y := (⟨"java/util/Arrays", "copyOfRange", "([BII)[B"⟩ : MethodName)) hown (own_w hw 243 rfl) (own_w hw 244 rfl) (own_w hw 245 rfl) (own_w hw 246 rfl) (by decide) (argsL := [(.ref b), (.int (0 : Int32)), (.int (Int32.ofNat (2 * n)))]) (rm_cor l Z a0 hw [] cs fm b 0 (2 * n) _ _ h29 n0 Zp30 ST OO (by omega) (Nat.zero_le _) (by omega) (by omega) A) e29 (W := 1) (by decide) (by decide) (by decide) (by decide) (g := (mkF m 91 #[vR a1, vR a2, .val .null, vR b, vN n] [(.int (Int32.ofNat (2 * n))), (.int (0 : Int32)), (.ref b), (.ref a1)])) rfl (by rw [hml]; rfl) (rest := [(.ref a1)]) (lenOf pd_15 rfl) rfl (by show 2 * 0 + _ ≤ _; exact Nat.le_of_eq rfl) (hb hby q47_91)
    refine gS st33 ?_
    obtain ⟨b33, rfl, N33, sz33, Kc33, A_b33⟩ := hQ33
    have N34 := Fr.app N31 N33
    obtain ⟨h33, e33⟩ : ∃ h', T33.heap = h' := ⟨_, rfl⟩
    rw [e33] at Kc33 A_b33
    have E := E.keep Kc33
    have FV := FV.keep Kc33 nin0
    have FC := FC.keep Kc33 nin0
    have FN := FN.keep Kc33 nin0
    have FM := FM.keep Kc33 nin0
    have A := A.keep Kc33 nin0
    have ES := ES.keep Kc33
    have FVS := FVS.keep Kc33 nin0
    have FCS := FCS.keep Kc33 nin0
    have OO := OO.keep Kc33 all0
    have K35 := K32.trans Kc33 all0
    have Zp36 := Nat.le_trans Zp30 Kc33.1
    have ge_b33 : n0 ≤ b33 := Nat.le_trans Zp30 sz33
    have sz_b33 : h0.size ≤ b33 := Nat.le_trans K32.1 sz33
    have ne_a2_b33 : a2 ≠ b33 := Nat.ne_of_lt (Nat.lt_of_lt_of_le lt_a2 sz33)
    have ne_b_b33 : b ≠ b33 := Nat.ne_of_lt (Nat.lt_of_lt_of_le lt_b sz33)
    have ne_a1_b33 : a1 ≠ b33 := Nat.ne_of_lt (Nat.lt_of_lt_of_le lt_a1 sz33)
    have A_b33 : OA Z h33 b33 .byte (own_len true n) (own_by true c) := (by
      show OA Z h33 _ .byte (2 * n) _
      exact A_b33.congr (fun t ht => (congrArg f (Nat.zero_add t)).trans (hf t ht)))
    show Goes p ee below s _ _ _ (T33.setTop (mkF m 94 #[vR a1, vR a2, .val .null, vR b, vN n] [(.ref b33), (.ref a1)]))
    obtain ⟨T37, h37, X37, e37, W37, st37⟩ := putF X33 hx hZ hown (host := "") (Or.inl (own_w hw 36 rfl)) Via.refl e33 FVS ES (Or.inr ⟨(own_w hw 37 rfl), rfl, hnm⟩) (own_w hw 9 rfl) (ty := (.array .byte)) (by decide) rfl rfl (g := (mkF m 94 #[vR a1, vR a2, .val .null, vR b, vN n] [(.ref b33), (.ref a1)])) rfl rfl (hb hby q47_94)
    refine gS st37 ?_
    have E := E.wr W37
    have FV := FV.other W37 (Or.inl (Ne.symm ne12))
    have FC := FC.other W37 (Or.inl (Ne.symm ne12))
    have FN := FN.other W37 (Or.inl (Ne.symm ne12))
    have FM := FM.other W37 (Or.inl (Ne.symm ne12))
    have A := A.other W37 (Ne.symm ne1b)
    have ES := ES.wr W37
    have FCS := FCS.other W37 (Or.inr (slot_ne (Or.inr (own_w hw 35 rfl)) (Or.inr (own_w hw 37 rfl)) (by decide) (t := .byte) (t' := (.array .byte)) (by decide) (by decide)))
    have A_b33 := A_b33.other W37 (Ne.symm ne_a1_b33)
    have Zp38 := Nat.le_trans Zp36 (Keep.of_wr W37).1
    have FVS := FVS.same W37
    have N39 := Fr.snoc X37 N34 ge_a1
    have OO := OO.wr W37 ge_a1
    have K40 := K35.wr W37 (Or.inl (List.mem_of_getElem? (i := 0) rfl))
    show Goes p ee below s _ _ _ (T37.setTop (mkF m 97 #[vR a1, vR a2, .val .null, vR b, vN n] []))
    refine Goes.retV X37 hx Bd.notSynchronized Bd.returns (hb hby q47_97) (by decide) (by decide) ?_
    rw [e37]
    exact ⟨rfl, N39, K40, b33, sz_b33, ES, FVS, FCS, A_b33⟩
theorem ef_sis (m : MethodId) (x0 : Addr) (x1 : Addr) : entryFrame m #[(.ref x0), (.ref x1)] 2 = mkF m 0 #[.val (.ref x0), .val (.ref x1)] [] := by first | (simp [entryFrame, mkF, argsToLocals, Value.category]; done) | rfl
theorem q48_0 : decode c48_ 0 = .ok (.aload_n 0, 1) := by decide +kernel
theorem q48_1 : decode c48_ 1 = .ok (.aload_n 1, 1) := by decide +kernel
theorem q48_2 : decode c48_ 2 = .ok (.aconst_null, 1) := by decide +kernel
theorem pd_30 : parseMethodDescriptor "(Ljava/lang/AbstractStringBuilder;Ljava/lang/Void;)V" = some ⟨[(.object "java/lang/AbstractStringBuilder"), (.object "java/lang/Void")], none⟩ := by decide +kernel
theorem q48_3 : decode c48_ 3 = .ok (.invokespecial 489, 3) := by decide +kernel
theorem q48_6 : decode c48_ 6 = .ok (.return_, 1) := by decide +kernel
def Q_sis (Z : State) (cs : Int32) (fm : Value) (a1 a2 b : Addr) (u : Bool) (n : Nat) (c : Nat → Nat) (f : Nat → Value) (uv uc : Value) (h0 : Heap) (n0 : Nat) (v : Option Value) (h : Heap) (L : List Loc) : Prop := v = none ∧ Fr n0 L ∧ Keep h0 h [a1] ∧ ∃ b' : Addr, h0.size ≤ b' ∧ Exa Z h a1 "java/lang/String" ∧ Fld Z h a1 "java/lang/String" "value" "[B" (.ref b') ∧ Fld Z h a1 "java/lang/String" "coder" "B" (.int (own_cd u)) ∧ OA Z h b' .byte (own_len u n) (own_by u c)
set_option maxRecDepth 65536 in
set_option maxHeartbeats 40000000 in
theorem rm_sis (l : Launch) (Z : State) (a0 : Array Value) (hw : ∀ d ∈ tables_1, d.before a0 Z = true) (ws : List Jvm.Cond) (cs : Int32) (fm : Value) (a1 a2 b : Addr) (u : Bool) (n : Nat) (c : Nat → Nat) (f : Nat → Value) (uv uc : Value) (h0 : Heap) (n0 : Nat) (Z0 : n0 ≤ h0.size) (ST : own_ST Z cs fm) (OO : Old Z n0 h0) (hn : n < 16) (ge_a1 : n0 ≤ a1) (ne12 : a1 ≠ a2) (ne1b : a1 ≠ b) (ES : Exa Z h0 a1 "java/lang/String") (FVS : Fld Z h0 a1 "java/lang/String" "value" "[B" uv) (FCS : Fld Z h0 a1 "java/lang/String" "coder" "B" uc) (B : own_B Z h0 a2 b u n) (A : OA Z h0 b .byte (own_len u 16) f) (hf : ∀ j, j < own_len u n → f j = own_by u c j) :
    MetFree l (⟨"java/lang/String", "<init>", "(Ljava/lang/StringBuilder;)V"⟩ : MethodName) (head1 (Jvm.Cond.code (⟨"java/lang/String", "<init>", "(Ljava/lang/StringBuilder;)V"⟩ : MethodName) jdk_42_method_53_code 2 none :: ws) ({ frames := 4, cells := 1, slots := 32, locals := 65 } : Room)) (fun a U => a = #[(.ref a1), (.ref a2)] ∧ Z.Warmed39 U.vm ∧ U.heap = h0) (fun _ _ _ _ _ => True) (fun _ U o U' => ∃ v L, o = .returned v ∧ Q_sis Z cs fm a1 a2 b u n c f uv uc h0 n0 v U'.heap L ∧ FrameEnd U o U' L ({ frames := 4, cells := 1, slots := 32, locals := 65 } : Room).cells ({ frames := 4, cells := 1, slots := 32, locals := 65 } : Room).slots) := by
  refine MetFree.of_bodySF (plainFor_of_name pn_java_lang_String) hisR ?_
  intro p ee s m args below meth cc s₁ Bd hml0 hP hK
  obtain ⟨rfl, hZ, hh⟩ := hP
  have hx := Bd.exec
  have hby := Bd.bytes
  have hml : cc.maxLocals = 2 := hml0
  have hown : s.vm.findClass "java/lang/String" = some m.cls := findClass_of_methodNamed Bd.named
  have hnm := (name_of_methodNamed Bd.named Bd.method).1
  have X0 : Stand p l ee ({ frames := 4, cells := 1, slots := 32, locals := 65 } : Room) s m #[(.ref a1), (.ref a2)] below meth cc s₁ [] 0 0 := Stand.of_body Bd
  have e0 : s₁.heap = h0 := by rw [← hh, Bd.state]; rfl
  have N0 := Fr.nil n0
  show Goes p ee below s ({ frames := 4, cells := 1, slots := 32, locals := 65 } : Room).cells ({ frames := 4, cells := 1, slots := 32, locals := 65 } : Room).slots (Q_sis Z cs fm a1 a2 b u n c f uv uc h0 n0) (s₁.setTop (entryFrame m #[(.ref a1), (.ref a2)] 2))
  refine gS (fun _ r => castTop (ef_sis m a1 a2) r) ?_
  show Goes p ee below s _ _ _ (s₁.setTop (mkF m 0 #[vR a1, vR a2] []))
  obtain ⟨E, FV, FC, FN, FM⟩ := B
  show Goes p ee below s _ _ _ (s₁.setTop (mkF m 0 #[vR a1, vR a2] []))
  have K0 := Keep.refl h0 ([a1] : List Addr)
  refine gS (fun _ r => XS.aloadN X0.here hx rfl (hb hby q48_0) rfl rfl r) ?_
  refine gS (fun _ r => XS.aloadN X0.here hx rfl (hb hby q48_1) rfl rfl r) ?_
  refine gS (fun _ r => XS.aconstNull X0.here hx rfl (hb hby q48_2) r) ?_
  have lt_a2 := E.lt
  have lt_b := A.lt
  have lt_a1 := ES.lt
  obtain ⟨v1, T1, L1, X1, hQ1, st1⟩ := own_callN X0 hx hZ (y := (⟨"java/lang/String", "<init>", "(Ljava/lang/AbstractStringBuilder;Ljava/lang/Void;)V"⟩ : MethodName)) rfl hown (own_w hw 226 rfl) (own_w hw 227 rfl) (own_w hw 10 rfl) (own_w hw 228 rfl) (by decide) (a := a1) (argsL := [(.ref a2), .null]) (rm_sia l Z a0 hw [] cs fm a1 a2 b u n c f _ _ h0 n0 Z0 ST OO hn ge_a1 ne12 ne1b ES FVS FCS ⟨E, FV, FC, FN, FM⟩ A hf) e0 (W := 0) (by decide) (by decide) (by decide) (by decide) (g := (mkF m 3 #[vR a1, vR a2] [.null, (.ref a2), (.ref a1)])) rfl (by rw [hml]; rfl) (rest := []) (lenOf pd_30 rfl) rfl (by show 2 * 0 + _ ≤ _; exact Nat.le_of_eq rfl) (hb hby q48_3)
  refine gS st1 ?_
  obtain ⟨rfl, N1, Kc1, b1, sz1, Ei1, Fv1, Fc1, A_b1⟩ := hQ1
  have N2 := Fr.app N0 N1
  obtain ⟨h1, e1⟩ : ∃ h', T1.heap = h' := ⟨_, rfl⟩
  rw [e1] at Kc1 Ei1 Fv1 Fc1 A_b1
  have E := E.keep Kc1
  have FV := FV.keep Kc1 (ninS (Ne.symm ne12) nin0)
  have FC := FC.keep Kc1 (ninS (Ne.symm ne12) nin0)
  have FN := FN.keep Kc1 (ninS (Ne.symm ne12) nin0)
  have FM := FM.keep Kc1 (ninS (Ne.symm ne12) nin0)
  have A := A.keep Kc1 (ninS (Ne.symm ne1b) nin0)
  have OO := OO.keep Kc1 (allS ge_a1 all0)
  have K3 := K0.trans Kc1 (allS (Or.inl (List.mem_of_getElem? (i := 0) rfl)) all0)
  have Zp4 := Nat.le_trans Z0 Kc1.1
  have ge_b1 : n0 ≤ b1 := Nat.le_trans Z0 sz1
  have sz_b1 : h0.size ≤ b1 := Nat.le_trans K0.1 sz1
  have ne_a2_b1 : a2 ≠ b1 := Nat.ne_of_lt (Nat.lt_of_lt_of_le lt_a2 sz1)
  have ne_b_b1 : b ≠ b1 := Nat.ne_of_lt (Nat.lt_of_lt_of_le lt_b sz1)
  have ne_a1_b1 : a1 ≠ b1 := Nat.ne_of_lt (Nat.lt_of_lt_of_le lt_a1 sz1)
  show Goes p ee below s _ _ _ (T1.setTop (mkF m 6 #[vR a1, vR a2] []))
  refine Goes.retV X1 hx Bd.notSynchronized Bd.returns (hb hby q48_6) (by decide) (by decide) ?_
  rw [e1]
  exact ⟨rfl, N2, K3, b1, sz_b1, Ei1, Fv1, Fc1, A_b1⟩
theorem ef_sts (m : MethodId) (x0 : Addr) : entryFrame m #[(.ref x0)] 1 = mkF m 0 #[.val (.ref x0)] [] := by first | (simp [entryFrame, mkF, argsToLocals, Value.category]; done) | rfl
theorem q49_0 : decode c49_ 0 = .ok (.new 18, 3) := by decide +kernel
theorem q49_3 : decode c49_ 3 = .ok (.dup, 1) := by decide +kernel
theorem q49_4 : decode c49_ 4 = .ok (.aload_n 0, 1) := by decide +kernel
theorem pd_31 : parseMethodDescriptor "(Ljava/lang/StringBuilder;)V" = some ⟨[(.object "java/lang/StringBuilder")], none⟩ := by decide +kernel
theorem q49_5 : decode c49_ 5 = .ok (.invokespecial 137, 3) := by decide +kernel
theorem q49_8 : decode c49_ 8 = .ok (.areturn, 1) := by decide +kernel
def Q_sts (Z : State) (cs : Int32) (fm : Value) (a1 b : Addr) (u : Bool) (n : Nat) (c : Nat → Nat) (f : Nat → Value) (h0 : Heap) (n0 : Nat) (v : Option Value) (h : Heap) (L : List Loc) : Prop := ∃ (o b' : Addr), v = some (.ref o) ∧ Fr n0 L ∧ Keep h0 h [] ∧ h0.size ≤ o ∧ h0.size ≤ b' ∧ Exa Z h o "java/lang/String" ∧ Fld Z h o "java/lang/String" "value" "[B" (.ref b') ∧ Fld Z h o "java/lang/String" "coder" "B" (.int (own_cd u)) ∧ OA Z h b' .byte (own_len u n) (own_by u c)
set_option maxRecDepth 65536 in
set_option maxHeartbeats 40000000 in
theorem rm_sts (l : Launch) (Z : State) (a0 : Array Value) (hw : ∀ d ∈ tables_1, d.before a0 Z = true) (ws : List Jvm.Cond) (cs : Int32) (fm : Value) (a1 b : Addr) (u : Bool) (n : Nat) (c : Nat → Nat) (f : Nat → Value) (h0 : Heap) (n0 : Nat) (Z0 : n0 ≤ h0.size) (ST : own_ST Z cs fm) (OO : Old Z n0 h0) (hn : n < 16) (B : own_B Z h0 a1 b u n) (A : OA Z h0 b .byte (own_len u 16) f) (hf : ∀ j, j < own_len u n → f j = own_by u c j) :
    MetFree l (⟨"java/lang/StringBuilder", "toString", "()Ljava/lang/String;"⟩ : MethodName) (head1 (Jvm.Cond.code (⟨"java/lang/StringBuilder", "toString", "()Ljava/lang/String;"⟩ : MethodName) jdk_67_method_42_code 1 (some (.object "java/lang/String")) :: ws) ({ frames := 5, cells := 2, slots := 36, locals := 79 } : Room)) (fun a U => a = #[(.ref a1)] ∧ Z.Warmed39 U.vm ∧ U.heap = h0) (fun _ _ _ _ _ => True) (fun _ U o U' => ∃ v L, o = .returned v ∧ Q_sts Z cs fm a1 b u n c f h0 n0 v U'.heap L ∧ FrameEnd U o U' L ({ frames := 5, cells := 2, slots := 36, locals := 79 } : Room).cells ({ frames := 5, cells := 2, slots := 36, locals := 79 } : Room).slots) := by
  refine MetFree.of_bodySF (plainFor_of_name pn_java_lang_StringBuilder) hisR ?_
  intro p ee s m args below meth cc s₁ Bd hml0 hP hK
  obtain ⟨rfl, hZ, hh⟩ := hP
  have hx := Bd.exec
  have hby := Bd.bytes
  have hml : cc.maxLocals = 1 := hml0
  have hown : s.vm.findClass "java/lang/StringBuilder" = some m.cls := findClass_of_methodNamed Bd.named
  have hnm := (name_of_methodNamed Bd.named Bd.method).1
  have X0 : Stand p l ee ({ frames := 5, cells := 2, slots := 36, locals := 79 } : Room) s m #[(.ref a1)] below meth cc s₁ [] 0 0 := Stand.of_body Bd
  have e0 : s₁.heap = h0 := by rw [← hh, Bd.state]; rfl
  have N0 := Fr.nil n0
  show Goes p ee below s ({ frames := 5, cells := 2, slots := 36, locals := 79 } : Room).cells ({ frames := 5, cells := 2, slots := 36, locals := 79 } : Room).slots (Q_sts Z cs fm a1 b u n c f h0 n0) (s₁.setTop (entryFrame m #[(.ref a1)] 1))
  refine gS (fun _ r => castTop (ef_sts m a1) r) ?_
  show Goes p ee below s _ _ _ (s₁.setTop (mkF m 0 #[vR a1] []))
  obtain ⟨E, FV, FC, FN, FM⟩ := B
  show Goes p ee below s _ _ _ (s₁.setTop (mkF m 0 #[vR a1] []))
  have K0 := Keep.refl h0 ([] : List Addr)
  obtain ⟨T1, h1, X1, e1, E1, A1, D1, -, st1⟩ := newO X0 hx hZ hown (own_w hw 222 rfl) (own_w hw 9 rfl) (own_w hw 10 rfl) e0 (g := (mkF m 0 #[vR a1] [])) rfl (hb hby q49_0) (by decide) (by decide)
  obtain ⟨b1, g_b1⟩ : ∃ z, z = h0.size := ⟨_, rfl⟩
  have ne_a1_b1 : a1 ≠ b1 := Nat.ne_of_lt (Nat.lt_of_lt_of_le E.lt (Nat.le_of_eq g_b1.symm))
  have ne_b_b1 : b ≠ b1 := Nat.ne_of_lt (Nat.lt_of_lt_of_le A.lt (Nat.le_of_eq g_b1.symm))
  have ge_b1 : n0 ≤ b1 := Nat.le_trans Z0 (Nat.le_of_eq g_b1.symm)
  have sz_b1 : h0.size ≤ b1 := Nat.le_trans K0.1 (Nat.le_of_eq g_b1.symm)
  rw [← g_b1] at A1 D1 st1
  have E := E.ext E1
  have FV := FV.ext E1
  have FC := FC.ext E1
  have FN := FN.ext E1
  have FM := FM.ext E1
  have A := A.ext E1
  have Zp2 := Nat.le_trans Z0 E1.1
  have OO := OO.ext E1
  have K3 := K0.ext E1
  refine gS st1 ?_
  have E_b1 := A1
  have F_coder_b1 : Fld Z h1 b1 "java/lang/String" "coder" "B" (.int (0 : Int32)) := D1 (Or.inr (own_w hw 35 rfl)) (ty := .byte) (by decide)
  have F_value_b1 : Fld Z h1 b1 "java/lang/String" "value" "[B" .null := D1 (Or.inr (own_w hw 37 rfl)) (ty := (.array .byte)) (by decide)
  show Goes p ee below s _ _ _ (T1.setTop (mkF m 3 #[vR a1] [(.ref b1)]))
  refine gS (fun _ r => XS.dup X1.here hx rfl (hb hby q49_3) rfl rfl r) ?_
  refine gS (fun _ r => XS.aloadN X1.here hx rfl (hb hby q49_4) rfl rfl r) ?_
  have lt_a1 := E.lt
  have lt_b := A.lt
  have lt_b1 := E_b1.lt
  obtain ⟨v4, T4, L4, X4, hQ4, st4⟩ := own_callN X1 hx hZ (y := (⟨"java/lang/String", "<init>", "(Ljava/lang/StringBuilder;)V"⟩ : MethodName)) rfl hown (own_w hw 223 rfl) (own_w hw 224 rfl) (own_w hw 10 rfl) (own_w hw 225 rfl) (by decide) (a := b1) (argsL := [(.ref a1)]) (rm_sis l Z a0 hw [] cs fm b1 a1 b u n c f _ _ h1 n0 Zp2 ST OO hn ge_b1 (Ne.symm ne_a1_b1) (Ne.symm ne_b_b1) E_b1 F_value_b1 F_coder_b1 ⟨E, FV, FC, FN, FM⟩ A hf) e1 (W := 1) (by decide) (by decide) (by decide) (by decide) (g := (mkF m 5 #[vR a1] [(.ref a1), (.ref b1), (.ref b1)])) rfl (by rw [hml]; rfl) (rest := [(.ref b1)]) (lenOf pd_31 rfl) rfl (by show 2 * 0 + _ ≤ _; exact Nat.le_of_eq rfl) (hb hby q49_5)
  refine gS st4 ?_
  obtain ⟨rfl, N4, Kc4, b4, sz4, Ei4, Fv4, Fc4, A_b4⟩ := hQ4
  have N5 := Fr.app N0 N4
  obtain ⟨h4, e4⟩ : ∃ h', T4.heap = h' := ⟨_, rfl⟩
  rw [e4] at Kc4 Ei4 Fv4 Fc4 A_b4
  have E := E.keep Kc4
  have FV := FV.keep Kc4 (ninS ne_a1_b1 nin0)
  have FC := FC.keep Kc4 (ninS ne_a1_b1 nin0)
  have FN := FN.keep Kc4 (ninS ne_a1_b1 nin0)
  have FM := FM.keep Kc4 (ninS ne_a1_b1 nin0)
  have A := A.keep Kc4 (ninS ne_b_b1 nin0)
  have OO := OO.keep Kc4 (allS ge_b1 all0)
  have K6 := K3.trans Kc4 (allS (Or.inr sz_b1) all0)
  have Zp7 := Nat.le_trans Zp2 Kc4.1
  have ge_b4 : n0 ≤ b4 := Nat.le_trans Zp2 sz4
  have sz_b4 : h0.size ≤ b4 := Nat.le_trans K3.1 sz4
  have ne_a1_b4 : a1 ≠ b4 := Nat.ne_of_lt (Nat.lt_of_lt_of_le lt_a1 sz4)
  have ne_b_b4 : b ≠ b4 := Nat.ne_of_lt (Nat.lt_of_lt_of_le lt_b sz4)
  have ne_b1_b4 : b1 ≠ b4 := Nat.ne_of_lt (Nat.lt_of_lt_of_le lt_b1 sz4)
  show Goes p ee below s _ _ _ (T4.setTop (mkF m 8 #[vR a1] [(.ref b1)]))
  refine Goes.retA X4 hx Bd.notSynchronized Bd.returns rfl rfl (hb hby q49_8) (by decide) (by decide) ?_
  rw [e4]
  exact ⟨b1, b4, rfl, N5, K6, sz_b1, sz_b4, Ei4, Fv4, Fc4, A_b4⟩
theorem ef_asi (m : MethodId) (x0 : Addr) (x1 : Int32) : entryFrame m #[(.ref x0), (.int x1)] 2 = mkF m 0 #[.val (.ref x0), .val (.int x1)] [] := by first | (simp [entryFrame, mkF, argsToLocals, Value.category]; done) | rfl
theorem q50_0 : decode c50_ 0 = .ok (.aload_n 0, 1) := by decide +kernel
theorem q50_1 : decode c50_ 1 = .ok (.invokespecial 3, 3) := by decide +kernel
theorem q50_4 : decode c50_ 4 = .ok (.getstatic 18, 3) := by decide +kernel
theorem q50_7 : decode c50_ 7 = .ok (.ifCond .eq 18, 3) := by decide +kernel
theorem q50_10 : decode c50_ 10 = .ok (.aload_n 0, 1) := by decide +kernel
theorem q50_11 : decode c50_ 11 = .ok (.iload_n 1, 1) := by decide +kernel
theorem q50_12 : decode c50_ 12 = .ok (.newarray .byte, 2) := by decide +kernel
theorem q50_14 : decode c50_ 14 = .ok (.putfield 15, 3) := by decide +kernel
theorem q50_17 : decode c50_ 17 = .ok (.aload_n 0, 1) := by decide +kernel
theorem q50_18 : decode c50_ 18 = .ok (.iconst 0, 1) := by decide +kernel
theorem q50_19 : decode c50_ 19 = .ok (.putfield 22, 3) := by decide +kernel
theorem q50_22 : decode c50_ 22 = .ok (.goto 16, 3) := by decide +kernel
theorem q50_38 : decode c50_ 38 = .ok (.return_, 1) := by decide +kernel
def Q_asi (Z : State) (cs : Int32) (fm : Value) (a1 : Addr) (uv uc : Value) (h0 : Heap) (n0 : Nat) (v : Option Value) (h : Heap) (L : List Loc) : Prop := v = none ∧ Fr n0 L ∧ Keep h0 h [a1] ∧ ∃ b : Addr, h0.size ≤ b ∧ own_B Z h a1 b false 0 ∧ OA Z h b .byte 16 (fun _ => .int 0)
set_option maxRecDepth 65536 in
set_option maxHeartbeats 40000000 in
theorem rm_asi (l : Launch) (Z : State) (a0 : Array Value) (hw : ∀ d ∈ tables_1, d.before a0 Z = true) (ws : List Jvm.Cond) (cs : Int32) (fm : Value) (a1 : Addr) (uv uc : Value) (h0 : Heap) (n0 : Nat) (Z0 : n0 ≤ h0.size) (ST : own_ST Z cs fm) (OO : Old Z n0 h0) (ge_a1 : n0 ≤ a1) (E : Exa Z h0 a1 "java/lang/StringBuilder") (FV : Fld Z h0 a1 "java/lang/AbstractStringBuilder" "value" "[B" uv) (FC : Fld Z h0 a1 "java/lang/AbstractStringBuilder" "coder" "B" uc) (FN : Fld Z h0 a1 "java/lang/AbstractStringBuilder" "count" "I" (.int 0)) (FM : Fld Z h0 a1 "java/lang/AbstractStringBuilder" "maybeLatin1" "Z" (.int 0)) :
    MetFree l (⟨"java/lang/AbstractStringBuilder", "<init>", "(I)V"⟩ : MethodName) (head1 (Jvm.Cond.code (⟨"java/lang/AbstractStringBuilder", "<init>", "(I)V"⟩ : MethodName) jdk_68_method_2_code 2 none :: ws) ({ frames := 1, cells := 1, slots := 16, locals := 12 } : Room)) (fun a U => a = #[(.ref a1), (.int (16 : Int32))] ∧ Z.Warmed39 U.vm ∧ U.heap = h0) (fun _ _ _ _ _ => True) (fun _ U o U' => ∃ v L, o = .returned v ∧ Q_asi Z cs fm a1 uv uc h0 n0 v U'.heap L ∧ FrameEnd U o U' L ({ frames := 1, cells := 1, slots := 16, locals := 12 } : Room).cells ({ frames := 1, cells := 1, slots := 16, locals := 12 } : Room).slots) := by
  refine MetFree.of_bodySF (plainFor_of_name pn_java_lang_AbstractStringBuilder) hisR ?_
  intro p ee s m args below meth cc s₁ Bd hml0 hP hK
  obtain ⟨rfl, hZ, hh⟩ := hP
  have hx := Bd.exec
  have hby := Bd.bytes
  have hml : cc.maxLocals = 2 := hml0
  have hown : s.vm.findClass "java/lang/AbstractStringBuilder" = some m.cls := findClass_of_methodNamed Bd.named
  have hnm := (name_of_methodNamed Bd.named Bd.method).1
  have X0 : Stand p l ee ({ frames := 1, cells := 1, slots := 16, locals := 12 } : Room) s m #[(.ref a1), (.int (16 : Int32))] below meth cc s₁ [] 0 0 := Stand.of_body Bd
  have e0 : s₁.heap = h0 := by rw [← hh, Bd.state]; rfl
  have N0 := Fr.nil n0
  show Goes p ee below s ({ frames := 1, cells := 1, slots := 16, locals := 12 } : Room).cells ({ frames := 1, cells := 1, slots := 16, locals := 12 } : Room).slots (Q_asi Z cs fm a1 uv uc h0 n0) (s₁.setTop (entryFrame m #[(.ref a1), (.int (16 : Int32))] 2))
  refine gS (fun _ r => castTop (ef_asi m a1 (16 : Int32)) r) ?_
  show Goes p ee below s _ _ _ (s₁.setTop (mkF m 0 #[vR a1, .val (.int (16 : Int32))] []))
  have K0 := Keep.refl h0 ([a1] : List Addr)
  refine gS (fun _ r => XS.aloadN X0.here hx rfl (hb hby q50_0) rfl rfl r) ?_
  obtain ⟨T1, X1, e1, st1⟩ := initO X0 hx hZ hown (own_w hw 137 rfl) (own_w hw 20 rfl) (own_w hw 21 rfl) e0 (g := (mkF m 1 #[vR a1, .val (.int (16 : Int32))] [(.ref a1)])) rfl (by rw [hml]; rfl) rfl (hb hby q50_1) (by decide) (W := 0) (by show 2 * 0 + _ ≤ _; exact Nat.le_of_eq rfl) (by decide)
  refine gS st1 ?_
  obtain ⟨T2, X2, e2, st2⟩ := getS X1 hx hZ (host := "") hown (own_w hw 138 rfl) Via.refl e1 ((ST.1).ext OO.2) (g := (mkF m 4 #[vR a1, .val (.int (16 : Int32))] [])) rfl (hb hby q50_4)
  refine gS st2 ?_
  refine gS (fun _ r => XS.ifNo X2.here hx rfl (hb hby q50_7) rfl ((if0 _ _).trans (feq (ST.2.1)).1) r) ?_
  refine gS (fun _ r => XS.aloadN X2.here hx rfl (hb hby q50_10) rfl rfl r) ?_
  refine gS (fun _ r => XS.iloadN X2.here hx rfl (hb hby q50_11) rfl  r) ?_
  show Goes p ee below s _ _ _ (T2.setTop (mkF m 12 #[vR a1, .val (.int (16 : Int32))] [(.int (16 : Int32)), (.ref a1)]))
  obtain ⟨T3, h3, X3, e3, E3, A3, st3⟩ := own_newP X2 hx hZ (aty := .byte) (own_w hw 27 rfl) e2 (z := (16 : Int32)) (by decide) (n := 16) rfl (cap := 16) (Nat.le_refl _) (by decide) (by decide) (by decide) (g := (mkF m 12 #[vR a1, .val (.int (16 : Int32))] [(.int (16 : Int32)), (.ref a1)])) rfl rfl (hb hby q50_12)
  obtain ⟨b3, g_b3⟩ : ∃ z, z = h0.size := ⟨_, rfl⟩
  have ne_a1_b3 : a1 ≠ b3 := Nat.ne_of_lt (Nat.lt_of_lt_of_le E.lt (Nat.le_of_eq g_b3.symm))
  have ge_b3 : n0 ≤ b3 := Nat.le_trans Z0 (Nat.le_of_eq g_b3.symm)
  have sz_b3 : h0.size ≤ b3 := Nat.le_trans K0.1 (Nat.le_of_eq g_b3.symm)
  rw [← g_b3] at A3 st3
  have E := E.ext E3
  have FV := FV.ext E3
  have FC := FC.ext E3
  have FN := FN.ext E3
  have FM := FM.ext E3
  have Zp4 := Nat.le_trans Z0 E3.1
  have OO := OO.ext E3
  have K5 := K0.ext E3
  refine gS st3 ?_
  have A_b3 : OA Z h3 b3 .byte 16 (fun _ => (.int 0)) := A3
  show Goes p ee below s _ _ _ (T3.setTop (mkF m 14 #[vR a1, .val (.int (16 : Int32))] [(.ref b3), (.ref a1)]))
  obtain ⟨T6, h6, X6, e6, W6, st6⟩ := putF X3 hx hZ hown (host := "") (Or.inl (own_w hw 139 rfl)) Via.refl e3 FV E (Or.inl (own_w hw 140 rfl)) (own_w hw 126 rfl) (ty := (.array .byte)) (by decide) rfl rfl (g := (mkF m 14 #[vR a1, .val (.int (16 : Int32))] [(.ref b3), (.ref a1)])) rfl rfl (hb hby q50_14)
  refine gS st6 ?_
  have E := E.wr W6
  have FC := FC.other W6 (Or.inr (slot_ne (Or.inl (own_w hw 142 rfl)) (Or.inl (own_w hw 140 rfl)) (by decide) (t := .byte) (t' := (.array .byte)) (by decide) (by decide)))
  have FN := FN.other W6 (Or.inr (slot_ne (Or.inl (own_w hw 176 rfl)) (Or.inl (own_w hw 140 rfl)) (by decide) (t := .int) (t' := (.array .byte)) (by decide) (by decide)))
  have FM := FM.other W6 (Or.inr (slot_ne (Or.inl (own_w hw 331 rfl)) (Or.inl (own_w hw 140 rfl)) (by decide) (t := .boolean) (t' := (.array .byte)) (by decide) (by decide)))
  have A_b3 := A_b3.other W6 (Ne.symm ne_a1_b3)
  have Zp7 := Nat.le_trans Zp4 (Keep.of_wr W6).1
  have FV := FV.same W6
  have N8 := Fr.snoc X6 N0 ge_a1
  have OO := OO.wr W6 ge_a1
  have K9 := K5.wr W6 (Or.inl (List.mem_of_getElem? (i := 0) rfl))
  show Goes p ee below s _ _ _ (T6.setTop (mkF m 17 #[vR a1, .val (.int (16 : Int32))] []))
  refine gS (fun _ r => XS.aloadN X6.here hx rfl (hb hby q50_17) rfl rfl r) ?_
  refine gS (fun _ r => XS.iconst X6.here hx rfl (hb hby q50_18) r) ?_
  show Goes p ee below s _ _ _ (T6.setTop (mkF m 19 #[vR a1, .val (.int (16 : Int32))] [(.int (0 : Int32)), (.ref a1)]))
  obtain ⟨T10, h10, X10, e10, W10, st10⟩ := putFN X6 hx hZ hown (own_w hw 141 rfl) Via.refl e6 FC E (Or.inl (own_w hw 142 rfl)) (own_w hw 126 rfl) (ty := .byte) (v' := (.int (0 : Int32))) (by decide) rfl rfl (g := (mkF m 19 #[vR a1, .val (.int (16 : Int32))] [(.int (0 : Int32)), (.ref a1)])) rfl rfl (hb hby q50_19)
  refine gS st10 ?_
  have E := E.wr W10
  have FV := FV.other W10 (Or.inr (slot_ne (Or.inl (own_w hw 140 rfl)) (Or.inl (own_w hw 142 rfl)) (by decide) (t := (.array .byte)) (t' := .byte) (by decide) (by decide)))
  have FN := FN.other W10 (Or.inr (slot_ne (Or.inl (own_w hw 176 rfl)) (Or.inl (own_w hw 142 rfl)) (by decide) (t := .int) (t' := .byte) (by decide) (by decide)))
  have FM := FM.other W10 (Or.inr (slot_ne (Or.inl (own_w hw 331 rfl)) (Or.inl (own_w hw 142 rfl)) (by decide) (t := .boolean) (t' := .byte) (by decide) (by decide)))
  have A_b3 := A_b3.other W10 (Ne.symm ne_a1_b3)
  have Zp11 := Nat.le_trans Zp7 (Keep.of_wr W10).1
  have FC := FC.same W10
  have N12 := Fr.snoc X10 N8 ge_a1
  have OO := OO.wr W10 ge_a1
  have K13 := K9.wr W10 (Or.inl (List.mem_of_getElem? (i := 0) rfl))
  show Goes p ee below s _ _ _ (T10.setTop (mkF m 22 #[vR a1, .val (.int (16 : Int32))] []))
  refine gS (fun _ r => XS.goto X10.here hx rfl (pc0 := 22) (pc' := 38) rfl (hb hby q50_22) (by decide) (by decide) r) ?_
  show Goes p ee below s _ _ _ (T10.setTop (mkF m 38 #[vR a1, .val (.int (16 : Int32))] []))
  refine Goes.retV X10 hx Bd.notSynchronized Bd.returns (hb hby q50_38) (by decide) (by decide) ?_
  rw [e10]
  exact ⟨rfl, N12, K13, b3, sz_b3, ⟨E, FV, FC, FN, FM⟩, A_b3.congr (fun j hj => rfl)⟩
theorem ef_sbi (m : MethodId) (x0 : Addr) : entryFrame m #[(.ref x0)] 1 = mkF m 0 #[.val (.ref x0)] [] := by first | (simp [entryFrame, mkF, argsToLocals, Value.category]; done) | rfl
theorem q51_0 : decode c51_ 0 = .ok (.aload_n 0, 1) := by decide +kernel
theorem q51_1 : decode c51_ 1 = .ok (.bipush 16, 2) := by decide +kernel
theorem q51_3 : decode c51_ 3 = .ok (.invokespecial 1, 3) := by decide +kernel
theorem q51_6 : decode c51_ 6 = .ok (.return_, 1) := by decide +kernel
def Q_sbi (Z : State) (cs : Int32) (fm : Value) (a1 : Addr) (uv uc : Value) (h0 : Heap) (n0 : Nat) (v : Option Value) (h : Heap) (L : List Loc) : Prop := v = none ∧ Fr n0 L ∧ Keep h0 h [a1] ∧ ∃ b : Addr, h0.size ≤ b ∧ own_B Z h a1 b false 0 ∧ OA Z h b .byte 16 (fun _ => .int 0)
set_option maxRecDepth 65536 in
set_option maxHeartbeats 40000000 in
theorem rm_sbi (l : Launch) (Z : State) (a0 : Array Value) (hw : ∀ d ∈ tables_1, d.before a0 Z = true) (ws : List Jvm.Cond) (cs : Int32) (fm : Value) (a1 : Addr) (uv uc : Value) (h0 : Heap) (n0 : Nat) (Z0 : n0 ≤ h0.size) (ST : own_ST Z cs fm) (OO : Old Z n0 h0) (ge_a1 : n0 ≤ a1) (E : Exa Z h0 a1 "java/lang/StringBuilder") (FV : Fld Z h0 a1 "java/lang/AbstractStringBuilder" "value" "[B" uv) (FC : Fld Z h0 a1 "java/lang/AbstractStringBuilder" "coder" "B" uc) (FN : Fld Z h0 a1 "java/lang/AbstractStringBuilder" "count" "I" (.int 0)) (FM : Fld Z h0 a1 "java/lang/AbstractStringBuilder" "maybeLatin1" "Z" (.int 0)) :
    MetFree l (⟨"java/lang/StringBuilder", "<init>", "()V"⟩ : MethodName) (head1 (Jvm.Cond.code (⟨"java/lang/StringBuilder", "<init>", "()V"⟩ : MethodName) jdk_67_method_1_code 1 none :: ws) ({ frames := 2, cells := 1, slots := 16, locals := 25 } : Room)) (fun a U => a = #[(.ref a1)] ∧ Z.Warmed39 U.vm ∧ U.heap = h0) (fun _ _ _ _ _ => True) (fun _ U o U' => ∃ v L, o = .returned v ∧ Q_sbi Z cs fm a1 uv uc h0 n0 v U'.heap L ∧ FrameEnd U o U' L ({ frames := 2, cells := 1, slots := 16, locals := 25 } : Room).cells ({ frames := 2, cells := 1, slots := 16, locals := 25 } : Room).slots) := by
  refine MetFree.of_bodySF (plainFor_of_name pn_java_lang_StringBuilder) hisR ?_
  intro p ee s m args below meth cc s₁ Bd hml0 hP hK
  obtain ⟨rfl, hZ, hh⟩ := hP
  have hx := Bd.exec
  have hby := Bd.bytes
  have hml : cc.maxLocals = 1 := hml0
  have hown : s.vm.findClass "java/lang/StringBuilder" = some m.cls := findClass_of_methodNamed Bd.named
  have hnm := (name_of_methodNamed Bd.named Bd.method).1
  have X0 : Stand p l ee ({ frames := 2, cells := 1, slots := 16, locals := 25 } : Room) s m #[(.ref a1)] below meth cc s₁ [] 0 0 := Stand.of_body Bd
  have e0 : s₁.heap = h0 := by rw [← hh, Bd.state]; rfl
  have N0 := Fr.nil n0
  show Goes p ee below s ({ frames := 2, cells := 1, slots := 16, locals := 25 } : Room).cells ({ frames := 2, cells := 1, slots := 16, locals := 25 } : Room).slots (Q_sbi Z cs fm a1 uv uc h0 n0) (s₁.setTop (entryFrame m #[(.ref a1)] 1))
  refine gS (fun _ r => castTop (ef_sbi m a1) r) ?_
  show Goes p ee below s _ _ _ (s₁.setTop (mkF m 0 #[vR a1] []))
  have K0 := Keep.refl h0 ([a1] : List Addr)
  refine gS (fun _ r => XS.aloadN X0.here hx rfl (hb hby q51_0) rfl rfl r) ?_
  refine gS (fun _ r => XS.bipush X0.here hx rfl (hb hby q51_1) r) ?_
  have lt_a1 := E.lt
  obtain ⟨v1, T1, L1, X1, hQ1, st1⟩ := own_callN X0 hx hZ (y := (⟨"java/lang/AbstractStringBuilder", "<init>", "(I)V"⟩ : MethodName)) rfl hown (own_w hw 131 rfl) (own_w hw 132 rfl) (own_w hw 135 rfl) (own_w hw 136 rfl) (by decide) (a := a1) (argsL := [(.int (16 : Int32))]) (rm_asi l Z a0 hw [] cs fm a1 _ _ h0 n0 Z0 ST OO ge_a1 E FV FC FN FM) e0 (W := 0) (by decide) (by decide) (by decide) (by decide) (g := (mkF m 3 #[vR a1] [(.int (16 : Int32)), (.ref a1)])) rfl (by rw [hml]; rfl) (rest := []) (lenOf pd_24 rfl) rfl (by show 2 * 0 + _ ≤ _; exact Nat.le_of_eq rfl) (hb hby q51_3)
  refine gS st1 ?_
  obtain ⟨rfl, N1, Kc1, b1, sz1, B1, A_b1⟩ := hQ1
  have N2 := Fr.app N0 N1
  obtain ⟨h1, e1⟩ : ∃ h', T1.heap = h' := ⟨_, rfl⟩
  rw [e1] at Kc1 B1 A_b1
  have OO := OO.keep Kc1 (allS ge_a1 all0)
  have K3 := K0.trans Kc1 (allS (Or.inl (List.mem_of_getElem? (i := 0) rfl)) all0)
  have Zp4 := Nat.le_trans Z0 Kc1.1
  have ge_b1 : n0 ≤ b1 := Nat.le_trans Z0 sz1
  have sz_b1 : h0.size ≤ b1 := Nat.le_trans K0.1 sz1
  have ne_a1_b1 : a1 ≠ b1 := Nat.ne_of_lt (Nat.lt_of_lt_of_le lt_a1 sz1)
  obtain ⟨E1, FV1, FC1, FN1, FM1⟩ := B1
  show Goes p ee below s _ _ _ (T1.setTop (mkF m 6 #[vR a1] []))
  refine Goes.retV X1 hx Bd.notSynchronized Bd.returns (hb hby q51_6) (by decide) (by decide) ?_
  rw [e1]
  exact ⟨rfl, N2, K3, b1, sz_b1, ⟨E1, FV1, FC1, FN1, FM1⟩, A_b1⟩
theorem own_by_congr {Z : State} {h : Heap} {b : Addr} {u : Bool} {n n' : Nat} {c c' : Nat → Nat} (e : n = n') (q : ∀ j, j < n → c j = c' j) (A : OA Z h b .byte (own_len u n) (own_by u c)) : OA Z h b .byte (own_len u n') (own_by u c') := by
  subst e
  refine A.congr fun j hj => ?_
  cases u
  · have hj : j < n := hj
    simp only [own_by, Bool.false_eq_true, if_false]
    rw [q j hj]
  · have hj : j < 2 * n := hj
    simp only [own_by, if_true]
    rw [q (j / 2) (by omega)]
theorem own_rem3 (k : Nat) (h : k ≤ 3) : Int32.ofNat k % (3 : Int32) = Int32.ofNat (k % 3) := by
  have : k = 0 ∨ k = 1 ∨ k = 2 ∨ k = 3 := by omega
  rcases this with rfl | rfl | rfl | rfl <;> decide
theorem own_lt0 (u : Bool) (n : Nat) (h0 : 0 < n) (h : n < 2 ^ 29) : ¬ Int32.ofNat (own_len u n) = 0 := by
  have h1 := own_len_le u n
  intro z
  have := (own_eqN (own_len u n) 0 (by omega) (by decide)).mp z
  omega
theorem ef_noBrace (m : MethodId) (x0 : Int32) : entryFrame m #[(.int x0)] 1 = mkF m 0 #[.val (.int x0)] [] := by first | (simp [entryFrame, mkF, argsToLocals, Value.category]; done) | rfl
theorem pn_com_example_aliran_aliran_KeySpaceKeyPinLaw : plainName "com/example/aliran/aliran/KeySpaceKeyPinLaw" = true := by first | (simp [plainName, overriddenIn]; done) | decide +kernel
theorem q52_0 : decode c52_ 0 = .ok (.iload_n 0, 1) := by decide +kernel
theorem q52_1 : decode c52_ 1 = .ok (.bipush 123, 2) := by decide +kernel
theorem q52_3 : decode c52_ 3 = .ok (.if_icmp .eq 9, 3) := by decide +kernel
theorem q52_12 : decode c52_ 12 = .ok (.iload_n 0, 1) := by decide +kernel
theorem q52_13 : decode c52_ 13 = .ok (.iconst 1, 1) := by decide +kernel
theorem q52_14 : decode c52_ 14 = .ok (.ixor, 1) := by decide +kernel
theorem q52_15 : decode c52_ 15 = .ok (.i2c, 1) := by decide +kernel
theorem q52_16 : decode c52_ 16 = .ok (.ireturn, 1) := by decide +kernel
theorem q52_6 : decode c52_ 6 = .ok (.iload_n 0, 1) := by decide +kernel
theorem q52_7 : decode c52_ 7 = .ok (.bipush 125, 2) := by decide +kernel
theorem q52_9 : decode c52_ 9 = .ok (.if_icmp .ne 8, 3) := by decide +kernel
theorem q52_17 : decode c52_ 17 = .ok (.iload_n 0, 1) := by decide +kernel
theorem q52_18 : decode c52_ 18 = .ok (.ireturn, 1) := by decide +kernel
def Q_noBrace (Z : State) (k : Nat) (h0 : Heap) (n0 : Nat) (v : Option Value) (h : Heap) (L : List Loc) : Prop := (∃ k', k' < 65536 ∧ (k' ≠ 123 ∧ k' ≠ 125) ∧ v = some (.int (Int32.ofNat k'))) ∧ Fr n0 L ∧ h = h0
set_option maxRecDepth 65536 in
set_option maxHeartbeats 40000000 in
theorem rm_noBrace (l : Launch) (Z : State) (a0 : Array Value) (hw : ∀ d ∈ tables_1, d.before a0 Z = true) (ws : List Jvm.Cond) (k : Nat) (h0 : Heap) (n0 : Nat) (Z0 : n0 ≤ h0.size) (hk : k < 65536) :
    MetFree l (⟨"com/example/aliran/aliran/KeySpaceKeyPinLaw", "noBrace", "(C)C"⟩ : MethodName) (head1 (Jvm.Cond.code (⟨"com/example/aliran/aliran/KeySpaceKeyPinLaw", "noBrace", "(C)C"⟩ : MethodName) method_2_code 1 (some .char) :: ws) ({ frames := 0, cells := 0, slots := 0, locals := 0 } : Room)) (fun a U => a = #[(.int (Int32.ofNat k))] ∧ Z.Warmed39 U.vm ∧ U.heap = h0) (fun _ _ _ _ _ => True) (fun _ U o U' => ∃ v L, o = .returned v ∧ Q_noBrace Z k h0 n0 v U'.heap L ∧ FrameEnd U o U' L ({ frames := 0, cells := 0, slots := 0, locals := 0 } : Room).cells ({ frames := 0, cells := 0, slots := 0, locals := 0 } : Room).slots) := by
  refine MetFree.of_bodySF (plainFor_of_name pn_com_example_aliran_aliran_KeySpaceKeyPinLaw) hisR ?_
  intro p ee s m args below meth cc s₁ Bd hml0 hP hK
  obtain ⟨rfl, hZ, hh⟩ := hP
  have hx := Bd.exec
  have hby := Bd.bytes
  have hml : cc.maxLocals = 1 := hml0
  have hown : s.vm.findClass "com/example/aliran/aliran/KeySpaceKeyPinLaw" = some m.cls := findClass_of_methodNamed Bd.named
  have hnm := (name_of_methodNamed Bd.named Bd.method).1
  have X0 : Stand p l ee ({ frames := 0, cells := 0, slots := 0, locals := 0 } : Room) s m #[(.int (Int32.ofNat k))] below meth cc s₁ [] 0 0 := Stand.of_body Bd
  have e0 : s₁.heap = h0 := by rw [← hh, Bd.state]; rfl
  have N0 := Fr.nil n0
  show Goes p ee below s ({ frames := 0, cells := 0, slots := 0, locals := 0 } : Room).cells ({ frames := 0, cells := 0, slots := 0, locals := 0 } : Room).slots (Q_noBrace Z k h0 n0) (s₁.setTop (entryFrame m #[(.int (Int32.ofNat k))] 1))
  refine gS (fun _ r => castTop (ef_noBrace m (Int32.ofNat k)) r) ?_
  show Goes p ee below s _ _ _ (s₁.setTop (mkF m 0 #[vN k] []))
  refine gS (fun _ r => XS.iloadN X0.here hx rfl (hb hby q52_0) rfl  r) ?_
  refine gS (fun _ r => XS.bipush X0.here hx rfl (hb hby q52_1) r) ?_
  by_cases hn3_1 : k = 123
  · refine gS (fun _ r => XS.icmpYes X0.here hx rfl (pc0 := 3) (pc' := 12) rfl (hb hby q52_3) rfl (teq ((own_eqN k 123 (by omega) (by decide)).mpr hn3_1)).1 (by decide) (by decide) r) ?_
    refine gS (fun _ r => XS.iloadN X0.here hx rfl (hb hby q52_12) rfl  r) ?_
    refine gS (fun _ r => XS.iconst X0.here hx rfl (hb hby q52_13) r) ?_
    refine gS (fun _ r => XT.ixor X0.here hx rfl (hb hby q52_14) rfl r) ?_
    show Goes p ee below s _ _ _ (s₁.setTop (mkF m 15 #[vN k] [(.int ((Int32.ofNat k) ^^^ (1 : Int32)))]))
    refine gS (fun _ r => XT.i2c X0.here hx rfl (hb hby q52_15) rfl r) ?_
    show Goes p ee below s _ _ _ (s₁.setTop (mkF m 16 #[vN k] [(.int ((Int32.ofNat k) ^^^ (1 : Int32)).toUInt32.toUInt16.toUInt32.toInt32)]))
    subst hn3_1
    rw [show ((Int32.ofNat 123) ^^^ (1 : Int32)).toUInt32.toUInt16.toUInt32.toInt32 = Int32.ofNat 122 from by decide]
    show Goes p ee below s _ _ _ (s₁.setTop (mkF m 16 #[vN 123] [(.int (Int32.ofNat 122))]))
    refine Goes.retZ X0 hx Bd.notSynchronized Bd.returns (by simp) (own_nchar 122 (by decide)) (hb hby q52_16) (by decide) (by decide) ?_
    exact ⟨⟨122, by decide, by decide, rfl⟩, N0, e0⟩
  · refine gS (fun _ r => XS.icmpNo X0.here hx rfl (hb hby q52_3) rfl (feq (fun z => hn3_1 ((own_eqN k 123 (by omega) (by decide)).mp z))).1 r) ?_
    refine gS (fun _ r => XS.iloadN X0.here hx rfl (hb hby q52_6) rfl  r) ?_
    refine gS (fun _ r => XS.bipush X0.here hx rfl (hb hby q52_7) r) ?_
    by_cases hn9_2 : k = 125
    · refine gS (fun _ r => XS.icmpNo X0.here hx rfl (hb hby q52_9) rfl (teq ((own_eqN k 125 (by omega) (by decide)).mpr hn9_2)).2 r) ?_
      show Goes p ee below s _ _ _ (s₁.setTop (mkF m 12 #[vN k] []))
      refine gS (fun _ r => XS.iloadN X0.here hx rfl (hb hby q52_12) rfl  r) ?_
      refine gS (fun _ r => XS.iconst X0.here hx rfl (hb hby q52_13) r) ?_
      refine gS (fun _ r => XT.ixor X0.here hx rfl (hb hby q52_14) rfl r) ?_
      refine gS (fun _ r => XT.i2c X0.here hx rfl (hb hby q52_15) rfl r) ?_
      show Goes p ee below s _ _ _ (s₁.setTop (mkF m 16 #[vN k] [(.int ((Int32.ofNat k) ^^^ (1 : Int32)).toUInt32.toUInt16.toUInt32.toInt32)]))
      subst hn9_2
      rw [show ((Int32.ofNat 125) ^^^ (1 : Int32)).toUInt32.toUInt16.toUInt32.toInt32 = Int32.ofNat 124 from by decide]
      show Goes p ee below s _ _ _ (s₁.setTop (mkF m 16 #[vN 125] [(.int (Int32.ofNat 124))]))
      refine Goes.retZ X0 hx Bd.notSynchronized Bd.returns (by simp) (own_nchar 124 (by decide)) (hb hby q52_16) (by decide) (by decide) ?_
      exact ⟨⟨124, by decide, by decide, rfl⟩, N0, e0⟩
    · refine gS (fun _ r => XS.icmpYes X0.here hx rfl (pc0 := 9) (pc' := 17) rfl (hb hby q52_9) rfl (feq (fun z => hn9_2 ((own_eqN k 125 (by omega) (by decide)).mp z))).2 (by decide) (by decide) r) ?_
      show Goes p ee below s _ _ _ (s₁.setTop (mkF m 17 #[vN k] []))
      refine gS (fun _ r => XS.iloadN X0.here hx rfl (hb hby q52_17) rfl  r) ?_
      show Goes p ee below s _ _ _ (s₁.setTop (mkF m 18 #[vN k] [(.int (Int32.ofNat k))]))
      refine Goes.retZ X0 hx Bd.notSynchronized Bd.returns (by simp) (own_nchar k hk) (hb hby q52_18) (by decide) (by decide) ?_
      exact ⟨⟨k, hk, ⟨hn3_1, hn9_2⟩, rfl⟩, N0, e0⟩
theorem ef_noClose (m : MethodId) (x0 : Int32) : entryFrame m #[(.int x0)] 1 = mkF m 0 #[.val (.int x0)] [] := by first | (simp [entryFrame, mkF, argsToLocals, Value.category]; done) | rfl
theorem q53_0 : decode c53_ 0 = .ok (.iload_n 0, 1) := by decide +kernel
theorem q53_1 : decode c53_ 1 = .ok (.bipush 125, 2) := by decide +kernel
theorem q53_3 : decode c53_ 3 = .ok (.if_icmp .ne 6, 3) := by decide +kernel
theorem q53_6 : decode c53_ 6 = .ok (.bipush 124, 2) := by decide +kernel
theorem q53_8 : decode c53_ 8 = .ok (.ireturn, 1) := by decide +kernel
theorem q53_9 : decode c53_ 9 = .ok (.iload_n 0, 1) := by decide +kernel
theorem q53_10 : decode c53_ 10 = .ok (.ireturn, 1) := by decide +kernel
def Q_noClose (Z : State) (k : Nat) (h0 : Heap) (n0 : Nat) (v : Option Value) (h : Heap) (L : List Loc) : Prop := (∃ k', k' < 65536 ∧ (k' ≠ 125) ∧ v = some (.int (Int32.ofNat k'))) ∧ Fr n0 L ∧ h = h0
set_option maxRecDepth 65536 in
set_option maxHeartbeats 40000000 in
theorem rm_noClose (l : Launch) (Z : State) (a0 : Array Value) (hw : ∀ d ∈ tables_1, d.before a0 Z = true) (ws : List Jvm.Cond) (k : Nat) (h0 : Heap) (n0 : Nat) (Z0 : n0 ≤ h0.size) (hk : k < 65536) :
    MetFree l (⟨"com/example/aliran/aliran/KeySpaceKeyPinLaw", "noClose", "(C)C"⟩ : MethodName) (head1 (Jvm.Cond.code (⟨"com/example/aliran/aliran/KeySpaceKeyPinLaw", "noClose", "(C)C"⟩ : MethodName) method_3_code 1 (some .char) :: ws) ({ frames := 0, cells := 0, slots := 0, locals := 0 } : Room)) (fun a U => a = #[(.int (Int32.ofNat k))] ∧ Z.Warmed39 U.vm ∧ U.heap = h0) (fun _ _ _ _ _ => True) (fun _ U o U' => ∃ v L, o = .returned v ∧ Q_noClose Z k h0 n0 v U'.heap L ∧ FrameEnd U o U' L ({ frames := 0, cells := 0, slots := 0, locals := 0 } : Room).cells ({ frames := 0, cells := 0, slots := 0, locals := 0 } : Room).slots) := by
  refine MetFree.of_bodySF (plainFor_of_name pn_com_example_aliran_aliran_KeySpaceKeyPinLaw) hisR ?_
  intro p ee s m args below meth cc s₁ Bd hml0 hP hK
  obtain ⟨rfl, hZ, hh⟩ := hP
  have hx := Bd.exec
  have hby := Bd.bytes
  have hml : cc.maxLocals = 1 := hml0
  have hown : s.vm.findClass "com/example/aliran/aliran/KeySpaceKeyPinLaw" = some m.cls := findClass_of_methodNamed Bd.named
  have hnm := (name_of_methodNamed Bd.named Bd.method).1
  have X0 : Stand p l ee ({ frames := 0, cells := 0, slots := 0, locals := 0 } : Room) s m #[(.int (Int32.ofNat k))] below meth cc s₁ [] 0 0 := Stand.of_body Bd
  have e0 : s₁.heap = h0 := by rw [← hh, Bd.state]; rfl
  have N0 := Fr.nil n0
  show Goes p ee below s ({ frames := 0, cells := 0, slots := 0, locals := 0 } : Room).cells ({ frames := 0, cells := 0, slots := 0, locals := 0 } : Room).slots (Q_noClose Z k h0 n0) (s₁.setTop (entryFrame m #[(.int (Int32.ofNat k))] 1))
  refine gS (fun _ r => castTop (ef_noClose m (Int32.ofNat k)) r) ?_
  show Goes p ee below s _ _ _ (s₁.setTop (mkF m 0 #[vN k] []))
  refine gS (fun _ r => XS.iloadN X0.here hx rfl (hb hby q53_0) rfl  r) ?_
  refine gS (fun _ r => XS.bipush X0.here hx rfl (hb hby q53_1) r) ?_
  by_cases hn3_1 : k = 125
  · refine gS (fun _ r => XS.icmpNo X0.here hx rfl (hb hby q53_3) rfl (teq ((own_eqN k 125 (by omega) (by decide)).mpr hn3_1)).2 r) ?_
    refine gS (fun _ r => XS.bipush X0.here hx rfl (hb hby q53_6) r) ?_
    show Goes p ee below s _ _ _ (s₁.setTop (mkF m 8 #[vN k] [(.int (124 : Int32))]))
    refine Goes.retZ X0 hx Bd.notSynchronized Bd.returns (by simp) rfl (hb hby q53_8) (by decide) (by decide) ?_
    exact ⟨⟨124, by decide, by decide, rfl⟩, N0, e0⟩
  · refine gS (fun _ r => XS.icmpYes X0.here hx rfl (pc0 := 3) (pc' := 9) rfl (hb hby q53_3) rfl (feq (fun z => hn3_1 ((own_eqN k 125 (by omega) (by decide)).mp z))).2 (by decide) (by decide) r) ?_
    refine gS (fun _ r => XS.iloadN X0.here hx rfl (hb hby q53_9) rfl  r) ?_
    show Goes p ee below s _ _ _ (s₁.setTop (mkF m 10 #[vN k] [(.int (Int32.ofNat k))]))
    refine Goes.retZ X0 hx Bd.notSynchronized Bd.returns (by simp) (own_nchar k hk) (hb hby q53_10) (by decide) (by decide) ?_
    exact ⟨⟨k, hk, hn3_1, rfl⟩, N0, e0⟩
theorem ef_l1tb (m : MethodId) (x0 : Int32) : entryFrame m #[(.int x0)] 1 = mkF m 0 #[.val (.int x0)] [] := by first | (simp [entryFrame, mkF, argsToLocals, Value.category]; done) | rfl
theorem q54_0 : decode c54_ 0 = .ok (.iconst 1, 1) := by decide +kernel
theorem q54_1 : decode c54_ 1 = .ok (.newarray .byte, 2) := by decide +kernel
theorem q54_3 : decode c54_ 3 = .ok (.dup, 1) := by decide +kernel
theorem q54_4 : decode c54_ 4 = .ok (.iconst 0, 1) := by decide +kernel
theorem q54_5 : decode c54_ 5 = .ok (.iload_n 0, 1) := by decide +kernel
theorem q54_6 : decode c54_ 6 = .ok (.i2b, 1) := by decide +kernel
theorem q54_7 : decode c54_ 7 = .ok (.bastore, 1) := by decide +kernel
theorem q54_8 : decode c54_ 8 = .ok (.areturn, 1) := by decide +kernel
def Q_l1tb (Z : State) (k : Nat) (h0 : Heap) (n0 : Nat) (v : Option Value) (h : Heap) (L : List Loc) : Prop := ∃ b : Addr, v = some (.ref b) ∧ Fr n0 L ∧ h0.size ≤ b ∧ Keep h0 h [] ∧ OA Z h b .byte (own_len false 1) (own_by false (fun _ => k))
set_option maxRecDepth 65536 in
set_option maxHeartbeats 40000000 in
theorem rm_l1tb (l : Launch) (Z : State) (a0 : Array Value) (hw : ∀ d ∈ tables_1, d.before a0 Z = true) (ws : List Jvm.Cond) (k : Nat) (h0 : Heap) (n0 : Nat) (Z0 : n0 ≤ h0.size)  :
    MetFree l (⟨"java/lang/StringLatin1", "toBytes", "(C)[B"⟩ : MethodName) (head1 (Jvm.Cond.code (⟨"java/lang/StringLatin1", "toBytes", "(C)[B"⟩ : MethodName) jdk_43_method_46_code 1 (some (.array .byte)) :: ws) ({ frames := 0, cells := 1, slots := 1, locals := 0 } : Room)) (fun a U => a = #[(.int (Int32.ofNat k))] ∧ Z.Warmed39 U.vm ∧ U.heap = h0) (fun _ _ _ _ _ => True) (fun _ U o U' => ∃ v L, o = .returned v ∧ Q_l1tb Z k h0 n0 v U'.heap L ∧ FrameEnd U o U' L ({ frames := 0, cells := 1, slots := 1, locals := 0 } : Room).cells ({ frames := 0, cells := 1, slots := 1, locals := 0 } : Room).slots) := by
  refine MetFree.of_bodySF (plainFor_of_name pn_java_lang_StringLatin1) hisR ?_
  intro p ee s m args below meth cc s₁ Bd hml0 hP hK
  obtain ⟨rfl, hZ, hh⟩ := hP
  have hx := Bd.exec
  have hby := Bd.bytes
  have hml : cc.maxLocals = 1 := hml0
  have hown : s.vm.findClass "java/lang/StringLatin1" = some m.cls := findClass_of_methodNamed Bd.named
  have hnm := (name_of_methodNamed Bd.named Bd.method).1
  have X0 : Stand p l ee ({ frames := 0, cells := 1, slots := 1, locals := 0 } : Room) s m #[(.int (Int32.ofNat k))] below meth cc s₁ [] 0 0 := Stand.of_body Bd
  have e0 : s₁.heap = h0 := by rw [← hh, Bd.state]; rfl
  have N0 := Fr.nil n0
  show Goes p ee below s ({ frames := 0, cells := 1, slots := 1, locals := 0 } : Room).cells ({ frames := 0, cells := 1, slots := 1, locals := 0 } : Room).slots (Q_l1tb Z k h0 n0) (s₁.setTop (entryFrame m #[(.int (Int32.ofNat k))] 1))
  refine gS (fun _ r => castTop (ef_l1tb m (Int32.ofNat k)) r) ?_
  show Goes p ee below s _ _ _ (s₁.setTop (mkF m 0 #[vN k] []))
  have K0 := Keep.refl h0 ([] : List Addr)
  refine gS (fun _ r => XS.iconst X0.here hx rfl (hb hby q54_0) r) ?_
  show Goes p ee below s _ _ _ (s₁.setTop (mkF m 1 #[vN k] [(.int (1 : Int32))]))
  obtain ⟨T1, h1, X1, e1, E1, A1, st1⟩ := own_newP X0 hx hZ (aty := .byte) (own_w hw 27 rfl) e0 (z := (1 : Int32)) (by decide) (n := 1) rfl (cap := 1) (Nat.le_refl _) (by decide) (by decide) (by decide) (g := (mkF m 1 #[vN k] [(.int (1 : Int32))])) rfl rfl (hb hby q54_1)
  obtain ⟨b1, g_b1⟩ : ∃ z, z = h0.size := ⟨_, rfl⟩
  have ge_b1 : n0 ≤ b1 := Nat.le_trans Z0 (Nat.le_of_eq g_b1.symm)
  have sz_b1 : h0.size ≤ b1 := Nat.le_trans K0.1 (Nat.le_of_eq g_b1.symm)
  rw [← g_b1] at A1 st1
  have Zp2 := Nat.le_trans Z0 E1.1
  have K3 := K0.ext E1
  refine gS st1 ?_
  have A_b1 : OA Z h1 b1 .byte 1 (fun _ => (.int 0)) := A1
  show Goes p ee below s _ _ _ (T1.setTop (mkF m 3 #[vN k] [(.ref b1)]))
  refine gS (fun _ r => XS.dup X1.here hx rfl (hb hby q54_3) rfl rfl r) ?_
  refine gS (fun _ r => XS.iconst X1.here hx rfl (hb hby q54_4) r) ?_
  refine gS (fun _ r => XS.iloadN X1.here hx rfl (hb hby q54_5) rfl  r) ?_
  refine gS (fun _ r => XT.i2b X1.here hx rfl (hb hby q54_6) rfl r) ?_
  show Goes p ee below s _ _ _ (T1.setTop (mkF m 7 #[vN k] [(.int (Int32.ofNat k).toInt8.toInt32), (.int (0 : Int32)), (.ref b1), (.ref b1)]))
  obtain ⟨T4, h4, X4, e4, W4, A4, st4⟩ := own_stB X1 hx hZ e1 A_b1 (x := (Int32.ofNat k).toInt8.toInt32) (j := (0 : Int32)) (by decide) (k := 0) rfl (by decide) (g := (mkF m 7 #[vN k] [(.int (Int32.ofNat k).toInt8.toInt32), (.int (0 : Int32)), (.ref b1), (.ref b1)])) rfl rfl (hb hby q54_7)
  refine gS st4 ?_
  have Zp5 := Nat.le_trans Zp2 (Keep.of_wr W4).1
  have N6 := Fr.snoc X4 N0 ge_b1
  have K7 := K3.wr W4 (Or.inr sz_b1)
  have A_b1 : OA Z h4 b1 .byte 1 (fun i => [(.int (nar .byte (Int32.ofNat k).toInt8.toInt32))].getD i (.int 0)) := A4.congr (fun i hi => by match i, hi with | 0, _ => rfl | i + 1, hi => omega)
  show Goes p ee below s _ _ _ (T4.setTop (mkF m 8 #[vN k] [(.ref b1)]))
  refine Goes.retA X4 hx Bd.notSynchronized Bd.returns rfl rfl (hb hby q54_8) (by decide) (by decide) ?_
  rw [e4]
  exact ⟨_, rfl, N6, sz_b1, K7, A_b1.congr (fun j hj => by
    have : j = 0 := by have : j < 1 := hj; omega
    subst this
    exact (congrArg Value.int (own_bt_nar (Int32.ofNat k))).trans (by simp [own_by, own_bt]))⟩
theorem ef_u16tb (m : MethodId) (x0 : Int32) : entryFrame m #[(.int x0)] 2 = mkF m 0 #[.val (.int x0), .unset] [] := by first | (simp [entryFrame, mkF, argsToLocals, Value.category]; done) | rfl
theorem q55_0 : decode c55_ 0 = .ok (.iconst 2, 1) := by decide +kernel
theorem q55_1 : decode c55_ 1 = .ok (.newarray .byte, 2) := by decide +kernel
theorem q55_3 : decode c55_ 3 = .ok (.astore_n 1, 1) := by decide +kernel
theorem q55_4 : decode c55_ 4 = .ok (.aload_n 1, 1) := by decide +kernel
theorem q55_5 : decode c55_ 5 = .ok (.iconst 0, 1) := by decide +kernel
theorem q55_6 : decode c55_ 6 = .ok (.iload_n 0, 1) := by decide +kernel
theorem q55_7 : decode c55_ 7 = .ok (.invokestatic 111, 3) := by decide +kernel
theorem q55_10 : decode c55_ 10 = .ok (.aload_n 1, 1) := by decide +kernel
theorem q55_11 : decode c55_ 11 = .ok (.areturn, 1) := by decide +kernel
def Q_u16tb (Z : State) (cs : Int32) (fm : Value) (k : Nat) (h0 : Heap) (n0 : Nat) (v : Option Value) (h : Heap) (L : List Loc) : Prop := ∃ b : Addr, v = some (.ref b) ∧ Fr n0 L ∧ h0.size ≤ b ∧ Keep h0 h [] ∧ OA Z h b .byte (own_len true 1) (own_by true (fun _ => k))
set_option maxRecDepth 65536 in
set_option maxHeartbeats 40000000 in
theorem rm_u16tb (l : Launch) (Z : State) (a0 : Array Value) (hw : ∀ d ∈ tables_1, d.before a0 Z = true) (ws : List Jvm.Cond) (cs : Int32) (fm : Value) (k : Nat) (h0 : Heap) (n0 : Nat) (Z0 : n0 ≤ h0.size) (ST : own_ST Z cs fm) (OO : Old Z n0 h0) (hk : k < 65536) :
    MetFree l (⟨"java/lang/StringUTF16", "toBytes", "(C)[B"⟩ : MethodName) (head1 (Jvm.Cond.code (⟨"java/lang/StringUTF16", "toBytes", "(C)[B"⟩ : MethodName) jdk_52_method_24_code 2 (some (.array .byte)) :: ws) ({ frames := 1, cells := 1, slots := 2, locals := 14 } : Room)) (fun a U => a = #[(.int (Int32.ofNat k))] ∧ Z.Warmed39 U.vm ∧ U.heap = h0) (fun _ _ _ _ _ => True) (fun _ U o U' => ∃ v L, o = .returned v ∧ Q_u16tb Z cs fm k h0 n0 v U'.heap L ∧ FrameEnd U o U' L ({ frames := 1, cells := 1, slots := 2, locals := 14 } : Room).cells ({ frames := 1, cells := 1, slots := 2, locals := 14 } : Room).slots) := by
  refine MetFree.of_bodySF (plainFor_of_name pn_java_lang_StringUTF16) hisR ?_
  intro p ee s m args below meth cc s₁ Bd hml0 hP hK
  obtain ⟨rfl, hZ, hh⟩ := hP
  have hx := Bd.exec
  have hby := Bd.bytes
  have hml : cc.maxLocals = 2 := hml0
  have hown : s.vm.findClass "java/lang/StringUTF16" = some m.cls := findClass_of_methodNamed Bd.named
  have hnm := (name_of_methodNamed Bd.named Bd.method).1
  have X0 : Stand p l ee ({ frames := 1, cells := 1, slots := 2, locals := 14 } : Room) s m #[(.int (Int32.ofNat k))] below meth cc s₁ [] 0 0 := Stand.of_body Bd
  have e0 : s₁.heap = h0 := by rw [← hh, Bd.state]; rfl
  have N0 := Fr.nil n0
  show Goes p ee below s ({ frames := 1, cells := 1, slots := 2, locals := 14 } : Room).cells ({ frames := 1, cells := 1, slots := 2, locals := 14 } : Room).slots (Q_u16tb Z cs fm k h0 n0) (s₁.setTop (entryFrame m #[(.int (Int32.ofNat k))] 2))
  refine gS (fun _ r => castTop (ef_u16tb m (Int32.ofNat k)) r) ?_
  show Goes p ee below s _ _ _ (s₁.setTop (mkF m 0 #[vN k, .unset] []))
  have K0 := Keep.refl h0 ([] : List Addr)
  refine gS (fun _ r => XS.iconst X0.here hx rfl (hb hby q55_0) r) ?_
  show Goes p ee below s _ _ _ (s₁.setTop (mkF m 1 #[vN k, .unset] [(.int (2 : Int32))]))
  obtain ⟨T1, h1, X1, e1, E1, A1, st1⟩ := own_newP X0 hx hZ (aty := .byte) (own_w hw 27 rfl) e0 (z := (2 : Int32)) (by decide) (n := 2) rfl (cap := 2) (Nat.le_refl _) (by decide) (by decide) (by decide) (g := (mkF m 1 #[vN k, .unset] [(.int (2 : Int32))])) rfl rfl (hb hby q55_1)
  obtain ⟨b1, g_b1⟩ : ∃ z, z = h0.size := ⟨_, rfl⟩
  have ge_b1 : n0 ≤ b1 := Nat.le_trans Z0 (Nat.le_of_eq g_b1.symm)
  have sz_b1 : h0.size ≤ b1 := Nat.le_trans K0.1 (Nat.le_of_eq g_b1.symm)
  rw [← g_b1] at A1 st1
  have Zp2 := Nat.le_trans Z0 E1.1
  have OO := OO.ext E1
  have K3 := K0.ext E1
  refine gS st1 ?_
  have A_b1 : OA Z h1 b1 .byte 2 (fun _ => (.int 0)) := A1
  show Goes p ee below s _ _ _ (T1.setTop (mkF m 3 #[vN k, .unset] [(.ref b1)]))
  refine gS (fun _ r => XS.astoreN X1.here hx rfl (hb hby q55_3) rfl rfl (l' := #[vN k, vR b1]) rfl r) ?_
  refine gS (fun _ r => XS.aloadN X1.here hx rfl (hb hby q55_4) rfl rfl r) ?_
  refine gS (fun _ r => XS.iconst X1.here hx rfl (hb hby q55_5) r) ?_
  refine gS (fun _ r => XS.iloadN X1.here hx rfl (hb hby q55_6) rfl  r) ?_
  show Goes p ee below s _ _ _ (T1.setTop (mkF m 7 #[vN k, vR b1] [(.int (Int32.ofNat k)), (.int (0 : Int32)), (.ref b1)]))
  have A_b1 : OA Z h1 b1 .byte (2 * 1) (fun _ => .int 0) := A_b1
  have lt_b1 := A_b1.lt
  obtain ⟨v4, T4, L4, X4, hQ4, st4⟩ := own_callS X1 hx hZ (y := (⟨"java/lang/StringUTF16", "putChar", "([BII)V"⟩ : MethodName)) hown (own_w hw 260 rfl) (own_w hw 261 rfl) (own_w hw 25 rfl) (own_w hw 262 rfl) (by decide) (argsL := [(.ref b1), (.int (0 : Int32)), (.int (Int32.ofNat k))]) (rm_putc l Z a0 hw [] cs fm b1 0 k 1 (fun _ => .int 0) h1 n0 Zp2 ST OO (by decide) hk (by decide) ge_b1 A_b1) e1 (W := 0) (by decide) (by decide) (by decide) (by decide) (g := (mkF m 7 #[vN k, vR b1] [(.int (Int32.ofNat k)), (.int (0 : Int32)), (.ref b1)])) rfl (by rw [hml]; rfl) (rest := []) (lenOf pd_9 rfl) rfl (by show 2 * 0 + _ ≤ _; exact Nat.le_of_eq rfl) (hb hby q55_7)
  refine gS st4 ?_
  obtain ⟨rfl, N4, Kc4, A_b1⟩ := hQ4
  have N5 := Fr.app N0 N4
  obtain ⟨h4, e4⟩ : ∃ h', T4.heap = h' := ⟨_, rfl⟩
  rw [e4] at Kc4 A_b1
  have OO := OO.keep Kc4 (allS ge_b1 all0)
  have K6 := K3.trans Kc4 (allS (Or.inr sz_b1) all0)
  have Zp7 := Nat.le_trans Zp2 Kc4.1
  refine gS (fun _ r => XS.aloadN X4.here hx rfl (hb hby q55_10) rfl rfl r) ?_
  show Goes p ee below s _ _ _ (T4.setTop (mkF m 11 #[vN k, vR b1] [(.ref b1)]))
  refine Goes.retA X4 hx Bd.notSynchronized Bd.returns rfl rfl (hb hby q55_11) (by decide) (by decide) ?_
  rw [e4]
  exact ⟨_, rfl, N5, sz_b1, K6, A_b1.congr (fun j hj => by
    have hj : j < 2 := hj
    have : j = 0 ∨ j = 1 := by omega
    rcases this with rfl | rfl
    · exact (own_by_lo (fun _ => k) 0).symm
    · exact (own_by_hi (fun _ => k) 0).symm)⟩
theorem ef_vof (m : MethodId) (x0 : Int32) : entryFrame m #[(.int x0)] 1 = mkF m 0 #[.val (.int x0)] [] := by first | (simp [entryFrame, mkF, argsToLocals, Value.category]; done) | rfl
theorem q56_0 : decode c56_ 0 = .ok (.getstatic 38, 3) := by decide +kernel
theorem q56_3 : decode c56_ 3 = .ok (.ifCond .eq 23, 3) := by decide +kernel
theorem q56_6 : decode c56_ 6 = .ok (.iload_n 0, 1) := by decide +kernel
theorem q56_7 : decode c56_ 7 = .ok (.invokestatic 1015, 3) := by decide +kernel
theorem q56_10 : decode c56_ 10 = .ok (.ifCond .eq 16, 3) := by decide +kernel
theorem q56_13 : decode c56_ 13 = .ok (.new 10, 3) := by decide +kernel
theorem q56_16 : decode c56_ 16 = .ok (.dup, 1) := by decide +kernel
theorem q56_17 : decode c56_ 17 = .ok (.iload_n 0, 1) := by decide +kernel
theorem pd_32 : parseMethodDescriptor "(C)[B" = some ⟨[.char], some (.array .byte)⟩ := by decide +kernel
theorem q56_18 : decode c56_ 18 = .ok (.invokestatic 1018, 3) := by decide +kernel
theorem q56_21 : decode c56_ 21 = .ok (.iconst 0, 1) := by decide +kernel
theorem pd_33 : parseMethodDescriptor "([BB)V" = some ⟨[(.array .byte), .byte], none⟩ := by decide +kernel
theorem q56_22 : decode c56_ 22 = .ok (.invokespecial 209, 3) := by decide +kernel
theorem q56_25 : decode c56_ 25 = .ok (.areturn, 1) := by decide +kernel
theorem q56_26 : decode c56_ 26 = .ok (.new 10, 3) := by decide +kernel
theorem q56_29 : decode c56_ 29 = .ok (.dup, 1) := by decide +kernel
theorem q56_30 : decode c56_ 30 = .ok (.iload_n 0, 1) := by decide +kernel
theorem q56_31 : decode c56_ 31 = .ok (.invokestatic 1021, 3) := by decide +kernel
theorem q56_34 : decode c56_ 34 = .ok (.iconst 1, 1) := by decide +kernel
theorem q56_35 : decode c56_ 35 = .ok (.invokespecial 209, 3) := by decide +kernel
theorem q56_38 : decode c56_ 38 = .ok (.areturn, 1) := by decide +kernel
def Q_vof (Z : State) (cs : Int32) (fm : Value) (k : Nat) (h0 : Heap) (n0 : Nat) (v : Option Value) (h : Heap) (L : List Loc) : Prop := ∃ (o b : Addr) (u : Bool), v = some (.ref o) ∧ Fr n0 L ∧ Keep h0 h [] ∧ Exa Z h o "java/lang/String" ∧ Fld Z h o "java/lang/String" "value" "[B" (.ref b) ∧ Fld Z h o "java/lang/String" "coder" "B" (.int (own_cd u)) ∧ OA Z h b .byte (own_len u 1) (own_by u (fun _ => k)) ∧ (u = false → ∀ j, j < 1 → (fun _ => k) j < 256)
set_option maxRecDepth 65536 in
set_option maxHeartbeats 40000000 in
theorem rm_vof (l : Launch) (Z : State) (a0 : Array Value) (hw : ∀ d ∈ tables_1, d.before a0 Z = true) (ws : List Jvm.Cond) (cs : Int32) (fm : Value) (k : Nat) (h0 : Heap) (n0 : Nat) (Z0 : n0 ≤ h0.size) (ST : own_ST Z cs fm) (OO : Old Z n0 h0) (hk : k < 65536) :
    MetFree l (⟨"java/lang/String", "valueOf", "(C)Ljava/lang/String;"⟩ : MethodName) (head1 (Jvm.Cond.code (⟨"java/lang/String", "valueOf", "(C)Ljava/lang/String;"⟩ : MethodName) jdk_42_method_139_code 1 (some (.object "java/lang/String")) :: ws) ({ frames := 2, cells := 2, slots := 6, locals := 29 } : Room)) (fun a U => a = #[(.int (Int32.ofNat k))] ∧ Z.Warmed39 U.vm ∧ U.heap = h0) (fun _ _ _ _ _ => True) (fun _ U o U' => ∃ v L, o = .returned v ∧ Q_vof Z cs fm k h0 n0 v U'.heap L ∧ FrameEnd U o U' L ({ frames := 2, cells := 2, slots := 6, locals := 29 } : Room).cells ({ frames := 2, cells := 2, slots := 6, locals := 29 } : Room).slots) := by
  refine MetFree.of_bodySF (plainFor_of_name pn_java_lang_String) hisR ?_
  intro p ee s m args below meth cc s₁ Bd hml0 hP hK
  obtain ⟨rfl, hZ, hh⟩ := hP
  have hx := Bd.exec
  have hby := Bd.bytes
  have hml : cc.maxLocals = 1 := hml0
  have hown : s.vm.findClass "java/lang/String" = some m.cls := findClass_of_methodNamed Bd.named
  have hnm := (name_of_methodNamed Bd.named Bd.method).1
  have X0 : Stand p l ee ({ frames := 2, cells := 2, slots := 6, locals := 29 } : Room) s m #[(.int (Int32.ofNat k))] below meth cc s₁ [] 0 0 := Stand.of_body Bd
  have e0 : s₁.heap = h0 := by rw [← hh, Bd.state]; rfl
  have N0 := Fr.nil n0
  show Goes p ee below s ({ frames := 2, cells := 2, slots := 6, locals := 29 } : Room).cells ({ frames := 2, cells := 2, slots := 6, locals := 29 } : Room).slots (Q_vof Z cs fm k h0 n0) (s₁.setTop (entryFrame m #[(.int (Int32.ofNat k))] 1))
  refine gS (fun _ r => castTop (ef_vof m (Int32.ofNat k)) r) ?_
  show Goes p ee below s _ _ _ (s₁.setTop (mkF m 0 #[vN k] []))
  have K0 := Keep.refl h0 ([] : List Addr)
  obtain ⟨T1, X1, e1, st1⟩ := getS X0 hx hZ (host := "") hown (own_w hw 22 rfl) Via.refl e0 ((ST.1).ext OO.2) (g := (mkF m 0 #[vN k] [])) rfl (hb hby q56_0)
  refine gS st1 ?_
  refine gS (fun _ r => XS.ifNo X1.here hx rfl (hb hby q56_3) rfl ((if0 _ _).trans (feq (ST.2.1)).1) r) ?_
  refine gS (fun _ r => XS.iloadN X1.here hx rfl (hb hby q56_6) rfl  r) ?_
  obtain ⟨v2, T2, L2, X2, hQ2, st2⟩ := own_callS X1 hx hZ (y := (⟨"java/lang/StringLatin1", "canEncode", "(C)Z"⟩ : MethodName)) hown (own_w hw 41 rfl) (own_w hw 42 rfl) (own_w hw 43 rfl) (own_w hw 44 rfl) (by decide) (argsL := [(.int (Int32.ofNat k))]) (rm_canc l Z a0 hw [] k h0 n0 Z0 hk) e1 (W := 0) (by decide) (by decide) (by decide) (by decide) (g := (mkF m 7 #[vN k] [(.int (Int32.ofNat k))])) rfl (by rw [hml]; rfl) (rest := []) (lenOf pd_27 rfl) rfl (by show 2 * 0 + _ ≤ _; exact Nat.le_of_eq rfl) (hb hby q56_7)
  refine gS st2 ?_
  obtain ⟨rfl, N2, e2⟩ := hQ2
  have N3 := Fr.app N0 N2
  show Goes p ee below s _ _ _ (T2.setTop (mkF m 10 #[vN k] [(.int (if k < 256 then (1 : Int32) else 0))]))
  by_cases hlt : k < 256
  · rw [if_pos hlt]
    show Goes p ee below s _ _ _ (T2.setTop (mkF m 10 #[vN k] [(.int (1 : Int32))]))
    refine gS (fun _ r => XS.ifNo X2.here hx rfl (hb hby q56_10) rfl ((if0 _ _).trans (feq (by decide)).1) r) ?_
    show Goes p ee below s _ _ _ (T2.setTop (mkF m 13 #[vN k] []))
    obtain ⟨T4, h4, X4, e4, E4, A4, D4, -, st4⟩ := newO X2 hx hZ hown (own_w hw 45 rfl) (own_w hw 9 rfl) (own_w hw 10 rfl) e2 (g := (mkF m 13 #[vN k] [])) rfl (hb hby q56_13) (by decide) (by decide)
    obtain ⟨b4, g_b4⟩ : ∃ z, z = h0.size := ⟨_, rfl⟩
    have ge_b4 : n0 ≤ b4 := Nat.le_trans Z0 (Nat.le_of_eq g_b4.symm)
    have sz_b4 : h0.size ≤ b4 := Nat.le_trans K0.1 (Nat.le_of_eq g_b4.symm)
    rw [← g_b4] at A4 D4 st4
    have Zp5 := Nat.le_trans Z0 E4.1
    have OO := OO.ext E4
    have K6 := K0.ext E4
    refine gS st4 ?_
    have E_b4 := A4
    have F_coder_b4 : Fld Z h4 b4 "java/lang/String" "coder" "B" (.int (0 : Int32)) := D4 (Or.inr (own_w hw 35 rfl)) (ty := .byte) (by decide)
    have F_value_b4 : Fld Z h4 b4 "java/lang/String" "value" "[B" .null := D4 (Or.inr (own_w hw 37 rfl)) (ty := (.array .byte)) (by decide)
    show Goes p ee below s _ _ _ (T4.setTop (mkF m 16 #[vN k] [(.ref b4)]))
    refine gS (fun _ r => XS.dup X4.here hx rfl (hb hby q56_16) rfl rfl r) ?_
    refine gS (fun _ r => XS.iloadN X4.here hx rfl (hb hby q56_17) rfl  r) ?_
    have lt_b4 := E_b4.lt
    obtain ⟨v7, T7, L7, X7, hQ7, st7⟩ := own_callS X4 hx hZ (y := (⟨"java/lang/StringLatin1", "toBytes", "(C)[B"⟩ : MethodName)) hown (own_w hw 46 rfl) (own_w hw 47 rfl) (own_w hw 43 rfl) (own_w hw 48 rfl) (by decide) (argsL := [(.int (Int32.ofNat k))]) (rm_l1tb l Z a0 hw [] k h4 n0 Zp5 ) e4 (W := 2) (by decide) (by decide) (by decide) (by decide) (g := (mkF m 18 #[vN k] [(.int (Int32.ofNat k)), (.ref b4), (.ref b4)])) rfl (by rw [hml]; rfl) (rest := [(.ref b4), (.ref b4)]) (lenOf pd_32 rfl) rfl (by show 2 * 0 + _ ≤ _; exact Nat.le_of_eq rfl) (hb hby q56_18)
    refine gS st7 ?_
    obtain ⟨b7, rfl, N7, sz7, Kc7, A_b7⟩ := hQ7
    have N8 := Fr.app N3 N7
    obtain ⟨h7, e7⟩ : ∃ h', T7.heap = h' := ⟨_, rfl⟩
    rw [e7] at Kc7 A_b7
    have E_b4 := E_b4.keep Kc7
    have F_coder_b4 := F_coder_b4.keep Kc7 nin0
    have F_value_b4 := F_value_b4.keep Kc7 nin0
    have OO := OO.keep Kc7 all0
    have K9 := K6.trans Kc7 all0
    have Zp10 := Nat.le_trans Zp5 Kc7.1
    have ge_b7 : n0 ≤ b7 := Nat.le_trans Zp5 sz7
    have sz_b7 : h0.size ≤ b7 := Nat.le_trans K6.1 sz7
    have ne_b4_b7 : b4 ≠ b7 := Nat.ne_of_lt (Nat.lt_of_lt_of_le lt_b4 sz7)
    refine gS (fun _ r => XS.iconst X7.here hx rfl (hb hby q56_21) r) ?_
    have lt_b4 := E_b4.lt
    have lt_b7 := A_b7.lt
    obtain ⟨v11, T11, L11, X11, hQ11, st11⟩ := own_callN X7 hx hZ (y := (⟨"java/lang/String", "<init>", "([BB)V"⟩ : MethodName)) rfl hown (own_w hw 49 rfl) (own_w hw 50 rfl) (own_w hw 10 rfl) (own_w hw 51 rfl) (by decide) (a := b4) (argsL := [(.ref b7), (.int (0 : Int32))]) (rm_sbb l Z a0 hw [] cs fm b4 b7 false _ _ h7 n0 Zp10 ST OO ge_b4 E_b4 F_value_b4 F_coder_b4) e7 (W := 1) (by decide) (by decide) (by decide) (by decide) (g := (mkF m 22 #[vN k] [(.int (0 : Int32)), (.ref b7), (.ref b4), (.ref b4)])) rfl (by rw [hml]; rfl) (rest := [(.ref b4)]) (lenOf pd_33 rfl) rfl (by show 2 * 0 + _ ≤ _; exact Nat.le_of_eq rfl) (hb hby q56_22)
    refine gS st11 ?_
    obtain ⟨rfl, N11, Kc11, Ei11, Fv11, Fc11⟩ := hQ11
    have N12 := Fr.app N8 N11
    obtain ⟨h11, e11⟩ : ∃ h', T11.heap = h' := ⟨_, rfl⟩
    rw [e11] at Kc11 Ei11 Fv11 Fc11
    have A_b7 := A_b7.keep Kc11 (ninS (Ne.symm ne_b4_b7) nin0)
    have OO := OO.keep Kc11 (allS ge_b4 all0)
    have K13 := K9.trans Kc11 (allS (Or.inr sz_b4) all0)
    have Zp14 := Nat.le_trans Zp10 Kc11.1
    show Goes p ee below s _ _ _ (T11.setTop (mkF m 25 #[vN k] [(.ref b4)]))
    refine Goes.retA X11 hx Bd.notSynchronized Bd.returns rfl rfl (hb hby q56_25) (by decide) (by decide) ?_
    rw [e11]
    exact ⟨b4, b7, false, rfl, N12, K13, Ei11, Fv11, Fc11, A_b7, fun _ _ _ => hlt⟩
  · rw [if_neg hlt]
    show Goes p ee below s _ _ _ (T2.setTop (mkF m 10 #[vN k] [(.int (0 : Int32))]))
    refine gS (fun _ r => XS.ifYes X2.here hx rfl (pc0 := 10) (pc' := 26) rfl (hb hby q56_10) rfl ((if0 _ _).trans (teq (by decide)).1) (by decide) (by decide) r) ?_
    show Goes p ee below s _ _ _ (T2.setTop (mkF m 26 #[vN k] []))
    obtain ⟨T15, h15, X15, e15, E15, A15, D15, -, st15⟩ := newO X2 hx hZ hown (own_w hw 45 rfl) (own_w hw 9 rfl) (own_w hw 10 rfl) e2 (g := (mkF m 26 #[vN k] [])) rfl (hb hby q56_26) (by decide) (by decide)
    obtain ⟨b15, g_b15⟩ : ∃ z, z = h0.size := ⟨_, rfl⟩
    have ge_b15 : n0 ≤ b15 := Nat.le_trans Z0 (Nat.le_of_eq g_b15.symm)
    have sz_b15 : h0.size ≤ b15 := Nat.le_trans K0.1 (Nat.le_of_eq g_b15.symm)
    rw [← g_b15] at A15 D15 st15
    have Zp16 := Nat.le_trans Z0 E15.1
    have OO := OO.ext E15
    have K17 := K0.ext E15
    refine gS st15 ?_
    have E_b15 := A15
    have F_coder_b15 : Fld Z h15 b15 "java/lang/String" "coder" "B" (.int (0 : Int32)) := D15 (Or.inr (own_w hw 35 rfl)) (ty := .byte) (by decide)
    have F_value_b15 : Fld Z h15 b15 "java/lang/String" "value" "[B" .null := D15 (Or.inr (own_w hw 37 rfl)) (ty := (.array .byte)) (by decide)
    show Goes p ee below s _ _ _ (T15.setTop (mkF m 29 #[vN k] [(.ref b15)]))
    refine gS (fun _ r => XS.dup X15.here hx rfl (hb hby q56_29) rfl rfl r) ?_
    refine gS (fun _ r => XS.iloadN X15.here hx rfl (hb hby q56_30) rfl  r) ?_
    have lt_b15 := E_b15.lt
    obtain ⟨v18, T18, L18, X18, hQ18, st18⟩ := own_callS X15 hx hZ (y := (⟨"java/lang/StringUTF16", "toBytes", "(C)[B"⟩ : MethodName)) hown (own_w hw 257 rfl) (own_w hw 258 rfl) (own_w hw 25 rfl) (own_w hw 259 rfl) (by decide) (argsL := [(.int (Int32.ofNat k))]) (rm_u16tb l Z a0 hw [] cs fm k h15 n0 Zp16 ST OO hk) e15 (W := 2) (by decide) (by decide) (by decide) (by decide) (g := (mkF m 31 #[vN k] [(.int (Int32.ofNat k)), (.ref b15), (.ref b15)])) rfl (by rw [hml]; rfl) (rest := [(.ref b15), (.ref b15)]) (lenOf pd_32 rfl) rfl (by show 2 * 0 + _ ≤ _; exact Nat.le_of_eq rfl) (hb hby q56_31)
    refine gS st18 ?_
    obtain ⟨b18, rfl, N18, sz18, Kc18, A_b18⟩ := hQ18
    have N19 := Fr.app N3 N18
    obtain ⟨h18, e18⟩ : ∃ h', T18.heap = h' := ⟨_, rfl⟩
    rw [e18] at Kc18 A_b18
    have E_b15 := E_b15.keep Kc18
    have F_coder_b15 := F_coder_b15.keep Kc18 nin0
    have F_value_b15 := F_value_b15.keep Kc18 nin0
    have OO := OO.keep Kc18 all0
    have K20 := K17.trans Kc18 all0
    have Zp21 := Nat.le_trans Zp16 Kc18.1
    have ge_b18 : n0 ≤ b18 := Nat.le_trans Zp16 sz18
    have sz_b18 : h0.size ≤ b18 := Nat.le_trans K17.1 sz18
    have ne_b15_b18 : b15 ≠ b18 := Nat.ne_of_lt (Nat.lt_of_lt_of_le lt_b15 sz18)
    refine gS (fun _ r => XS.iconst X18.here hx rfl (hb hby q56_34) r) ?_
    have lt_b15 := E_b15.lt
    have lt_b18 := A_b18.lt
    obtain ⟨v22, T22, L22, X22, hQ22, st22⟩ := own_callN X18 hx hZ (y := (⟨"java/lang/String", "<init>", "([BB)V"⟩ : MethodName)) rfl hown (own_w hw 49 rfl) (own_w hw 50 rfl) (own_w hw 10 rfl) (own_w hw 51 rfl) (by decide) (a := b15) (argsL := [(.ref b18), (.int (1 : Int32))]) (rm_sbb l Z a0 hw [] cs fm b15 b18 true _ _ h18 n0 Zp21 ST OO ge_b15 E_b15 F_value_b15 F_coder_b15) e18 (W := 1) (by decide) (by decide) (by decide) (by decide) (g := (mkF m 35 #[vN k] [(.int (1 : Int32)), (.ref b18), (.ref b15), (.ref b15)])) rfl (by rw [hml]; rfl) (rest := [(.ref b15)]) (lenOf pd_33 rfl) rfl (by show 2 * 0 + _ ≤ _; exact Nat.le_of_eq rfl) (hb hby q56_35)
    refine gS st22 ?_
    obtain ⟨rfl, N22, Kc22, Ei22, Fv22, Fc22⟩ := hQ22
    have N23 := Fr.app N19 N22
    obtain ⟨h22, e22⟩ : ∃ h', T22.heap = h' := ⟨_, rfl⟩
    rw [e22] at Kc22 Ei22 Fv22 Fc22
    have A_b18 := A_b18.keep Kc22 (ninS (Ne.symm ne_b15_b18) nin0)
    have OO := OO.keep Kc22 (allS ge_b15 all0)
    have K24 := K20.trans Kc22 (allS (Or.inr sz_b15) all0)
    have Zp25 := Nat.le_trans Zp21 Kc22.1
    show Goes p ee below s _ _ _ (T22.setTop (mkF m 38 #[vN k] [(.ref b15)]))
    refine Goes.retA X22 hx Bd.notSynchronized Bd.returns rfl rfl (hb hby q56_38) (by decide) (by decide) ?_
    rw [e22]
    exact ⟨b15, b18, true, rfl, N23, K24, Ei22, Fv22, Fc22, A_b18, nofun⟩
theorem ef_isem (m : MethodId) (x0 : Addr) : entryFrame m #[(.ref x0)] 1 = mkF m 0 #[.val (.ref x0)] [] := by first | (simp [entryFrame, mkF, argsToLocals, Value.category]; done) | rfl
theorem q57_0 : decode c57_ 0 = .ok (.aload_n 0, 1) := by decide +kernel
theorem q57_1 : decode c57_ 1 = .ok (.getfield 9, 3) := by decide +kernel
theorem q57_4 : decode c57_ 4 = .ok (.arraylength, 1) := by decide +kernel
theorem q57_5 : decode c57_ 5 = .ok (.ifCond .ne 7, 3) := by decide +kernel
theorem q57_12 : decode c57_ 12 = .ok (.iconst 0, 1) := by decide +kernel
theorem q57_13 : decode c57_ 13 = .ok (.ireturn, 1) := by decide +kernel
def Q_isem (Z : State) (cs : Int32) (fm : Value) (a1 b : Addr) (u : Bool) (n : Nat) (c : Nat → Nat) (h0 : Heap) (n0 : Nat) (v : Option Value) (h : Heap) (L : List Loc) : Prop := v = some (.int 0) ∧ Fr n0 L ∧ h = h0
set_option maxRecDepth 65536 in
set_option maxHeartbeats 40000000 in
theorem rm_isem (l : Launch) (Z : State) (a0 : Array Value) (hw : ∀ d ∈ tables_1, d.before a0 Z = true) (ws : List Jvm.Cond) (cs : Int32) (fm : Value) (a1 b : Addr) (u : Bool) (n : Nat) (c : Nat → Nat) (h0 : Heap) (n0 : Nat) (Z0 : n0 ≤ h0.size) (ST : own_ST Z cs fm) (OO : Old Z n0 h0) (hn0 : 0 < n) (hn : n < 2 ^ 29) (E : Exa Z h0 a1 "java/lang/String") (FV : Fld Z h0 a1 "java/lang/String" "value" "[B" (.ref b)) (FC : Fld Z h0 a1 "java/lang/String" "coder" "B" (.int (own_cd u))) (A : OA Z h0 b .byte (own_len u n) (own_by u c)) :
    MetFree l (⟨"java/lang/String", "isEmpty", "()Z"⟩ : MethodName) (head1 (Jvm.Cond.code (⟨"java/lang/String", "isEmpty", "()Z"⟩ : MethodName) jdk_42_method_55_code 1 (some .boolean) :: ws) ({ frames := 0, cells := 0, slots := 0, locals := 0 } : Room)) (fun a U => a = #[(.ref a1)] ∧ Z.Warmed39 U.vm ∧ U.heap = h0) (fun _ _ _ _ _ => True) (fun _ U o U' => ∃ v L, o = .returned v ∧ Q_isem Z cs fm a1 b u n c h0 n0 v U'.heap L ∧ FrameEnd U o U' L ({ frames := 0, cells := 0, slots := 0, locals := 0 } : Room).cells ({ frames := 0, cells := 0, slots := 0, locals := 0 } : Room).slots) := by
  refine MetFree.of_bodySF (plainFor_of_name pn_java_lang_String) hisR ?_
  intro p ee s m args below meth cc s₁ Bd hml0 hP hK
  obtain ⟨rfl, hZ, hh⟩ := hP
  have hx := Bd.exec
  have hby := Bd.bytes
  have hml : cc.maxLocals = 1 := hml0
  have hown : s.vm.findClass "java/lang/String" = some m.cls := findClass_of_methodNamed Bd.named
  have hnm := (name_of_methodNamed Bd.named Bd.method).1
  have X0 : Stand p l ee ({ frames := 0, cells := 0, slots := 0, locals := 0 } : Room) s m #[(.ref a1)] below meth cc s₁ [] 0 0 := Stand.of_body Bd
  have e0 : s₁.heap = h0 := by rw [← hh, Bd.state]; rfl
  have N0 := Fr.nil n0
  show Goes p ee below s ({ frames := 0, cells := 0, slots := 0, locals := 0 } : Room).cells ({ frames := 0, cells := 0, slots := 0, locals := 0 } : Room).slots (Q_isem Z cs fm a1 b u n c h0 n0) (s₁.setTop (entryFrame m #[(.ref a1)] 1))
  refine gS (fun _ r => castTop (ef_isem m a1) r) ?_
  show Goes p ee below s _ _ _ (s₁.setTop (mkF m 0 #[vR a1] []))
  refine gS (fun _ r => XS.aloadN X0.here hx rfl (hb hby q57_0) rfl rfl r) ?_
  obtain ⟨T1, X1, e1, st1⟩ := getF X0 hx hZ hown (host := "") (Or.inl (own_w hw 36 rfl)) Via.refl e0 FV (g := (mkF m 1 #[vR a1] [(.ref a1)])) rfl rfl (hb hby q57_1)
  refine gS st1 ?_
  refine gS (own_alen X1 hx hZ e1 A (z := (Int32.ofNat (own_len u n))) rfl (g := (mkF m 4 #[vR a1] [(.ref b)])) rfl rfl (hb hby q57_4)) ?_
  refine gS (fun _ r => XS.ifYes X1.here hx rfl (pc0 := 5) (pc' := 12) rfl (hb hby q57_5) rfl ((if0 _ _).trans (feq (own_lt0 u n hn0 hn)).2) (by decide) (by decide) r) ?_
  refine gS (fun _ r => XS.iconst X1.here hx rfl (hb hby q57_12) r) ?_
  show Goes p ee below s _ _ _ (T1.setTop (mkF m 13 #[vR a1] [(.int (0 : Int32))]))
  refine Goes.retZ X1 hx Bd.notSynchronized Bd.returns (by simp) rfl (hb hby q57_13) (by decide) (by decide) ?_
  exact ⟨rfl, N0, e1⟩
theorem ef_rnn (m : MethodId) (x0 : Addr) (x1 : Addr) : entryFrame m #[(.ref x0), (.ref x1)] 2 = mkF m 0 #[.val (.ref x0), .val (.ref x1)] [] := by first | (simp [entryFrame, mkF, argsToLocals, Value.category]; done) | rfl
theorem pn_java_util_Objects : plainName "java/util/Objects" = true := by first | (simp [plainName, overriddenIn]; done) | decide +kernel
theorem q58_0 : decode c58_ 0 = .ok (.aload_n 0, 1) := by decide +kernel
theorem q58_1 : decode c58_ 1 = .ok (.ifnonnull 12, 3) := by decide +kernel
theorem q58_13 : decode c58_ 13 = .ok (.aload_n 0, 1) := by decide +kernel
theorem q58_14 : decode c58_ 14 = .ok (.areturn, 1) := by decide +kernel
def Q_rnn (Z : State) (a1 a2 : Addr) (h0 : Heap) (n0 : Nat) (v : Option Value) (h : Heap) (L : List Loc) : Prop := v = some (.ref a1) ∧ Fr n0 L ∧ h = h0
set_option maxRecDepth 65536 in
set_option maxHeartbeats 40000000 in
theorem rm_rnn (l : Launch) (Z : State) (a0 : Array Value) (hw : ∀ d ∈ tables_1, d.before a0 Z = true) (ws : List Jvm.Cond) (a1 a2 : Addr) (h0 : Heap) (n0 : Nat) (Z0 : n0 ≤ h0.size)  :
    MetFree l (⟨"java/util/Objects", "requireNonNull", "(Ljava/lang/Object;Ljava/lang/String;)Ljava/lang/Object;"⟩ : MethodName) (head1 (Jvm.Cond.code (⟨"java/util/Objects", "requireNonNull", "(Ljava/lang/Object;Ljava/lang/String;)Ljava/lang/Object;"⟩ : MethodName) jdk_31_method_11_code 2 (some (.object "java/lang/Object")) :: ws) ({ frames := 0, cells := 0, slots := 0, locals := 0 } : Room)) (fun a U => a = #[(.ref a1), (.ref a2)] ∧ Z.Warmed39 U.vm ∧ U.heap = h0) (fun _ _ _ _ _ => True) (fun _ U o U' => ∃ v L, o = .returned v ∧ Q_rnn Z a1 a2 h0 n0 v U'.heap L ∧ FrameEnd U o U' L ({ frames := 0, cells := 0, slots := 0, locals := 0 } : Room).cells ({ frames := 0, cells := 0, slots := 0, locals := 0 } : Room).slots) := by
  refine MetFree.of_bodySF (plainFor_of_name pn_java_util_Objects) hisR ?_
  intro p ee s m args below meth cc s₁ Bd hml0 hP hK
  obtain ⟨rfl, hZ, hh⟩ := hP
  have hx := Bd.exec
  have hby := Bd.bytes
  have hml : cc.maxLocals = 2 := hml0
  have hown : s.vm.findClass "java/util/Objects" = some m.cls := findClass_of_methodNamed Bd.named
  have hnm := (name_of_methodNamed Bd.named Bd.method).1
  have X0 : Stand p l ee ({ frames := 0, cells := 0, slots := 0, locals := 0 } : Room) s m #[(.ref a1), (.ref a2)] below meth cc s₁ [] 0 0 := Stand.of_body Bd
  have e0 : s₁.heap = h0 := by rw [← hh, Bd.state]; rfl
  have N0 := Fr.nil n0
  show Goes p ee below s ({ frames := 0, cells := 0, slots := 0, locals := 0 } : Room).cells ({ frames := 0, cells := 0, slots := 0, locals := 0 } : Room).slots (Q_rnn Z a1 a2 h0 n0) (s₁.setTop (entryFrame m #[(.ref a1), (.ref a2)] 2))
  refine gS (fun _ r => castTop (ef_rnn m a1 a2) r) ?_
  show Goes p ee below s _ _ _ (s₁.setTop (mkF m 0 #[vR a1, vR a2] []))
  refine gS (fun _ r => XS.aloadN X0.here hx rfl (hb hby q58_0) rfl rfl r) ?_
  refine gS (fun _ r => XT.ifnonnullYes X0.here hx rfl (pc0 := 1) (pc' := 13) rfl (hb hby q58_1) rfl (by decide) (by decide) r) ?_
  refine gS (fun _ r => XS.aloadN X0.here hx rfl (hb hby q58_13) rfl rfl r) ?_
  show Goes p ee below s _ _ _ (s₁.setTop (mkF m 14 #[vR a1, vR a2] [(.ref a1)]))
  refine Goes.retA X0 hx Bd.notSynchronized Bd.returns rfl rfl (hb hby q58_14) (by decide) (by decide) ?_
  exact ⟨rfl, N0, e0⟩
theorem ef_rec (m : MethodId) (x0 : Addr) : entryFrame m #[(.ref x0)] 1 = mkF m 0 #[.val (.ref x0)] [] := by first | (simp [entryFrame, mkF, argsToLocals, Value.category]; done) | rfl
theorem pn_java_lang_Record : plainName "java/lang/Record" = true := by first | (simp [plainName, overriddenIn]; done) | decide +kernel
theorem q59_0 : decode c59_ 0 = .ok (.aload_n 0, 1) := by decide +kernel
theorem q59_1 : decode c59_ 1 = .ok (.invokespecial 1, 3) := by decide +kernel
theorem q59_4 : decode c59_ 4 = .ok (.return_, 1) := by decide +kernel
def Q_rec (Z : State) (a1 : Addr) (h0 : Heap) (n0 : Nat) (v : Option Value) (h : Heap) (L : List Loc) : Prop := v = none ∧ Fr n0 L ∧ h = h0
set_option maxRecDepth 65536 in
set_option maxHeartbeats 40000000 in
theorem rm_rec (l : Launch) (Z : State) (a0 : Array Value) (hw : ∀ d ∈ tables_1, d.before a0 Z = true) (ws : List Jvm.Cond) (a1 : Addr) (h0 : Heap) (n0 : Nat) (Z0 : n0 ≤ h0.size)  :
    MetFree l (⟨"java/lang/Record", "<init>", "()V"⟩ : MethodName) (head1 (Jvm.Cond.code (⟨"java/lang/Record", "<init>", "()V"⟩ : MethodName) jdk_30_method_1_code 1 none :: ws) ({ frames := 1, cells := 0, slots := 0, locals := 12 } : Room)) (fun a U => a = #[(.ref a1)] ∧ Z.Warmed39 U.vm ∧ U.heap = h0) (fun _ _ _ _ _ => True) (fun _ U o U' => ∃ v L, o = .returned v ∧ Q_rec Z a1 h0 n0 v U'.heap L ∧ FrameEnd U o U' L ({ frames := 1, cells := 0, slots := 0, locals := 12 } : Room).cells ({ frames := 1, cells := 0, slots := 0, locals := 12 } : Room).slots) := by
  refine MetFree.of_bodySF (plainFor_of_name pn_java_lang_Record) hisR ?_
  intro p ee s m args below meth cc s₁ Bd hml0 hP hK
  obtain ⟨rfl, hZ, hh⟩ := hP
  have hx := Bd.exec
  have hby := Bd.bytes
  have hml : cc.maxLocals = 1 := hml0
  have hown : s.vm.findClass "java/lang/Record" = some m.cls := findClass_of_methodNamed Bd.named
  have hnm := (name_of_methodNamed Bd.named Bd.method).1
  have X0 : Stand p l ee ({ frames := 1, cells := 0, slots := 0, locals := 12 } : Room) s m #[(.ref a1)] below meth cc s₁ [] 0 0 := Stand.of_body Bd
  have e0 : s₁.heap = h0 := by rw [← hh, Bd.state]; rfl
  have N0 := Fr.nil n0
  show Goes p ee below s ({ frames := 1, cells := 0, slots := 0, locals := 12 } : Room).cells ({ frames := 1, cells := 0, slots := 0, locals := 12 } : Room).slots (Q_rec Z a1 h0 n0) (s₁.setTop (entryFrame m #[(.ref a1)] 1))
  refine gS (fun _ r => castTop (ef_rec m a1) r) ?_
  show Goes p ee below s _ _ _ (s₁.setTop (mkF m 0 #[vR a1] []))
  refine gS (fun _ r => XS.aloadN X0.here hx rfl (hb hby q59_0) rfl rfl r) ?_
  obtain ⟨T1, X1, e1, st1⟩ := initO X0 hx hZ hown (own_w hw 66 rfl) (own_w hw 20 rfl) (own_w hw 21 rfl) e0 (g := (mkF m 1 #[vR a1] [(.ref a1)])) rfl (by rw [hml]; rfl) rfl (hb hby q59_1) (by decide) (W := 0) (by show 2 * 0 + _ ≤ _; exact Nat.le_of_eq rfl) (by decide)
  refine gS st1 ?_
  show Goes p ee below s _ _ _ (T1.setTop (mkF m 4 #[vR a1] []))
  refine Goes.retV X1 hx Bd.notSynchronized Bd.returns (hb hby q59_4) (by decide) (by decide) ?_
  exact ⟨rfl, N0, e1⟩
theorem ef_cani (m : MethodId) (x0 : Int32) : entryFrame m #[(.int x0)] 1 = mkF m 0 #[.val (.int x0)] [] := by first | (simp [entryFrame, mkF, argsToLocals, Value.category]; done) | rfl
theorem q60_0 : decode c60_ 0 = .ok (.iload_n 0, 1) := by decide +kernel
theorem q60_1 : decode c60_ 1 = .ok (.ifCond .lt 14, 3) := by decide +kernel
theorem q60_4 : decode c60_ 4 = .ok (.iload_n 0, 1) := by decide +kernel
theorem q60_5 : decode c60_ 5 = .ok (.sipush 255, 3) := by decide +kernel
theorem q60_8 : decode c60_ 8 = .ok (.if_icmp .gt 7, 3) := by decide +kernel
theorem q60_11 : decode c60_ 11 = .ok (.iconst 1, 1) := by decide +kernel
theorem q60_12 : decode c60_ 12 = .ok (.goto 4, 3) := by decide +kernel
theorem q60_16 : decode c60_ 16 = .ok (.ireturn, 1) := by decide +kernel
def Q_cani (Z : State) (k : Nat) (h0 : Heap) (n0 : Nat) (v : Option Value) (h : Heap) (L : List Loc) : Prop := v = some (.int 1) ∧ Fr n0 L ∧ h = h0
set_option maxRecDepth 65536 in
set_option maxHeartbeats 40000000 in
theorem rm_cani (l : Launch) (Z : State) (a0 : Array Value) (hw : ∀ d ∈ tables_1, d.before a0 Z = true) (ws : List Jvm.Cond) (k : Nat) (h0 : Heap) (n0 : Nat) (Z0 : n0 ≤ h0.size) (hk : k < 256) :
    MetFree l (⟨"java/lang/StringLatin1", "canEncode", "(I)Z"⟩ : MethodName) (head1 (Jvm.Cond.code (⟨"java/lang/StringLatin1", "canEncode", "(I)Z"⟩ : MethodName) jdk_43_method_4_code 1 (some .boolean) :: ws) ({ frames := 0, cells := 0, slots := 0, locals := 0 } : Room)) (fun a U => a = #[(.int (Int32.ofNat k))] ∧ Z.Warmed39 U.vm ∧ U.heap = h0) (fun _ _ _ _ _ => True) (fun _ U o U' => ∃ v L, o = .returned v ∧ Q_cani Z k h0 n0 v U'.heap L ∧ FrameEnd U o U' L ({ frames := 0, cells := 0, slots := 0, locals := 0 } : Room).cells ({ frames := 0, cells := 0, slots := 0, locals := 0 } : Room).slots) := by
  refine MetFree.of_bodySF (plainFor_of_name pn_java_lang_StringLatin1) hisR ?_
  intro p ee s m args below meth cc s₁ Bd hml0 hP hK
  obtain ⟨rfl, hZ, hh⟩ := hP
  have hx := Bd.exec
  have hby := Bd.bytes
  have hml : cc.maxLocals = 1 := hml0
  have hown : s.vm.findClass "java/lang/StringLatin1" = some m.cls := findClass_of_methodNamed Bd.named
  have hnm := (name_of_methodNamed Bd.named Bd.method).1
  have X0 : Stand p l ee ({ frames := 0, cells := 0, slots := 0, locals := 0 } : Room) s m #[(.int (Int32.ofNat k))] below meth cc s₁ [] 0 0 := Stand.of_body Bd
  have e0 : s₁.heap = h0 := by rw [← hh, Bd.state]; rfl
  have N0 := Fr.nil n0
  show Goes p ee below s ({ frames := 0, cells := 0, slots := 0, locals := 0 } : Room).cells ({ frames := 0, cells := 0, slots := 0, locals := 0 } : Room).slots (Q_cani Z k h0 n0) (s₁.setTop (entryFrame m #[(.int (Int32.ofNat k))] 1))
  refine gS (fun _ r => castTop (ef_cani m (Int32.ofNat k)) r) ?_
  show Goes p ee below s _ _ _ (s₁.setTop (mkF m 0 #[vN k] []))
  refine gS (fun _ r => XS.iloadN X0.here hx rfl (hb hby q60_0) rfl  r) ?_
  refine gS (fun _ r => XS.ifNo X0.here hx rfl (hb hby q60_1) rfl ((if0 _ _).trans (flt (own_nneg k (by omega))).1) r) ?_
  refine gS (fun _ r => XS.iloadN X0.here hx rfl (hb hby q60_4) rfl  r) ?_
  refine gS (fun _ r => XS.sipush X0.here hx rfl (hb hby q60_5) r) ?_
  refine gS (fun _ r => XS.icmpNo X0.here hx rfl (hb hby q60_8) rfl (flt (fun z => absurd ((own_ltN 255 k (by decide) (by omega)).mp z) (by omega))).2.2.1 r) ?_
  refine gS (fun _ r => XS.iconst X0.here hx rfl (hb hby q60_11) r) ?_
  show Goes p ee below s _ _ _ (s₁.setTop (mkF m 12 #[vN k] [(.int (1 : Int32))]))
  refine gS (fun _ r => XS.goto X0.here hx rfl (pc0 := 12) (pc' := 16) rfl (hb hby q60_12) (by decide) (by decide) r) ?_
  show Goes p ee below s _ _ _ (s₁.setTop (mkF m 16 #[vN k] [(.int (1 : Int32))]))
  refine Goes.retZ X0 hx Bd.notSynchronized Bd.returns (by simp) rfl (hb hby q60_16) (by decide) (by decide) ?_
  exact ⟨rfl, N0, e0⟩
theorem ef_max (m : MethodId) (x0 : Int32) (x1 : Int32) : entryFrame m #[(.int x0), (.int x1)] 2 = mkF m 0 #[.val (.int x0), .val (.int x1)] [] := by first | (simp [entryFrame, mkF, argsToLocals, Value.category]; done) | rfl
theorem q61_0 : decode c61_ 0 = .ok (.iload_n 0, 1) := by decide +kernel
theorem q61_1 : decode c61_ 1 = .ok (.iload_n 1, 1) := by decide +kernel
theorem q61_2 : decode c61_ 2 = .ok (.if_icmp .lt 7, 3) := by decide +kernel
theorem q61_5 : decode c61_ 5 = .ok (.iload_n 0, 1) := by decide +kernel
theorem q61_6 : decode c61_ 6 = .ok (.goto 4, 3) := by decide +kernel
theorem q61_10 : decode c61_ 10 = .ok (.ireturn, 1) := by decide +kernel
def Q_max (Z : State)  (h0 : Heap) (n0 : Nat) (v : Option Value) (h : Heap) (L : List Loc) : Prop := v = some (.int 0) ∧ Fr n0 L ∧ h = h0
set_option maxRecDepth 65536 in
set_option maxHeartbeats 40000000 in
theorem rm_max (l : Launch) (Z : State) (a0 : Array Value) (hw : ∀ d ∈ tables_1, d.before a0 Z = true) (ws : List Jvm.Cond)  (h0 : Heap) (n0 : Nat) (Z0 : n0 ≤ h0.size)  :
    MetFree l (⟨"java/lang/Math", "max", "(II)I"⟩ : MethodName) (head1 (Jvm.Cond.code (⟨"java/lang/Math", "max", "(II)I"⟩ : MethodName) jdk_29_method_65_code 2 (some .int) :: ws) ({ frames := 0, cells := 0, slots := 0, locals := 0 } : Room)) (fun a U => a = #[(.int (0 : Int32)), (.int (0 : Int32))] ∧ Z.Warmed39 U.vm ∧ U.heap = h0) (fun _ _ _ _ _ => True) (fun _ U o U' => ∃ v L, o = .returned v ∧ Q_max Z  h0 n0 v U'.heap L ∧ FrameEnd U o U' L ({ frames := 0, cells := 0, slots := 0, locals := 0 } : Room).cells ({ frames := 0, cells := 0, slots := 0, locals := 0 } : Room).slots) := by
  refine MetFree.of_bodySF (Jvm.Free.JP.mathPlain rfl (by decide +kernel)) hisR ?_
  intro p ee s m args below meth cc s₁ Bd hml0 hP hK
  obtain ⟨rfl, hZ, hh⟩ := hP
  have hx := Bd.exec
  have hby := Bd.bytes
  have hml : cc.maxLocals = 2 := hml0
  have hown : s.vm.findClass "java/lang/Math" = some m.cls := findClass_of_methodNamed Bd.named
  have hnm := (name_of_methodNamed Bd.named Bd.method).1
  have X0 : Stand p l ee ({ frames := 0, cells := 0, slots := 0, locals := 0 } : Room) s m #[(.int (0 : Int32)), (.int (0 : Int32))] below meth cc s₁ [] 0 0 := Stand.of_body Bd
  have e0 : s₁.heap = h0 := by rw [← hh, Bd.state]; rfl
  have N0 := Fr.nil n0
  show Goes p ee below s ({ frames := 0, cells := 0, slots := 0, locals := 0 } : Room).cells ({ frames := 0, cells := 0, slots := 0, locals := 0 } : Room).slots (Q_max Z  h0 n0) (s₁.setTop (entryFrame m #[(.int (0 : Int32)), (.int (0 : Int32))] 2))
  refine gS (fun _ r => castTop (ef_max m (0 : Int32) (0 : Int32)) r) ?_
  show Goes p ee below s _ _ _ (s₁.setTop (mkF m 0 #[.val (.int (0 : Int32)), .val (.int (0 : Int32))] []))
  refine gS (fun _ r => XS.iloadN X0.here hx rfl (hb hby q61_0) rfl  r) ?_
  refine gS (fun _ r => XS.iloadN X0.here hx rfl (hb hby q61_1) rfl  r) ?_
  refine gS (fun _ r => XS.icmpNo X0.here hx rfl (hb hby q61_2) rfl (flt (by decide)).1 r) ?_
  refine gS (fun _ r => XS.iloadN X0.here hx rfl (hb hby q61_5) rfl  r) ?_
  refine gS (fun _ r => XS.goto X0.here hx rfl (pc0 := 6) (pc' := 10) rfl (hb hby q61_6) (by decide) (by decide) r) ?_
  show Goes p ee below s _ _ _ (s₁.setTop (mkF m 10 #[.val (.int (0 : Int32)), .val (.int (0 : Int32))] [(.int (0 : Int32))]))
  refine Goes.retI X0 hx Bd.notSynchronized Bd.returns (hb hby q61_10) (by decide) (by decide) ?_
  exact ⟨rfl, N0, e0⟩
theorem ef_l1ix (m : MethodId) (x0 : Addr) (x1 : Int32) (x2 : Int32) (x3 : Int32) : entryFrame m #[(.ref x0), (.int x1), (.int x2), (.int x3)] 6 = mkF m 0 #[.val (.ref x0), .val (.int x1), .val (.int x2), .val (.int x3), .unset, .unset] [] := by first | (simp [entryFrame, mkF, argsToLocals, Value.category]; done) | rfl
theorem q62_0 : decode c62_ 0 = .ok (.iload_n 1, 1) := by decide +kernel
theorem q62_1 : decode c62_ 1 = .ok (.i2b, 1) := by decide +kernel
theorem q62_2 : decode c62_ 2 = .ok (.istore 4, 2) := by decide +kernel
theorem q62_4 : decode c62_ 4 = .ok (.iload_n 2, 1) := by decide +kernel
theorem q62_5 : decode c62_ 5 = .ok (.istore 5, 2) := by decide +kernel
theorem q62_7 : decode c62_ 7 = .ok (.iload 5, 2) := by decide +kernel
theorem q62_9 : decode c62_ 9 = .ok (.iload_n 3, 1) := by decide +kernel
theorem q62_10 : decode c62_ 10 = .ok (.if_icmp .ge 21, 3) := by decide +kernel
theorem q62_13 : decode c62_ 13 = .ok (.aload_n 0, 1) := by decide +kernel
theorem q62_14 : decode c62_ 14 = .ok (.iload 5, 2) := by decide +kernel
theorem q62_16 : decode c62_ 16 = .ok (.baload, 1) := by decide +kernel
theorem q62_17 : decode c62_ 17 = .ok (.iload 4, 2) := by decide +kernel
theorem q62_19 : decode c62_ 19 = .ok (.if_icmp .ne 6, 3) := by decide +kernel
theorem q62_25 : decode c62_ 25 = .ok (.iinc 5 1, 3) := by decide +kernel
theorem q62_28 : decode c62_ 28 = .ok (.goto (-21), 3) := by decide +kernel
theorem q62_31 : decode c62_ 31 = .ok (.iconst (-1), 1) := by decide +kernel
theorem q62_32 : decode c62_ 32 = .ok (.ireturn, 1) := by decide +kernel
def Q_l1ix (Z : State) (cs : Int32) (fm : Value) (a1 : Addr) (k n : Nat) (c : Nat → Nat) (h0 : Heap) (n0 : Nat) (v : Option Value) (h : Heap) (L : List Loc) : Prop := v = some (.int (-1)) ∧ Fr n0 L ∧ h = h0
set_option maxRecDepth 65536 in
set_option maxHeartbeats 40000000 in
theorem rm_l1ix (l : Launch) (Z : State) (a0 : Array Value) (hw : ∀ d ∈ tables_1, d.before a0 Z = true) (ws : List Jvm.Cond) (cs : Int32) (fm : Value) (a1 : Addr) (k n : Nat) (c : Nat → Nat) (h0 : Heap) (n0 : Nat) (Z0 : n0 ≤ h0.size) (ST : own_ST Z cs fm) (OO : Old Z n0 h0) (hk : k < 128) (hn : n < 2 ^ 29) (hne : ∀ j, j < n → c j ≠ k) (hl : ∀ j, j < n → c j < 256) (A : OA Z h0 a1 .byte n (own_by false c)) :
    MetFree l (⟨"java/lang/StringLatin1", "indexOfChar", "([BIII)I"⟩ : MethodName) (head1 (Jvm.Cond.code (⟨"java/lang/StringLatin1", "indexOfChar", "([BIII)I"⟩ : MethodName) jdk_43_method_23_code 6 (some .int) :: ws) ({ frames := 0, cells := 0, slots := 0, locals := 0 } : Room)) (fun a U => a = #[(.ref a1), (.int (Int32.ofNat k)), (.int (0 : Int32)), (.int (Int32.ofNat n))] ∧ Z.Warmed39 U.vm ∧ U.heap = h0) (fun _ _ _ _ _ => True) (fun _ U o U' => ∃ v L, o = .returned v ∧ Q_l1ix Z cs fm a1 k n c h0 n0 v U'.heap L ∧ FrameEnd U o U' L ({ frames := 0, cells := 0, slots := 0, locals := 0 } : Room).cells ({ frames := 0, cells := 0, slots := 0, locals := 0 } : Room).slots) := by
  refine MetFree.of_bodySF (plainFor_of_name pn_java_lang_StringLatin1) hisR ?_
  intro p ee s m args below meth cc s₁ Bd hml0 hP hK
  obtain ⟨rfl, hZ, hh⟩ := hP
  have hx := Bd.exec
  have hby := Bd.bytes
  have hml : cc.maxLocals = 6 := hml0
  have hown : s.vm.findClass "java/lang/StringLatin1" = some m.cls := findClass_of_methodNamed Bd.named
  have hnm := (name_of_methodNamed Bd.named Bd.method).1
  have X0 : Stand p l ee ({ frames := 0, cells := 0, slots := 0, locals := 0 } : Room) s m #[(.ref a1), (.int (Int32.ofNat k)), (.int (0 : Int32)), (.int (Int32.ofNat n))] below meth cc s₁ [] 0 0 := Stand.of_body Bd
  have e0 : s₁.heap = h0 := by rw [← hh, Bd.state]; rfl
  have N0 := Fr.nil n0
  show Goes p ee below s ({ frames := 0, cells := 0, slots := 0, locals := 0 } : Room).cells ({ frames := 0, cells := 0, slots := 0, locals := 0 } : Room).slots (Q_l1ix Z cs fm a1 k n c h0 n0) (s₁.setTop (entryFrame m #[(.ref a1), (.int (Int32.ofNat k)), (.int (0 : Int32)), (.int (Int32.ofNat n))] 6))
  refine gS (fun _ r => castTop (ef_l1ix m a1 (Int32.ofNat k) (0 : Int32) (Int32.ofNat n)) r) ?_
  show Goes p ee below s _ _ _ (s₁.setTop (mkF m 0 #[vR a1, vN k, .val (.int (0 : Int32)), vN n, .unset, .unset] []))
  refine gS (fun _ r => XS.iloadN X0.here hx rfl (hb hby q62_0) rfl  r) ?_
  refine gS (fun _ r => XT.i2b X0.here hx rfl (hb hby q62_1) rfl r) ?_
  show Goes p ee below s _ _ _ (s₁.setTop (mkF m 2 #[vR a1, vN k, .val (.int (0 : Int32)), vN n, .unset, .unset] [(.int (Int32.ofNat k).toInt8.toInt32)]))
  show Goes p ee below s _ _ _ (s₁.setTop (mkF m 2 #[vR a1, vN k, .val (.int (0 : Int32)), vN n, .unset, .unset] [(.int (own_bt k))]))
  refine gS (fun _ r => XS.istore X0.here hx rfl (hb hby q62_2) rfl  (l' := #[vR a1, vN k, .val (.int (0 : Int32)), vN n, .val (.int (own_bt k)), .unset]) rfl r) ?_
  refine gS (fun _ r => XS.iloadN X0.here hx rfl (hb hby q62_4) rfl  r) ?_
  refine gS (fun _ r => XS.istore X0.here hx rfl (hb hby q62_5) rfl  (l' := #[vR a1, vN k, .val (.int (0 : Int32)), vN n, .val (.int (own_bt k)), .val (.int (0 : Int32))]) rfl r) ?_
  show Goes p ee below s _ _ _ (s₁.setTop (mkF m 7 #[vR a1, vN k, .val (.int (0 : Int32)), vN n, .val (.int (own_bt k)), .val (.int (0 : Int32))] []))
  have loop : ∀ (d i : Nat) (T : State) (locs : List Loc), Stand p l ee ({ frames := 0, cells := 0, slots := 0, locals := 0 } : Room) s m #[(.ref a1), (.int (Int32.ofNat k)), (.int (0 : Int32)), (.int (Int32.ofNat n))] below meth cc T locs 0 0 → T.heap = h0 → Fr n0 locs → 0 < d → n < i + d → i ≤ n → Goes p ee below s ({ frames := 0, cells := 0, slots := 0, locals := 0 } : Room).cells ({ frames := 0, cells := 0, slots := 0, locals := 0 } : Room).slots (Q_l1ix Z cs fm a1 k n c h0 n0) (T.setTop (mkF m 7 #[vR a1, vN k, .val (.int (0 : Int32)), vN n, .val (.int (own_bt k)), vN i] [])) := by
    intro d
    induction d with
    | zero => intro i T locs X eT N q1; omega
    | succ d ih =>
      intro i T locs X eT N q1 q2 q3 
      show Goes p ee below s _ _ _ (T.setTop (mkF m 7 #[vR a1, vN k, .val (.int (0 : Int32)), vN n, .val (.int (own_bt k)), vN i] []))
      refine gS (fun _ r => XS.iload X.here hx rfl (hb hby q62_7) rfl  r) ?_
      refine gS (fun _ r => XS.iloadN X.here hx rfl (hb hby q62_9) rfl  r) ?_
      by_cases hn10_1 : i < n
      · refine gS (fun _ r => XS.icmpNo X.here hx rfl (hb hby q62_10) rfl (tlt ((own_ltN i n (by omega) (by omega)).mpr hn10_1)).2.1 r) ?_
        refine gS (fun _ r => XS.aloadN X.here hx rfl (hb hby q62_13) rfl rfl r) ?_
        refine gS (fun _ r => XS.iload X.here hx rfl (hb hby q62_14) rfl  r) ?_
        refine gS (own_baload X hx hZ eT A (j := (Int32.ofNat i)) (own_nneg i (by omega)) (k := i) (own_clamp i (by omega)) hn10_1 (v := (.int (own_bt (c i)))) rfl (g := (mkF m 16 #[vR a1, vN k, .val (.int (0 : Int32)), vN n, .val (.int (own_bt k)), vN i] [(.int (Int32.ofNat i)), (.ref a1)])) rfl rfl (hb hby q62_16)) ?_
        show Goes p ee below s _ _ _ (T.setTop (mkF m 17 #[vR a1, vN k, .val (.int (0 : Int32)), vN n, .val (.int (own_bt k)), vN i] [(.int (own_bt (c i)))]))
        refine gS (fun _ r => XS.iload X.here hx rfl (hb hby q62_17) rfl  r) ?_
        refine gS (fun _ r => XS.icmpYes X.here hx rfl (pc0 := 19) (pc' := 25) rfl (hb hby q62_19) rfl (feq (fun z => hne i hn10_1 (own_bt_inj (hl i hn10_1) (by omega) z))).2 (by decide) (by decide) r) ?_
        refine gS (fun _ r => XS.iinc X.here hx rfl (hb hby q62_25) rfl (l' := #[vR a1, vN k, .val (.int (0 : Int32)), vN n, .val (.int (own_bt k)), .val (.int ((Int32.ofNat i) + (1 : Int32)))]) rfl r) ?_
        show Goes p ee below s _ _ _ (T.setTop (mkF m 28 #[vR a1, vN k, .val (.int (0 : Int32)), vN n, .val (.int (own_bt k)), .val (.int ((Int32.ofNat i) + (1 : Int32)))] []))
        rw [show Int32.ofNat i + (1 : Int32) = Int32.ofNat (i + 1) from own_addN i 1]
        show Goes p ee below s _ _ _ (T.setTop (mkF m 28 #[vR a1, vN k, .val (.int (0 : Int32)), vN n, .val (.int (own_bt k)), vN (i + 1)] []))
        refine gS (fun _ r => XS.goto X.here hx rfl (pc0 := 28) (pc' := 7) rfl (hb hby q62_28) (by decide) (by decide) r) ?_
        show Goes p ee below s _ _ _ (T.setTop (mkF m 7 #[vR a1, vN k, .val (.int (0 : Int32)), vN n, .val (.int (own_bt k)), vN (i + 1)] []))
        exact ih (i + 1) _ _ X eT N (by omega) (by omega) (by omega) 
      · refine gS (fun _ r => XS.icmpYes X.here hx rfl (pc0 := 10) (pc' := 31) rfl (hb hby q62_10) rfl (flt (fun z => hn10_1 ((own_ltN i n (by omega) (by omega)).mp z))).2.1 (by decide) (by decide) r) ?_
        refine gS (fun _ r => XS.iconst X.here hx rfl (hb hby q62_31) r) ?_
        show Goes p ee below s _ _ _ (T.setTop (mkF m 32 #[vR a1, vN k, .val (.int (0 : Int32)), vN n, .val (.int (own_bt k)), vN i] [(.int (-1 : Int32))]))
        refine Goes.retI X hx Bd.notSynchronized Bd.returns (hb hby q62_32) (by decide) (by decide) ?_
        exact ⟨rfl, N, eT⟩
  exact loop (n + 1) 0 _ _ X0 e0 N0 (by omega) (by omega) (by omega)
theorem ef_l1io (m : MethodId) (x0 : Addr) (x1 : Int32) (x2 : Int32) (x3 : Int32) : entryFrame m #[(.ref x0), (.int x1), (.int x2), (.int x3)] 4 = mkF m 0 #[.val (.ref x0), .val (.int x1), .val (.int x2), .val (.int x3)] [] := by first | (simp [entryFrame, mkF, argsToLocals, Value.category]; done) | rfl
theorem q63_0 : decode c63_ 0 = .ok (.iload_n 1, 1) := by decide +kernel
theorem pd_34 : parseMethodDescriptor "(I)Z" = some ⟨[.int], some .boolean⟩ := by decide +kernel
theorem q63_1 : decode c63_ 1 = .ok (.invokestatic 88, 3) := by decide +kernel
theorem q63_4 : decode c63_ 4 = .ok (.ifCond .ne 5, 3) := by decide +kernel
theorem q63_9 : decode c63_ 9 = .ok (.iload_n 2, 1) := by decide +kernel
theorem q63_10 : decode c63_ 10 = .ok (.iconst 0, 1) := by decide +kernel
theorem q63_11 : decode c63_ 11 = .ok (.invokestatic 92, 3) := by decide +kernel
theorem q63_14 : decode c63_ 14 = .ok (.istore_n 2, 1) := by decide +kernel
theorem q63_15 : decode c63_ 15 = .ok (.iload_n 3, 1) := by decide +kernel
theorem q63_16 : decode c63_ 16 = .ok (.aload_n 0, 1) := by decide +kernel
theorem q63_17 : decode c63_ 17 = .ok (.arraylength, 1) := by decide +kernel
theorem q63_18 : decode c63_ 18 = .ok (.invokestatic 38, 3) := by decide +kernel
theorem q63_21 : decode c63_ 21 = .ok (.istore_n 3, 1) := by decide +kernel
theorem q63_22 : decode c63_ 22 = .ok (.iload_n 2, 1) := by decide +kernel
theorem q63_23 : decode c63_ 23 = .ok (.iload_n 3, 1) := by decide +kernel
theorem q63_24 : decode c63_ 24 = .ok (.if_icmp .lt 5, 3) := by decide +kernel
theorem q63_29 : decode c63_ 29 = .ok (.aload_n 0, 1) := by decide +kernel
theorem q63_30 : decode c63_ 30 = .ok (.iload_n 1, 1) := by decide +kernel
theorem q63_31 : decode c63_ 31 = .ok (.iload_n 2, 1) := by decide +kernel
theorem q63_32 : decode c63_ 32 = .ok (.iload_n 3, 1) := by decide +kernel
theorem pd_35 : parseMethodDescriptor "([BIII)I" = some ⟨[(.array .byte), .int, .int, .int], some .int⟩ := by decide +kernel
theorem q63_33 : decode c63_ 33 = .ok (.invokestatic 95, 3) := by decide +kernel
theorem q63_36 : decode c63_ 36 = .ok (.ireturn, 1) := by decide +kernel
theorem q63_27 : decode c63_ 27 = .ok (.iconst (-1), 1) := by decide +kernel
theorem q63_28 : decode c63_ 28 = .ok (.ireturn, 1) := by decide +kernel
def Q_l1io (Z : State) (cs : Int32) (fm : Value) (a1 : Addr) (k n : Nat) (c : Nat → Nat) (h0 : Heap) (n0 : Nat) (v : Option Value) (h : Heap) (L : List Loc) : Prop := v = some (.int (-1)) ∧ Fr n0 L ∧ h = h0
set_option maxRecDepth 65536 in
set_option maxHeartbeats 40000000 in
theorem rm_l1io (l : Launch) (Z : State) (a0 : Array Value) (hw : ∀ d ∈ tables_1, d.before a0 Z = true) (ws : List Jvm.Cond) (cs : Int32) (fm : Value) (a1 : Addr) (k n : Nat) (c : Nat → Nat) (h0 : Heap) (n0 : Nat) (Z0 : n0 ≤ h0.size) (ST : own_ST Z cs fm) (OO : Old Z n0 h0) (hk : k < 128) (hn : n < 2 ^ 29) (hne : ∀ j, j < n → c j ≠ k) (hl : ∀ j, j < n → c j < 256) (A : OA Z h0 a1 .byte n (own_by false c)) :
    MetFree l (⟨"java/lang/StringLatin1", "indexOf", "([BIII)I"⟩ : MethodName) (head1 (Jvm.Cond.code (⟨"java/lang/StringLatin1", "indexOf", "([BIII)I"⟩ : MethodName) jdk_43_method_22_code 4 (some .int) :: ws) ({ frames := 1, cells := 0, slots := 0, locals := 17 } : Room)) (fun a U => a = #[(.ref a1), (.int (Int32.ofNat k)), (.int (0 : Int32)), (.int (Int32.ofNat n))] ∧ Z.Warmed39 U.vm ∧ U.heap = h0) (fun _ _ _ _ _ => True) (fun _ U o U' => ∃ v L, o = .returned v ∧ Q_l1io Z cs fm a1 k n c h0 n0 v U'.heap L ∧ FrameEnd U o U' L ({ frames := 1, cells := 0, slots := 0, locals := 17 } : Room).cells ({ frames := 1, cells := 0, slots := 0, locals := 17 } : Room).slots) := by
  refine MetFree.of_bodySF (plainFor_of_name pn_java_lang_StringLatin1) hisR ?_
  intro p ee s m args below meth cc s₁ Bd hml0 hP hK
  obtain ⟨rfl, hZ, hh⟩ := hP
  have hx := Bd.exec
  have hby := Bd.bytes
  have hml : cc.maxLocals = 4 := hml0
  have hown : s.vm.findClass "java/lang/StringLatin1" = some m.cls := findClass_of_methodNamed Bd.named
  have hnm := (name_of_methodNamed Bd.named Bd.method).1
  have X0 : Stand p l ee ({ frames := 1, cells := 0, slots := 0, locals := 17 } : Room) s m #[(.ref a1), (.int (Int32.ofNat k)), (.int (0 : Int32)), (.int (Int32.ofNat n))] below meth cc s₁ [] 0 0 := Stand.of_body Bd
  have e0 : s₁.heap = h0 := by rw [← hh, Bd.state]; rfl
  have N0 := Fr.nil n0
  show Goes p ee below s ({ frames := 1, cells := 0, slots := 0, locals := 17 } : Room).cells ({ frames := 1, cells := 0, slots := 0, locals := 17 } : Room).slots (Q_l1io Z cs fm a1 k n c h0 n0) (s₁.setTop (entryFrame m #[(.ref a1), (.int (Int32.ofNat k)), (.int (0 : Int32)), (.int (Int32.ofNat n))] 4))
  refine gS (fun _ r => castTop (ef_l1io m a1 (Int32.ofNat k) (0 : Int32) (Int32.ofNat n)) r) ?_
  show Goes p ee below s _ _ _ (s₁.setTop (mkF m 0 #[vR a1, vN k, .val (.int (0 : Int32)), vN n] []))
  refine gS (fun _ r => XS.iloadN X0.here hx rfl (hb hby q63_0) rfl  r) ?_
  have lt_a1 := A.lt
  obtain ⟨v1, T1, L1, X1, hQ1, st1⟩ := own_callS X0 hx hZ (y := (⟨"java/lang/StringLatin1", "canEncode", "(I)Z"⟩ : MethodName)) hown (own_w hw 105 rfl) (own_w hw 106 rfl) (own_w hw 43 rfl) (own_w hw 107 rfl) (by decide) (argsL := [(.int (Int32.ofNat k))]) (rm_cani l Z a0 hw [] k h0 n0 Z0 (by omega)) e0 (W := 0) (by decide) (by decide) (by decide) (by decide) (g := (mkF m 1 #[vR a1, vN k, .val (.int (0 : Int32)), vN n] [(.int (Int32.ofNat k))])) rfl (by rw [hml]; rfl) (rest := []) (lenOf pd_34 rfl) rfl (by show 2 * 0 + _ ≤ _; exact Nat.le_of_eq rfl) (hb hby q63_1)
  refine gS st1 ?_
  obtain ⟨rfl, N1, e1⟩ := hQ1
  have N2 := Fr.app N0 N1
  refine gS (fun _ r => XS.ifYes X1.here hx rfl (pc0 := 4) (pc' := 9) rfl (hb hby q63_4) rfl ((if0 _ _).trans (feq (by decide)).2) (by decide) (by decide) r) ?_
  refine gS (fun _ r => XS.iloadN X1.here hx rfl (hb hby q63_9) rfl  r) ?_
  refine gS (fun _ r => XS.iconst X1.here hx rfl (hb hby q63_10) r) ?_
  have lt_a1 := A.lt
  obtain ⟨v3, T3, L3, X3, hQ3, st3⟩ := own_callS X1 hx hZ (y := (⟨"java/lang/Math", "max", "(II)I"⟩ : MethodName)) hown (own_w hw 108 rfl) (own_w hw 109 rfl) (own_w hw 110 rfl) (own_w hw 111 rfl) (by decide) (argsL := [(.int (0 : Int32)), (.int (0 : Int32))]) (rm_max l Z a0 hw []  h0 n0 Z0 ) e1 (W := 0) (by decide) (by decide) (by decide) (by decide) (g := (mkF m 11 #[vR a1, vN k, .val (.int (0 : Int32)), vN n] [(.int (0 : Int32)), (.int (0 : Int32))])) rfl (by rw [hml]; rfl) (rest := []) (lenOf pd_14 rfl) rfl (by show 2 * 0 + _ ≤ _; exact Nat.le_of_eq rfl) (hb hby q63_11)
  refine gS st3 ?_
  obtain ⟨rfl, N3, e3⟩ := hQ3
  have N4 := Fr.app N2 N3
  show Goes p ee below s _ _ _ (T3.setTop (mkF m 14 #[vR a1, vN k, .val (.int (0 : Int32)), vN n] [(.int (0 : Int32))]))
  refine gS (fun _ r => XS.istoreN X3.here hx rfl (hb hby q63_14) rfl  (l' := #[vR a1, vN k, .val (.int (0 : Int32)), vN n]) rfl r) ?_
  refine gS (fun _ r => XS.iloadN X3.here hx rfl (hb hby q63_15) rfl  r) ?_
  refine gS (fun _ r => XS.aloadN X3.here hx rfl (hb hby q63_16) rfl rfl r) ?_
  refine gS (own_alen X3 hx hZ e3 A (z := (Int32.ofNat n)) rfl (g := (mkF m 17 #[vR a1, vN k, .val (.int (0 : Int32)), vN n] [(.ref a1), (.int (Int32.ofNat n))])) rfl rfl (hb hby q63_17)) ?_
  have lt_a1 := A.lt
  obtain ⟨v5, T5, L5, X5, hQ5, st5⟩ := own_callS X3 hx hZ (y := (⟨"java/lang/Math", "min", "(II)I"⟩ : MethodName)) hown (own_w hw 112 rfl) (own_w hw 113 rfl) (own_w hw 110 rfl) (own_w hw 114 rfl) (by decide) (argsL := [(.int (Int32.ofNat n)), (.int (Int32.ofNat n))]) (rm_min l Z a0 hw [] n n h0 n0 Z0 (by omega) (Nat.le_refl _)) e3 (W := 0) (by decide) (by decide) (by decide) (by decide) (g := (mkF m 18 #[vR a1, vN k, .val (.int (0 : Int32)), vN n] [(.int (Int32.ofNat n)), (.int (Int32.ofNat n))])) rfl (by rw [hml]; rfl) (rest := []) (lenOf pd_14 rfl) rfl (by show 2 * 0 + _ ≤ _; exact Nat.le_of_eq rfl) (hb hby q63_18)
  refine gS st5 ?_
  obtain ⟨rfl, N5, e5⟩ := hQ5
  have N6 := Fr.app N4 N5
  refine gS (fun _ r => XS.istoreN X5.here hx rfl (hb hby q63_21) rfl  (l' := #[vR a1, vN k, .val (.int (0 : Int32)), vN n]) rfl r) ?_
  show Goes p ee below s _ _ _ (T5.setTop (mkF m 22 #[vR a1, vN k, .val (.int (0 : Int32)), vN n] []))
  refine gS (fun _ r => XS.iloadN X5.here hx rfl (hb hby q63_22) rfl  r) ?_
  refine gS (fun _ r => XS.iloadN X5.here hx rfl (hb hby q63_23) rfl  r) ?_
  by_cases hn24_7 : 0 < n
  · refine gS (fun _ r => XS.icmpYes X5.here hx rfl (pc0 := 24) (pc' := 29) rfl (hb hby q63_24) rfl (tlt ((own_ltN 0 n (by decide) (by omega)).mpr hn24_7)).1 (by decide) (by decide) r) ?_
    refine gS (fun _ r => XS.aloadN X5.here hx rfl (hb hby q63_29) rfl rfl r) ?_
    refine gS (fun _ r => XS.iloadN X5.here hx rfl (hb hby q63_30) rfl  r) ?_
    refine gS (fun _ r => XS.iloadN X5.here hx rfl (hb hby q63_31) rfl  r) ?_
    show Goes p ee below s _ _ _ (T5.setTop (mkF m 32 #[vR a1, vN k, .val (.int (0 : Int32)), vN n] [(.int (0 : Int32)), (.int (Int32.ofNat k)), (.ref a1)]))
    refine gS (fun _ r => XS.iloadN X5.here hx rfl (hb hby q63_32) rfl  r) ?_
    have lt_a1 := A.lt
    obtain ⟨v8, T8, L8, X8, hQ8, st8⟩ := own_callS X5 hx hZ (y := (⟨"java/lang/StringLatin1", "indexOfChar", "([BIII)I"⟩ : MethodName)) hown (own_w hw 115 rfl) (own_w hw 116 rfl) (own_w hw 43 rfl) (own_w hw 117 rfl) (by decide) (argsL := [(.ref a1), (.int (Int32.ofNat k)), (.int (0 : Int32)), (.int (Int32.ofNat n))]) (rm_l1ix l Z a0 hw [] cs fm a1 k n c h0 n0 Z0 ST OO hk hn hne hl A) e5 (W := 0) (by decide) (by decide) (by decide) (by decide) (g := (mkF m 33 #[vR a1, vN k, .val (.int (0 : Int32)), vN n] [(.int (Int32.ofNat n)), (.int (0 : Int32)), (.int (Int32.ofNat k)), (.ref a1)])) rfl (by rw [hml]; rfl) (rest := []) (lenOf pd_35 rfl) rfl (by show 2 * 0 + _ ≤ _; exact Nat.le_of_eq rfl) (hb hby q63_33)
    refine gS st8 ?_
    obtain ⟨rfl, N8, e8⟩ := hQ8
    have N9 := Fr.app N6 N8
    show Goes p ee below s _ _ _ (T8.setTop (mkF m 36 #[vR a1, vN k, .val (.int (0 : Int32)), vN n] [(.int (-1 : Int32))]))
    refine Goes.retI X8 hx Bd.notSynchronized Bd.returns (hb hby q63_36) (by decide) (by decide) ?_
    exact ⟨rfl, N9, e8⟩
  · refine gS (fun _ r => XS.icmpNo X5.here hx rfl (hb hby q63_24) rfl (flt (fun z => hn24_7 ((own_ltN 0 n (by decide) (by omega)).mp z))).1 r) ?_
    refine gS (fun _ r => XS.iconst X5.here hx rfl (hb hby q63_27) r) ?_
    show Goes p ee below s _ _ _ (T5.setTop (mkF m 28 #[vR a1, vN k, .val (.int (0 : Int32)), vN n] [(.int (-1 : Int32))]))
    refine Goes.retI X5 hx Bd.notSynchronized Bd.returns (hb hby q63_28) (by decide) (by decide) ?_
    exact ⟨rfl, N6, e5⟩
theorem ef_ube (m : MethodId) (x0 : Int32) (x1 : Int32) (x2 : Addr) : entryFrame m #[(.int x0), (.int x1), (.ref x2)] 3 = mkF m 0 #[.val (.int x0), .val (.int x1), .val (.ref x2)] [] := by first | (simp [entryFrame, mkF, argsToLocals, Value.category]; done) | rfl
theorem q64_0 : decode c64_ 0 = .ok (.iload_n 0, 1) := by decide +kernel
theorem q64_1 : decode c64_ 1 = .ok (.iload_n 1, 1) := by decide +kernel
theorem q64_2 : decode c64_ 2 = .ok (.aload_n 2, 1) := by decide +kernel
theorem q64_3 : decode c64_ 3 = .ok (.invokestatic 48, 3) := by decide +kernel
theorem pd_36 : parseMethodDescriptor "(III)V" = some ⟨[.int, .int, .int], none⟩ := by decide +kernel
theorem q64_6 : decode c64_ 6 = .ok (.invokestatic 241, 3) := by decide +kernel
theorem q64_9 : decode c64_ 9 = .ok (.return_, 1) := by decide +kernel
def Q_ube (Z : State) (cs : Int32) (fm : Value) (a1 : Addr) (n : Nat) (f : Nat → Value) (h0 : Heap) (n0 : Nat) (v : Option Value) (h : Heap) (L : List Loc) : Prop := v = none ∧ Fr n0 L ∧ h = h0
set_option maxRecDepth 65536 in
set_option maxHeartbeats 40000000 in
theorem rm_ube (l : Launch) (Z : State) (a0 : Array Value) (hw : ∀ d ∈ tables_1, d.before a0 Z = true) (ws : List Jvm.Cond) (cs : Int32) (fm : Value) (a1 : Addr) (n : Nat) (f : Nat → Value) (h0 : Heap) (n0 : Nat) (Z0 : n0 ≤ h0.size) (ST : own_ST Z cs fm) (OO : Old Z n0 h0) (hn : n < 2 ^ 29) (A : OA Z h0 a1 .byte (2 * n) f) :
    MetFree l (⟨"java/lang/StringUTF16", "checkBoundsBeginEnd", "(II[B)V"⟩ : MethodName) (head1 (Jvm.Cond.code (⟨"java/lang/StringUTF16", "checkBoundsBeginEnd", "(II[B)V"⟩ : MethodName) jdk_52_method_93_code 3 none :: ws) ({ frames := 2, cells := 0, slots := 0, locals := 29 } : Room)) (fun a U => a = #[(.int (0 : Int32)), (.int (Int32.ofNat n)), (.ref a1)] ∧ Z.Warmed39 U.vm ∧ U.heap = h0) (fun _ _ _ _ _ => True) (fun _ U o U' => ∃ v L, o = .returned v ∧ Q_ube Z cs fm a1 n f h0 n0 v U'.heap L ∧ FrameEnd U o U' L ({ frames := 2, cells := 0, slots := 0, locals := 29 } : Room).cells ({ frames := 2, cells := 0, slots := 0, locals := 29 } : Room).slots) := by
  refine MetFree.of_bodySF (plainFor_of_name pn_java_lang_StringUTF16) hisR ?_
  intro p ee s m args below meth cc s₁ Bd hml0 hP hK
  obtain ⟨rfl, hZ, hh⟩ := hP
  have hx := Bd.exec
  have hby := Bd.bytes
  have hml : cc.maxLocals = 3 := hml0
  have hown : s.vm.findClass "java/lang/StringUTF16" = some m.cls := findClass_of_methodNamed Bd.named
  have hnm := (name_of_methodNamed Bd.named Bd.method).1
  have X0 : Stand p l ee ({ frames := 2, cells := 0, slots := 0, locals := 29 } : Room) s m #[(.int (0 : Int32)), (.int (Int32.ofNat n)), (.ref a1)] below meth cc s₁ [] 0 0 := Stand.of_body Bd
  have e0 : s₁.heap = h0 := by rw [← hh, Bd.state]; rfl
  have N0 := Fr.nil n0
  show Goes p ee below s ({ frames := 2, cells := 0, slots := 0, locals := 29 } : Room).cells ({ frames := 2, cells := 0, slots := 0, locals := 29 } : Room).slots (Q_ube Z cs fm a1 n f h0 n0) (s₁.setTop (entryFrame m #[(.int (0 : Int32)), (.int (Int32.ofNat n)), (.ref a1)] 3))
  refine gS (fun _ r => castTop (ef_ube m (0 : Int32) (Int32.ofNat n) a1) r) ?_
  show Goes p ee below s _ _ _ (s₁.setTop (mkF m 0 #[.val (.int (0 : Int32)), vN n, vR a1] []))
  refine gS (fun _ r => XS.iloadN X0.here hx rfl (hb hby q64_0) rfl  r) ?_
  refine gS (fun _ r => XS.iloadN X0.here hx rfl (hb hby q64_1) rfl  r) ?_
  refine gS (fun _ r => XS.aloadN X0.here hx rfl (hb hby q64_2) rfl rfl r) ?_
  have lt_a1 := A.lt
  obtain ⟨v1, T1, L1, X1, hQ1, st1⟩ := own_callS X0 hx hZ (y := (⟨"java/lang/StringUTF16", "length", "([B)I"⟩ : MethodName)) hown (own_w hw 278 rfl) (own_w hw 279 rfl) (own_w hw 25 rfl) (own_w hw 280 rfl) (by decide) (argsL := [(.ref a1)]) (rm_u16l l Z a0 hw [] cs fm a1 n _ h0 n0 Z0 ST OO (by omega) A) e0 (W := 2) (by decide) (by decide) (by decide) (by decide) (g := (mkF m 3 #[.val (.int (0 : Int32)), vN n, vR a1] [(.ref a1), (.int (Int32.ofNat n)), (.int (0 : Int32))])) rfl (by rw [hml]; rfl) (rest := [(.int (Int32.ofNat n)), (.int (0 : Int32))]) (lenOf pd_2 rfl) rfl (by show 2 * 0 + _ ≤ _; exact Nat.le_of_eq rfl) (hb hby q64_3)
  refine gS st1 ?_
  obtain ⟨rfl, N1, e1⟩ := hQ1
  have N2 := Fr.app N0 N1
  have lt_a1 := A.lt
  obtain ⟨v3, T3, L3, X3, hQ3, st3⟩ := own_callS X1 hx hZ (y := (⟨"java/lang/String", "checkBoundsBeginEnd", "(III)V"⟩ : MethodName)) hown (own_w hw 281 rfl) (own_w hw 282 rfl) (own_w hw 10 rfl) (own_w hw 283 rfl) (by decide) (argsL := [(.int (0 : Int32)), (.int (Int32.ofNat n)), (.int (Int32.ofNat n))]) (rm_sbe l Z a0 hw [] cs fm 0 n n h0 n0 Z0 ST OO (Nat.zero_le _) (Nat.le_refl _) (by omega)) e1 (W := 0) (by decide) (by decide) (by decide) (by decide) (g := (mkF m 6 #[.val (.int (0 : Int32)), vN n, vR a1] [(.int (Int32.ofNat n)), (.int (Int32.ofNat n)), (.int (0 : Int32))])) rfl (by rw [hml]; rfl) (rest := []) (lenOf pd_36 rfl) rfl (by show 2 * 0 + _ ≤ _; exact Nat.le_of_eq rfl) (hb hby q64_6)
  refine gS st3 ?_
  obtain ⟨rfl, N3, e3⟩ := hQ3
  have N4 := Fr.app N2 N3
  show Goes p ee below s _ _ _ (T3.setTop (mkF m 9 #[.val (.int (0 : Int32)), vN n, vR a1] []))
  refine Goes.retV X3 hx Bd.notSynchronized Bd.returns (hb hby q64_9) (by decide) (by decide) ?_
  exact ⟨rfl, N4, e3⟩
theorem ef_u16iu (m : MethodId) (x0 : Addr) (x1 : Int32) (x2 : Int32) (x3 : Int32) : entryFrame m #[(.ref x0), (.int x1), (.int x2), (.int x3)] 5 = mkF m 0 #[.val (.ref x0), .val (.int x1), .val (.int x2), .val (.int x3), .unset] [] := by first | (simp [entryFrame, mkF, argsToLocals, Value.category]; done) | rfl
theorem q65_0 : decode c65_ 0 = .ok (.iload_n 2, 1) := by decide +kernel
theorem q65_1 : decode c65_ 1 = .ok (.istore 4, 2) := by decide +kernel
theorem q65_3 : decode c65_ 3 = .ok (.iload 4, 2) := by decide +kernel
theorem q65_5 : decode c65_ 5 = .ok (.iload_n 3, 1) := by decide +kernel
theorem q65_6 : decode c65_ 6 = .ok (.if_icmp .ge 22, 3) := by decide +kernel
theorem q65_9 : decode c65_ 9 = .ok (.aload_n 0, 1) := by decide +kernel
theorem q65_10 : decode c65_ 10 = .ok (.iload 4, 2) := by decide +kernel
theorem q65_12 : decode c65_ 12 = .ok (.invokestatic 71, 3) := by decide +kernel
theorem q65_15 : decode c65_ 15 = .ok (.iload_n 1, 1) := by decide +kernel
theorem q65_16 : decode c65_ 16 = .ok (.if_icmp .ne 6, 3) := by decide +kernel
theorem q65_22 : decode c65_ 22 = .ok (.iinc 4 1, 3) := by decide +kernel
theorem q65_25 : decode c65_ 25 = .ok (.goto (-22), 3) := by decide +kernel
theorem q65_28 : decode c65_ 28 = .ok (.iconst (-1), 1) := by decide +kernel
theorem q65_29 : decode c65_ 29 = .ok (.ireturn, 1) := by decide +kernel
def Q_u16iu (Z : State) (cs : Int32) (fm : Value) (a1 : Addr) (k n : Nat) (c : Nat → Nat) (h0 : Heap) (n0 : Nat) (v : Option Value) (h : Heap) (L : List Loc) : Prop := v = some (.int (-1)) ∧ Fr n0 L ∧ h = h0
set_option maxRecDepth 65536 in
set_option maxHeartbeats 40000000 in
theorem rm_u16iu (l : Launch) (Z : State) (a0 : Array Value) (hw : ∀ d ∈ tables_1, d.before a0 Z = true) (ws : List Jvm.Cond) (cs : Int32) (fm : Value) (a1 : Addr) (k n : Nat) (c : Nat → Nat) (h0 : Heap) (n0 : Nat) (Z0 : n0 ≤ h0.size) (ST : own_ST Z cs fm) (OO : Old Z n0 h0) (hk : k < 128) (hn : n < 2 ^ 29) (hne : ∀ j, j < n → c j ≠ k) (hc : ∀ j, j < n → c j < 65536) (A : OA Z h0 a1 .byte (2 * n) (own_by true c)) :
    MetFree l (⟨"java/lang/StringUTF16", "indexOfCharUnsafe", "([BIII)I"⟩ : MethodName) (head1 (Jvm.Cond.code (⟨"java/lang/StringUTF16", "indexOfCharUnsafe", "([BIII)I"⟩ : MethodName) jdk_52_method_48_code 5 (some .int) :: ws) ({ frames := 1, cells := 0, slots := 0, locals := 13 } : Room)) (fun a U => a = #[(.ref a1), (.int (Int32.ofNat k)), (.int (0 : Int32)), (.int (Int32.ofNat n))] ∧ Z.Warmed39 U.vm ∧ U.heap = h0) (fun _ _ _ _ _ => True) (fun _ U o U' => ∃ v L, o = .returned v ∧ Q_u16iu Z cs fm a1 k n c h0 n0 v U'.heap L ∧ FrameEnd U o U' L ({ frames := 1, cells := 0, slots := 0, locals := 13 } : Room).cells ({ frames := 1, cells := 0, slots := 0, locals := 13 } : Room).slots) := by
  refine MetFree.of_bodySF (plainFor_of_name pn_java_lang_StringUTF16) hisR ?_
  intro p ee s m args below meth cc s₁ Bd hml0 hP hK
  obtain ⟨rfl, hZ, hh⟩ := hP
  have hx := Bd.exec
  have hby := Bd.bytes
  have hml : cc.maxLocals = 5 := hml0
  have hown : s.vm.findClass "java/lang/StringUTF16" = some m.cls := findClass_of_methodNamed Bd.named
  have hnm := (name_of_methodNamed Bd.named Bd.method).1
  have X0 : Stand p l ee ({ frames := 1, cells := 0, slots := 0, locals := 13 } : Room) s m #[(.ref a1), (.int (Int32.ofNat k)), (.int (0 : Int32)), (.int (Int32.ofNat n))] below meth cc s₁ [] 0 0 := Stand.of_body Bd
  have e0 : s₁.heap = h0 := by rw [← hh, Bd.state]; rfl
  have N0 := Fr.nil n0
  show Goes p ee below s ({ frames := 1, cells := 0, slots := 0, locals := 13 } : Room).cells ({ frames := 1, cells := 0, slots := 0, locals := 13 } : Room).slots (Q_u16iu Z cs fm a1 k n c h0 n0) (s₁.setTop (entryFrame m #[(.ref a1), (.int (Int32.ofNat k)), (.int (0 : Int32)), (.int (Int32.ofNat n))] 5))
  refine gS (fun _ r => castTop (ef_u16iu m a1 (Int32.ofNat k) (0 : Int32) (Int32.ofNat n)) r) ?_
  show Goes p ee below s _ _ _ (s₁.setTop (mkF m 0 #[vR a1, vN k, .val (.int (0 : Int32)), vN n, .unset] []))
  refine gS (fun _ r => XS.iloadN X0.here hx rfl (hb hby q65_0) rfl  r) ?_
  refine gS (fun _ r => XS.istore X0.here hx rfl (hb hby q65_1) rfl  (l' := #[vR a1, vN k, .val (.int (0 : Int32)), vN n, .val (.int (0 : Int32))]) rfl r) ?_
  show Goes p ee below s _ _ _ (s₁.setTop (mkF m 3 #[vR a1, vN k, .val (.int (0 : Int32)), vN n, .val (.int (0 : Int32))] []))
  have loop : ∀ (d i : Nat) (T : State) (locs : List Loc), Stand p l ee ({ frames := 1, cells := 0, slots := 0, locals := 13 } : Room) s m #[(.ref a1), (.int (Int32.ofNat k)), (.int (0 : Int32)), (.int (Int32.ofNat n))] below meth cc T locs 0 0 → T.heap = h0 → Fr n0 locs → 0 < d → n < i + d → i ≤ n → Goes p ee below s ({ frames := 1, cells := 0, slots := 0, locals := 13 } : Room).cells ({ frames := 1, cells := 0, slots := 0, locals := 13 } : Room).slots (Q_u16iu Z cs fm a1 k n c h0 n0) (T.setTop (mkF m 3 #[vR a1, vN k, .val (.int (0 : Int32)), vN n, vN i] [])) := by
    intro d
    induction d with
    | zero => intro i T locs X eT N q1; omega
    | succ d ih =>
      intro i T locs X eT N q1 q2 q3 
      show Goes p ee below s _ _ _ (T.setTop (mkF m 3 #[vR a1, vN k, .val (.int (0 : Int32)), vN n, vN i] []))
      refine gS (fun _ r => XS.iload X.here hx rfl (hb hby q65_3) rfl  r) ?_
      refine gS (fun _ r => XS.iloadN X.here hx rfl (hb hby q65_5) rfl  r) ?_
      by_cases hn6_1 : i < n
      · refine gS (fun _ r => XS.icmpNo X.here hx rfl (hb hby q65_6) rfl (tlt ((own_ltN i n (by omega) (by omega)).mpr hn6_1)).2.1 r) ?_
        refine gS (fun _ r => XS.aloadN X.here hx rfl (hb hby q65_9) rfl rfl r) ?_
        refine gS (fun _ r => XS.iload X.here hx rfl (hb hby q65_10) rfl  r) ?_
        have lt_a1 := A.lt
        obtain ⟨v2, T2, L2, X2, hQ2, st2⟩ := own_callS X hx hZ (y := (⟨"java/lang/StringUTF16", "getChar", "([BI)C"⟩ : MethodName)) hown (own_w hw 290 rfl) (own_w hw 291 rfl) (own_w hw 25 rfl) (own_w hw 292 rfl) (by decide) (argsL := [(.ref a1), (.int (Int32.ofNat i))]) (rm_getc l Z a0 hw [] cs fm a1 i n c h0 n0 Z0 ST OO hn6_1 (by omega) (hc i hn6_1) A) eT (W := 0) (by decide) (by decide) (by decide) (by decide) (g := (mkF m 12 #[vR a1, vN k, .val (.int (0 : Int32)), vN n, vN i] [(.int (Int32.ofNat i)), (.ref a1)])) rfl (by rw [hml]; rfl) (rest := []) (lenOf pd_4 rfl) rfl (by show 2 * 0 + _ ≤ _; exact Nat.le_of_eq rfl) (hb hby q65_12)
        refine gS st2 ?_
        obtain ⟨rfl, N2, e2⟩ := hQ2
        have N3 := Fr.app N N2
        show Goes p ee below s _ _ _ (T2.setTop (mkF m 15 #[vR a1, vN k, .val (.int (0 : Int32)), vN n, vN i] [(.int (Int32.ofNat (c i)))]))
        refine gS (fun _ r => XS.iloadN X2.here hx rfl (hb hby q65_15) rfl  r) ?_
        refine gS (fun _ r => XS.icmpYes X2.here hx rfl (pc0 := 16) (pc' := 22) rfl (hb hby q65_16) rfl (feq (fun z => hne i hn6_1 ((own_eqN (c i) k (Nat.lt_trans (hc i hn6_1) (by decide)) (by omega)).mp z))).2 (by decide) (by decide) r) ?_
        refine gS (fun _ r => XS.iinc X2.here hx rfl (hb hby q65_22) rfl (l' := #[vR a1, vN k, .val (.int (0 : Int32)), vN n, .val (.int ((Int32.ofNat i) + (1 : Int32)))]) rfl r) ?_
        show Goes p ee below s _ _ _ (T2.setTop (mkF m 25 #[vR a1, vN k, .val (.int (0 : Int32)), vN n, .val (.int ((Int32.ofNat i) + (1 : Int32)))] []))
        rw [show Int32.ofNat i + (1 : Int32) = Int32.ofNat (i + 1) from own_addN i 1]
        show Goes p ee below s _ _ _ (T2.setTop (mkF m 25 #[vR a1, vN k, .val (.int (0 : Int32)), vN n, vN (i + 1)] []))
        refine gS (fun _ r => XS.goto X2.here hx rfl (pc0 := 25) (pc' := 3) rfl (hb hby q65_25) (by decide) (by decide) r) ?_
        show Goes p ee below s _ _ _ (T2.setTop (mkF m 3 #[vR a1, vN k, .val (.int (0 : Int32)), vN n, vN (i + 1)] []))
        exact ih (i + 1) _ _ X2 e2 N3 (by omega) (by omega) (by omega) 
      · refine gS (fun _ r => XS.icmpYes X.here hx rfl (pc0 := 6) (pc' := 28) rfl (hb hby q65_6) rfl (flt (fun z => hn6_1 ((own_ltN i n (by omega) (by omega)).mp z))).2.1 (by decide) (by decide) r) ?_
        refine gS (fun _ r => XS.iconst X.here hx rfl (hb hby q65_28) r) ?_
        show Goes p ee below s _ _ _ (T.setTop (mkF m 29 #[vR a1, vN k, .val (.int (0 : Int32)), vN n, vN i] [(.int (-1 : Int32))]))
        refine Goes.retI X hx Bd.notSynchronized Bd.returns (hb hby q65_29) (by decide) (by decide) ?_
        exact ⟨rfl, N, eT⟩
  exact loop (n + 1) 0 _ _ X0 e0 N0 (by omega) (by omega) (by omega)
theorem ef_u16ix (m : MethodId) (x0 : Addr) (x1 : Int32) (x2 : Int32) (x3 : Int32) : entryFrame m #[(.ref x0), (.int x1), (.int x2), (.int x3)] 4 = mkF m 0 #[.val (.ref x0), .val (.int x1), .val (.int x2), .val (.int x3)] [] := by first | (simp [entryFrame, mkF, argsToLocals, Value.category]; done) | rfl
theorem q66_0 : decode c66_ 0 = .ok (.iload_n 2, 1) := by decide +kernel
theorem q66_1 : decode c66_ 1 = .ok (.iload_n 3, 1) := by decide +kernel
theorem q66_2 : decode c66_ 2 = .ok (.aload_n 0, 1) := by decide +kernel
theorem q66_3 : decode c66_ 3 = .ok (.invokestatic 96, 3) := by decide +kernel
theorem q66_6 : decode c66_ 6 = .ok (.aload_n 0, 1) := by decide +kernel
theorem q66_7 : decode c66_ 7 = .ok (.iload_n 1, 1) := by decide +kernel
theorem q66_8 : decode c66_ 8 = .ok (.iload_n 2, 1) := by decide +kernel
theorem q66_9 : decode c66_ 9 = .ok (.iload_n 3, 1) := by decide +kernel
theorem q66_10 : decode c66_ 10 = .ok (.invokestatic 244, 3) := by decide +kernel
theorem q66_13 : decode c66_ 13 = .ok (.ireturn, 1) := by decide +kernel
def Q_u16ix (Z : State) (cs : Int32) (fm : Value) (a1 : Addr) (k n : Nat) (c : Nat → Nat) (h0 : Heap) (n0 : Nat) (v : Option Value) (h : Heap) (L : List Loc) : Prop := v = some (.int (-1)) ∧ Fr n0 L ∧ h = h0
set_option maxRecDepth 65536 in
set_option maxHeartbeats 40000000 in
theorem rm_u16ix (l : Launch) (Z : State) (a0 : Array Value) (hw : ∀ d ∈ tables_1, d.before a0 Z = true) (ws : List Jvm.Cond) (cs : Int32) (fm : Value) (a1 : Addr) (k n : Nat) (c : Nat → Nat) (h0 : Heap) (n0 : Nat) (Z0 : n0 ≤ h0.size) (ST : own_ST Z cs fm) (OO : Old Z n0 h0) (hk : k < 128) (hn : n < 2 ^ 29) (hne : ∀ j, j < n → c j ≠ k) (hc : ∀ j, j < n → c j < 65536) (A : OA Z h0 a1 .byte (2 * n) (own_by true c)) :
    MetFree l (⟨"java/lang/StringUTF16", "indexOfChar", "([BIII)I"⟩ : MethodName) (head1 (Jvm.Cond.code (⟨"java/lang/StringUTF16", "indexOfChar", "([BIII)I"⟩ : MethodName) jdk_52_method_47_code 4 (some .int) :: ws) ({ frames := 3, cells := 0, slots := 0, locals := 43 } : Room)) (fun a U => a = #[(.ref a1), (.int (Int32.ofNat k)), (.int (0 : Int32)), (.int (Int32.ofNat n))] ∧ Z.Warmed39 U.vm ∧ U.heap = h0) (fun _ _ _ _ _ => True) (fun _ U o U' => ∃ v L, o = .returned v ∧ Q_u16ix Z cs fm a1 k n c h0 n0 v U'.heap L ∧ FrameEnd U o U' L ({ frames := 3, cells := 0, slots := 0, locals := 43 } : Room).cells ({ frames := 3, cells := 0, slots := 0, locals := 43 } : Room).slots) := by
  refine MetFree.of_bodySF (plainFor_of_name pn_java_lang_StringUTF16) hisR ?_
  intro p ee s m args below meth cc s₁ Bd hml0 hP hK
  obtain ⟨rfl, hZ, hh⟩ := hP
  have hx := Bd.exec
  have hby := Bd.bytes
  have hml : cc.maxLocals = 4 := hml0
  have hown : s.vm.findClass "java/lang/StringUTF16" = some m.cls := findClass_of_methodNamed Bd.named
  have hnm := (name_of_methodNamed Bd.named Bd.method).1
  have X0 : Stand p l ee ({ frames := 3, cells := 0, slots := 0, locals := 43 } : Room) s m #[(.ref a1), (.int (Int32.ofNat k)), (.int (0 : Int32)), (.int (Int32.ofNat n))] below meth cc s₁ [] 0 0 := Stand.of_body Bd
  have e0 : s₁.heap = h0 := by rw [← hh, Bd.state]; rfl
  have N0 := Fr.nil n0
  show Goes p ee below s ({ frames := 3, cells := 0, slots := 0, locals := 43 } : Room).cells ({ frames := 3, cells := 0, slots := 0, locals := 43 } : Room).slots (Q_u16ix Z cs fm a1 k n c h0 n0) (s₁.setTop (entryFrame m #[(.ref a1), (.int (Int32.ofNat k)), (.int (0 : Int32)), (.int (Int32.ofNat n))] 4))
  refine gS (fun _ r => castTop (ef_u16ix m a1 (Int32.ofNat k) (0 : Int32) (Int32.ofNat n)) r) ?_
  show Goes p ee below s _ _ _ (s₁.setTop (mkF m 0 #[vR a1, vN k, .val (.int (0 : Int32)), vN n] []))
  refine gS (fun _ r => XS.iloadN X0.here hx rfl (hb hby q66_0) rfl  r) ?_
  refine gS (fun _ r => XS.iloadN X0.here hx rfl (hb hby q66_1) rfl  r) ?_
  refine gS (fun _ r => XS.aloadN X0.here hx rfl (hb hby q66_2) rfl rfl r) ?_
  have lt_a1 := A.lt
  obtain ⟨v1, T1, L1, X1, hQ1, st1⟩ := own_callS X0 hx hZ (y := (⟨"java/lang/StringUTF16", "checkBoundsBeginEnd", "(II[B)V"⟩ : MethodName)) hown (own_w hw 275 rfl) (own_w hw 276 rfl) (own_w hw 25 rfl) (own_w hw 277 rfl) (by decide) (argsL := [(.int (0 : Int32)), (.int (Int32.ofNat n)), (.ref a1)]) (rm_ube l Z a0 hw [] cs fm a1 n _ h0 n0 Z0 ST OO hn A) e0 (W := 0) (by decide) (by decide) (by decide) (by decide) (g := (mkF m 3 #[vR a1, vN k, .val (.int (0 : Int32)), vN n] [(.ref a1), (.int (Int32.ofNat n)), (.int (0 : Int32))])) rfl (by rw [hml]; rfl) (rest := []) (lenOf pd_18 rfl) rfl (by show 2 * 0 + _ ≤ _; exact Nat.le_of_eq rfl) (hb hby q66_3)
  refine gS st1 ?_
  obtain ⟨rfl, N1, e1⟩ := hQ1
  have N2 := Fr.app N0 N1
  refine gS (fun _ r => XS.aloadN X1.here hx rfl (hb hby q66_6) rfl rfl r) ?_
  refine gS (fun _ r => XS.iloadN X1.here hx rfl (hb hby q66_7) rfl  r) ?_
  show Goes p ee below s _ _ _ (T1.setTop (mkF m 8 #[vR a1, vN k, .val (.int (0 : Int32)), vN n] [(.int (Int32.ofNat k)), (.ref a1)]))
  refine gS (fun _ r => XS.iloadN X1.here hx rfl (hb hby q66_8) rfl  r) ?_
  refine gS (fun _ r => XS.iloadN X1.here hx rfl (hb hby q66_9) rfl  r) ?_
  have lt_a1 := A.lt
  obtain ⟨v3, T3, L3, X3, hQ3, st3⟩ := own_callS X1 hx hZ (y := (⟨"java/lang/StringUTF16", "indexOfCharUnsafe", "([BIII)I"⟩ : MethodName)) hown (own_w hw 287 rfl) (own_w hw 288 rfl) (own_w hw 25 rfl) (own_w hw 289 rfl) (by decide) (argsL := [(.ref a1), (.int (Int32.ofNat k)), (.int (0 : Int32)), (.int (Int32.ofNat n))]) (rm_u16iu l Z a0 hw [] cs fm a1 k n c h0 n0 Z0 ST OO hk hn hne hc A) e1 (W := 0) (by decide) (by decide) (by decide) (by decide) (g := (mkF m 10 #[vR a1, vN k, .val (.int (0 : Int32)), vN n] [(.int (Int32.ofNat n)), (.int (0 : Int32)), (.int (Int32.ofNat k)), (.ref a1)])) rfl (by rw [hml]; rfl) (rest := []) (lenOf pd_35 rfl) rfl (by show 2 * 0 + _ ≤ _; exact Nat.le_of_eq rfl) (hb hby q66_10)
  refine gS st3 ?_
  obtain ⟨rfl, N3, e3⟩ := hQ3
  have N4 := Fr.app N2 N3
  show Goes p ee below s _ _ _ (T3.setTop (mkF m 13 #[vR a1, vN k, .val (.int (0 : Int32)), vN n] [(.int (-1 : Int32))]))
  refine Goes.retI X3 hx Bd.notSynchronized Bd.returns (hb hby q66_13) (by decide) (by decide) ?_
  exact ⟨rfl, N4, e3⟩
theorem ef_u16io (m : MethodId) (x0 : Addr) (x1 : Int32) (x2 : Int32) (x3 : Int32) : entryFrame m #[(.ref x0), (.int x1), (.int x2), (.int x3)] 4 = mkF m 0 #[.val (.ref x0), .val (.int x1), .val (.int x2), .val (.int x3)] [] := by first | (simp [entryFrame, mkF, argsToLocals, Value.category]; done) | rfl
theorem q67_0 : decode c67_ 0 = .ok (.iload_n 2, 1) := by decide +kernel
theorem q67_1 : decode c67_ 1 = .ok (.iconst 0, 1) := by decide +kernel
theorem q67_2 : decode c67_ 2 = .ok (.invokestatic 224, 3) := by decide +kernel
theorem q67_5 : decode c67_ 5 = .ok (.istore_n 2, 1) := by decide +kernel
theorem q67_6 : decode c67_ 6 = .ok (.iload_n 3, 1) := by decide +kernel
theorem q67_7 : decode c67_ 7 = .ok (.aload_n 0, 1) := by decide +kernel
theorem q67_8 : decode c67_ 8 = .ok (.arraylength, 1) := by decide +kernel
theorem q67_9 : decode c67_ 9 = .ok (.iconst 1, 1) := by decide +kernel
theorem q67_10 : decode c67_ 10 = .ok (.ishr, 1) := by decide +kernel
theorem q67_11 : decode c67_ 11 = .ok (.invokestatic 183, 3) := by decide +kernel
theorem q67_14 : decode c67_ 14 = .ok (.istore_n 3, 1) := by decide +kernel
theorem q67_15 : decode c67_ 15 = .ok (.iload_n 2, 1) := by decide +kernel
theorem q67_16 : decode c67_ 16 = .ok (.iload_n 3, 1) := by decide +kernel
theorem q67_17 : decode c67_ 17 = .ok (.if_icmp .lt 5, 3) := by decide +kernel
theorem q67_22 : decode c67_ 22 = .ok (.iload_n 1, 1) := by decide +kernel
theorem q67_23 : decode c67_ 23 = .ok (.ldc 227, 2) := by decide +kernel
theorem q67_25 : decode c67_ 25 = .ok (.if_icmp .ge 11, 3) := by decide +kernel
theorem q67_28 : decode c67_ 28 = .ok (.aload_n 0, 1) := by decide +kernel
theorem q67_29 : decode c67_ 29 = .ok (.iload_n 1, 1) := by decide +kernel
theorem q67_30 : decode c67_ 30 = .ok (.iload_n 2, 1) := by decide +kernel
theorem q67_31 : decode c67_ 31 = .ok (.iload_n 3, 1) := by decide +kernel
theorem q67_32 : decode c67_ 32 = .ok (.invokestatic 228, 3) := by decide +kernel
theorem q67_35 : decode c67_ 35 = .ok (.ireturn, 1) := by decide +kernel
theorem q67_20 : decode c67_ 20 = .ok (.iconst (-1), 1) := by decide +kernel
theorem q67_21 : decode c67_ 21 = .ok (.ireturn, 1) := by decide +kernel
def Q_u16io (Z : State) (cs : Int32) (fm : Value) (a1 : Addr) (k n : Nat) (c : Nat → Nat) (h0 : Heap) (n0 : Nat) (v : Option Value) (h : Heap) (L : List Loc) : Prop := v = some (.int (-1)) ∧ Fr n0 L ∧ h = h0
set_option maxRecDepth 65536 in
set_option maxHeartbeats 40000000 in
theorem rm_u16io (l : Launch) (Z : State) (a0 : Array Value) (hw : ∀ d ∈ tables_1, d.before a0 Z = true) (ws : List Jvm.Cond) (cs : Int32) (fm : Value) (a1 : Addr) (k n : Nat) (c : Nat → Nat) (h0 : Heap) (n0 : Nat) (Z0 : n0 ≤ h0.size) (ST : own_ST Z cs fm) (OO : Old Z n0 h0) (hk : k < 128) (hn : n < 2 ^ 29) (hne : ∀ j, j < n → c j ≠ k) (hc : ∀ j, j < n → c j < 65536) (A : OA Z h0 a1 .byte (2 * n) (own_by true c)) :
    MetFree l (⟨"java/lang/StringUTF16", "indexOf", "([BIII)I"⟩ : MethodName) (head1 (Jvm.Cond.code (⟨"java/lang/StringUTF16", "indexOf", "([BIII)I"⟩ : MethodName) jdk_52_method_40_code 4 (some .int) :: ws) ({ frames := 4, cells := 0, slots := 0, locals := 58 } : Room)) (fun a U => a = #[(.ref a1), (.int (Int32.ofNat k)), (.int (0 : Int32)), (.int (Int32.ofNat n))] ∧ Z.Warmed39 U.vm ∧ U.heap = h0) (fun _ _ _ _ _ => True) (fun _ U o U' => ∃ v L, o = .returned v ∧ Q_u16io Z cs fm a1 k n c h0 n0 v U'.heap L ∧ FrameEnd U o U' L ({ frames := 4, cells := 0, slots := 0, locals := 58 } : Room).cells ({ frames := 4, cells := 0, slots := 0, locals := 58 } : Room).slots) := by
  refine MetFree.of_bodySF (plainFor_of_name pn_java_lang_StringUTF16) hisR ?_
  intro p ee s m args below meth cc s₁ Bd hml0 hP hK
  obtain ⟨rfl, hZ, hh⟩ := hP
  have hx := Bd.exec
  have hby := Bd.bytes
  have hml : cc.maxLocals = 4 := hml0
  have hown : s.vm.findClass "java/lang/StringUTF16" = some m.cls := findClass_of_methodNamed Bd.named
  have hnm := (name_of_methodNamed Bd.named Bd.method).1
  have X0 : Stand p l ee ({ frames := 4, cells := 0, slots := 0, locals := 58 } : Room) s m #[(.ref a1), (.int (Int32.ofNat k)), (.int (0 : Int32)), (.int (Int32.ofNat n))] below meth cc s₁ [] 0 0 := Stand.of_body Bd
  have e0 : s₁.heap = h0 := by rw [← hh, Bd.state]; rfl
  have N0 := Fr.nil n0
  show Goes p ee below s ({ frames := 4, cells := 0, slots := 0, locals := 58 } : Room).cells ({ frames := 4, cells := 0, slots := 0, locals := 58 } : Room).slots (Q_u16io Z cs fm a1 k n c h0 n0) (s₁.setTop (entryFrame m #[(.ref a1), (.int (Int32.ofNat k)), (.int (0 : Int32)), (.int (Int32.ofNat n))] 4))
  refine gS (fun _ r => castTop (ef_u16io m a1 (Int32.ofNat k) (0 : Int32) (Int32.ofNat n)) r) ?_
  show Goes p ee below s _ _ _ (s₁.setTop (mkF m 0 #[vR a1, vN k, .val (.int (0 : Int32)), vN n] []))
  refine gS (fun _ r => XS.iloadN X0.here hx rfl (hb hby q67_0) rfl  r) ?_
  refine gS (fun _ r => XS.iconst X0.here hx rfl (hb hby q67_1) r) ?_
  have lt_a1 := A.lt
  obtain ⟨v1, T1, L1, X1, hQ1, st1⟩ := own_callS X0 hx hZ (y := (⟨"java/lang/Math", "max", "(II)I"⟩ : MethodName)) hown (own_w hw 269 rfl) (own_w hw 109 rfl) (own_w hw 110 rfl) (own_w hw 111 rfl) (by decide) (argsL := [(.int (0 : Int32)), (.int (0 : Int32))]) (rm_max l Z a0 hw []  h0 n0 Z0 ) e0 (W := 0) (by decide) (by decide) (by decide) (by decide) (g := (mkF m 2 #[vR a1, vN k, .val (.int (0 : Int32)), vN n] [(.int (0 : Int32)), (.int (0 : Int32))])) rfl (by rw [hml]; rfl) (rest := []) (lenOf pd_14 rfl) rfl (by show 2 * 0 + _ ≤ _; exact Nat.le_of_eq rfl) (hb hby q67_2)
  refine gS st1 ?_
  obtain ⟨rfl, N1, e1⟩ := hQ1
  have N2 := Fr.app N0 N1
  refine gS (fun _ r => XS.istoreN X1.here hx rfl (hb hby q67_5) rfl  (l' := #[vR a1, vN k, .val (.int (0 : Int32)), vN n]) rfl r) ?_
  refine gS (fun _ r => XS.iloadN X1.here hx rfl (hb hby q67_6) rfl  r) ?_
  refine gS (fun _ r => XS.aloadN X1.here hx rfl (hb hby q67_7) rfl rfl r) ?_
  show Goes p ee below s _ _ _ (T1.setTop (mkF m 8 #[vR a1, vN k, .val (.int (0 : Int32)), vN n] [(.ref a1), (.int (Int32.ofNat n))]))
  refine gS (own_alen X1 hx hZ e1 A (z := (Int32.ofNat (2 * n))) rfl (g := (mkF m 8 #[vR a1, vN k, .val (.int (0 : Int32)), vN n] [(.ref a1), (.int (Int32.ofNat n))])) rfl rfl (hb hby q67_8)) ?_
  refine gS (fun _ r => XS.iconst X1.here hx rfl (hb hby q67_9) r) ?_
  refine gS (fun _ r => XT.ishr X1.here hx rfl (hb hby q67_10) rfl r) ?_
  show Goes p ee below s _ _ _ (T1.setTop (mkF m 11 #[vR a1, vN k, .val (.int (0 : Int32)), vN n] [(.int ((Int32.ofNat (2 * n)) >>> ((1 : Int32) &&& 31))), (.int (Int32.ofNat n))]))
  rw [own_shr1 n (by omega)]
  show Goes p ee below s _ _ _ (T1.setTop (mkF m 11 #[vR a1, vN k, .val (.int (0 : Int32)), vN n] [(.int (Int32.ofNat n)), (.int (Int32.ofNat n))]))
  have lt_a1 := A.lt
  obtain ⟨v3, T3, L3, X3, hQ3, st3⟩ := own_callS X1 hx hZ (y := (⟨"java/lang/Math", "min", "(II)I"⟩ : MethodName)) hown (own_w hw 270 rfl) (own_w hw 113 rfl) (own_w hw 110 rfl) (own_w hw 114 rfl) (by decide) (argsL := [(.int (Int32.ofNat n)), (.int (Int32.ofNat n))]) (rm_min l Z a0 hw [] n n h0 n0 Z0 (by omega) (Nat.le_refl _)) e1 (W := 0) (by decide) (by decide) (by decide) (by decide) (g := (mkF m 11 #[vR a1, vN k, .val (.int (0 : Int32)), vN n] [(.int (Int32.ofNat n)), (.int (Int32.ofNat n))])) rfl (by rw [hml]; rfl) (rest := []) (lenOf pd_14 rfl) rfl (by show 2 * 0 + _ ≤ _; exact Nat.le_of_eq rfl) (hb hby q67_11)
  refine gS st3 ?_
  obtain ⟨rfl, N3, e3⟩ := hQ3
  have N4 := Fr.app N2 N3
  refine gS (fun _ r => XS.istoreN X3.here hx rfl (hb hby q67_14) rfl  (l' := #[vR a1, vN k, .val (.int (0 : Int32)), vN n]) rfl r) ?_
  refine gS (fun _ r => XS.iloadN X3.here hx rfl (hb hby q67_15) rfl  r) ?_
  refine gS (fun _ r => XS.iloadN X3.here hx rfl (hb hby q67_16) rfl  r) ?_
  by_cases hn17_5 : 0 < n
  · refine gS (fun _ r => XS.icmpYes X3.here hx rfl (pc0 := 17) (pc' := 22) rfl (hb hby q67_17) rfl (tlt ((own_ltN 0 n (by decide) (by omega)).mpr hn17_5)).1 (by decide) (by decide) r) ?_
    refine gS (fun _ r => XS.iloadN X3.here hx rfl (hb hby q67_22) rfl  r) ?_
    show Goes p ee below s _ _ _ (T3.setTop (mkF m 23 #[vR a1, vN k, .val (.int (0 : Int32)), vN n] [(.int (Int32.ofNat k))]))
    refine gS (X3.ldcInt hx hown (mvT hZ (own_w hw 271 rfl)) (g := (mkF m 23 #[vR a1, vN k, .val (.int (0 : Int32)), vN n] [(.int (Int32.ofNat k))])) rfl (hb hby q67_23)) ?_
    refine gS (fun _ r => XS.icmpNo X3.here hx rfl (hb hby q67_25) rfl (tlt ((own_ltN k 65536 (by omega) (by decide)).mpr (by omega))).2.1 r) ?_
    refine gS (fun _ r => XS.aloadN X3.here hx rfl (hb hby q67_28) rfl rfl r) ?_
    refine gS (fun _ r => XS.iloadN X3.here hx rfl (hb hby q67_29) rfl  r) ?_
    refine gS (fun _ r => XS.iloadN X3.here hx rfl (hb hby q67_30) rfl  r) ?_
    refine gS (fun _ r => XS.iloadN X3.here hx rfl (hb hby q67_31) rfl  r) ?_
    show Goes p ee below s _ _ _ (T3.setTop (mkF m 32 #[vR a1, vN k, .val (.int (0 : Int32)), vN n] [(.int (Int32.ofNat n)), (.int (0 : Int32)), (.int (Int32.ofNat k)), (.ref a1)]))
    have lt_a1 := A.lt
    obtain ⟨v6, T6, L6, X6, hQ6, st6⟩ := own_callS X3 hx hZ (y := (⟨"java/lang/StringUTF16", "indexOfChar", "([BIII)I"⟩ : MethodName)) hown (own_w hw 272 rfl) (own_w hw 273 rfl) (own_w hw 25 rfl) (own_w hw 274 rfl) (by decide) (argsL := [(.ref a1), (.int (Int32.ofNat k)), (.int (0 : Int32)), (.int (Int32.ofNat n))]) (rm_u16ix l Z a0 hw [] cs fm a1 k n c h0 n0 Z0 ST OO hk hn hne hc A) e3 (W := 0) (by decide) (by decide) (by decide) (by decide) (g := (mkF m 32 #[vR a1, vN k, .val (.int (0 : Int32)), vN n] [(.int (Int32.ofNat n)), (.int (0 : Int32)), (.int (Int32.ofNat k)), (.ref a1)])) rfl (by rw [hml]; rfl) (rest := []) (lenOf pd_35 rfl) rfl (by show 2 * 0 + _ ≤ _; exact Nat.le_of_eq rfl) (hb hby q67_32)
    refine gS st6 ?_
    obtain ⟨rfl, N6, e6⟩ := hQ6
    have N7 := Fr.app N4 N6
    show Goes p ee below s _ _ _ (T6.setTop (mkF m 35 #[vR a1, vN k, .val (.int (0 : Int32)), vN n] [(.int (-1 : Int32))]))
    refine Goes.retI X6 hx Bd.notSynchronized Bd.returns (hb hby q67_35) (by decide) (by decide) ?_
    exact ⟨rfl, N7, e6⟩
  · refine gS (fun _ r => XS.icmpNo X3.here hx rfl (hb hby q67_17) rfl (flt (fun z => hn17_5 ((own_ltN 0 n (by decide) (by omega)).mp z))).1 r) ?_
    refine gS (fun _ r => XS.iconst X3.here hx rfl (hb hby q67_20) r) ?_
    show Goes p ee below s _ _ _ (T3.setTop (mkF m 21 #[vR a1, vN k, .val (.int (0 : Int32)), vN n] [(.int (-1 : Int32))]))
    refine Goes.retI X3 hx Bd.notSynchronized Bd.returns (hb hby q67_21) (by decide) (by decide) ?_
    exact ⟨rfl, N4, e3⟩
theorem ef_sio2 (m : MethodId) (x0 : Addr) (x1 : Int32) (x2 : Int32) : entryFrame m #[(.ref x0), (.int x1), (.int x2)] 3 = mkF m 0 #[.val (.ref x0), .val (.int x1), .val (.int x2)] [] := by first | (simp [entryFrame, mkF, argsToLocals, Value.category]; done) | rfl
theorem q68_0 : decode c68_ 0 = .ok (.aload_n 0, 1) := by decide +kernel
theorem q68_1 : decode c68_ 1 = .ok (.invokevirtual 492, 3) := by decide +kernel
theorem q68_4 : decode c68_ 4 = .ok (.ifCond .eq 19, 3) := by decide +kernel
theorem q68_7 : decode c68_ 7 = .ok (.aload_n 0, 1) := by decide +kernel
theorem q68_8 : decode c68_ 8 = .ok (.getfield 9, 3) := by decide +kernel
theorem q68_11 : decode c68_ 11 = .ok (.iload_n 1, 1) := by decide +kernel
theorem q68_12 : decode c68_ 12 = .ok (.iload_n 2, 1) := by decide +kernel
theorem q68_13 : decode c68_ 13 = .ok (.aload_n 0, 1) := by decide +kernel
theorem q68_14 : decode c68_ 14 = .ok (.invokevirtual 505, 3) := by decide +kernel
theorem q68_17 : decode c68_ 17 = .ok (.invokestatic 637, 3) := by decide +kernel
theorem q68_20 : decode c68_ 20 = .ok (.goto 16, 3) := by decide +kernel
theorem q68_36 : decode c68_ 36 = .ok (.ireturn, 1) := by decide +kernel
theorem q68_23 : decode c68_ 23 = .ok (.aload_n 0, 1) := by decide +kernel
theorem q68_24 : decode c68_ 24 = .ok (.getfield 9, 3) := by decide +kernel
theorem q68_27 : decode c68_ 27 = .ok (.iload_n 1, 1) := by decide +kernel
theorem q68_28 : decode c68_ 28 = .ok (.iload_n 2, 1) := by decide +kernel
theorem q68_29 : decode c68_ 29 = .ok (.aload_n 0, 1) := by decide +kernel
theorem q68_30 : decode c68_ 30 = .ok (.invokevirtual 505, 3) := by decide +kernel
theorem q68_33 : decode c68_ 33 = .ok (.invokestatic 640, 3) := by decide +kernel
def Q_sio2 (Z : State) (cs : Int32) (fm : Value) (a1 b : Addr) (u : Bool) (n : Nat) (c : Nat → Nat) (k : Nat) (h0 : Heap) (n0 : Nat) (v : Option Value) (h : Heap) (L : List Loc) : Prop := v = some (.int (-1)) ∧ Fr n0 L ∧ h = h0
set_option maxRecDepth 65536 in
set_option maxHeartbeats 40000000 in
theorem rm_sio2 (l : Launch) (Z : State) (a0 : Array Value) (hw : ∀ d ∈ tables_1, d.before a0 Z = true) (ws : List Jvm.Cond) (cs : Int32) (fm : Value) (a1 b : Addr) (u : Bool) (n : Nat) (c : Nat → Nat) (k : Nat) (h0 : Heap) (n0 : Nat) (Z0 : n0 ≤ h0.size) (ST : own_ST Z cs fm) (OO : Old Z n0 h0) (hk : k < 128) (hne : ∀ j, j < n → c j ≠ k) (hc : ∀ j, j < n → c j < 65536) (hl : u = false → ∀ j, j < n → c j < 256) (hn : n < 2 ^ 29) (E : Exa Z h0 a1 "java/lang/String") (FV : Fld Z h0 a1 "java/lang/String" "value" "[B" (.ref b)) (FC : Fld Z h0 a1 "java/lang/String" "coder" "B" (.int (own_cd u))) (A : OA Z h0 b .byte (own_len u n) (own_by u c)) :
    MetFree l (⟨"java/lang/String", "indexOf", "(II)I"⟩ : MethodName) (head1 (Jvm.Cond.code (⟨"java/lang/String", "indexOf", "(II)I"⟩ : MethodName) jdk_42_method_80_code 3 (some .int) :: ws) ({ frames := 5, cells := 0, slots := 0, locals := 73 } : Room)) (fun a U => a = #[(.ref a1), (.int (Int32.ofNat k)), (.int (0 : Int32))] ∧ Z.Warmed39 U.vm ∧ U.heap = h0) (fun _ _ _ _ _ => True) (fun _ U o U' => ∃ v L, o = .returned v ∧ Q_sio2 Z cs fm a1 b u n c k h0 n0 v U'.heap L ∧ FrameEnd U o U' L ({ frames := 5, cells := 0, slots := 0, locals := 73 } : Room).cells ({ frames := 5, cells := 0, slots := 0, locals := 73 } : Room).slots) := by
  refine MetFree.of_bodySF (plainFor_of_name pn_java_lang_String) hisR ?_
  intro p ee s m args below meth cc s₁ Bd hml0 hP hK
  obtain ⟨rfl, hZ, hh⟩ := hP
  have hx := Bd.exec
  have hby := Bd.bytes
  have hml : cc.maxLocals = 3 := hml0
  have hown : s.vm.findClass "java/lang/String" = some m.cls := findClass_of_methodNamed Bd.named
  have hnm := (name_of_methodNamed Bd.named Bd.method).1
  have X0 : Stand p l ee ({ frames := 5, cells := 0, slots := 0, locals := 73 } : Room) s m #[(.ref a1), (.int (Int32.ofNat k)), (.int (0 : Int32))] below meth cc s₁ [] 0 0 := Stand.of_body Bd
  have e0 : s₁.heap = h0 := by rw [← hh, Bd.state]; rfl
  have N0 := Fr.nil n0
  show Goes p ee below s ({ frames := 5, cells := 0, slots := 0, locals := 73 } : Room).cells ({ frames := 5, cells := 0, slots := 0, locals := 73 } : Room).slots (Q_sio2 Z cs fm a1 b u n c k h0 n0) (s₁.setTop (entryFrame m #[(.ref a1), (.int (Int32.ofNat k)), (.int (0 : Int32))] 3))
  refine gS (fun _ r => castTop (ef_sio2 m a1 (Int32.ofNat k) (0 : Int32)) r) ?_
  show Goes p ee below s _ _ _ (s₁.setTop (mkF m 0 #[vR a1, vN k, .val (.int (0 : Int32))] []))
  cases u
  · have FC : Fld Z h0 a1 "java/lang/String" "coder" "B" (.int 0) := FC
    have A : OA Z h0 b .byte n (own_by false c) := A
    show Goes p ee below s _ _ _ (s₁.setTop (mkF m 0 #[vR a1, vN k, .val (.int (0 : Int32))] []))
    refine gS (fun _ r => XS.aloadN X0.here hx rfl (hb hby q68_0) rfl rfl r) ?_
    have lt_a1 := E.lt
    have lt_b := A.lt
    obtain ⟨v1, T1, L1, X1, hQ1, st1⟩ := own_callV X0 hx hZ (y := (⟨"java/lang/String", "isLatin1", "()Z"⟩ : MethodName)) hown (own_w hw 87 rfl) (own_w hw 88 rfl) (own_w hw 90 rfl) (own_w hw 89 rfl) (own_w hw 10 rfl) (own_w hw 91 rfl) (by decide) (a := a1) (argsL := []) (rm_isL l Z a0 hw [] cs fm a1 false h0 n0 Z0 ST OO FC) e0 E (W := 0) (by decide) (by decide) (by decide) (by decide) (g := (mkF m 1 #[vR a1, vN k, .val (.int (0 : Int32))] [(.ref a1)])) rfl (by rw [hml]; rfl) (rest := []) (lenOf pd_6 rfl) rfl (by show 2 * 0 + _ ≤ _; exact Nat.le_of_eq rfl) (hb hby q68_1)
    refine gS st1 ?_
    obtain ⟨rfl, N1, e1⟩ := hQ1
    have N2 := Fr.app N0 N1
    refine gS (fun _ r => XS.ifNo X1.here hx rfl (hb hby q68_4) rfl ((if0 _ _).trans (feq (by decide)).1) r) ?_
    refine gS (fun _ r => XS.aloadN X1.here hx rfl (hb hby q68_7) rfl rfl r) ?_
    obtain ⟨T3, X3, e3, st3⟩ := getF X1 hx hZ hown (host := "") (Or.inl (own_w hw 36 rfl)) Via.refl e1 FV (g := (mkF m 8 #[vR a1, vN k, .val (.int (0 : Int32))] [(.ref a1)])) rfl rfl (hb hby q68_8)
    refine gS st3 ?_
    refine gS (fun _ r => XS.iloadN X3.here hx rfl (hb hby q68_11) rfl  r) ?_
    show Goes p ee below s _ _ _ (T3.setTop (mkF m 12 #[vR a1, vN k, .val (.int (0 : Int32))] [(.int (Int32.ofNat k)), (.ref b)]))
    refine gS (fun _ r => XS.iloadN X3.here hx rfl (hb hby q68_12) rfl  r) ?_
    refine gS (fun _ r => XS.aloadN X3.here hx rfl (hb hby q68_13) rfl rfl r) ?_
    have lt_a1 := E.lt
    have lt_b := A.lt
    obtain ⟨v4, T4, L4, X4, hQ4, st4⟩ := own_callV X3 hx hZ (y := (⟨"java/lang/String", "length", "()I"⟩ : MethodName)) hown (own_w hw 92 rfl) (own_w hw 93 rfl) (own_w hw 95 rfl) (own_w hw 94 rfl) (own_w hw 10 rfl) (own_w hw 96 rfl) (by decide) (a := a1) (argsL := []) (rm_slen l Z a0 hw [] cs fm a1 b false n c h0 n0 Z0 ST OO hn E FV FC A) e3 E (W := 3) (by decide) (by decide) (by decide) (by decide) (g := (mkF m 14 #[vR a1, vN k, .val (.int (0 : Int32))] [(.ref a1), (.int (0 : Int32)), (.int (Int32.ofNat k)), (.ref b)])) rfl (by rw [hml]; rfl) (rest := [(.int (0 : Int32)), (.int (Int32.ofNat k)), (.ref b)]) (lenOf pd_23 rfl) rfl (by show 2 * 0 + _ ≤ _; exact Nat.le_of_eq rfl) (hb hby q68_14)
    refine gS st4 ?_
    obtain ⟨rfl, N4, e4⟩ := hQ4
    have N5 := Fr.app N2 N4
    have lt_a1 := E.lt
    have lt_b := A.lt
    obtain ⟨v6, T6, L6, X6, hQ6, st6⟩ := own_callS X4 hx hZ (y := (⟨"java/lang/StringLatin1", "indexOf", "([BIII)I"⟩ : MethodName)) hown (own_w hw 102 rfl) (own_w hw 103 rfl) (own_w hw 43 rfl) (own_w hw 104 rfl) (by decide) (argsL := [(.ref b), (.int (Int32.ofNat k)), (.int (0 : Int32)), (.int (Int32.ofNat n))]) (rm_l1io l Z a0 hw [] cs fm b k n c h0 n0 Z0 ST OO hk hn hne (hl rfl) A) e4 (W := 0) (by decide) (by decide) (by decide) (by decide) (g := (mkF m 17 #[vR a1, vN k, .val (.int (0 : Int32))] [(.int (Int32.ofNat n)), (.int (0 : Int32)), (.int (Int32.ofNat k)), (.ref b)])) rfl (by rw [hml]; rfl) (rest := []) (lenOf pd_35 rfl) rfl (by show 2 * 0 + _ ≤ _; exact Nat.le_of_eq rfl) (hb hby q68_17)
    refine gS st6 ?_
    obtain ⟨rfl, N6, e6⟩ := hQ6
    have N7 := Fr.app N5 N6
    refine gS (fun _ r => XS.goto X6.here hx rfl (pc0 := 20) (pc' := 36) rfl (hb hby q68_20) (by decide) (by decide) r) ?_
    show Goes p ee below s _ _ _ (T6.setTop (mkF m 36 #[vR a1, vN k, .val (.int (0 : Int32))] [(.int (-1 : Int32))]))
    refine Goes.retI X6 hx Bd.notSynchronized Bd.returns (hb hby q68_36) (by decide) (by decide) ?_
    exact ⟨rfl, N7, e6⟩
  · have FC : Fld Z h0 a1 "java/lang/String" "coder" "B" (.int 1) := FC
    have A : OA Z h0 b .byte (2 * n) (own_by true c) := A
    show Goes p ee below s _ _ _ (s₁.setTop (mkF m 0 #[vR a1, vN k, .val (.int (0 : Int32))] []))
    refine gS (fun _ r => XS.aloadN X0.here hx rfl (hb hby q68_0) rfl rfl r) ?_
    have lt_a1 := E.lt
    have lt_b := A.lt
    obtain ⟨v8, T8, L8, X8, hQ8, st8⟩ := own_callV X0 hx hZ (y := (⟨"java/lang/String", "isLatin1", "()Z"⟩ : MethodName)) hown (own_w hw 87 rfl) (own_w hw 88 rfl) (own_w hw 90 rfl) (own_w hw 89 rfl) (own_w hw 10 rfl) (own_w hw 91 rfl) (by decide) (a := a1) (argsL := []) (rm_isL l Z a0 hw [] cs fm a1 true h0 n0 Z0 ST OO FC) e0 E (W := 0) (by decide) (by decide) (by decide) (by decide) (g := (mkF m 1 #[vR a1, vN k, .val (.int (0 : Int32))] [(.ref a1)])) rfl (by rw [hml]; rfl) (rest := []) (lenOf pd_6 rfl) rfl (by show 2 * 0 + _ ≤ _; exact Nat.le_of_eq rfl) (hb hby q68_1)
    refine gS st8 ?_
    obtain ⟨rfl, N8, e8⟩ := hQ8
    have N9 := Fr.app N0 N8
    refine gS (fun _ r => XS.ifYes X8.here hx rfl (pc0 := 4) (pc' := 23) rfl (hb hby q68_4) rfl ((if0 _ _).trans (teq (by decide)).1) (by decide) (by decide) r) ?_
    refine gS (fun _ r => XS.aloadN X8.here hx rfl (hb hby q68_23) rfl rfl r) ?_
    obtain ⟨T10, X10, e10, st10⟩ := getF X8 hx hZ hown (host := "") (Or.inl (own_w hw 36 rfl)) Via.refl e8 FV (g := (mkF m 24 #[vR a1, vN k, .val (.int (0 : Int32))] [(.ref a1)])) rfl rfl (hb hby q68_24)
    refine gS st10 ?_
    refine gS (fun _ r => XS.iloadN X10.here hx rfl (hb hby q68_27) rfl  r) ?_
    show Goes p ee below s _ _ _ (T10.setTop (mkF m 28 #[vR a1, vN k, .val (.int (0 : Int32))] [(.int (Int32.ofNat k)), (.ref b)]))
    refine gS (fun _ r => XS.iloadN X10.here hx rfl (hb hby q68_28) rfl  r) ?_
    refine gS (fun _ r => XS.aloadN X10.here hx rfl (hb hby q68_29) rfl rfl r) ?_
    have lt_a1 := E.lt
    have lt_b := A.lt
    obtain ⟨v11, T11, L11, X11, hQ11, st11⟩ := own_callV X10 hx hZ (y := (⟨"java/lang/String", "length", "()I"⟩ : MethodName)) hown (own_w hw 92 rfl) (own_w hw 93 rfl) (own_w hw 95 rfl) (own_w hw 94 rfl) (own_w hw 10 rfl) (own_w hw 96 rfl) (by decide) (a := a1) (argsL := []) (rm_slen l Z a0 hw [] cs fm a1 b true n c h0 n0 Z0 ST OO hn E FV FC A) e10 E (W := 3) (by decide) (by decide) (by decide) (by decide) (g := (mkF m 30 #[vR a1, vN k, .val (.int (0 : Int32))] [(.ref a1), (.int (0 : Int32)), (.int (Int32.ofNat k)), (.ref b)])) rfl (by rw [hml]; rfl) (rest := [(.int (0 : Int32)), (.int (Int32.ofNat k)), (.ref b)]) (lenOf pd_23 rfl) rfl (by show 2 * 0 + _ ≤ _; exact Nat.le_of_eq rfl) (hb hby q68_30)
    refine gS st11 ?_
    obtain ⟨rfl, N11, e11⟩ := hQ11
    have N12 := Fr.app N9 N11
    have lt_a1 := E.lt
    have lt_b := A.lt
    obtain ⟨v13, T13, L13, X13, hQ13, st13⟩ := own_callS X11 hx hZ (y := (⟨"java/lang/StringUTF16", "indexOf", "([BIII)I"⟩ : MethodName)) hown (own_w hw 266 rfl) (own_w hw 267 rfl) (own_w hw 25 rfl) (own_w hw 268 rfl) (by decide) (argsL := [(.ref b), (.int (Int32.ofNat k)), (.int (0 : Int32)), (.int (Int32.ofNat n))]) (rm_u16io l Z a0 hw [] cs fm b k n c h0 n0 Z0 ST OO hk hn hne hc A) e11 (W := 0) (by decide) (by decide) (by decide) (by decide) (g := (mkF m 33 #[vR a1, vN k, .val (.int (0 : Int32))] [(.int (Int32.ofNat n)), (.int (0 : Int32)), (.int (Int32.ofNat k)), (.ref b)])) rfl (by rw [hml]; rfl) (rest := []) (lenOf pd_35 rfl) rfl (by show 2 * 0 + _ ≤ _; exact Nat.le_of_eq rfl) (hb hby q68_33)
    refine gS st13 ?_
    obtain ⟨rfl, N13, e13⟩ := hQ13
    have N14 := Fr.app N12 N13
    show Goes p ee below s _ _ _ (T13.setTop (mkF m 36 #[vR a1, vN k, .val (.int (0 : Int32))] [(.int (-1 : Int32))]))
    refine Goes.retI X13 hx Bd.notSynchronized Bd.returns (hb hby q68_36) (by decide) (by decide) ?_
    exact ⟨rfl, N14, e13⟩
theorem ef_sio1 (m : MethodId) (x0 : Addr) (x1 : Int32) : entryFrame m #[(.ref x0), (.int x1)] 2 = mkF m 0 #[.val (.ref x0), .val (.int x1)] [] := by first | (simp [entryFrame, mkF, argsToLocals, Value.category]; done) | rfl
theorem q69_0 : decode c69_ 0 = .ok (.aload_n 0, 1) := by decide +kernel
theorem q69_1 : decode c69_ 1 = .ok (.iload_n 1, 1) := by decide +kernel
theorem q69_2 : decode c69_ 2 = .ok (.iconst 0, 1) := by decide +kernel
theorem q69_3 : decode c69_ 3 = .ok (.invokevirtual 633, 3) := by decide +kernel
theorem q69_6 : decode c69_ 6 = .ok (.ireturn, 1) := by decide +kernel
def Q_sio1 (Z : State) (cs : Int32) (fm : Value) (a1 b : Addr) (u : Bool) (n : Nat) (c : Nat → Nat) (k : Nat) (h0 : Heap) (n0 : Nat) (v : Option Value) (h : Heap) (L : List Loc) : Prop := v = some (.int (-1)) ∧ Fr n0 L ∧ h = h0
set_option maxRecDepth 65536 in
set_option maxHeartbeats 40000000 in
theorem rm_sio1 (l : Launch) (Z : State) (a0 : Array Value) (hw : ∀ d ∈ tables_1, d.before a0 Z = true) (ws : List Jvm.Cond) (cs : Int32) (fm : Value) (a1 b : Addr) (u : Bool) (n : Nat) (c : Nat → Nat) (k : Nat) (h0 : Heap) (n0 : Nat) (Z0 : n0 ≤ h0.size) (ST : own_ST Z cs fm) (OO : Old Z n0 h0) (hk : k < 128) (hne : ∀ j, j < n → c j ≠ k) (hc : ∀ j, j < n → c j < 65536) (hl : u = false → ∀ j, j < n → c j < 256) (hn : n < 2 ^ 29) (E : Exa Z h0 a1 "java/lang/String") (FV : Fld Z h0 a1 "java/lang/String" "value" "[B" (.ref b)) (FC : Fld Z h0 a1 "java/lang/String" "coder" "B" (.int (own_cd u))) (A : OA Z h0 b .byte (own_len u n) (own_by u c)) :
    MetFree l (⟨"java/lang/String", "indexOf", "(I)I"⟩ : MethodName) (head1 (Jvm.Cond.code (⟨"java/lang/String", "indexOf", "(I)I"⟩ : MethodName) jdk_42_method_79_code 2 (some .int) :: ws) ({ frames := 6, cells := 0, slots := 0, locals := 87 } : Room)) (fun a U => a = #[(.ref a1), (.int (Int32.ofNat k))] ∧ Z.Warmed39 U.vm ∧ U.heap = h0) (fun _ _ _ _ _ => True) (fun _ U o U' => ∃ v L, o = .returned v ∧ Q_sio1 Z cs fm a1 b u n c k h0 n0 v U'.heap L ∧ FrameEnd U o U' L ({ frames := 6, cells := 0, slots := 0, locals := 87 } : Room).cells ({ frames := 6, cells := 0, slots := 0, locals := 87 } : Room).slots) := by
  refine MetFree.of_bodySF (plainFor_of_name pn_java_lang_String) hisR ?_
  intro p ee s m args below meth cc s₁ Bd hml0 hP hK
  obtain ⟨rfl, hZ, hh⟩ := hP
  have hx := Bd.exec
  have hby := Bd.bytes
  have hml : cc.maxLocals = 2 := hml0
  have hown : s.vm.findClass "java/lang/String" = some m.cls := findClass_of_methodNamed Bd.named
  have hnm := (name_of_methodNamed Bd.named Bd.method).1
  have X0 : Stand p l ee ({ frames := 6, cells := 0, slots := 0, locals := 87 } : Room) s m #[(.ref a1), (.int (Int32.ofNat k))] below meth cc s₁ [] 0 0 := Stand.of_body Bd
  have e0 : s₁.heap = h0 := by rw [← hh, Bd.state]; rfl
  have N0 := Fr.nil n0
  show Goes p ee below s ({ frames := 6, cells := 0, slots := 0, locals := 87 } : Room).cells ({ frames := 6, cells := 0, slots := 0, locals := 87 } : Room).slots (Q_sio1 Z cs fm a1 b u n c k h0 n0) (s₁.setTop (entryFrame m #[(.ref a1), (.int (Int32.ofNat k))] 2))
  refine gS (fun _ r => castTop (ef_sio1 m a1 (Int32.ofNat k)) r) ?_
  show Goes p ee below s _ _ _ (s₁.setTop (mkF m 0 #[vR a1, vN k] []))
  refine gS (fun _ r => XS.aloadN X0.here hx rfl (hb hby q69_0) rfl rfl r) ?_
  refine gS (fun _ r => XS.iloadN X0.here hx rfl (hb hby q69_1) rfl  r) ?_
  refine gS (fun _ r => XS.iconst X0.here hx rfl (hb hby q69_2) r) ?_
  have lt_a1 := E.lt
  have lt_b := A.lt
  obtain ⟨v1, T1, L1, X1, hQ1, st1⟩ := own_callV X0 hx hZ (y := (⟨"java/lang/String", "indexOf", "(II)I"⟩ : MethodName)) hown (own_w hw 82 rfl) (own_w hw 83 rfl) (own_w hw 85 rfl) (own_w hw 84 rfl) (own_w hw 10 rfl) (own_w hw 86 rfl) (by decide) (a := a1) (argsL := [(.int (Int32.ofNat k)), (.int (0 : Int32))]) (rm_sio2 l Z a0 hw [] cs fm a1 b u n c k h0 n0 Z0 ST OO hk hne hc hl hn E FV FC A) e0 E (W := 0) (by decide) (by decide) (by decide) (by decide) (g := (mkF m 3 #[vR a1, vN k] [(.int (0 : Int32)), (.int (Int32.ofNat k)), (.ref a1)])) rfl (by rw [hml]; rfl) (rest := []) (lenOf pd_14 rfl) rfl (by show 2 * 0 + _ ≤ _; exact Nat.le_of_eq rfl) (hb hby q69_3)
  refine gS st1 ?_
  obtain ⟨rfl, N1, e1⟩ := hQ1
  have N2 := Fr.app N0 N1
  show Goes p ee below s _ _ _ (T1.setTop (mkF m 6 #[vR a1, vN k] [(.int (-1 : Int32))]))
  refine Goes.retI X1 hx Bd.notSynchronized Bd.returns (hb hby q69_6) (by decide) (by decide) ?_
  exact ⟨rfl, N2, e1⟩
theorem ef_ksi (m : MethodId) (x0 : Addr) (x1 : Addr) : entryFrame m #[(.ref x0), (.ref x1)] 2 = mkF m 0 #[.val (.ref x0), .val (.ref x1)] [] := by first | (simp [entryFrame, mkF, argsToLocals, Value.category]; done) | rfl
theorem pn_com_example_aliran_aliran_KeySpace : plainName "com/example/aliran/aliran/KeySpace" = true := by first | (simp [plainName, overriddenIn]; done) | decide +kernel
theorem q70_0 : decode c70_ 0 = .ok (.aload_n 0, 1) := by decide +kernel
theorem q70_1 : decode c70_ 1 = .ok (.invokespecial 1, 3) := by decide +kernel
theorem q70_4 : decode c70_ 4 = .ok (.aload_n 1, 1) := by decide +kernel
theorem q70_5 : decode c70_ 5 = .ok (.ldc 7, 2) := by decide +kernel
theorem pd_37 : parseMethodDescriptor "(Ljava/lang/Object;Ljava/lang/String;)Ljava/lang/Object;" = some ⟨[(.object "java/lang/Object"), (.object "java/lang/String")], some (.object "java/lang/Object")⟩ := by decide +kernel
theorem q70_7 : decode c70_ 7 = .ok (.invokestatic 9, 3) := by decide +kernel
theorem q70_10 : decode c70_ 10 = .ok (.pop, 1) := by decide +kernel
theorem q70_11 : decode c70_ 11 = .ok (.aload_n 1, 1) := by decide +kernel
theorem q70_12 : decode c70_ 12 = .ok (.invokevirtual 15, 3) := by decide +kernel
theorem q70_15 : decode c70_ 15 = .ok (.ifCond .eq 13, 3) := by decide +kernel
theorem q70_28 : decode c70_ 28 = .ok (.aload_n 1, 1) := by decide +kernel
theorem q70_29 : decode c70_ 29 = .ok (.bipush 123, 2) := by decide +kernel
theorem q70_31 : decode c70_ 31 = .ok (.invokevirtual 28, 3) := by decide +kernel
theorem q70_34 : decode c70_ 34 = .ok (.ifCond .ge 12, 3) := by decide +kernel
theorem q70_37 : decode c70_ 37 = .ok (.aload_n 1, 1) := by decide +kernel
theorem q70_38 : decode c70_ 38 = .ok (.bipush 125, 2) := by decide +kernel
theorem q70_40 : decode c70_ 40 = .ok (.invokevirtual 28, 3) := by decide +kernel
theorem q70_43 : decode c70_ 43 = .ok (.ifCond .lt 35, 3) := by decide +kernel
theorem q70_78 : decode c70_ 78 = .ok (.aload_n 0, 1) := by decide +kernel
theorem q70_79 : decode c70_ 79 = .ok (.aload_n 1, 1) := by decide +kernel
theorem q70_80 : decode c70_ 80 = .ok (.putfield 48, 3) := by decide +kernel
theorem q70_83 : decode c70_ 83 = .ok (.return_, 1) := by decide +kernel
def Q_ksi (Z : State) (cs : Int32) (fm : Value) (a1 a2 b : Addr) (u : Bool) (n : Nat) (c : Nat → Nat) (uv : Value) (h0 : Heap) (n0 : Nat) (v : Option Value) (h : Heap) (L : List Loc) : Prop := v = none ∧ Fr n0 L ∧ Keep h0 h [a1] ∧ Exa Z h a1 "com/example/aliran/aliran/KeySpace" ∧ Fld Z h a1 "com/example/aliran/aliran/KeySpace" "prefix" "Ljava/lang/String;" (.ref a2)
set_option maxRecDepth 65536 in
set_option maxHeartbeats 40000000 in
theorem rm_ksi (l : Launch) (Z : State) (a0 : Array Value) (hw : ∀ d ∈ tables_1, d.before a0 Z = true) (ws : List Jvm.Cond) (cs : Int32) (fm : Value) (a1 a2 b : Addr) (u : Bool) (n : Nat) (c : Nat → Nat) (uv : Value) (h0 : Heap) (n0 : Nat) (Z0 : n0 ≤ h0.size) (ST : own_ST Z cs fm) (OO : Old Z n0 h0) (hn0 : 0 < n) (hbr : ∀ j, j < n → c j ≠ 123 ∧ c j ≠ 125) (ge_a1 : n0 ≤ a1) (E : Exa Z h0 a1 "com/example/aliran/aliran/KeySpace") (F1 : Fld Z h0 a1 "com/example/aliran/aliran/KeySpace" "prefix" "Ljava/lang/String;" uv) (ne12 : a1 ≠ a2) (ne1b : a1 ≠ b) (PE : Exa Z h0 a2 "java/lang/String") (PV : Fld Z h0 a2 "java/lang/String" "value" "[B" (.ref b)) (PC : Fld Z h0 a2 "java/lang/String" "coder" "B" (.int (own_cd u))) (PA : OA Z h0 b .byte (own_len u n) (own_by u c)) (Pc : ∀ j, j < n → c j < 65536) (Pl : u = false → ∀ j, j < n → c j < 256) (Pn : n < 2 ^ 29) :
    MetFree l (⟨"com/example/aliran/aliran/KeySpace", "<init>", "(Ljava/lang/String;)V"⟩ : MethodName) (head1 (Jvm.Cond.code (⟨"com/example/aliran/aliran/KeySpace", "<init>", "(Ljava/lang/String;)V"⟩ : MethodName) prog_5_method_1_code 2 none :: ws) ({ frames := 7, cells := 2, slots := 28, locals := 100 } : Room)) (fun a U => a = #[(.ref a1), (.ref a2)] ∧ Z.Warmed39 U.vm ∧ U.heap = h0 ∧ CHv Z consts_1 U.vm h0 ∧ ∀ x ∈ ([a1] : List Addr), Safe Z consts_1 U.vm h0 x) (fun _ _ _ _ _ => True) (fun _ U o U' => ∃ v L, o = .returned v ∧ Q_ksi Z cs fm a1 a2 b u n c uv h0 n0 v U'.heap L ∧ CHr Z consts_1 U.vm U.heap U'.vm U'.heap ∧ ReturnedEndW U o U' L ({ frames := 7, cells := 2, slots := 28, locals := 100 } : Room).cells ({ frames := 7, cells := 2, slots := 28, locals := 100 } : Room).slots) := by
  refine MetFree.of_bodySF (plainFor_of_name pn_com_example_aliran_aliran_KeySpace) hisR ?_
  intro p ee s m args below meth cc s₁ Bd hml0 hP hK
  obtain ⟨rfl, hZ, hh, H, hsf⟩ := hP
  have hx := Bd.exec
  have hby := Bd.bytes
  have hml : cc.maxLocals = 2 := hml0
  have hown : (s.setVm s.vm).vm.findClass "com/example/aliran/aliran/KeySpace" = some m.cls := findClass_of_methodNamed Bd.named
  have hnm := (name_of_methodNamed Bd.named Bd.method).1
  have X0 : Stand p l ee ({ frames := 7, cells := 2, slots := 28, locals := 100 } : Room) (s.setVm s.vm) m #[(.ref a1), (.ref a2)] below meth cc s₁ [] 0 0 := Stand.of_body Bd
  have e0 : s₁.heap = h0 := by rw [← hh, Bd.state]; rfl
  have N0 := Fr.nil n0
  have hEL := own_EW hw
  have hZ : Z.Warmed39 (s.setVm s.vm).vm := hZ
  have C : Cold Z consts_1 s s.vm h0 := by rw [← hh]; exact Cold.start (by rw [hh]; exact H)
  have sf_a1 := hsf a1 (List.mem_of_getElem? (i := 0) rfl)
  show GoesW p ee below s ({ frames := 7, cells := 2, slots := 28, locals := 100 } : Room).cells ({ frames := 7, cells := 2, slots := 28, locals := 100 } : Room).slots Z consts_1 (Q_ksi Z cs fm a1 a2 b u n c uv h0 n0) (s₁.setTop (entryFrame m #[(.ref a1), (.ref a2)] 2))
  refine gW (fun _ r => castTop (ef_ksi m a1 a2) r) ?_
  show GoesW p ee below s _ _ _ _ _ (s₁.setTop (mkF m 0 #[vR a1, vR a2] []))
  have K0 := Keep.refl h0 ([a1] : List Addr)
  refine gW (fun _ r => XS.aloadN X0.here hx rfl (hb hby q70_0) rfl rfl r) ?_
  have lt_a1 := E.lt
  have lt_a2 := PE.lt
  have lt_b := PA.lt
  obtain ⟨v1, T1, L1, X1, hQ1, st1⟩ := own_callN X0 hx hZ (y := (⟨"java/lang/Record", "<init>", "()V"⟩ : MethodName)) rfl hown (own_w hw 61 rfl) (own_w hw 62 rfl) (own_w hw 64 rfl) (own_w hw 65 rfl) (by decide) (a := a1) (argsL := []) (rm_rec l Z a0 hw [] a1 h0 n0 Z0 ) e0 (W := 0) (by decide) (by decide) (by decide) (by decide) (g := (mkF m 1 #[vR a1, vR a2] [(.ref a1)])) rfl (by rw [hml]; rfl) (rest := []) (lenOf pd_20 rfl) rfl (by show 2 * 0 + _ ≤ _; exact Nat.le_of_eq rfl) (hb hby q70_1)
  refine gW st1 ?_
  obtain ⟨rfl, N1, e1⟩ := hQ1
  have N2 := Fr.app N0 N1
  refine gW (fun _ r => XS.aloadN X1.here hx rfl (hb hby q70_4) rfl rfl r) ?_
  have lt_a1 := E.lt
  have lt_a2 := PE.lt
  have lt_b := PA.lt
  obtain ⟨la3, lb3, vm3, T3, h3, ⟨X3, Cn3, hZ, hown, hsaf3⟩, e3, E3, Ei3, Fv3, Fc3, A_lb3, Lit3, hlit3, st3⟩ := own_ldcW X1 hx hZ hEL C hown (own_w hw 67 rfl) (own_wS hw) e1 (List.mem_of_getElem? (i := 0) rfl) (vs := [(.int (112 : Int32)), (.int (114 : Int32)), (.int (101 : Int32)), (.int (102 : Int32)), (.int (105 : Int32)), (.int (120 : Int32))]) (k := 6) ⟨by decide, by decide⟩ rfl (by decide) (g := (mkF m 5 #[vR a1, vR a2] [(.ref a2)])) rfl (hb hby q70_5) (n := 24) (by decide) (by decide) (by decide) (by decide)
  refine gW st3 ?_
  rw [e3] at Cn3 hsaf3
  have sf_a1 := hsaf3 a1 lt_a1 sf_a1
  have C := Cn3
  have E := E.ext E3
  have F1 := F1.ext E3
  have PE := PE.ext E3
  have PV := PV.ext E3
  have PC := PC.ext E3
  have PA := PA.ext E3
  have Zp4 := Nat.le_trans Z0 E3.1
  have OO := OO.ext E3
  have K5 := K0.ext E3
  have ne_a1_la3 := (hlit3 a1 sf_a1).1
  have ne_a1_lb3 := (hlit3 a1 sf_a1).2
  show GoesW p ee below s _ _ _ _ _ (T3.setTop (mkF m 7 #[vR a1, vR a2] [(.ref la3), (.ref a2)]))
  have lt_a1 := E.lt
  have lt_a2 := PE.lt
  have lt_b := PA.lt
  have lt_la3 := Ei3.lt
  have lt_lb3 := A_lb3.lt
  obtain ⟨v6, T6, L6, X6, hQ6, st6⟩ := own_callS X3 hx hZ (y := (⟨"java/util/Objects", "requireNonNull", "(Ljava/lang/Object;Ljava/lang/String;)Ljava/lang/Object;"⟩ : MethodName)) hown (own_w hw 68 rfl) (own_w hw 69 rfl) (own_w hw 70 rfl) (own_w hw 71 rfl) (by decide) (argsL := [(.ref a2), (.ref la3)]) (rm_rnn l Z a0 hw [] a2 la3 h3 n0 Zp4 ) e3 (W := 0) (by decide) (by decide) (by decide) (by decide) (g := (mkF m 7 #[vR a1, vR a2] [(.ref la3), (.ref a2)])) rfl (by rw [hml]; rfl) (rest := []) (lenOf pd_37 rfl) rfl (by show 2 * 0 + _ ≤ _; exact Nat.le_of_eq rfl) (hb hby q70_7)
  refine gW st6 ?_
  obtain ⟨rfl, N6, e6⟩ := hQ6
  have N7 := Fr.app N2 N6
  refine gW (fun _ r => XT.pop X6.here hx rfl (hb hby q70_10) rfl rfl r) ?_
  refine gW (fun _ r => XS.aloadN X6.here hx rfl (hb hby q70_11) rfl rfl r) ?_
  have lt_a1 := E.lt
  have lt_a2 := PE.lt
  have lt_b := PA.lt
  have lt_la3 := Ei3.lt
  have lt_lb3 := A_lb3.lt
  obtain ⟨v8, T8, L8, X8, hQ8, st8⟩ := own_callV X6 hx hZ (y := (⟨"java/lang/String", "isEmpty", "()Z"⟩ : MethodName)) hown (own_w hw 72 rfl) (own_w hw 73 rfl) (own_w hw 75 rfl) (own_w hw 74 rfl) (own_w hw 10 rfl) (own_w hw 76 rfl) (by decide) (a := a2) (argsL := []) (rm_isem l Z a0 hw [] cs fm a2 b u n c h3 n0 Zp4 ST OO hn0 Pn PE PV PC PA) e6 PE (W := 0) (by decide) (by decide) (by decide) (by decide) (g := (mkF m 12 #[vR a1, vR a2] [(.ref a2)])) rfl (by rw [hml]; rfl) (rest := []) (lenOf pd_6 rfl) rfl (by show 2 * 0 + _ ≤ _; exact Nat.le_of_eq rfl) (hb hby q70_12)
  refine gW st8 ?_
  obtain ⟨rfl, N8, e8⟩ := hQ8
  have N9 := Fr.app N7 N8
  refine gW (fun _ r => XS.ifYes X8.here hx rfl (pc0 := 15) (pc' := 28) rfl (hb hby q70_15) rfl ((if0 _ _).trans (teq (by decide)).1) (by decide) (by decide) r) ?_
  refine gW (fun _ r => XS.aloadN X8.here hx rfl (hb hby q70_28) rfl rfl r) ?_
  show GoesW p ee below s _ _ _ _ _ (T8.setTop (mkF m 29 #[vR a1, vR a2] [(.ref a2)]))
  refine gW (fun _ r => XS.bipush X8.here hx rfl (hb hby q70_29) r) ?_
  have lt_a1 := E.lt
  have lt_a2 := PE.lt
  have lt_b := PA.lt
  have lt_la3 := Ei3.lt
  have lt_lb3 := A_lb3.lt
  obtain ⟨v10, T10, L10, X10, hQ10, st10⟩ := own_callV X8 hx hZ (y := (⟨"java/lang/String", "indexOf", "(I)I"⟩ : MethodName)) hown (own_w hw 77 rfl) (own_w hw 78 rfl) (own_w hw 80 rfl) (own_w hw 79 rfl) (own_w hw 10 rfl) (own_w hw 81 rfl) (by decide) (a := a2) (argsL := [(.int (123 : Int32))]) (rm_sio1 l Z a0 hw [] cs fm a2 b u n c 123 h3 n0 Zp4 ST OO (by decide) (fun j hj => (hbr j hj).1) Pc Pl Pn PE PV PC PA) e8 PE (W := 0) (by decide) (by decide) (by decide) (by decide) (g := (mkF m 31 #[vR a1, vR a2] [(.int (123 : Int32)), (.ref a2)])) rfl (by rw [hml]; rfl) (rest := []) (lenOf pd_7 rfl) rfl (by show 2 * 0 + _ ≤ _; exact Nat.le_of_eq rfl) (hb hby q70_31)
  refine gW st10 ?_
  obtain ⟨rfl, N10, e10⟩ := hQ10
  have N11 := Fr.app N9 N10
  refine gW (fun _ r => XS.ifNo X10.here hx rfl (hb hby q70_34) rfl ((if0 _ _).trans (tlt (by decide)).2.1) r) ?_
  refine gW (fun _ r => XS.aloadN X10.here hx rfl (hb hby q70_37) rfl rfl r) ?_
  refine gW (fun _ r => XS.bipush X10.here hx rfl (hb hby q70_38) r) ?_
  have lt_a1 := E.lt
  have lt_a2 := PE.lt
  have lt_b := PA.lt
  have lt_la3 := Ei3.lt
  have lt_lb3 := A_lb3.lt
  obtain ⟨v12, T12, L12, X12, hQ12, st12⟩ := own_callV X10 hx hZ (y := (⟨"java/lang/String", "indexOf", "(I)I"⟩ : MethodName)) hown (own_w hw 77 rfl) (own_w hw 78 rfl) (own_w hw 80 rfl) (own_w hw 79 rfl) (own_w hw 10 rfl) (own_w hw 81 rfl) (by decide) (a := a2) (argsL := [(.int (125 : Int32))]) (rm_sio1 l Z a0 hw [] cs fm a2 b u n c 125 h3 n0 Zp4 ST OO (by decide) (fun j hj => (hbr j hj).2) Pc Pl Pn PE PV PC PA) e10 PE (W := 0) (by decide) (by decide) (by decide) (by decide) (g := (mkF m 40 #[vR a1, vR a2] [(.int (125 : Int32)), (.ref a2)])) rfl (by rw [hml]; rfl) (rest := []) (lenOf pd_7 rfl) rfl (by show 2 * 0 + _ ≤ _; exact Nat.le_of_eq rfl) (hb hby q70_40)
  refine gW st12 ?_
  obtain ⟨rfl, N12, e12⟩ := hQ12
  have N13 := Fr.app N11 N12
  show GoesW p ee below s _ _ _ _ _ (T12.setTop (mkF m 43 #[vR a1, vR a2] [(.int (-1 : Int32))]))
  refine gW (fun _ r => XS.ifYes X12.here hx rfl (pc0 := 43) (pc' := 78) rfl (hb hby q70_43) rfl ((if0 _ _).trans (tlt (by decide)).1) (by decide) (by decide) r) ?_
  refine gW (fun _ r => XS.aloadN X12.here hx rfl (hb hby q70_78) rfl rfl r) ?_
  refine gW (fun _ r => XS.aloadN X12.here hx rfl (hb hby q70_79) rfl rfl r) ?_
  show GoesW p ee below s _ _ _ _ _ (T12.setTop (mkF m 80 #[vR a1, vR a2] [(.ref a2), (.ref a1)]))
  obtain ⟨T14, h14, X14, e14, W14, st14⟩ := putF X12 hx hZ hown (host := "") (Or.inl (own_w hw 118 rfl)) Via.refl e12 F1 E (Or.inr ⟨(own_w hw 119 rfl), rfl, hnm⟩) (own_w hw 56 rfl) (ty := (.object "java/lang/String")) (by decide) rfl rfl (g := (mkF m 80 #[vR a1, vR a2] [(.ref a2), (.ref a1)])) rfl rfl (hb hby q70_80)
  refine gW st14 ?_
  have E := E.wr W14
  have PE := PE.wr W14
  have PV := PV.other W14 (Or.inl (Ne.symm ne12))
  have PC := PC.other W14 (Or.inl (Ne.symm ne12))
  have PA := PA.other W14 (Ne.symm ne1b)
  have Ei3 := Ei3.wr W14
  have Fv3 := Fv3.other W14 (Or.inl (Ne.symm ne_a1_la3))
  have Fc3 := Fc3.other W14 (Or.inl (Ne.symm ne_a1_la3))
  have A_lb3 := A_lb3.other W14 (Ne.symm ne_a1_lb3)
  have Zp15 := Nat.le_trans Zp4 (Keep.of_wr W14).1
  have F1 := F1.same W14
  have N16 := Fr.snoc X14 N13 ge_a1
  have sfw := sf_a1
  have sf_a1 := Safe.wr W14 sfw C.chv sf_a1
  have C := C.wr W14 sfw
  have OO := OO.wr W14 ge_a1
  have K17 := K5.wr W14 (Or.inl (List.mem_of_getElem? (i := 0) rfl))
  show GoesW p ee below s _ _ _ _ _ (T14.setTop (mkF m 83 #[vR a1, vR a2] []))
  refine GoesW.retV X14 hx hZ hEL C e14 Bd.notSynchronized Bd.returns (hb hby q70_83) (by decide) (by decide) ?_
  rw [e14]
  exact ⟨rfl, N16, K17, E, F1⟩
theorem ef_tag (m : MethodId) (x0 : Addr) (x1 : Addr) : entryFrame m #[(.ref x0), (.ref x1)] 2 = mkF m 0 #[.val (.ref x0), .val (.ref x1)] [] := by first | (simp [entryFrame, mkF, argsToLocals, Value.category]; done) | rfl
theorem q71_0 : decode c71_ 0 = .ok (.aload_n 1, 1) := by decide +kernel
theorem q71_1 : decode c71_ 1 = .ok (.ldc 70, 2) := by decide +kernel
theorem q71_3 : decode c71_ 3 = .ok (.invokestatic 9, 3) := by decide +kernel
theorem q71_6 : decode c71_ 6 = .ok (.pop, 1) := by decide +kernel
theorem q71_7 : decode c71_ 7 = .ok (.aload_n 1, 1) := by decide +kernel
theorem q71_8 : decode c71_ 8 = .ok (.invokevirtual 15, 3) := by decide +kernel
theorem q71_11 : decode c71_ 11 = .ok (.ifCond .eq 13, 3) := by decide +kernel
theorem q71_24 : decode c71_ 24 = .ok (.aload_n 1, 1) := by decide +kernel
theorem q71_25 : decode c71_ 25 = .ok (.iconst 0, 1) := by decide +kernel
theorem pd_38 : parseMethodDescriptor "(I)C" = some ⟨[.int], some .char⟩ := by decide +kernel
theorem q71_26 : decode c71_ 26 = .ok (.invokevirtual 66, 3) := by decide +kernel
theorem q71_29 : decode c71_ 29 = .ok (.bipush 125, 2) := by decide +kernel
theorem q71_31 : decode c71_ 31 = .ok (.if_icmp .ne 35, 3) := by decide +kernel
theorem q71_66 : decode c71_ 66 = .ok (.new 32, 3) := by decide +kernel
theorem q71_69 : decode c71_ 69 = .ok (.dup, 1) := by decide +kernel
theorem q71_70 : decode c71_ 70 = .ok (.invokespecial 34, 3) := by decide +kernel
theorem q71_73 : decode c71_ 73 = .ok (.aload_n 0, 1) := by decide +kernel
theorem q71_74 : decode c71_ 74 = .ok (.getfield 48, 3) := by decide +kernel
theorem pd_39 : parseMethodDescriptor "(Ljava/lang/String;)Ljava/lang/StringBuilder;" = some ⟨[(.object "java/lang/String")], some (.object "java/lang/StringBuilder")⟩ := by decide +kernel
theorem q71_77 : decode c71_ 77 = .ok (.invokevirtual 37, 3) := by decide +kernel
theorem q71_80 : decode c71_ 80 = .ok (.bipush 123, 2) := by decide +kernel
theorem pd_40 : parseMethodDescriptor "(C)Ljava/lang/StringBuilder;" = some ⟨[.char], some (.object "java/lang/StringBuilder")⟩ := by decide +kernel
theorem q71_82 : decode c71_ 82 = .ok (.invokevirtual 41, 3) := by decide +kernel
theorem q71_85 : decode c71_ 85 = .ok (.aload_n 1, 1) := by decide +kernel
theorem q71_86 : decode c71_ 86 = .ok (.invokevirtual 37, 3) := by decide +kernel
theorem q71_89 : decode c71_ 89 = .ok (.bipush 125, 2) := by decide +kernel
theorem q71_91 : decode c71_ 91 = .ok (.invokevirtual 41, 3) := by decide +kernel
theorem pd_41 : parseMethodDescriptor "()Ljava/lang/String;" = some ⟨[], some (.object "java/lang/String")⟩ := by decide +kernel
theorem q71_94 : decode c71_ 94 = .ok (.invokevirtual 44, 3) := by decide +kernel
theorem q71_97 : decode c71_ 97 = .ok (.areturn, 1) := by decide +kernel
def Q_tag (Z : State) (cs : Int32) (fm : Value) (a1 a2 pa pb kb : Addr) (pu ku : Bool) (pn kn : Nat) (pc kc : Nat → Nat) (h0 : Heap) (n0 : Nat) (v : Option Value) (h : Heap) (L : List Loc) : Prop := ∃ (o b' : Addr), v = some (.ref o) ∧ Fr n0 L ∧ Keep h0 h [] ∧ h0.size ≤ o ∧ h0.size ≤ b' ∧ Exa Z h o "java/lang/String" ∧ Fld Z h o "java/lang/String" "value" "[B" (.ref b') ∧ Fld Z h o "java/lang/String" "coder" "B" (.int (own_cd ((false || pu) || ku))) ∧ OA Z h b' .byte (own_len ((false || pu) || ku) ((((0 + pn) + 1) + kn) + 1)) (own_by ((false || pu) || ku) (own_cat (((0 + pn) + 1) + kn) (own_cat ((0 + pn) + 1) (own_cat (0 + pn) (own_cat 0 (fun _ => 0) pc) (fun _ => 123)) kc) (fun _ => 125))) ∧ (((false || pu) || ku) = false → ∀ j, j < ((((0 + pn) + 1) + kn) + 1) → (own_cat (((0 + pn) + 1) + kn) (own_cat ((0 + pn) + 1) (own_cat (0 + pn) (own_cat 0 (fun _ => 0) pc) (fun _ => 123)) kc) (fun _ => 125)) j < 256)
set_option maxRecDepth 65536 in
set_option maxHeartbeats 40000000 in
theorem rm_tag (l : Launch) (Z : State) (a0 : Array Value) (hw : ∀ d ∈ tables_1, d.before a0 Z = true) (ws : List Jvm.Cond) (cs : Int32) (fm : Value) (a1 a2 pa pb kb : Addr) (pu ku : Bool) (pn kn : Nat) (pc kc : Nat → Nat) (h0 : Heap) (n0 : Nat) (Z0 : n0 ≤ h0.size) (ST : own_ST Z cs fm) (OO : Old Z n0 h0) (hpn : pn ≤ 2) (hkn : kn ≤ 2) (hk0 : 0 < kn) (hbr : kc 0 ≠ 125) (E : Exa Z h0 a1 "com/example/aliran/aliran/KeySpace") (F1 : Fld Z h0 a1 "com/example/aliran/aliran/KeySpace" "prefix" "Ljava/lang/String;" (.ref pa)) (PE : Exa Z h0 pa "java/lang/String") (PV : Fld Z h0 pa "java/lang/String" "value" "[B" (.ref pb)) (PC : Fld Z h0 pa "java/lang/String" "coder" "B" (.int (own_cd pu))) (PA : OA Z h0 pb .byte (own_len pu pn) (own_by pu pc)) (Pc : ∀ j, j < pn → pc j < 65536) (Pl : pu = false → ∀ j, j < pn → pc j < 256) (Pn : pn < 2 ^ 29) (KE : Exa Z h0 a2 "java/lang/String") (KV : Fld Z h0 a2 "java/lang/String" "value" "[B" (.ref kb)) (KC : Fld Z h0 a2 "java/lang/String" "coder" "B" (.int (own_cd ku))) (KA : OA Z h0 kb .byte (own_len ku kn) (own_by ku kc)) (Kc : ∀ j, j < kn → kc j < 65536) (Kl : ku = false → ∀ j, j < kn → kc j < 256) (Kn : kn < 2 ^ 29) :
    MetFree l (⟨"com/example/aliran/aliran/KeySpace", "tagged", "(Ljava/lang/String;)Ljava/lang/String;"⟩ : MethodName) (head1 (Jvm.Cond.code (⟨"com/example/aliran/aliran/KeySpace", "tagged", "(Ljava/lang/String;)Ljava/lang/String;"⟩ : MethodName) prog_5_method_4_code 2 (some (.object "java/lang/String")) :: ws) ({ frames := 10, cells := 8, slots := 152, locals := 143 } : Room)) (fun a U => a = #[(.ref a1), (.ref a2)] ∧ Z.Warmed39 U.vm ∧ U.heap = h0 ∧ CHv Z consts_1 U.vm h0 ∧ ∀ x ∈ ([] : List Addr), Safe Z consts_1 U.vm h0 x) (fun _ _ _ _ _ => True) (fun _ U o U' => ∃ v L, o = .returned v ∧ Q_tag Z cs fm a1 a2 pa pb kb pu ku pn kn pc kc h0 n0 v U'.heap L ∧ CHr Z consts_1 U.vm U.heap U'.vm U'.heap ∧ ReturnedEndW U o U' L ({ frames := 10, cells := 8, slots := 152, locals := 143 } : Room).cells ({ frames := 10, cells := 8, slots := 152, locals := 143 } : Room).slots) := by
  refine MetFree.of_bodySF (plainFor_of_name pn_com_example_aliran_aliran_KeySpace) hisR ?_
  intro p ee s m args below meth cc s₁ Bd hml0 hP hK
  obtain ⟨rfl, hZ, hh, H, hsf⟩ := hP
  have hx := Bd.exec
  have hby := Bd.bytes
  have hml : cc.maxLocals = 2 := hml0
  have hown : (s.setVm s.vm).vm.findClass "com/example/aliran/aliran/KeySpace" = some m.cls := findClass_of_methodNamed Bd.named
  have hnm := (name_of_methodNamed Bd.named Bd.method).1
  have X0 : Stand p l ee ({ frames := 10, cells := 8, slots := 152, locals := 143 } : Room) (s.setVm s.vm) m #[(.ref a1), (.ref a2)] below meth cc s₁ [] 0 0 := Stand.of_body Bd
  have e0 : s₁.heap = h0 := by rw [← hh, Bd.state]; rfl
  have N0 := Fr.nil n0
  have hEL := own_EW hw
  have hZ : Z.Warmed39 (s.setVm s.vm).vm := hZ
  have C : Cold Z consts_1 s s.vm h0 := by rw [← hh]; exact Cold.start (by rw [hh]; exact H)
  show GoesW p ee below s ({ frames := 10, cells := 8, slots := 152, locals := 143 } : Room).cells ({ frames := 10, cells := 8, slots := 152, locals := 143 } : Room).slots Z consts_1 (Q_tag Z cs fm a1 a2 pa pb kb pu ku pn kn pc kc h0 n0) (s₁.setTop (entryFrame m #[(.ref a1), (.ref a2)] 2))
  refine gW (fun _ r => castTop (ef_tag m a1 a2) r) ?_
  show GoesW p ee below s _ _ _ _ _ (s₁.setTop (mkF m 0 #[vR a1, vR a2] []))
  have K0 := Keep.refl h0 ([] : List Addr)
  refine gW (fun _ r => XS.aloadN X0.here hx rfl (hb hby q71_0) rfl rfl r) ?_
  have lt_a1 := E.lt
  have lt_pa := PE.lt
  have lt_pb := PA.lt
  have lt_a2 := KE.lt
  have lt_kb := KA.lt
  obtain ⟨la1, lb1, vm1, T1, h1, ⟨X1, Cn1, hZ, hown, hsaf1⟩, e1, E1, Ei1, Fv1, Fc1, A_lb1, Lit1, hlit1, st1⟩ := own_ldcW X0 hx hZ hEL C hown (own_w hw 147 rfl) (own_wS hw) e0 (List.mem_of_getElem? (i := 1) rfl) (vs := [(.int (117 : Int32)), (.int (115 : Int32)), (.int (101 : Int32)), (.int (114 : Int32)), (.int (75 : Int32)), (.int (101 : Int32)), (.int (121 : Int32))]) (k := 7) ⟨by decide, by decide⟩ rfl (by decide) (g := (mkF m 1 #[vR a1, vR a2] [(.ref a2)])) rfl (hb hby q71_1) (n := 28) (by decide) (by decide) (by decide) (by decide)
  refine gW st1 ?_
  rw [e1] at Cn1 hsaf1
  have C := Cn1
  have E := E.ext E1
  have F1 := F1.ext E1
  have PE := PE.ext E1
  have PV := PV.ext E1
  have PC := PC.ext E1
  have PA := PA.ext E1
  have KE := KE.ext E1
  have KV := KV.ext E1
  have KC := KC.ext E1
  have KA := KA.ext E1
  have Zp2 := Nat.le_trans Z0 E1.1
  have OO := OO.ext E1
  have K3 := K0.ext E1
  show GoesW p ee below s _ _ _ _ _ (T1.setTop (mkF m 3 #[vR a1, vR a2] [(.ref la1), (.ref a2)]))
  have lt_a1 := E.lt
  have lt_pa := PE.lt
  have lt_pb := PA.lt
  have lt_a2 := KE.lt
  have lt_kb := KA.lt
  have lt_la1 := Ei1.lt
  have lt_lb1 := A_lb1.lt
  obtain ⟨v4, T4, L4, X4, hQ4, st4⟩ := own_callS X1 hx hZ (y := (⟨"java/util/Objects", "requireNonNull", "(Ljava/lang/Object;Ljava/lang/String;)Ljava/lang/Object;"⟩ : MethodName)) hown (own_w hw 68 rfl) (own_w hw 69 rfl) (own_w hw 70 rfl) (own_w hw 71 rfl) (by decide) (argsL := [(.ref a2), (.ref la1)]) (rm_rnn l Z a0 hw [] a2 la1 h1 n0 Zp2 ) e1 (W := 0) (by decide) (by decide) (by decide) (by decide) (g := (mkF m 3 #[vR a1, vR a2] [(.ref la1), (.ref a2)])) rfl (by rw [hml]; rfl) (rest := []) (lenOf pd_37 rfl) rfl (by show 2 * 0 + _ ≤ _; exact Nat.le_of_eq rfl) (hb hby q71_3)
  refine gW st4 ?_
  obtain ⟨rfl, N4, e4⟩ := hQ4
  have N5 := Fr.app N0 N4
  refine gW (fun _ r => XT.pop X4.here hx rfl (hb hby q71_6) rfl rfl r) ?_
  refine gW (fun _ r => XS.aloadN X4.here hx rfl (hb hby q71_7) rfl rfl r) ?_
  have lt_a1 := E.lt
  have lt_pa := PE.lt
  have lt_pb := PA.lt
  have lt_a2 := KE.lt
  have lt_kb := KA.lt
  have lt_la1 := Ei1.lt
  have lt_lb1 := A_lb1.lt
  obtain ⟨v6, T6, L6, X6, hQ6, st6⟩ := own_callV X4 hx hZ (y := (⟨"java/lang/String", "isEmpty", "()Z"⟩ : MethodName)) hown (own_w hw 72 rfl) (own_w hw 73 rfl) (own_w hw 75 rfl) (own_w hw 74 rfl) (own_w hw 10 rfl) (own_w hw 76 rfl) (by decide) (a := a2) (argsL := []) (rm_isem l Z a0 hw [] cs fm a2 kb ku kn kc h1 n0 Zp2 ST OO hk0 Kn KE KV KC KA) e4 KE (W := 0) (by decide) (by decide) (by decide) (by decide) (g := (mkF m 8 #[vR a1, vR a2] [(.ref a2)])) rfl (by rw [hml]; rfl) (rest := []) (lenOf pd_6 rfl) rfl (by show 2 * 0 + _ ≤ _; exact Nat.le_of_eq rfl) (hb hby q71_8)
  refine gW st6 ?_
  obtain ⟨rfl, N6, e6⟩ := hQ6
  have N7 := Fr.app N5 N6
  refine gW (fun _ r => XS.ifYes X6.here hx rfl (pc0 := 11) (pc' := 24) rfl (hb hby q71_11) rfl ((if0 _ _).trans (teq (by decide)).1) (by decide) (by decide) r) ?_
  refine gW (fun _ r => XS.aloadN X6.here hx rfl (hb hby q71_24) rfl rfl r) ?_
  show GoesW p ee below s _ _ _ _ _ (T6.setTop (mkF m 25 #[vR a1, vR a2] [(.ref a2)]))
  refine gW (fun _ r => XS.iconst X6.here hx rfl (hb hby q71_25) r) ?_
  have lt_a1 := E.lt
  have lt_pa := PE.lt
  have lt_pb := PA.lt
  have lt_a2 := KE.lt
  have lt_kb := KA.lt
  have lt_la1 := Ei1.lt
  have lt_lb1 := A_lb1.lt
  obtain ⟨v8, T8, L8, X8, hQ8, st8⟩ := own_callV X6 hx hZ (y := (⟨"java/lang/String", "charAt", "(I)C"⟩ : MethodName)) hown (own_w hw 148 rfl) (own_w hw 149 rfl) (own_w hw 151 rfl) (own_w hw 150 rfl) (own_w hw 10 rfl) (own_w hw 152 rfl) (by decide) (a := a2) (argsL := [(.int (0 : Int32))]) (rm_schar l Z a0 hw [] cs fm a2 kb ku kn kc 0 h1 n0 Zp2 ST OO Kn KE KV KC KA Kc Kl hk0) e6 KE (W := 0) (by decide) (by decide) (by decide) (by decide) (g := (mkF m 26 #[vR a1, vR a2] [(.int (0 : Int32)), (.ref a2)])) rfl (by rw [hml]; rfl) (rest := []) (lenOf pd_38 rfl) rfl (by show 2 * 0 + _ ≤ _; exact Nat.le_of_eq rfl) (hb hby q71_26)
  refine gW st8 ?_
  obtain ⟨rfl, N8, e8⟩ := hQ8
  have N9 := Fr.app N7 N8
  refine gW (fun _ r => XS.bipush X8.here hx rfl (hb hby q71_29) r) ?_
  refine gW (fun _ r => XS.icmpYes X8.here hx rfl (pc0 := 31) (pc' := 66) rfl (hb hby q71_31) rfl (feq (fun z => hbr ((own_eqN (kc 0) 125 (Nat.lt_trans (Kc 0 hk0) (by decide)) (by decide)).mp z))).2 (by decide) (by decide) r) ?_
  show GoesW p ee below s _ _ _ _ _ (T8.setTop (mkF m 66 #[vR a1, vR a2] []))
  obtain ⟨T10, h10, X10, e10, E10, A10, D10, -, st10⟩ := newO X8 hx hZ hown (own_w hw 125 rfl) (own_w hw 126 rfl) (own_w hw 127 rfl) e8 (g := (mkF m 66 #[vR a1, vR a2] [])) rfl (hb hby q71_66) (by decide) (by decide)
  obtain ⟨b10, g_b10⟩ : ∃ z, z = h1.size := ⟨_, rfl⟩
  have ne_a1_b10 : a1 ≠ b10 := Nat.ne_of_lt (Nat.lt_of_lt_of_le E.lt (Nat.le_of_eq g_b10.symm))
  have ne_pa_b10 : pa ≠ b10 := Nat.ne_of_lt (Nat.lt_of_lt_of_le PE.lt (Nat.le_of_eq g_b10.symm))
  have ne_pb_b10 : pb ≠ b10 := Nat.ne_of_lt (Nat.lt_of_lt_of_le PA.lt (Nat.le_of_eq g_b10.symm))
  have ne_a2_b10 : a2 ≠ b10 := Nat.ne_of_lt (Nat.lt_of_lt_of_le KE.lt (Nat.le_of_eq g_b10.symm))
  have ne_kb_b10 : kb ≠ b10 := Nat.ne_of_lt (Nat.lt_of_lt_of_le KA.lt (Nat.le_of_eq g_b10.symm))
  have ne_la1_b10 : la1 ≠ b10 := Nat.ne_of_lt (Nat.lt_of_lt_of_le Ei1.lt (Nat.le_of_eq g_b10.symm))
  have ne_lb1_b10 : lb1 ≠ b10 := Nat.ne_of_lt (Nat.lt_of_lt_of_le A_lb1.lt (Nat.le_of_eq g_b10.symm))
  have ge_b10 : n0 ≤ b10 := Nat.le_trans Zp2 (Nat.le_of_eq g_b10.symm)
  have sz_b10 : h0.size ≤ b10 := Nat.le_trans K3.1 (Nat.le_of_eq g_b10.symm)
  rw [← g_b10] at A10 D10 st10
  have E := E.ext E10
  have F1 := F1.ext E10
  have PE := PE.ext E10
  have PV := PV.ext E10
  have PC := PC.ext E10
  have PA := PA.ext E10
  have KE := KE.ext E10
  have KV := KV.ext E10
  have KC := KC.ext E10
  have KA := KA.ext E10
  have Ei1 := Ei1.ext E10
  have Fv1 := Fv1.ext E10
  have Fc1 := Fc1.ext E10
  have A_lb1 := A_lb1.ext E10
  have Zp11 := Nat.le_trans Zp2 E10.1
  have sf_b10 := Safe.ext E10 C.chv (Safe.new (Nat.le_of_eq g_b10.symm))
  have C := C.ext E10
  have OO := OO.ext E10
  have K12 := K3.ext E10
  refine gW st10 ?_
  have E_b10 := A10
  have F_value_b10 : Fld Z h10 b10 "java/lang/AbstractStringBuilder" "value" "[B" .null := D10 (Or.inl (own_w hw 140 rfl)) (ty := (.array .byte)) (by decide)
  have F_coder_b10 : Fld Z h10 b10 "java/lang/AbstractStringBuilder" "coder" "B" (.int (0 : Int32)) := D10 (Or.inl (own_w hw 142 rfl)) (ty := .byte) (by decide)
  have F_count_b10 : Fld Z h10 b10 "java/lang/AbstractStringBuilder" "count" "I" (.int (0 : Int32)) := D10 (Or.inl (own_w hw 176 rfl)) (ty := .int) (by decide)
  have F_maybeLatin1_b10 : Fld Z h10 b10 "java/lang/AbstractStringBuilder" "maybeLatin1" "Z" (.int (0 : Int32)) := D10 (Or.inl (own_w hw 331 rfl)) (ty := .boolean) (by decide)
  show GoesW p ee below s _ _ _ _ _ (T10.setTop (mkF m 69 #[vR a1, vR a2] [(.ref b10)]))
  refine gW (fun _ r => XS.dup X10.here hx rfl (hb hby q71_69) rfl rfl r) ?_
  have lt_a1 := E.lt
  have lt_pa := PE.lt
  have lt_pb := PA.lt
  have lt_a2 := KE.lt
  have lt_kb := KA.lt
  have lt_la1 := Ei1.lt
  have lt_lb1 := A_lb1.lt
  have lt_b10 := E_b10.lt
  obtain ⟨v13, T13, L13, X13, hQ13, st13⟩ := own_callN X10 hx hZ (y := (⟨"java/lang/StringBuilder", "<init>", "()V"⟩ : MethodName)) rfl hown (own_w hw 128 rfl) (own_w hw 129 rfl) (own_w hw 127 rfl) (own_w hw 130 rfl) (by decide) (a := b10) (argsL := []) (rm_sbi l Z a0 hw [] cs fm b10 _ _ h10 n0 Zp11 ST OO ge_b10 E_b10 F_value_b10 F_coder_b10 F_count_b10 F_maybeLatin1_b10) e10 (W := 1) (by decide) (by decide) (by decide) (by decide) (g := (mkF m 70 #[vR a1, vR a2] [(.ref b10), (.ref b10)])) rfl (by rw [hml]; rfl) (rest := [(.ref b10)]) (lenOf pd_20 rfl) rfl (by show 2 * 0 + _ ≤ _; exact Nat.le_of_eq rfl) (hb hby q71_70)
  refine gW st13 ?_
  obtain ⟨rfl, N13, Kc13, b13, sz13, B13, A_b13⟩ := hQ13
  have sf_b13 : Safe Z consts_1 vm1 h10 b13 := Safe.new sz13
  have N14 := Fr.app N9 N13
  obtain ⟨h13, e13⟩ : ∃ h', T13.heap = h' := ⟨_, rfl⟩
  rw [e13] at Kc13 B13 A_b13
  have E := E.keep Kc13
  have F1 := F1.keep Kc13 (ninS ne_a1_b10 nin0)
  have PE := PE.keep Kc13
  have PV := PV.keep Kc13 (ninS ne_pa_b10 nin0)
  have PC := PC.keep Kc13 (ninS ne_pa_b10 nin0)
  have PA := PA.keep Kc13 (ninS ne_pb_b10 nin0)
  have KE := KE.keep Kc13
  have KV := KV.keep Kc13 (ninS ne_a2_b10 nin0)
  have KC := KC.keep Kc13 (ninS ne_a2_b10 nin0)
  have KA := KA.keep Kc13 (ninS ne_kb_b10 nin0)
  have Ei1 := Ei1.keep Kc13
  have Fv1 := Fv1.keep Kc13 (ninS ne_la1_b10 nin0)
  have Fc1 := Fc1.keep Kc13 (ninS ne_la1_b10 nin0)
  have A_lb1 := A_lb1.keep Kc13 (ninS ne_lb1_b10 nin0)
  have hsk := (sfS sf_b10 sf0)
  have sf_b10 := Safe.keep Kc13 hsk C.chv sf_b10
  have sf_b13 := Safe.keep Kc13 hsk C.chv sf_b13
  have C := C.keep Kc13 hsk
  have OO := OO.keep Kc13 (allS ge_b10 all0)
  have K15 := K12.trans Kc13 (allS (Or.inr sz_b10) all0)
  have Zp16 := Nat.le_trans Zp11 Kc13.1
  have ge_b13 : n0 ≤ b13 := Nat.le_trans Zp11 sz13
  have sz_b13 : h0.size ≤ b13 := Nat.le_trans K12.1 sz13
  have ne_a1_b13 : a1 ≠ b13 := Nat.ne_of_lt (Nat.lt_of_lt_of_le lt_a1 sz13)
  have ne_pa_b13 : pa ≠ b13 := Nat.ne_of_lt (Nat.lt_of_lt_of_le lt_pa sz13)
  have ne_pb_b13 : pb ≠ b13 := Nat.ne_of_lt (Nat.lt_of_lt_of_le lt_pb sz13)
  have ne_a2_b13 : a2 ≠ b13 := Nat.ne_of_lt (Nat.lt_of_lt_of_le lt_a2 sz13)
  have ne_kb_b13 : kb ≠ b13 := Nat.ne_of_lt (Nat.lt_of_lt_of_le lt_kb sz13)
  have ne_la1_b13 : la1 ≠ b13 := Nat.ne_of_lt (Nat.lt_of_lt_of_le lt_la1 sz13)
  have ne_lb1_b13 : lb1 ≠ b13 := Nat.ne_of_lt (Nat.lt_of_lt_of_le lt_lb1 sz13)
  have ne_b10_b13 : b10 ≠ b13 := Nat.ne_of_lt (Nat.lt_of_lt_of_le lt_b10 sz13)
  obtain ⟨E13, FV13, FC13, FN13, FM13⟩ := B13
  refine gW (fun _ r => XS.aloadN X13.here hx rfl (hb hby q71_73) rfl rfl r) ?_
  obtain ⟨T17, X17, e17, st17⟩ := getF X13 hx hZ hown (host := "") (Or.inl (own_w hw 118 rfl)) Via.refl e13 F1 (g := (mkF m 74 #[vR a1, vR a2] [(.ref a1), (.ref b10)])) rfl rfl (hb hby q71_74)
  refine gW st17 ?_
  have lt_a1 := E.lt
  have lt_pa := PE.lt
  have lt_pb := PA.lt
  have lt_a2 := KE.lt
  have lt_kb := KA.lt
  have lt_la1 := Ei1.lt
  have lt_lb1 := A_lb1.lt
  have lt_b10 := E13.lt
  have lt_b13 := A_b13.lt
  obtain ⟨v18, T18, L18, X18, hQ18, st18⟩ := own_callV X17 hx hZ (y := (⟨"java/lang/StringBuilder", "append", "(Ljava/lang/String;)Ljava/lang/StringBuilder;"⟩ : MethodName)) hown (own_w hw 164 rfl) (own_w hw 165 rfl) (own_w hw 167 rfl) (own_w hw 166 rfl) (own_w hw 127 rfl) (own_w hw 168 rfl) (by decide) (a := b10) (argsL := [(.ref pa)]) (rm_sas l Z a0 hw [] cs fm b10 pa b13 pb false pu 0 pn (fun _ => 0) pc (fun _ => .int 0) h13 n0 Zp16 ST OO (by omega) (fun _ j hj => absurd hj (Nat.not_lt_zero j)) Pl ge_b10 ge_b13 ne_b10_b13 (Ne.symm ne_pa_b10) (Ne.symm ne_pb_b10) (Ne.symm ne_pa_b13) (Ne.symm ne_pb_b13) ⟨E13, FV13, FC13, FN13, FM13⟩ A_b13 (fun j hj => absurd hj (Nat.not_lt_zero j)) PE PV PC PA) e17 E13 (W := 0) (by decide) (by decide) (by decide) (by decide) (g := (mkF m 77 #[vR a1, vR a2] [(.ref pa), (.ref b10)])) rfl (by rw [hml]; rfl) (rest := []) (lenOf pd_39 rfl) rfl (by show 2 * 0 + _ ≤ _; exact Nat.le_of_eq rfl) (hb hby q71_77)
  refine gW st18 ?_
  obtain ⟨rfl, N18, Kc18, b18, f18, hb18, B18, A_b18, hf18⟩ := hQ18
  have ge_b18 : n0 ≤ b18 := own_ge2 hb18 ge_b13 Zp16
  have kx_b18 := own_kx (ws := []) hb18 (Or.inr sz_b13) K15.1
  have ne_a1_b18 : a1 ≠ b18 := own_ne2 hb18 ne_a1_b13 lt_a1
  have ne_pa_b18 : pa ≠ b18 := own_ne2 hb18 ne_pa_b13 lt_pa
  have ne_pb_b18 : pb ≠ b18 := own_ne2 hb18 ne_pb_b13 lt_pb
  have ne_a2_b18 : a2 ≠ b18 := own_ne2 hb18 ne_a2_b13 lt_a2
  have ne_kb_b18 : kb ≠ b18 := own_ne2 hb18 ne_kb_b13 lt_kb
  have ne_la1_b18 : la1 ≠ b18 := own_ne2 hb18 ne_la1_b13 lt_la1
  have ne_lb1_b18 : lb1 ≠ b18 := own_ne2 hb18 ne_lb1_b13 lt_lb1
  have ne_b10_b18 : b10 ≠ b18 := own_ne2 hb18 ne_b10_b13 lt_b10
  have sf_b18 := own_sf2 hb18 sf_b13
  have N19 := Fr.app N14 N18
  obtain ⟨h18, e18⟩ : ∃ h', T18.heap = h' := ⟨_, rfl⟩
  rw [e18] at Kc18 B18 A_b18
  have E := E.keep Kc18
  have F1 := F1.keep Kc18 (ninS ne_a1_b10 (ninS ne_a1_b13 nin0))
  have PE := PE.keep Kc18
  have PV := PV.keep Kc18 (ninS ne_pa_b10 (ninS ne_pa_b13 nin0))
  have PC := PC.keep Kc18 (ninS ne_pa_b10 (ninS ne_pa_b13 nin0))
  have PA := PA.keep Kc18 (ninS ne_pb_b10 (ninS ne_pb_b13 nin0))
  have KE := KE.keep Kc18
  have KV := KV.keep Kc18 (ninS ne_a2_b10 (ninS ne_a2_b13 nin0))
  have KC := KC.keep Kc18 (ninS ne_a2_b10 (ninS ne_a2_b13 nin0))
  have KA := KA.keep Kc18 (ninS ne_kb_b10 (ninS ne_kb_b13 nin0))
  have Ei1 := Ei1.keep Kc18
  have Fv1 := Fv1.keep Kc18 (ninS ne_la1_b10 (ninS ne_la1_b13 nin0))
  have Fc1 := Fc1.keep Kc18 (ninS ne_la1_b10 (ninS ne_la1_b13 nin0))
  have A_lb1 := A_lb1.keep Kc18 (ninS ne_lb1_b10 (ninS ne_lb1_b13 nin0))
  have hsk := (sfS sf_b10 (sfS sf_b13 sf0))
  have sf_b10 := Safe.keep Kc18 hsk C.chv sf_b10
  have sf_b13 := Safe.keep Kc18 hsk C.chv sf_b13
  have sf_b18 := Safe.keep Kc18 hsk C.chv sf_b18
  have C := C.keep Kc18 hsk
  have OO := OO.keep Kc18 (allS ge_b10 (allS ge_b13 all0))
  have K20 := K15.trans Kc18 (allS (Or.inr sz_b10) (allS (Or.inr sz_b13) all0))
  have Zp21 := Nat.le_trans Zp16 Kc18.1
  obtain ⟨E18, FV18, FC18, FN18, FM18⟩ := B18
  have hl_b18 : (false || pu) = false → ∀ j, j < (0 + pn) → own_cat 0 (fun _ => 0) pc j < 256 := fun e1 => own_cat_all (P := (· < 256)) ((fun _ j hj => absurd hj (Nat.not_lt_zero j)) (own_or1 e1)) (Pl (own_or2 e1))
  refine gW (fun _ r => XS.bipush X18.here hx rfl (hb hby q71_80) r) ?_
  show GoesW p ee below s _ _ _ _ _ (T18.setTop (mkF m 82 #[vR a1, vR a2] [(.int (123 : Int32)), (.ref b10)]))
  have lt_a1 := E.lt
  have lt_pa := PE.lt
  have lt_pb := PA.lt
  have lt_a2 := KE.lt
  have lt_kb := KA.lt
  have lt_la1 := Ei1.lt
  have lt_lb1 := A_lb1.lt
  have lt_b10 := E18.lt
  have lt_b18 := A_b18.lt
  obtain ⟨v22, T22, L22, X22, hQ22, st22⟩ := own_callV X18 hx hZ (y := (⟨"java/lang/StringBuilder", "append", "(C)Ljava/lang/StringBuilder;"⟩ : MethodName)) hown (own_w hw 202 rfl) (own_w hw 203 rfl) (own_w hw 205 rfl) (own_w hw 204 rfl) (own_w hw 127 rfl) (own_w hw 206 rfl) (by decide) (a := b10) (argsL := [(.int (123 : Int32))]) (rm_sac l Z a0 hw [] cs fm b10 b18 (false || pu) (0 + pn) (own_cat 0 (fun _ => 0) pc) f18 123 h18 n0 Zp21 ST OO (by omega) (by decide) ge_b10 ge_b18 ne_b10_b18 ⟨E18, FV18, FC18, FN18, FM18⟩ A_b18 hf18) e18 E18 (W := 0) (by decide) (by decide) (by decide) (by decide) (g := (mkF m 82 #[vR a1, vR a2] [(.int (123 : Int32)), (.ref b10)])) rfl (by rw [hml]; rfl) (rest := []) (lenOf pd_40 rfl) rfl (by show 2 * 0 + _ ≤ _; exact Nat.le_of_eq rfl) (hb hby q71_82)
  refine gW st22 ?_
  obtain ⟨rfl, N22, Kc22, f22, B22, A_b18, hf22⟩ := hQ22
  have N23 := Fr.app N19 N22
  obtain ⟨h22, e22⟩ : ∃ h', T22.heap = h' := ⟨_, rfl⟩
  rw [e22] at Kc22 B22 A_b18
  have E := E.keep Kc22
  have F1 := F1.keep Kc22 (ninS ne_a1_b10 (ninS ne_a1_b18 nin0))
  have PE := PE.keep Kc22
  have PV := PV.keep Kc22 (ninS ne_pa_b10 (ninS ne_pa_b18 nin0))
  have PC := PC.keep Kc22 (ninS ne_pa_b10 (ninS ne_pa_b18 nin0))
  have PA := PA.keep Kc22 (ninS ne_pb_b10 (ninS ne_pb_b18 nin0))
  have KE := KE.keep Kc22
  have KV := KV.keep Kc22 (ninS ne_a2_b10 (ninS ne_a2_b18 nin0))
  have KC := KC.keep Kc22 (ninS ne_a2_b10 (ninS ne_a2_b18 nin0))
  have KA := KA.keep Kc22 (ninS ne_kb_b10 (ninS ne_kb_b18 nin0))
  have Ei1 := Ei1.keep Kc22
  have Fv1 := Fv1.keep Kc22 (ninS ne_la1_b10 (ninS ne_la1_b18 nin0))
  have Fc1 := Fc1.keep Kc22 (ninS ne_la1_b10 (ninS ne_la1_b18 nin0))
  have A_lb1 := A_lb1.keep Kc22 (ninS ne_lb1_b10 (ninS ne_lb1_b18 nin0))
  have hsk := (sfS sf_b10 (sfS sf_b18 sf0))
  have sf_b10 := Safe.keep Kc22 hsk C.chv sf_b10
  have sf_b18 := Safe.keep Kc22 hsk C.chv sf_b18
  have C := C.keep Kc22 hsk
  have OO := OO.keep Kc22 (allS ge_b10 (allS ge_b18 all0))
  have K24 := K20.trans Kc22 (allS (Or.inr sz_b10) (allS kx_b18 all0))
  have Zp25 := Nat.le_trans Zp21 Kc22.1
  obtain ⟨E22, FV22, FC22, FN22, FM22⟩ := B22
  have hl_22 : (false || pu) = false → ∀ j, j < ((0 + pn) + 1) → own_cat (0 + pn) (own_cat 0 (fun _ => 0) pc) (fun _ => 123) j < 256 := fun e1 => own_cat_all (P := (· < 256)) (hl_b18 e1) (fun _ _ => by decide)
  refine gW (fun _ r => XS.aloadN X22.here hx rfl (hb hby q71_85) rfl rfl r) ?_
  have lt_a1 := E.lt
  have lt_pa := PE.lt
  have lt_pb := PA.lt
  have lt_a2 := KE.lt
  have lt_kb := KA.lt
  have lt_la1 := Ei1.lt
  have lt_lb1 := A_lb1.lt
  have lt_b10 := E22.lt
  have lt_b18 := A_b18.lt
  obtain ⟨v26, T26, L26, X26, hQ26, st26⟩ := own_callV X22 hx hZ (y := (⟨"java/lang/StringBuilder", "append", "(Ljava/lang/String;)Ljava/lang/StringBuilder;"⟩ : MethodName)) hown (own_w hw 164 rfl) (own_w hw 165 rfl) (own_w hw 167 rfl) (own_w hw 166 rfl) (own_w hw 127 rfl) (own_w hw 168 rfl) (by decide) (a := b10) (argsL := [(.ref a2)]) (rm_sas l Z a0 hw [] cs fm b10 a2 b18 kb (false || pu) ku ((0 + pn) + 1) kn (own_cat (0 + pn) (own_cat 0 (fun _ => 0) pc) (fun _ => 123)) kc f22 h22 n0 Zp25 ST OO (by omega) hl_22 Kl ge_b10 ge_b18 ne_b10_b18 (Ne.symm ne_a2_b10) (Ne.symm ne_kb_b10) (Ne.symm ne_a2_b18) (Ne.symm ne_kb_b18) ⟨E22, FV22, FC22, FN22, FM22⟩ A_b18 hf22 KE KV KC KA) e22 E22 (W := 0) (by decide) (by decide) (by decide) (by decide) (g := (mkF m 86 #[vR a1, vR a2] [(.ref a2), (.ref b10)])) rfl (by rw [hml]; rfl) (rest := []) (lenOf pd_39 rfl) rfl (by show 2 * 0 + _ ≤ _; exact Nat.le_of_eq rfl) (hb hby q71_86)
  refine gW st26 ?_
  obtain ⟨rfl, N26, Kc26, b26, f26, hb26, B26, A_b26, hf26⟩ := hQ26
  have ge_b26 : n0 ≤ b26 := own_ge2 hb26 ge_b18 Zp25
  have kx_b26 := own_kx (ws := []) hb26 kx_b18 K24.1
  have ne_a1_b26 : a1 ≠ b26 := own_ne2 hb26 ne_a1_b18 lt_a1
  have ne_pa_b26 : pa ≠ b26 := own_ne2 hb26 ne_pa_b18 lt_pa
  have ne_pb_b26 : pb ≠ b26 := own_ne2 hb26 ne_pb_b18 lt_pb
  have ne_a2_b26 : a2 ≠ b26 := own_ne2 hb26 ne_a2_b18 lt_a2
  have ne_kb_b26 : kb ≠ b26 := own_ne2 hb26 ne_kb_b18 lt_kb
  have ne_la1_b26 : la1 ≠ b26 := own_ne2 hb26 ne_la1_b18 lt_la1
  have ne_lb1_b26 : lb1 ≠ b26 := own_ne2 hb26 ne_lb1_b18 lt_lb1
  have ne_b10_b26 : b10 ≠ b26 := own_ne2 hb26 ne_b10_b18 lt_b10
  have sf_b26 := own_sf2 hb26 sf_b18
  have N27 := Fr.app N23 N26
  obtain ⟨h26, e26⟩ : ∃ h', T26.heap = h' := ⟨_, rfl⟩
  rw [e26] at Kc26 B26 A_b26
  have E := E.keep Kc26
  have F1 := F1.keep Kc26 (ninS ne_a1_b10 (ninS ne_a1_b18 nin0))
  have PE := PE.keep Kc26
  have PV := PV.keep Kc26 (ninS ne_pa_b10 (ninS ne_pa_b18 nin0))
  have PC := PC.keep Kc26 (ninS ne_pa_b10 (ninS ne_pa_b18 nin0))
  have PA := PA.keep Kc26 (ninS ne_pb_b10 (ninS ne_pb_b18 nin0))
  have KE := KE.keep Kc26
  have KV := KV.keep Kc26 (ninS ne_a2_b10 (ninS ne_a2_b18 nin0))
  have KC := KC.keep Kc26 (ninS ne_a2_b10 (ninS ne_a2_b18 nin0))
  have KA := KA.keep Kc26 (ninS ne_kb_b10 (ninS ne_kb_b18 nin0))
  have Ei1 := Ei1.keep Kc26
  have Fv1 := Fv1.keep Kc26 (ninS ne_la1_b10 (ninS ne_la1_b18 nin0))
  have Fc1 := Fc1.keep Kc26 (ninS ne_la1_b10 (ninS ne_la1_b18 nin0))
  have A_lb1 := A_lb1.keep Kc26 (ninS ne_lb1_b10 (ninS ne_lb1_b18 nin0))
  have hsk := (sfS sf_b10 (sfS sf_b18 sf0))
  have sf_b10 := Safe.keep Kc26 hsk C.chv sf_b10
  have sf_b18 := Safe.keep Kc26 hsk C.chv sf_b18
  have sf_b26 := Safe.keep Kc26 hsk C.chv sf_b26
  have C := C.keep Kc26 hsk
  have OO := OO.keep Kc26 (allS ge_b10 (allS ge_b18 all0))
  have K28 := K24.trans Kc26 (allS (Or.inr sz_b10) (allS kx_b18 all0))
  have Zp29 := Nat.le_trans Zp25 Kc26.1
  obtain ⟨E26, FV26, FC26, FN26, FM26⟩ := B26
  have hl_b26 : ((false || pu) || ku) = false → ∀ j, j < (((0 + pn) + 1) + kn) → own_cat ((0 + pn) + 1) (own_cat (0 + pn) (own_cat 0 (fun _ => 0) pc) (fun _ => 123)) kc j < 256 := fun e1 => own_cat_all (P := (· < 256)) (hl_22 (own_or1 e1)) (Kl (own_or2 e1))
  refine gW (fun _ r => XS.bipush X26.here hx rfl (hb hby q71_89) r) ?_
  have lt_a1 := E.lt
  have lt_pa := PE.lt
  have lt_pb := PA.lt
  have lt_a2 := KE.lt
  have lt_kb := KA.lt
  have lt_la1 := Ei1.lt
  have lt_lb1 := A_lb1.lt
  have lt_b10 := E26.lt
  have lt_b26 := A_b26.lt
  obtain ⟨v30, T30, L30, X30, hQ30, st30⟩ := own_callV X26 hx hZ (y := (⟨"java/lang/StringBuilder", "append", "(C)Ljava/lang/StringBuilder;"⟩ : MethodName)) hown (own_w hw 202 rfl) (own_w hw 203 rfl) (own_w hw 205 rfl) (own_w hw 204 rfl) (own_w hw 127 rfl) (own_w hw 206 rfl) (by decide) (a := b10) (argsL := [(.int (125 : Int32))]) (rm_sac l Z a0 hw [] cs fm b10 b26 ((false || pu) || ku) (((0 + pn) + 1) + kn) (own_cat ((0 + pn) + 1) (own_cat (0 + pn) (own_cat 0 (fun _ => 0) pc) (fun _ => 123)) kc) f26 125 h26 n0 Zp29 ST OO (by omega) (by decide) ge_b10 ge_b26 ne_b10_b26 ⟨E26, FV26, FC26, FN26, FM26⟩ A_b26 hf26) e26 E26 (W := 0) (by decide) (by decide) (by decide) (by decide) (g := (mkF m 91 #[vR a1, vR a2] [(.int (125 : Int32)), (.ref b10)])) rfl (by rw [hml]; rfl) (rest := []) (lenOf pd_40 rfl) rfl (by show 2 * 0 + _ ≤ _; exact Nat.le_of_eq rfl) (hb hby q71_91)
  refine gW st30 ?_
  obtain ⟨rfl, N30, Kc30, f30, B30, A_b26, hf30⟩ := hQ30
  have N31 := Fr.app N27 N30
  obtain ⟨h30, e30⟩ : ∃ h', T30.heap = h' := ⟨_, rfl⟩
  rw [e30] at Kc30 B30 A_b26
  have E := E.keep Kc30
  have F1 := F1.keep Kc30 (ninS ne_a1_b10 (ninS ne_a1_b26 nin0))
  have PE := PE.keep Kc30
  have PV := PV.keep Kc30 (ninS ne_pa_b10 (ninS ne_pa_b26 nin0))
  have PC := PC.keep Kc30 (ninS ne_pa_b10 (ninS ne_pa_b26 nin0))
  have PA := PA.keep Kc30 (ninS ne_pb_b10 (ninS ne_pb_b26 nin0))
  have KE := KE.keep Kc30
  have KV := KV.keep Kc30 (ninS ne_a2_b10 (ninS ne_a2_b26 nin0))
  have KC := KC.keep Kc30 (ninS ne_a2_b10 (ninS ne_a2_b26 nin0))
  have KA := KA.keep Kc30 (ninS ne_kb_b10 (ninS ne_kb_b26 nin0))
  have Ei1 := Ei1.keep Kc30
  have Fv1 := Fv1.keep Kc30 (ninS ne_la1_b10 (ninS ne_la1_b26 nin0))
  have Fc1 := Fc1.keep Kc30 (ninS ne_la1_b10 (ninS ne_la1_b26 nin0))
  have A_lb1 := A_lb1.keep Kc30 (ninS ne_lb1_b10 (ninS ne_lb1_b26 nin0))
  have hsk := (sfS sf_b10 (sfS sf_b26 sf0))
  have sf_b10 := Safe.keep Kc30 hsk C.chv sf_b10
  have sf_b26 := Safe.keep Kc30 hsk C.chv sf_b26
  have C := C.keep Kc30 hsk
  have OO := OO.keep Kc30 (allS ge_b10 (allS ge_b26 all0))
  have K32 := K28.trans Kc30 (allS (Or.inr sz_b10) (allS kx_b26 all0))
  have Zp33 := Nat.le_trans Zp29 Kc30.1
  obtain ⟨E30, FV30, FC30, FN30, FM30⟩ := B30
  have hl_30 : ((false || pu) || ku) = false → ∀ j, j < ((((0 + pn) + 1) + kn) + 1) → own_cat (((0 + pn) + 1) + kn) (own_cat ((0 + pn) + 1) (own_cat (0 + pn) (own_cat 0 (fun _ => 0) pc) (fun _ => 123)) kc) (fun _ => 125) j < 256 := fun e1 => own_cat_all (P := (· < 256)) (hl_b26 e1) (fun _ _ => by decide)
  have lt_a1 := E.lt
  have lt_pa := PE.lt
  have lt_pb := PA.lt
  have lt_a2 := KE.lt
  have lt_kb := KA.lt
  have lt_la1 := Ei1.lt
  have lt_lb1 := A_lb1.lt
  have lt_b10 := E30.lt
  have lt_b26 := A_b26.lt
  obtain ⟨v34, T34, L34, X34, hQ34, st34⟩ := own_callV X30 hx hZ (y := (⟨"java/lang/StringBuilder", "toString", "()Ljava/lang/String;"⟩ : MethodName)) hown (own_w hw 217 rfl) (own_w hw 218 rfl) (own_w hw 220 rfl) (own_w hw 219 rfl) (own_w hw 127 rfl) (own_w hw 221 rfl) (by decide) (a := b10) (argsL := []) (rm_sts l Z a0 hw [] cs fm b10 b26 ((false || pu) || ku) ((((0 + pn) + 1) + kn) + 1) (own_cat (((0 + pn) + 1) + kn) (own_cat ((0 + pn) + 1) (own_cat (0 + pn) (own_cat 0 (fun _ => 0) pc) (fun _ => 123)) kc) (fun _ => 125)) f30 h30 n0 Zp33 ST OO (by omega) ⟨E30, FV30, FC30, FN30, FM30⟩ A_b26 hf30) e30 E30 (W := 0) (by decide) (by decide) (by decide) (by decide) (g := (mkF m 94 #[vR a1, vR a2] [(.ref b10)])) rfl (by rw [hml]; rfl) (rest := []) (lenOf pd_41 rfl) rfl (by show 2 * 0 + _ ≤ _; exact Nat.le_of_eq rfl) (hb hby q71_94)
  refine gW st34 ?_
  obtain ⟨o34, b34, rfl, N34, Kc34, so34, sz34, Ei34, Fv34, Fc34, A_b34⟩ := hQ34
  have N35 := Fr.app N31 N34
  obtain ⟨h34, e34⟩ : ∃ h', T34.heap = h' := ⟨_, rfl⟩
  rw [e34] at Kc34 Ei34 Fv34 Fc34 A_b34
  have E := E.keep Kc34
  have F1 := F1.keep Kc34 nin0
  have PE := PE.keep Kc34
  have PV := PV.keep Kc34 nin0
  have PC := PC.keep Kc34 nin0
  have PA := PA.keep Kc34 nin0
  have KE := KE.keep Kc34
  have KV := KV.keep Kc34 nin0
  have KC := KC.keep Kc34 nin0
  have KA := KA.keep Kc34 nin0
  have Ei1 := Ei1.keep Kc34
  have Fv1 := Fv1.keep Kc34 nin0
  have Fc1 := Fc1.keep Kc34 nin0
  have A_lb1 := A_lb1.keep Kc34 nin0
  have E30 := E30.keep Kc34
  have FV30 := FV30.keep Kc34 nin0
  have FC30 := FC30.keep Kc34 nin0
  have FN30 := FN30.keep Kc34 nin0
  have FM30 := FM30.keep Kc34 nin0
  have A_b26 := A_b26.keep Kc34 nin0
  have sf_b10 := Safe.keep Kc34 sf0 C.chv sf_b10
  have sf_b26 := Safe.keep Kc34 sf0 C.chv sf_b26
  have C := C.keep Kc34 sf0
  have OO := OO.keep Kc34 all0
  have K36 := K32.trans Kc34 all0
  have Zp37 := Nat.le_trans Zp33 Kc34.1
  have ge_o34 : n0 ≤ o34 := Nat.le_trans Zp33 so34
  have sz_o34 : h0.size ≤ o34 := Nat.le_trans K32.1 so34
  have ne_a1_o34 : a1 ≠ o34 := Nat.ne_of_lt (Nat.lt_of_lt_of_le lt_a1 so34)
  have ne_pa_o34 : pa ≠ o34 := Nat.ne_of_lt (Nat.lt_of_lt_of_le lt_pa so34)
  have ne_pb_o34 : pb ≠ o34 := Nat.ne_of_lt (Nat.lt_of_lt_of_le lt_pb so34)
  have ne_a2_o34 : a2 ≠ o34 := Nat.ne_of_lt (Nat.lt_of_lt_of_le lt_a2 so34)
  have ne_kb_o34 : kb ≠ o34 := Nat.ne_of_lt (Nat.lt_of_lt_of_le lt_kb so34)
  have ne_la1_o34 : la1 ≠ o34 := Nat.ne_of_lt (Nat.lt_of_lt_of_le lt_la1 so34)
  have ne_lb1_o34 : lb1 ≠ o34 := Nat.ne_of_lt (Nat.lt_of_lt_of_le lt_lb1 so34)
  have ne_b10_o34 : b10 ≠ o34 := Nat.ne_of_lt (Nat.lt_of_lt_of_le lt_b10 so34)
  have ne_b26_o34 : b26 ≠ o34 := Nat.ne_of_lt (Nat.lt_of_lt_of_le lt_b26 so34)
  have ge_b34 : n0 ≤ b34 := Nat.le_trans Zp33 sz34
  have sz_b34 : h0.size ≤ b34 := Nat.le_trans K32.1 sz34
  have ne_a1_b34 : a1 ≠ b34 := Nat.ne_of_lt (Nat.lt_of_lt_of_le lt_a1 sz34)
  have ne_pa_b34 : pa ≠ b34 := Nat.ne_of_lt (Nat.lt_of_lt_of_le lt_pa sz34)
  have ne_pb_b34 : pb ≠ b34 := Nat.ne_of_lt (Nat.lt_of_lt_of_le lt_pb sz34)
  have ne_a2_b34 : a2 ≠ b34 := Nat.ne_of_lt (Nat.lt_of_lt_of_le lt_a2 sz34)
  have ne_kb_b34 : kb ≠ b34 := Nat.ne_of_lt (Nat.lt_of_lt_of_le lt_kb sz34)
  have ne_la1_b34 : la1 ≠ b34 := Nat.ne_of_lt (Nat.lt_of_lt_of_le lt_la1 sz34)
  have ne_lb1_b34 : lb1 ≠ b34 := Nat.ne_of_lt (Nat.lt_of_lt_of_le lt_lb1 sz34)
  have ne_b10_b34 : b10 ≠ b34 := Nat.ne_of_lt (Nat.lt_of_lt_of_le lt_b10 sz34)
  have ne_b26_b34 : b26 ≠ b34 := Nat.ne_of_lt (Nat.lt_of_lt_of_le lt_b26 sz34)
  show GoesW p ee below s _ _ _ _ _ (T34.setTop (mkF m 97 #[vR a1, vR a2] [(.ref o34)]))
  refine GoesW.retA X34 hx hZ hEL C e34 Bd.notSynchronized Bd.returns rfl rfl (hb hby q71_97) (by decide) (by decide) ?_
  rw [e34]
  exact ⟨o34, b34, rfl, N35, K36, sz_o34, sz_b34, Ei34, Fv34, Fc34, A_b34, hl_30⟩
theorem ef_key (m : MethodId) (x0 : Addr) (x1 : Addr) (x2 : Addr) : entryFrame m #[(.ref x0), (.ref x1), (.ref x2)] 3 = mkF m 0 #[.val (.ref x0), .val (.ref x1), .val (.ref x2)] [] := by first | (simp [entryFrame, mkF, argsToLocals, Value.category]; done) | rfl
theorem q72_0 : decode c72_ 0 = .ok (.aload_n 2, 1) := by decide +kernel
theorem q72_1 : decode c72_ 1 = .ok (.bipush 125, 2) := by decide +kernel
theorem q72_3 : decode c72_ 3 = .ok (.invokevirtual 28, 3) := by decide +kernel
theorem q72_6 : decode c72_ 6 = .ok (.ifCond .lt 35, 3) := by decide +kernel
theorem q72_41 : decode c72_ 41 = .ok (.new 32, 3) := by decide +kernel
theorem q72_44 : decode c72_ 44 = .ok (.dup, 1) := by decide +kernel
theorem q72_45 : decode c72_ 45 = .ok (.invokespecial 34, 3) := by decide +kernel
theorem q72_48 : decode c72_ 48 = .ok (.aload_n 0, 1) := by decide +kernel
theorem q72_49 : decode c72_ 49 = .ok (.aload_n 1, 1) := by decide +kernel
theorem pd_42 : parseMethodDescriptor "(Ljava/lang/String;)Ljava/lang/String;" = some ⟨[(.object "java/lang/String")], some (.object "java/lang/String")⟩ := by decide +kernel
theorem q72_50 : decode c72_ 50 = .ok (.invokevirtual 55, 3) := by decide +kernel
theorem q72_53 : decode c72_ 53 = .ok (.invokevirtual 37, 3) := by decide +kernel
theorem q72_56 : decode c72_ 56 = .ok (.aload_n 2, 1) := by decide +kernel
theorem q72_57 : decode c72_ 57 = .ok (.invokevirtual 37, 3) := by decide +kernel
theorem q72_60 : decode c72_ 60 = .ok (.invokevirtual 44, 3) := by decide +kernel
theorem q72_63 : decode c72_ 63 = .ok (.areturn, 1) := by decide +kernel
def Q_key (Z : State) (cs : Int32) (fm : Value) (a1 a2 a3 pa pb kb sb : Addr) (pu ku su : Bool) (pn kn sn : Nat) (pc kc sc : Nat → Nat) (h0 : Heap) (n0 : Nat) (v : Option Value) (h : Heap) (L : List Loc) : Prop := ∃ (o b' : Addr), v = some (.ref o) ∧ Fr n0 L ∧ Keep h0 h [] ∧ h0.size ≤ o ∧ h0.size ≤ b' ∧ Exa Z h o "java/lang/String" ∧ Fld Z h o "java/lang/String" "value" "[B" (.ref b') ∧ Fld Z h o "java/lang/String" "coder" "B" (.int (own_cd ((false || ((false || pu) || ku)) || su))) ∧ OA Z h b' .byte (own_len ((false || ((false || pu) || ku)) || su) ((0 + ((((0 + pn) + 1) + kn) + 1)) + sn)) (own_by ((false || ((false || pu) || ku)) || su) (own_cat (0 + ((((0 + pn) + 1) + kn) + 1)) (own_cat 0 (fun _ => 0) (own_cat (((0 + pn) + 1) + kn) (own_cat ((0 + pn) + 1) (own_cat (0 + pn) (own_cat 0 (fun _ => 0) pc) (fun _ => 123)) kc) (fun _ => 125))) sc)) ∧ (((false || ((false || pu) || ku)) || su) = false → ∀ j, j < ((0 + ((((0 + pn) + 1) + kn) + 1)) + sn) → (own_cat (0 + ((((0 + pn) + 1) + kn) + 1)) (own_cat 0 (fun _ => 0) (own_cat (((0 + pn) + 1) + kn) (own_cat ((0 + pn) + 1) (own_cat (0 + pn) (own_cat 0 (fun _ => 0) pc) (fun _ => 123)) kc) (fun _ => 125))) sc) j < 256)
set_option maxRecDepth 65536 in
set_option maxHeartbeats 40000000 in
theorem rm_key (l : Launch) (Z : State) (a0 : Array Value) (hw : ∀ d ∈ tables_1, d.before a0 Z = true) (ws : List Jvm.Cond) (cs : Int32) (fm : Value) (a1 a2 a3 pa pb kb sb : Addr) (pu ku su : Bool) (pn kn sn : Nat) (pc kc sc : Nat → Nat) (h0 : Heap) (n0 : Nat) (Z0 : n0 ≤ h0.size) (ST : own_ST Z cs fm) (OO : Old Z n0 h0) (hpn : pn ≤ 2) (hkn : kn ≤ 2) (hk0 : 0 < kn) (hbr : kc 0 ≠ 125) (E : Exa Z h0 a1 "com/example/aliran/aliran/KeySpace") (F1 : Fld Z h0 a1 "com/example/aliran/aliran/KeySpace" "prefix" "Ljava/lang/String;" (.ref pa)) (PE : Exa Z h0 pa "java/lang/String") (PV : Fld Z h0 pa "java/lang/String" "value" "[B" (.ref pb)) (PC : Fld Z h0 pa "java/lang/String" "coder" "B" (.int (own_cd pu))) (PA : OA Z h0 pb .byte (own_len pu pn) (own_by pu pc)) (Pc : ∀ j, j < pn → pc j < 65536) (Pl : pu = false → ∀ j, j < pn → pc j < 256) (Pn : pn < 2 ^ 29) (KE : Exa Z h0 a2 "java/lang/String") (KV : Fld Z h0 a2 "java/lang/String" "value" "[B" (.ref kb)) (KC : Fld Z h0 a2 "java/lang/String" "coder" "B" (.int (own_cd ku))) (KA : OA Z h0 kb .byte (own_len ku kn) (own_by ku kc)) (Kc : ∀ j, j < kn → kc j < 65536) (Kl : ku = false → ∀ j, j < kn → kc j < 256) (Kn : kn < 2 ^ 29) (hsn : sn ≤ 2) (hy : ∀ j, j < sn → sc j ≠ 125) (SE : Exa Z h0 a3 "java/lang/String") (SV : Fld Z h0 a3 "java/lang/String" "value" "[B" (.ref sb)) (SC : Fld Z h0 a3 "java/lang/String" "coder" "B" (.int (own_cd su))) (SA : OA Z h0 sb .byte (own_len su sn) (own_by su sc)) (Sc : ∀ j, j < sn → sc j < 65536) (Sl : su = false → ∀ j, j < sn → sc j < 256) (Sn : sn < 2 ^ 29) :
    MetFree l (⟨"com/example/aliran/aliran/KeySpace", "key", "(Ljava/lang/String;Ljava/lang/String;)Ljava/lang/String;"⟩ : MethodName) (head1 (Jvm.Cond.code (⟨"com/example/aliran/aliran/KeySpace", "key", "(Ljava/lang/String;Ljava/lang/String;)Ljava/lang/String;"⟩ : MethodName) prog_5_method_2_code 3 (some (.object "java/lang/String")) :: ws) ({ frames := 11, cells := 14, slots := 272, locals := 157 } : Room)) (fun a U => a = #[(.ref a1), (.ref a2), (.ref a3)] ∧ Z.Warmed39 U.vm ∧ U.heap = h0 ∧ CHv Z consts_1 U.vm h0 ∧ ∀ x ∈ ([] : List Addr), Safe Z consts_1 U.vm h0 x) (fun _ _ _ _ _ => True) (fun _ U o U' => ∃ v L, o = .returned v ∧ Q_key Z cs fm a1 a2 a3 pa pb kb sb pu ku su pn kn sn pc kc sc h0 n0 v U'.heap L ∧ CHr Z consts_1 U.vm U.heap U'.vm U'.heap ∧ ReturnedEndW U o U' L ({ frames := 11, cells := 14, slots := 272, locals := 157 } : Room).cells ({ frames := 11, cells := 14, slots := 272, locals := 157 } : Room).slots) := by
  refine MetFree.of_bodySF (plainFor_of_name pn_com_example_aliran_aliran_KeySpace) hisR ?_
  intro p ee s m args below meth cc s₁ Bd hml0 hP hK
  obtain ⟨rfl, hZ, hh, H, hsf⟩ := hP
  have hx := Bd.exec
  have hby := Bd.bytes
  have hml : cc.maxLocals = 3 := hml0
  have hown : (s.setVm s.vm).vm.findClass "com/example/aliran/aliran/KeySpace" = some m.cls := findClass_of_methodNamed Bd.named
  have hnm := (name_of_methodNamed Bd.named Bd.method).1
  have X0 : Stand p l ee ({ frames := 11, cells := 14, slots := 272, locals := 157 } : Room) (s.setVm s.vm) m #[(.ref a1), (.ref a2), (.ref a3)] below meth cc s₁ [] 0 0 := Stand.of_body Bd
  have e0 : s₁.heap = h0 := by rw [← hh, Bd.state]; rfl
  have N0 := Fr.nil n0
  have hEL := own_EW hw
  have hZ : Z.Warmed39 (s.setVm s.vm).vm := hZ
  have C : Cold Z consts_1 s s.vm h0 := by rw [← hh]; exact Cold.start (by rw [hh]; exact H)
  show GoesW p ee below s ({ frames := 11, cells := 14, slots := 272, locals := 157 } : Room).cells ({ frames := 11, cells := 14, slots := 272, locals := 157 } : Room).slots Z consts_1 (Q_key Z cs fm a1 a2 a3 pa pb kb sb pu ku su pn kn sn pc kc sc h0 n0) (s₁.setTop (entryFrame m #[(.ref a1), (.ref a2), (.ref a3)] 3))
  refine gW (fun _ r => castTop (ef_key m a1 a2 a3) r) ?_
  show GoesW p ee below s _ _ _ _ _ (s₁.setTop (mkF m 0 #[vR a1, vR a2, vR a3] []))
  have K0 := Keep.refl h0 ([] : List Addr)
  refine gW (fun _ r => XS.aloadN X0.here hx rfl (hb hby q72_0) rfl rfl r) ?_
  refine gW (fun _ r => XS.bipush X0.here hx rfl (hb hby q72_1) r) ?_
  have lt_a1 := E.lt
  have lt_pa := PE.lt
  have lt_pb := PA.lt
  have lt_a2 := KE.lt
  have lt_kb := KA.lt
  have lt_a3 := SE.lt
  have lt_sb := SA.lt
  obtain ⟨v1, T1, L1, X1, hQ1, st1⟩ := own_callV X0 hx hZ (y := (⟨"java/lang/String", "indexOf", "(I)I"⟩ : MethodName)) hown (own_w hw 77 rfl) (own_w hw 78 rfl) (own_w hw 80 rfl) (own_w hw 79 rfl) (own_w hw 10 rfl) (own_w hw 81 rfl) (by decide) (a := a3) (argsL := [(.int (125 : Int32))]) (rm_sio1 l Z a0 hw [] cs fm a3 sb su sn sc 125 h0 n0 Z0 ST OO (by decide) hy Sc Sl Sn SE SV SC SA) e0 SE (W := 0) (by decide) (by decide) (by decide) (by decide) (g := (mkF m 3 #[vR a1, vR a2, vR a3] [(.int (125 : Int32)), (.ref a3)])) rfl (by rw [hml]; rfl) (rest := []) (lenOf pd_7 rfl) rfl (by show 2 * 0 + _ ≤ _; exact Nat.le_of_eq rfl) (hb hby q72_3)
  refine gW st1 ?_
  obtain ⟨rfl, N1, e1⟩ := hQ1
  have N2 := Fr.app N0 N1
  refine gW (fun _ r => XS.ifYes X1.here hx rfl (pc0 := 6) (pc' := 41) rfl (hb hby q72_6) rfl ((if0 _ _).trans (tlt (by decide)).1) (by decide) (by decide) r) ?_
  show GoesW p ee below s _ _ _ _ _ (T1.setTop (mkF m 41 #[vR a1, vR a2, vR a3] []))
  obtain ⟨T3, h3, X3, e3, E3, A3, D3, -, st3⟩ := newO X1 hx hZ hown (own_w hw 125 rfl) (own_w hw 126 rfl) (own_w hw 127 rfl) e1 (g := (mkF m 41 #[vR a1, vR a2, vR a3] [])) rfl (hb hby q72_41) (by decide) (by decide)
  obtain ⟨b3, g_b3⟩ : ∃ z, z = h0.size := ⟨_, rfl⟩
  have ne_a1_b3 : a1 ≠ b3 := Nat.ne_of_lt (Nat.lt_of_lt_of_le E.lt (Nat.le_of_eq g_b3.symm))
  have ne_pa_b3 : pa ≠ b3 := Nat.ne_of_lt (Nat.lt_of_lt_of_le PE.lt (Nat.le_of_eq g_b3.symm))
  have ne_pb_b3 : pb ≠ b3 := Nat.ne_of_lt (Nat.lt_of_lt_of_le PA.lt (Nat.le_of_eq g_b3.symm))
  have ne_a2_b3 : a2 ≠ b3 := Nat.ne_of_lt (Nat.lt_of_lt_of_le KE.lt (Nat.le_of_eq g_b3.symm))
  have ne_kb_b3 : kb ≠ b3 := Nat.ne_of_lt (Nat.lt_of_lt_of_le KA.lt (Nat.le_of_eq g_b3.symm))
  have ne_a3_b3 : a3 ≠ b3 := Nat.ne_of_lt (Nat.lt_of_lt_of_le SE.lt (Nat.le_of_eq g_b3.symm))
  have ne_sb_b3 : sb ≠ b3 := Nat.ne_of_lt (Nat.lt_of_lt_of_le SA.lt (Nat.le_of_eq g_b3.symm))
  have ge_b3 : n0 ≤ b3 := Nat.le_trans Z0 (Nat.le_of_eq g_b3.symm)
  have sz_b3 : h0.size ≤ b3 := Nat.le_trans K0.1 (Nat.le_of_eq g_b3.symm)
  rw [← g_b3] at A3 D3 st3
  have E := E.ext E3
  have F1 := F1.ext E3
  have PE := PE.ext E3
  have PV := PV.ext E3
  have PC := PC.ext E3
  have PA := PA.ext E3
  have KE := KE.ext E3
  have KV := KV.ext E3
  have KC := KC.ext E3
  have KA := KA.ext E3
  have SE := SE.ext E3
  have SV := SV.ext E3
  have SC := SC.ext E3
  have SA := SA.ext E3
  have Zp4 := Nat.le_trans Z0 E3.1
  have sf_b3 := Safe.ext E3 C.chv (Safe.new (Nat.le_of_eq g_b3.symm))
  have C := C.ext E3
  have OO := OO.ext E3
  have K5 := K0.ext E3
  refine gW st3 ?_
  have E_b3 := A3
  have F_value_b3 : Fld Z h3 b3 "java/lang/AbstractStringBuilder" "value" "[B" .null := D3 (Or.inl (own_w hw 140 rfl)) (ty := (.array .byte)) (by decide)
  have F_coder_b3 : Fld Z h3 b3 "java/lang/AbstractStringBuilder" "coder" "B" (.int (0 : Int32)) := D3 (Or.inl (own_w hw 142 rfl)) (ty := .byte) (by decide)
  have F_count_b3 : Fld Z h3 b3 "java/lang/AbstractStringBuilder" "count" "I" (.int (0 : Int32)) := D3 (Or.inl (own_w hw 176 rfl)) (ty := .int) (by decide)
  have F_maybeLatin1_b3 : Fld Z h3 b3 "java/lang/AbstractStringBuilder" "maybeLatin1" "Z" (.int (0 : Int32)) := D3 (Or.inl (own_w hw 331 rfl)) (ty := .boolean) (by decide)
  show GoesW p ee below s _ _ _ _ _ (T3.setTop (mkF m 44 #[vR a1, vR a2, vR a3] [(.ref b3)]))
  refine gW (fun _ r => XS.dup X3.here hx rfl (hb hby q72_44) rfl rfl r) ?_
  have lt_a1 := E.lt
  have lt_pa := PE.lt
  have lt_pb := PA.lt
  have lt_a2 := KE.lt
  have lt_kb := KA.lt
  have lt_a3 := SE.lt
  have lt_sb := SA.lt
  have lt_b3 := E_b3.lt
  obtain ⟨v6, T6, L6, X6, hQ6, st6⟩ := own_callN X3 hx hZ (y := (⟨"java/lang/StringBuilder", "<init>", "()V"⟩ : MethodName)) rfl hown (own_w hw 128 rfl) (own_w hw 129 rfl) (own_w hw 127 rfl) (own_w hw 130 rfl) (by decide) (a := b3) (argsL := []) (rm_sbi l Z a0 hw [] cs fm b3 _ _ h3 n0 Zp4 ST OO ge_b3 E_b3 F_value_b3 F_coder_b3 F_count_b3 F_maybeLatin1_b3) e3 (W := 1) (by decide) (by decide) (by decide) (by decide) (g := (mkF m 45 #[vR a1, vR a2, vR a3] [(.ref b3), (.ref b3)])) rfl (by rw [hml]; rfl) (rest := [(.ref b3)]) (lenOf pd_20 rfl) rfl (by show 2 * 0 + _ ≤ _; exact Nat.le_of_eq rfl) (hb hby q72_45)
  refine gW st6 ?_
  obtain ⟨rfl, N6, Kc6, b6, sz6, B6, A_b6⟩ := hQ6
  have sf_b6 : Safe Z consts_1 s.vm h3 b6 := Safe.new sz6
  have N7 := Fr.app N2 N6
  obtain ⟨h6, e6⟩ : ∃ h', T6.heap = h' := ⟨_, rfl⟩
  rw [e6] at Kc6 B6 A_b6
  have E := E.keep Kc6
  have F1 := F1.keep Kc6 (ninS ne_a1_b3 nin0)
  have PE := PE.keep Kc6
  have PV := PV.keep Kc6 (ninS ne_pa_b3 nin0)
  have PC := PC.keep Kc6 (ninS ne_pa_b3 nin0)
  have PA := PA.keep Kc6 (ninS ne_pb_b3 nin0)
  have KE := KE.keep Kc6
  have KV := KV.keep Kc6 (ninS ne_a2_b3 nin0)
  have KC := KC.keep Kc6 (ninS ne_a2_b3 nin0)
  have KA := KA.keep Kc6 (ninS ne_kb_b3 nin0)
  have SE := SE.keep Kc6
  have SV := SV.keep Kc6 (ninS ne_a3_b3 nin0)
  have SC := SC.keep Kc6 (ninS ne_a3_b3 nin0)
  have SA := SA.keep Kc6 (ninS ne_sb_b3 nin0)
  have hsk := (sfS sf_b3 sf0)
  have sf_b3 := Safe.keep Kc6 hsk C.chv sf_b3
  have sf_b6 := Safe.keep Kc6 hsk C.chv sf_b6
  have C := C.keep Kc6 hsk
  have OO := OO.keep Kc6 (allS ge_b3 all0)
  have K8 := K5.trans Kc6 (allS (Or.inr sz_b3) all0)
  have Zp9 := Nat.le_trans Zp4 Kc6.1
  have ge_b6 : n0 ≤ b6 := Nat.le_trans Zp4 sz6
  have sz_b6 : h0.size ≤ b6 := Nat.le_trans K5.1 sz6
  have ne_a1_b6 : a1 ≠ b6 := Nat.ne_of_lt (Nat.lt_of_lt_of_le lt_a1 sz6)
  have ne_pa_b6 : pa ≠ b6 := Nat.ne_of_lt (Nat.lt_of_lt_of_le lt_pa sz6)
  have ne_pb_b6 : pb ≠ b6 := Nat.ne_of_lt (Nat.lt_of_lt_of_le lt_pb sz6)
  have ne_a2_b6 : a2 ≠ b6 := Nat.ne_of_lt (Nat.lt_of_lt_of_le lt_a2 sz6)
  have ne_kb_b6 : kb ≠ b6 := Nat.ne_of_lt (Nat.lt_of_lt_of_le lt_kb sz6)
  have ne_a3_b6 : a3 ≠ b6 := Nat.ne_of_lt (Nat.lt_of_lt_of_le lt_a3 sz6)
  have ne_sb_b6 : sb ≠ b6 := Nat.ne_of_lt (Nat.lt_of_lt_of_le lt_sb sz6)
  have ne_b3_b6 : b3 ≠ b6 := Nat.ne_of_lt (Nat.lt_of_lt_of_le lt_b3 sz6)
  obtain ⟨E6, FV6, FC6, FN6, FM6⟩ := B6
  refine gW (fun _ r => XS.aloadN X6.here hx rfl (hb hby q72_48) rfl rfl r) ?_
  refine gW (fun _ r => XS.aloadN X6.here hx rfl (hb hby q72_49) rfl rfl r) ?_
  have lt_a1 := E.lt
  have lt_pa := PE.lt
  have lt_pb := PA.lt
  have lt_a2 := KE.lt
  have lt_kb := KA.lt
  have lt_a3 := SE.lt
  have lt_sb := SA.lt
  have lt_b3 := E6.lt
  have lt_b6 := A_b6.lt
  obtain ⟨v10, vm10, T10, L10, ⟨X10, Cn10, hZ, hown, hsaf10⟩, hQ10, st10⟩ := own_callVW X6 hx hZ hEL C (y := (⟨"com/example/aliran/aliran/KeySpace", "tagged", "(Ljava/lang/String;)Ljava/lang/String;"⟩ : MethodName)) hown (own_w hw 143 rfl) (own_declares (own_w hw 144 rfl) (own_w hw 146 rfl)) (own_selPriv (y := (⟨"com/example/aliran/aliran/KeySpace", "tagged", "(Ljava/lang/String;)Ljava/lang/String;"⟩ : MethodName)) (own_w hw 56 rfl) (own_w hw 145 rfl) (own_w hw 144 rfl) (by decide)) (own_w hw 144 rfl) (own_w hw 57 rfl) (own_w hw 146 rfl) (by decide) (a := a1) (argsL := [(.ref a2)]) (ws := []) (fun _ q => nomatch q) (rm_tag l Z a0 hw [] cs fm a1 a2 pa pb kb pu ku pn kn pc kc h6 n0 Zp9 ST OO hpn hkn hk0 hbr E F1 PE PV PC PA Pc Pl Pn KE KV KC KA Kc Kl Kn) e6 E (W := 1) (by decide) (by decide) (by decide) (by decide) (g := (mkF m 50 #[vR a1, vR a2, vR a3] [(.ref a2), (.ref a1), (.ref b3)])) rfl (by rw [hml]; rfl) (rest := [(.ref b3)]) (lenOf pd_42 rfl) rfl (by show 2 * 0 + _ ≤ _; exact Nat.le_of_eq rfl) (hb hby q72_50)
  refine gW st10 ?_
  obtain ⟨o10, b10, rfl, N10, Kc10, so10, sz10, Ei10, Fv10, Fc10, A_b10, hlu10⟩ := hQ10
  have N11 := Fr.app N7 N10
  obtain ⟨h10, e10⟩ : ∃ h', T10.heap = h' := ⟨_, rfl⟩
  rw [e10] at Kc10 Cn10 hsaf10 Ei10 Fv10 Fc10 A_b10
  have sf_b3 := hsaf10 b3 lt_b3 sf_b3
  have sf_b6 := hsaf10 b6 lt_b6 sf_b6
  have C := Cn10
  have E := E.keep Kc10
  have F1 := F1.keep Kc10 nin0
  have PE := PE.keep Kc10
  have PV := PV.keep Kc10 nin0
  have PC := PC.keep Kc10 nin0
  have PA := PA.keep Kc10 nin0
  have KE := KE.keep Kc10
  have KV := KV.keep Kc10 nin0
  have KC := KC.keep Kc10 nin0
  have KA := KA.keep Kc10 nin0
  have SE := SE.keep Kc10
  have SV := SV.keep Kc10 nin0
  have SC := SC.keep Kc10 nin0
  have SA := SA.keep Kc10 nin0
  have E6 := E6.keep Kc10
  have FV6 := FV6.keep Kc10 nin0
  have FC6 := FC6.keep Kc10 nin0
  have FN6 := FN6.keep Kc10 nin0
  have FM6 := FM6.keep Kc10 nin0
  have A_b6 := A_b6.keep Kc10 nin0
  have OO := OO.keep Kc10 all0
  have K12 := K8.trans Kc10 all0
  have Zp13 := Nat.le_trans Zp9 Kc10.1
  have ge_o10 : n0 ≤ o10 := Nat.le_trans Zp9 so10
  have sz_o10 : h0.size ≤ o10 := Nat.le_trans K8.1 so10
  have ne_a1_o10 : a1 ≠ o10 := Nat.ne_of_lt (Nat.lt_of_lt_of_le lt_a1 so10)
  have ne_pa_o10 : pa ≠ o10 := Nat.ne_of_lt (Nat.lt_of_lt_of_le lt_pa so10)
  have ne_pb_o10 : pb ≠ o10 := Nat.ne_of_lt (Nat.lt_of_lt_of_le lt_pb so10)
  have ne_a2_o10 : a2 ≠ o10 := Nat.ne_of_lt (Nat.lt_of_lt_of_le lt_a2 so10)
  have ne_kb_o10 : kb ≠ o10 := Nat.ne_of_lt (Nat.lt_of_lt_of_le lt_kb so10)
  have ne_a3_o10 : a3 ≠ o10 := Nat.ne_of_lt (Nat.lt_of_lt_of_le lt_a3 so10)
  have ne_sb_o10 : sb ≠ o10 := Nat.ne_of_lt (Nat.lt_of_lt_of_le lt_sb so10)
  have ne_b3_o10 : b3 ≠ o10 := Nat.ne_of_lt (Nat.lt_of_lt_of_le lt_b3 so10)
  have ne_b6_o10 : b6 ≠ o10 := Nat.ne_of_lt (Nat.lt_of_lt_of_le lt_b6 so10)
  have ge_b10 : n0 ≤ b10 := Nat.le_trans Zp9 sz10
  have sz_b10 : h0.size ≤ b10 := Nat.le_trans K8.1 sz10
  have ne_a1_b10 : a1 ≠ b10 := Nat.ne_of_lt (Nat.lt_of_lt_of_le lt_a1 sz10)
  have ne_pa_b10 : pa ≠ b10 := Nat.ne_of_lt (Nat.lt_of_lt_of_le lt_pa sz10)
  have ne_pb_b10 : pb ≠ b10 := Nat.ne_of_lt (Nat.lt_of_lt_of_le lt_pb sz10)
  have ne_a2_b10 : a2 ≠ b10 := Nat.ne_of_lt (Nat.lt_of_lt_of_le lt_a2 sz10)
  have ne_kb_b10 : kb ≠ b10 := Nat.ne_of_lt (Nat.lt_of_lt_of_le lt_kb sz10)
  have ne_a3_b10 : a3 ≠ b10 := Nat.ne_of_lt (Nat.lt_of_lt_of_le lt_a3 sz10)
  have ne_sb_b10 : sb ≠ b10 := Nat.ne_of_lt (Nat.lt_of_lt_of_le lt_sb sz10)
  have ne_b3_b10 : b3 ≠ b10 := Nat.ne_of_lt (Nat.lt_of_lt_of_le lt_b3 sz10)
  have ne_b6_b10 : b6 ≠ b10 := Nat.ne_of_lt (Nat.lt_of_lt_of_le lt_b6 sz10)
  have lt_a1 := E.lt
  have lt_pa := PE.lt
  have lt_pb := PA.lt
  have lt_a2 := KE.lt
  have lt_kb := KA.lt
  have lt_a3 := SE.lt
  have lt_sb := SA.lt
  have lt_b3 := E6.lt
  have lt_b6 := A_b6.lt
  have lt_o10 := Ei10.lt
  have lt_b10 := A_b10.lt
  obtain ⟨v14, T14, L14, X14, hQ14, st14⟩ := own_callV X10 hx hZ (y := (⟨"java/lang/StringBuilder", "append", "(Ljava/lang/String;)Ljava/lang/StringBuilder;"⟩ : MethodName)) hown (own_w hw 164 rfl) (own_w hw 165 rfl) (own_w hw 167 rfl) (own_w hw 166 rfl) (own_w hw 127 rfl) (own_w hw 168 rfl) (by decide) (a := b3) (argsL := [(.ref o10)]) (rm_sas l Z a0 hw [] cs fm b3 o10 b6 b10 false ((false || pu) || ku) 0 ((((0 + pn) + 1) + kn) + 1) (fun _ => 0) (own_cat (((0 + pn) + 1) + kn) (own_cat ((0 + pn) + 1) (own_cat (0 + pn) (own_cat 0 (fun _ => 0) pc) (fun _ => 123)) kc) (fun _ => 125)) (fun _ => .int 0) h10 n0 Zp13 ST OO (by omega) (fun _ j hj => absurd hj (Nat.not_lt_zero j)) hlu10 ge_b3 ge_b6 ne_b3_b6 ne_b3_o10 ne_b3_b10 ne_b6_o10 ne_b6_b10 ⟨E6, FV6, FC6, FN6, FM6⟩ A_b6 (fun j hj => absurd hj (Nat.not_lt_zero j)) Ei10 Fv10 Fc10 A_b10) e10 E6 (W := 0) (by decide) (by decide) (by decide) (by decide) (g := (mkF m 53 #[vR a1, vR a2, vR a3] [(.ref o10), (.ref b3)])) rfl (by rw [hml]; rfl) (rest := []) (lenOf pd_39 rfl) rfl (by show 2 * 0 + _ ≤ _; exact Nat.le_of_eq rfl) (hb hby q72_53)
  refine gW st14 ?_
  obtain ⟨rfl, N14, Kc14, b14, f14, hb14, B14, A_b14, hf14⟩ := hQ14
  have ge_b14 : n0 ≤ b14 := own_ge2 hb14 ge_b6 Zp13
  have kx_b14 := own_kx (ws := []) hb14 (Or.inr sz_b6) K12.1
  have ne_a1_b14 : a1 ≠ b14 := own_ne2 hb14 ne_a1_b6 lt_a1
  have ne_pa_b14 : pa ≠ b14 := own_ne2 hb14 ne_pa_b6 lt_pa
  have ne_pb_b14 : pb ≠ b14 := own_ne2 hb14 ne_pb_b6 lt_pb
  have ne_a2_b14 : a2 ≠ b14 := own_ne2 hb14 ne_a2_b6 lt_a2
  have ne_kb_b14 : kb ≠ b14 := own_ne2 hb14 ne_kb_b6 lt_kb
  have ne_a3_b14 : a3 ≠ b14 := own_ne2 hb14 ne_a3_b6 lt_a3
  have ne_sb_b14 : sb ≠ b14 := own_ne2 hb14 ne_sb_b6 lt_sb
  have ne_b3_b14 : b3 ≠ b14 := own_ne2 hb14 ne_b3_b6 lt_b3
  have ne_o10_b14 : o10 ≠ b14 := own_ne2 hb14 (Ne.symm ne_b6_o10) lt_o10
  have ne_b10_b14 : b10 ≠ b14 := own_ne2 hb14 (Ne.symm ne_b6_b10) lt_b10
  have sf_b14 := own_sf2 hb14 sf_b6
  have N15 := Fr.app N11 N14
  obtain ⟨h14, e14⟩ : ∃ h', T14.heap = h' := ⟨_, rfl⟩
  rw [e14] at Kc14 B14 A_b14
  have E := E.keep Kc14
  have F1 := F1.keep Kc14 (ninS ne_a1_b3 (ninS ne_a1_b6 nin0))
  have PE := PE.keep Kc14
  have PV := PV.keep Kc14 (ninS ne_pa_b3 (ninS ne_pa_b6 nin0))
  have PC := PC.keep Kc14 (ninS ne_pa_b3 (ninS ne_pa_b6 nin0))
  have PA := PA.keep Kc14 (ninS ne_pb_b3 (ninS ne_pb_b6 nin0))
  have KE := KE.keep Kc14
  have KV := KV.keep Kc14 (ninS ne_a2_b3 (ninS ne_a2_b6 nin0))
  have KC := KC.keep Kc14 (ninS ne_a2_b3 (ninS ne_a2_b6 nin0))
  have KA := KA.keep Kc14 (ninS ne_kb_b3 (ninS ne_kb_b6 nin0))
  have SE := SE.keep Kc14
  have SV := SV.keep Kc14 (ninS ne_a3_b3 (ninS ne_a3_b6 nin0))
  have SC := SC.keep Kc14 (ninS ne_a3_b3 (ninS ne_a3_b6 nin0))
  have SA := SA.keep Kc14 (ninS ne_sb_b3 (ninS ne_sb_b6 nin0))
  have Ei10 := Ei10.keep Kc14
  have Fv10 := Fv10.keep Kc14 (ninS (Ne.symm ne_b3_o10) (ninS (Ne.symm ne_b6_o10) nin0))
  have Fc10 := Fc10.keep Kc14 (ninS (Ne.symm ne_b3_o10) (ninS (Ne.symm ne_b6_o10) nin0))
  have A_b10 := A_b10.keep Kc14 (ninS (Ne.symm ne_b3_b10) (ninS (Ne.symm ne_b6_b10) nin0))
  have hsk := (sfS sf_b3 (sfS sf_b6 sf0))
  have sf_b3 := Safe.keep Kc14 hsk C.chv sf_b3
  have sf_b6 := Safe.keep Kc14 hsk C.chv sf_b6
  have sf_b14 := Safe.keep Kc14 hsk C.chv sf_b14
  have C := C.keep Kc14 hsk
  have OO := OO.keep Kc14 (allS ge_b3 (allS ge_b6 all0))
  have K16 := K12.trans Kc14 (allS (Or.inr sz_b3) (allS (Or.inr sz_b6) all0))
  have Zp17 := Nat.le_trans Zp13 Kc14.1
  obtain ⟨E14, FV14, FC14, FN14, FM14⟩ := B14
  have hl_b14 : (false || ((false || pu) || ku)) = false → ∀ j, j < (0 + ((((0 + pn) + 1) + kn) + 1)) → own_cat 0 (fun _ => 0) (own_cat (((0 + pn) + 1) + kn) (own_cat ((0 + pn) + 1) (own_cat (0 + pn) (own_cat 0 (fun _ => 0) pc) (fun _ => 123)) kc) (fun _ => 125)) j < 256 := fun e1 => own_cat_all (P := (· < 256)) ((fun _ j hj => absurd hj (Nat.not_lt_zero j)) (own_or1 e1)) (hlu10 (own_or2 e1))
  show GoesW p ee below s _ _ _ _ _ (T14.setTop (mkF m 56 #[vR a1, vR a2, vR a3] [(.ref b3)]))
  refine gW (fun _ r => XS.aloadN X14.here hx rfl (hb hby q72_56) rfl rfl r) ?_
  have lt_a1 := E.lt
  have lt_pa := PE.lt
  have lt_pb := PA.lt
  have lt_a2 := KE.lt
  have lt_kb := KA.lt
  have lt_a3 := SE.lt
  have lt_sb := SA.lt
  have lt_o10 := Ei10.lt
  have lt_b10 := A_b10.lt
  have lt_b3 := E14.lt
  have lt_b14 := A_b14.lt
  obtain ⟨v18, T18, L18, X18, hQ18, st18⟩ := own_callV X14 hx hZ (y := (⟨"java/lang/StringBuilder", "append", "(Ljava/lang/String;)Ljava/lang/StringBuilder;"⟩ : MethodName)) hown (own_w hw 164 rfl) (own_w hw 165 rfl) (own_w hw 167 rfl) (own_w hw 166 rfl) (own_w hw 127 rfl) (own_w hw 168 rfl) (by decide) (a := b3) (argsL := [(.ref a3)]) (rm_sas l Z a0 hw [] cs fm b3 a3 b14 sb (false || ((false || pu) || ku)) su (0 + ((((0 + pn) + 1) + kn) + 1)) sn (own_cat 0 (fun _ => 0) (own_cat (((0 + pn) + 1) + kn) (own_cat ((0 + pn) + 1) (own_cat (0 + pn) (own_cat 0 (fun _ => 0) pc) (fun _ => 123)) kc) (fun _ => 125))) sc f14 h14 n0 Zp17 ST OO (by omega) hl_b14 Sl ge_b3 ge_b14 ne_b3_b14 (Ne.symm ne_a3_b3) (Ne.symm ne_sb_b3) (Ne.symm ne_a3_b14) (Ne.symm ne_sb_b14) ⟨E14, FV14, FC14, FN14, FM14⟩ A_b14 hf14 SE SV SC SA) e14 E14 (W := 0) (by decide) (by decide) (by decide) (by decide) (g := (mkF m 57 #[vR a1, vR a2, vR a3] [(.ref a3), (.ref b3)])) rfl (by rw [hml]; rfl) (rest := []) (lenOf pd_39 rfl) rfl (by show 2 * 0 + _ ≤ _; exact Nat.le_of_eq rfl) (hb hby q72_57)
  refine gW st18 ?_
  obtain ⟨rfl, N18, Kc18, b18, f18, hb18, B18, A_b18, hf18⟩ := hQ18
  have ge_b18 : n0 ≤ b18 := own_ge2 hb18 ge_b14 Zp17
  have kx_b18 := own_kx (ws := []) hb18 kx_b14 K16.1
  have ne_a1_b18 : a1 ≠ b18 := own_ne2 hb18 ne_a1_b14 lt_a1
  have ne_pa_b18 : pa ≠ b18 := own_ne2 hb18 ne_pa_b14 lt_pa
  have ne_pb_b18 : pb ≠ b18 := own_ne2 hb18 ne_pb_b14 lt_pb
  have ne_a2_b18 : a2 ≠ b18 := own_ne2 hb18 ne_a2_b14 lt_a2
  have ne_kb_b18 : kb ≠ b18 := own_ne2 hb18 ne_kb_b14 lt_kb
  have ne_a3_b18 : a3 ≠ b18 := own_ne2 hb18 ne_a3_b14 lt_a3
  have ne_sb_b18 : sb ≠ b18 := own_ne2 hb18 ne_sb_b14 lt_sb
  have ne_o10_b18 : o10 ≠ b18 := own_ne2 hb18 ne_o10_b14 lt_o10
  have ne_b10_b18 : b10 ≠ b18 := own_ne2 hb18 ne_b10_b14 lt_b10
  have ne_b3_b18 : b3 ≠ b18 := own_ne2 hb18 ne_b3_b14 lt_b3
  have sf_b18 := own_sf2 hb18 sf_b14
  have N19 := Fr.app N15 N18
  obtain ⟨h18, e18⟩ : ∃ h', T18.heap = h' := ⟨_, rfl⟩
  rw [e18] at Kc18 B18 A_b18
  have E := E.keep Kc18
  have F1 := F1.keep Kc18 (ninS ne_a1_b3 (ninS ne_a1_b14 nin0))
  have PE := PE.keep Kc18
  have PV := PV.keep Kc18 (ninS ne_pa_b3 (ninS ne_pa_b14 nin0))
  have PC := PC.keep Kc18 (ninS ne_pa_b3 (ninS ne_pa_b14 nin0))
  have PA := PA.keep Kc18 (ninS ne_pb_b3 (ninS ne_pb_b14 nin0))
  have KE := KE.keep Kc18
  have KV := KV.keep Kc18 (ninS ne_a2_b3 (ninS ne_a2_b14 nin0))
  have KC := KC.keep Kc18 (ninS ne_a2_b3 (ninS ne_a2_b14 nin0))
  have KA := KA.keep Kc18 (ninS ne_kb_b3 (ninS ne_kb_b14 nin0))
  have SE := SE.keep Kc18
  have SV := SV.keep Kc18 (ninS ne_a3_b3 (ninS ne_a3_b14 nin0))
  have SC := SC.keep Kc18 (ninS ne_a3_b3 (ninS ne_a3_b14 nin0))
  have SA := SA.keep Kc18 (ninS ne_sb_b3 (ninS ne_sb_b14 nin0))
  have Ei10 := Ei10.keep Kc18
  have Fv10 := Fv10.keep Kc18 (ninS (Ne.symm ne_b3_o10) (ninS ne_o10_b14 nin0))
  have Fc10 := Fc10.keep Kc18 (ninS (Ne.symm ne_b3_o10) (ninS ne_o10_b14 nin0))
  have A_b10 := A_b10.keep Kc18 (ninS (Ne.symm ne_b3_b10) (ninS ne_b10_b14 nin0))
  have hsk := (sfS sf_b3 (sfS sf_b14 sf0))
  have sf_b3 := Safe.keep Kc18 hsk C.chv sf_b3
  have sf_b14 := Safe.keep Kc18 hsk C.chv sf_b14
  have sf_b18 := Safe.keep Kc18 hsk C.chv sf_b18
  have C := C.keep Kc18 hsk
  have OO := OO.keep Kc18 (allS ge_b3 (allS ge_b14 all0))
  have K20 := K16.trans Kc18 (allS (Or.inr sz_b3) (allS kx_b14 all0))
  have Zp21 := Nat.le_trans Zp17 Kc18.1
  obtain ⟨E18, FV18, FC18, FN18, FM18⟩ := B18
  have hl_b18 : ((false || ((false || pu) || ku)) || su) = false → ∀ j, j < ((0 + ((((0 + pn) + 1) + kn) + 1)) + sn) → own_cat (0 + ((((0 + pn) + 1) + kn) + 1)) (own_cat 0 (fun _ => 0) (own_cat (((0 + pn) + 1) + kn) (own_cat ((0 + pn) + 1) (own_cat (0 + pn) (own_cat 0 (fun _ => 0) pc) (fun _ => 123)) kc) (fun _ => 125))) sc j < 256 := fun e1 => own_cat_all (P := (· < 256)) (hl_b14 (own_or1 e1)) (Sl (own_or2 e1))
  have lt_a1 := E.lt
  have lt_pa := PE.lt
  have lt_pb := PA.lt
  have lt_a2 := KE.lt
  have lt_kb := KA.lt
  have lt_a3 := SE.lt
  have lt_sb := SA.lt
  have lt_o10 := Ei10.lt
  have lt_b10 := A_b10.lt
  have lt_b3 := E18.lt
  have lt_b18 := A_b18.lt
  obtain ⟨v22, T22, L22, X22, hQ22, st22⟩ := own_callV X18 hx hZ (y := (⟨"java/lang/StringBuilder", "toString", "()Ljava/lang/String;"⟩ : MethodName)) hown (own_w hw 217 rfl) (own_w hw 218 rfl) (own_w hw 220 rfl) (own_w hw 219 rfl) (own_w hw 127 rfl) (own_w hw 221 rfl) (by decide) (a := b3) (argsL := []) (rm_sts l Z a0 hw [] cs fm b3 b18 ((false || ((false || pu) || ku)) || su) ((0 + ((((0 + pn) + 1) + kn) + 1)) + sn) (own_cat (0 + ((((0 + pn) + 1) + kn) + 1)) (own_cat 0 (fun _ => 0) (own_cat (((0 + pn) + 1) + kn) (own_cat ((0 + pn) + 1) (own_cat (0 + pn) (own_cat 0 (fun _ => 0) pc) (fun _ => 123)) kc) (fun _ => 125))) sc) f18 h18 n0 Zp21 ST OO (by omega) ⟨E18, FV18, FC18, FN18, FM18⟩ A_b18 hf18) e18 E18 (W := 0) (by decide) (by decide) (by decide) (by decide) (g := (mkF m 60 #[vR a1, vR a2, vR a3] [(.ref b3)])) rfl (by rw [hml]; rfl) (rest := []) (lenOf pd_41 rfl) rfl (by show 2 * 0 + _ ≤ _; exact Nat.le_of_eq rfl) (hb hby q72_60)
  refine gW st22 ?_
  obtain ⟨o22, b22, rfl, N22, Kc22, so22, sz22, Ei22, Fv22, Fc22, A_b22⟩ := hQ22
  have N23 := Fr.app N19 N22
  obtain ⟨h22, e22⟩ : ∃ h', T22.heap = h' := ⟨_, rfl⟩
  rw [e22] at Kc22 Ei22 Fv22 Fc22 A_b22
  have E := E.keep Kc22
  have F1 := F1.keep Kc22 nin0
  have PE := PE.keep Kc22
  have PV := PV.keep Kc22 nin0
  have PC := PC.keep Kc22 nin0
  have PA := PA.keep Kc22 nin0
  have KE := KE.keep Kc22
  have KV := KV.keep Kc22 nin0
  have KC := KC.keep Kc22 nin0
  have KA := KA.keep Kc22 nin0
  have SE := SE.keep Kc22
  have SV := SV.keep Kc22 nin0
  have SC := SC.keep Kc22 nin0
  have SA := SA.keep Kc22 nin0
  have Ei10 := Ei10.keep Kc22
  have Fv10 := Fv10.keep Kc22 nin0
  have Fc10 := Fc10.keep Kc22 nin0
  have A_b10 := A_b10.keep Kc22 nin0
  have E18 := E18.keep Kc22
  have FV18 := FV18.keep Kc22 nin0
  have FC18 := FC18.keep Kc22 nin0
  have FN18 := FN18.keep Kc22 nin0
  have FM18 := FM18.keep Kc22 nin0
  have A_b18 := A_b18.keep Kc22 nin0
  have sf_b3 := Safe.keep Kc22 sf0 C.chv sf_b3
  have sf_b18 := Safe.keep Kc22 sf0 C.chv sf_b18
  have C := C.keep Kc22 sf0
  have OO := OO.keep Kc22 all0
  have K24 := K20.trans Kc22 all0
  have Zp25 := Nat.le_trans Zp21 Kc22.1
  have ge_o22 : n0 ≤ o22 := Nat.le_trans Zp21 so22
  have sz_o22 : h0.size ≤ o22 := Nat.le_trans K20.1 so22
  have ne_a1_o22 : a1 ≠ o22 := Nat.ne_of_lt (Nat.lt_of_lt_of_le lt_a1 so22)
  have ne_pa_o22 : pa ≠ o22 := Nat.ne_of_lt (Nat.lt_of_lt_of_le lt_pa so22)
  have ne_pb_o22 : pb ≠ o22 := Nat.ne_of_lt (Nat.lt_of_lt_of_le lt_pb so22)
  have ne_a2_o22 : a2 ≠ o22 := Nat.ne_of_lt (Nat.lt_of_lt_of_le lt_a2 so22)
  have ne_kb_o22 : kb ≠ o22 := Nat.ne_of_lt (Nat.lt_of_lt_of_le lt_kb so22)
  have ne_a3_o22 : a3 ≠ o22 := Nat.ne_of_lt (Nat.lt_of_lt_of_le lt_a3 so22)
  have ne_sb_o22 : sb ≠ o22 := Nat.ne_of_lt (Nat.lt_of_lt_of_le lt_sb so22)
  have ne_o10_o22 : o10 ≠ o22 := Nat.ne_of_lt (Nat.lt_of_lt_of_le lt_o10 so22)
  have ne_b10_o22 : b10 ≠ o22 := Nat.ne_of_lt (Nat.lt_of_lt_of_le lt_b10 so22)
  have ne_b3_o22 : b3 ≠ o22 := Nat.ne_of_lt (Nat.lt_of_lt_of_le lt_b3 so22)
  have ne_b18_o22 : b18 ≠ o22 := Nat.ne_of_lt (Nat.lt_of_lt_of_le lt_b18 so22)
  have ge_b22 : n0 ≤ b22 := Nat.le_trans Zp21 sz22
  have sz_b22 : h0.size ≤ b22 := Nat.le_trans K20.1 sz22
  have ne_a1_b22 : a1 ≠ b22 := Nat.ne_of_lt (Nat.lt_of_lt_of_le lt_a1 sz22)
  have ne_pa_b22 : pa ≠ b22 := Nat.ne_of_lt (Nat.lt_of_lt_of_le lt_pa sz22)
  have ne_pb_b22 : pb ≠ b22 := Nat.ne_of_lt (Nat.lt_of_lt_of_le lt_pb sz22)
  have ne_a2_b22 : a2 ≠ b22 := Nat.ne_of_lt (Nat.lt_of_lt_of_le lt_a2 sz22)
  have ne_kb_b22 : kb ≠ b22 := Nat.ne_of_lt (Nat.lt_of_lt_of_le lt_kb sz22)
  have ne_a3_b22 : a3 ≠ b22 := Nat.ne_of_lt (Nat.lt_of_lt_of_le lt_a3 sz22)
  have ne_sb_b22 : sb ≠ b22 := Nat.ne_of_lt (Nat.lt_of_lt_of_le lt_sb sz22)
  have ne_o10_b22 : o10 ≠ b22 := Nat.ne_of_lt (Nat.lt_of_lt_of_le lt_o10 sz22)
  have ne_b10_b22 : b10 ≠ b22 := Nat.ne_of_lt (Nat.lt_of_lt_of_le lt_b10 sz22)
  have ne_b3_b22 : b3 ≠ b22 := Nat.ne_of_lt (Nat.lt_of_lt_of_le lt_b3 sz22)
  have ne_b18_b22 : b18 ≠ b22 := Nat.ne_of_lt (Nat.lt_of_lt_of_le lt_b18 sz22)
  show GoesW p ee below s _ _ _ _ _ (T22.setTop (mkF m 63 #[vR a1, vR a2, vR a3] [(.ref o22)]))
  refine GoesW.retA X22 hx hZ hEL C e22 Bd.notSynchronized Bd.returns rfl rfl (hb hby q72_63) (by decide) (by decide) ?_
  rw [e22]
  exact ⟨o22, b22, rfl, N23, K24, sz_o22, sz_b22, Ei22, Fv22, Fc22, A_b22, hl_b18⟩
def own_kn (pn kn sn : Nat) : Nat := ((0 + ((((0 + pn) + 1) + kn) + 1)) + sn)
def own_kc (pn kn sn : Nat) (pc kc sc : Nat → Nat) : Nat → Nat := (own_cat (0 + ((((0 + pn) + 1) + kn) + 1)) (own_cat 0 (fun _ => 0) (own_cat (((0 + pn) + 1) + kn) (own_cat ((0 + pn) + 1) (own_cat (0 + pn) (own_cat 0 (fun _ => 0) pc) (fun _ => 123)) kc) (fun _ => 125))) sc)
theorem own_kn_eq (pn kn sn : Nat) : own_kn pn kn sn = pn + kn + sn + 2 := by unfold own_kn; omega
theorem own_kc_p (pn kn sn : Nat) (pc kc sc : Nat → Nat) (j : Nat) (h : j < pn) : own_kc pn kn sn pc kc sc j = pc j := by
  unfold own_kc
  rw [own_cat_lt (by omega), own_cat_ge (by omega), Nat.sub_zero, own_cat_lt (by omega), own_cat_lt (by omega), own_cat_lt (by omega), own_cat_ge (by omega), Nat.sub_zero]
theorem own_kc_o (pn kn sn : Nat) (pc kc sc : Nat → Nat) : own_kc pn kn sn pc kc sc pn = 123 := by
  unfold own_kc
  rw [own_cat_lt (by omega), own_cat_ge (by omega), Nat.sub_zero, own_cat_lt (by omega), own_cat_lt (by omega), own_cat_ge (by omega)]
theorem own_kc_k (pn kn sn : Nat) (pc kc sc : Nat → Nat) (j : Nat) (h : j < kn) : own_kc pn kn sn pc kc sc (pn + 1 + j) = kc j := by
  unfold own_kc
  rw [own_cat_lt (by omega), own_cat_ge (by omega), Nat.sub_zero, own_cat_lt (by omega), own_cat_ge (by omega)]
  congr 1
  omega
theorem own_kc_c (pn kn sn : Nat) (pc kc sc : Nat → Nat) : own_kc pn kn sn pc kc sc (pn + kn + 1) = 125 := by
  unfold own_kc
  rw [own_cat_lt (by omega), own_cat_ge (by omega), Nat.sub_zero, own_cat_ge (by omega)]
theorem own_kc_s (pn kn sn : Nat) (pc kc sc : Nat → Nat) (j : Nat) : own_kc pn kn sn pc kc sc (pn + kn + 2 + j) = sc j := by
  unfold own_kc
  rw [own_cat_ge (by omega)]
  congr 1
  omega
theorem own_kc_lt (pn kn sn : Nat) (pc kc sc : Nat → Nat) (hp : ∀ j, j < pn → pc j < 65536) (hk : ∀ j, j < kn → kc j < 65536) (hs : ∀ j, j < sn → sc j < 65536) : ∀ j, j < own_kn pn kn sn → own_kc pn kn sn pc kc sc j < 65536 :=
  own_cat_all (P := (· < 65536)) (own_cat_all (P := (· < 65536)) (fun j hj => absurd hj (Nat.not_lt_zero j)) (own_cat_all (P := (· < 65536)) (own_cat_all (P := (· < 65536)) (own_cat_all (P := (· < 65536)) (own_cat_all (P := (· < 65536)) (fun j hj => absurd hj (Nat.not_lt_zero j)) hp) (fun _ _ => by decide)) hk) (fun _ _ => by decide))) hs
theorem ef_law (m : MethodId) (x0 : Int32) (x1 : Int32) (x2 : Int32) (x3 : Int32) : entryFrame m #[(.int x0), (.int x1), (.int x2), (.int x3)] maxLocals = mkF m 0 #[.val (.int x0), .val (.int x1), .val (.int x2), .val (.int x3), .unset, .unset, .unset, .unset, .unset, .unset, .unset, .unset, .unset, .unset, .unset, .unset, .unset, .unset, .unset, .unset, .unset] [] := by first | (simp [entryFrame, mkF, argsToLocals, Value.category, maxLocals]; done) | rfl
theorem pd_43 : parseMethodDescriptor "(C)C" = some ⟨[.char], some .char⟩ := by decide +kernel
theorem pd_44 : parseMethodDescriptor "(Ljava/lang/String;Ljava/lang/String;)Ljava/lang/String;" = some ⟨[(.object "java/lang/String"), (.object "java/lang/String")], some (.object "java/lang/String")⟩ := by decide +kernel
theorem pd_45 : parseMethodDescriptor "(C)Ljava/lang/String;" = some ⟨[.char], some (.object "java/lang/String")⟩ := by decide +kernel
theorem pd_46 : parseMethodDescriptor "([C)V" = some ⟨[(.array .char)], none⟩ := by decide +kernel
def Q_law (Z : State) (p1 p2 p3 p4 : Int32) (cs : Int32) (fm : Value) (h0 : Heap) (n0 : Nat) (v : Option Value) (h : Heap) (L : List Loc) : Prop := v = some (.int 1) ∧ Fr n0 L
set_option maxRecDepth 65536 in
set_option maxHeartbeats 40000000 in
theorem rm_law (l : Launch) (Z : State) (a0 : Array Value) (hw : ∀ d ∈ tables_1, d.before a0 Z = true) (ws : List Jvm.Cond) (p1 p2 p3 p4 : Int32) (cs : Int32) (fm : Value) (h0 : Heap) (n0 : Nat) (Z0 : n0 ≤ h0.size) (ST : own_ST Z cs fm) (OO : Old Z n0 h0)  :
    MetFree l x (head1 (Jvm.Cond.code x code maxLocals ret :: ws) room_1) (fun a U => a = #[(.int p1), (.int p2), (.int p3), (.int p4)] ∧ Z.Warmed39 U.vm ∧ U.heap = h0 ∧ CHv Z consts_1 U.vm h0 ∧ ∀ x ∈ ([] : List Addr), Safe Z consts_1 U.vm h0 x) (fun _ _ _ _ _ => True) (fun _ U o U' => ∃ v L, o = .returned v ∧ Q_law Z p1 p2 p3 p4 cs fm h0 n0 v U'.heap L ∧ CHr Z consts_1 U.vm U.heap U'.vm U'.heap ∧ ReturnedEndW U o U' L room_1.cells room_1.slots) := by
  refine MetFree.of_bodySF (plainFor_of_name pn_com_example_aliran_aliran_KeySpaceKeyPinLaw) hisR ?_
  intro p ee s m args below meth cc s₁ Bd hml0 hP hK
  obtain ⟨rfl, hZ, hh, H, hsf⟩ := hP
  have hx := Bd.exec
  have hby := Bd.bytes
  have hml : cc.maxLocals = 21 := hml0
  have hown : (s.setVm s.vm).vm.findClass "com/example/aliran/aliran/KeySpaceKeyPinLaw" = some m.cls := findClass_of_methodNamed Bd.named
  have hnm := (name_of_methodNamed Bd.named Bd.method).1
  have X0 : Stand p l ee room_1 (s.setVm s.vm) m #[(.int p1), (.int p2), (.int p3), (.int p4)] below meth cc s₁ [] 0 0 := Stand.of_body Bd
  have e0 : s₁.heap = h0 := by rw [← hh, Bd.state]; rfl
  have N0 := Fr.nil n0
  have hEL := own_EW hw
  have hZ : Z.Warmed39 (s.setVm s.vm).vm := hZ
  have C : Cold Z consts_1 s s.vm h0 := by rw [← hh]; exact Cold.start (by rw [hh]; exact H)
  show GoesW p ee below s room_1.cells room_1.slots Z consts_1 (Q_law Z p1 p2 p3 p4 cs fm h0 n0) (s₁.setTop (entryFrame m #[(.int p1), (.int p2), (.int p3), (.int p4)] maxLocals))
  refine gW (fun _ r => castTop (ef_law m p1 p2 p3 p4) r) ?_
  show GoesW p ee below s _ _ _ _ _ (s₁.setTop (mkF m 0 #[.val (.int p1), .val (.int p2), .val (.int p3), .val (.int p4), .unset, .unset, .unset, .unset, .unset, .unset, .unset, .unset, .unset, .unset, .unset, .unset, .unset, .unset, .unset, .unset, .unset] []))
  refine gW (fun _ r => XS.iconst X0.here hx rfl (hb hby at_0) r) ?_
  refine gW (fun _ r => XS.iloadN X0.here hx rfl (hb hby at_1) rfl  r) ?_
  refine gW (fun _ r => XS.iconst X0.here hx rfl (hb hby at_2) r) ?_
  refine gW (fun _ r => XS.iand X0.here hx rfl (hb hby at_3) rfl r) ?_
  show GoesW p ee below s _ _ _ _ _ (s₁.setTop (mkF m 4 #[.val (.int p1), .val (.int p2), .val (.int p3), .val (.int p4), .unset, .unset, .unset, .unset, .unset, .unset, .unset, .unset, .unset, .unset, .unset, .unset, .unset, .unset, .unset, .unset, .unset] [(.int (p4 &&& (1 : Int32))), (.int (1 : Int32))]))
  obtain ⟨e1, he1, ee1⟩ := own_masked p4 1 (by decide)
  rw [show p4 &&& (1 : Int32) = Int32.ofNat e1 from ee1]
  show GoesW p ee below s _ _ _ _ _ (s₁.setTop (mkF m 4 #[.val (.int p1), .val (.int p2), .val (.int p3), .val (.int p4), .unset, .unset, .unset, .unset, .unset, .unset, .unset, .unset, .unset, .unset, .unset, .unset, .unset, .unset, .unset, .unset, .unset] [(.int (Int32.ofNat e1)), (.int (1 : Int32))]))
  refine gW (fun _ r => XS.iadd X0.here hx rfl (hb hby at_4) rfl r) ?_
  show GoesW p ee below s _ _ _ _ _ (s₁.setTop (mkF m 5 #[.val (.int p1), .val (.int p2), .val (.int p3), .val (.int p4), .unset, .unset, .unset, .unset, .unset, .unset, .unset, .unset, .unset, .unset, .unset, .unset, .unset, .unset, .unset, .unset, .unset] [(.int ((1 : Int32) + (Int32.ofNat e1)))]))
  rw [show (1 : Int32) + Int32.ofNat e1 = Int32.ofNat (1 + e1) from own_addN 1 e1]
  obtain ⟨pn, epn⟩ : ∃ z, z = 1 + e1 := ⟨_, rfl⟩
  rw [← epn]
  have hpn : pn ≤ 2 := by omega
  have zpn : 0 < pn := by omega
  show GoesW p ee below s _ _ _ _ _ (s₁.setTop (mkF m 5 #[.val (.int p1), .val (.int p2), .val (.int p3), .val (.int p4), .unset, .unset, .unset, .unset, .unset, .unset, .unset, .unset, .unset, .unset, .unset, .unset, .unset, .unset, .unset, .unset, .unset] [(.int (Int32.ofNat pn))]))
  refine gW (fun _ r => XS.istore X0.here hx rfl (hb hby at_5) rfl  (l' := #[.val (.int p1), .val (.int p2), .val (.int p3), .val (.int p4), vN pn, .unset, .unset, .unset, .unset, .unset, .unset, .unset, .unset, .unset, .unset, .unset, .unset, .unset, .unset, .unset, .unset]) rfl r) ?_
  refine gW (fun _ r => XS.iconst X0.here hx rfl (hb hby at_7) r) ?_
  refine gW (fun _ r => XS.iloadN X0.here hx rfl (hb hby at_8) rfl  r) ?_
  refine gW (fun _ r => XS.iconst X0.here hx rfl (hb hby at_9) r) ?_
  refine gW (fun _ r => XT.iushr X0.here hx rfl (hb hby at_10) rfl r) ?_
  refine gW (fun _ r => XS.iconst X0.here hx rfl (hb hby at_11) r) ?_
  show GoesW p ee below s _ _ _ _ _ (s₁.setTop (mkF m 12 #[.val (.int p1), .val (.int p2), .val (.int p3), .val (.int p4), vN pn, .unset, .unset, .unset, .unset, .unset, .unset, .unset, .unset, .unset, .unset, .unset, .unset, .unset, .unset, .unset, .unset] [(.int (1 : Int32)), (.int (XT.ushr p4 (1 : Int32))), (.int (1 : Int32))]))
  refine gW (fun _ r => XS.iand X0.here hx rfl (hb hby at_12) rfl r) ?_
  show GoesW p ee below s _ _ _ _ _ (s₁.setTop (mkF m 13 #[.val (.int p1), .val (.int p2), .val (.int p3), .val (.int p4), vN pn, .unset, .unset, .unset, .unset, .unset, .unset, .unset, .unset, .unset, .unset, .unset, .unset, .unset, .unset, .unset, .unset] [(.int ((XT.ushr p4 (1 : Int32)) &&& (1 : Int32))), (.int (1 : Int32))]))
  obtain ⟨e2, he2, ee2⟩ := own_masked (XT.ushr p4 (1 : Int32)) 1 (by decide)
  rw [show (XT.ushr p4 (1 : Int32)) &&& (1 : Int32) = Int32.ofNat e2 from ee2]
  show GoesW p ee below s _ _ _ _ _ (s₁.setTop (mkF m 13 #[.val (.int p1), .val (.int p2), .val (.int p3), .val (.int p4), vN pn, .unset, .unset, .unset, .unset, .unset, .unset, .unset, .unset, .unset, .unset, .unset, .unset, .unset, .unset, .unset, .unset] [(.int (Int32.ofNat e2)), (.int (1 : Int32))]))
  refine gW (fun _ r => XS.iadd X0.here hx rfl (hb hby at_13) rfl r) ?_
  show GoesW p ee below s _ _ _ _ _ (s₁.setTop (mkF m 14 #[.val (.int p1), .val (.int p2), .val (.int p3), .val (.int p4), vN pn, .unset, .unset, .unset, .unset, .unset, .unset, .unset, .unset, .unset, .unset, .unset, .unset, .unset, .unset, .unset, .unset] [(.int ((1 : Int32) + (Int32.ofNat e2)))]))
  rw [show (1 : Int32) + Int32.ofNat e2 = Int32.ofNat (1 + e2) from own_addN 1 e2]
  obtain ⟨kn, ekn⟩ : ∃ z, z = 1 + e2 := ⟨_, rfl⟩
  rw [← ekn]
  have hkn : kn ≤ 2 := by omega
  have zkn : 0 < kn := by omega
  show GoesW p ee below s _ _ _ _ _ (s₁.setTop (mkF m 14 #[.val (.int p1), .val (.int p2), .val (.int p3), .val (.int p4), vN pn, .unset, .unset, .unset, .unset, .unset, .unset, .unset, .unset, .unset, .unset, .unset, .unset, .unset, .unset, .unset, .unset] [(.int (Int32.ofNat kn))]))
  refine gW (fun _ r => XS.istore X0.here hx rfl (hb hby at_14) rfl  (l' := #[.val (.int p1), .val (.int p2), .val (.int p3), .val (.int p4), vN pn, vN kn, .unset, .unset, .unset, .unset, .unset, .unset, .unset, .unset, .unset, .unset, .unset, .unset, .unset, .unset, .unset]) rfl r) ?_
  refine gW (fun _ r => XS.iloadN X0.here hx rfl (hb hby at_16) rfl  r) ?_
  refine gW (fun _ r => XS.iconst X0.here hx rfl (hb hby at_17) r) ?_
  refine gW (fun _ r => XT.iushr X0.here hx rfl (hb hby at_18) rfl r) ?_
  refine gW (fun _ r => XS.iconst X0.here hx rfl (hb hby at_19) r) ?_
  refine gW (fun _ r => XS.iand X0.here hx rfl (hb hby at_20) rfl r) ?_
  show GoesW p ee below s _ _ _ _ _ (s₁.setTop (mkF m 21 #[.val (.int p1), .val (.int p2), .val (.int p3), .val (.int p4), vN pn, vN kn, .unset, .unset, .unset, .unset, .unset, .unset, .unset, .unset, .unset, .unset, .unset, .unset, .unset, .unset, .unset] [(.int ((XT.ushr p4 (2 : Int32)) &&& (3 : Int32)))]))
  obtain ⟨e3, he3, ee3⟩ := own_masked (XT.ushr p4 (2 : Int32)) 3 (by decide)
  rw [show (XT.ushr p4 (2 : Int32)) &&& (3 : Int32) = Int32.ofNat e3 from ee3]
  show GoesW p ee below s _ _ _ _ _ (s₁.setTop (mkF m 21 #[.val (.int p1), .val (.int p2), .val (.int p3), .val (.int p4), vN pn, vN kn, .unset, .unset, .unset, .unset, .unset, .unset, .unset, .unset, .unset, .unset, .unset, .unset, .unset, .unset, .unset] [(.int (Int32.ofNat e3))]))
  refine gW (fun _ r => XS.iconst X0.here hx rfl (hb hby at_21) r) ?_
  refine gW (fun _ r => iremM (g := (mkF m 22 #[.val (.int p1), .val (.int p2), .val (.int p3), .val (.int p4), vN pn, vN kn, .unset, .unset, .unset, .unset, .unset, .unset, .unset, .unset, .unset, .unset, .unset, .unset, .unset, .unset, .unset] [(.int (3 : Int32)), (.int (Int32.ofNat e3))])) X0 hx rfl (hb hby at_22) rfl (by decide) r) ?_
  show GoesW p ee below s _ _ _ _ _ (s₁.setTop (mkF m 23 #[.val (.int p1), .val (.int p2), .val (.int p3), .val (.int p4), vN pn, vN kn, .unset, .unset, .unset, .unset, .unset, .unset, .unset, .unset, .unset, .unset, .unset, .unset, .unset, .unset, .unset] [(.int ((Int32.ofNat e3) % (3 : Int32)))]))
  rw [own_rem3 e3 he3]
  obtain ⟨sn, esn⟩ : ∃ z, z = e3 % 3 := ⟨_, rfl⟩
  rw [← esn]
  have hsn : sn ≤ 2 := by omega
  show GoesW p ee below s _ _ _ _ _ (s₁.setTop (mkF m 23 #[.val (.int p1), .val (.int p2), .val (.int p3), .val (.int p4), vN pn, vN kn, .unset, .unset, .unset, .unset, .unset, .unset, .unset, .unset, .unset, .unset, .unset, .unset, .unset, .unset, .unset] [(.int (Int32.ofNat sn))]))
  refine gW (fun _ r => XS.istore X0.here hx rfl (hb hby at_23) rfl  (l' := #[.val (.int p1), .val (.int p2), .val (.int p3), .val (.int p4), vN pn, vN kn, vN sn, .unset, .unset, .unset, .unset, .unset, .unset, .unset, .unset, .unset, .unset, .unset, .unset, .unset, .unset]) rfl r) ?_
  refine gW (fun _ r => XS.iloadN X0.here hx rfl (hb hby at_25) rfl  r) ?_
  refine gW (X0.ldcInt hx hown (mvT hZ (own_w hw 0 rfl)) (g := (mkF m 26 #[.val (.int p1), .val (.int p2), .val (.int p3), .val (.int p4), vN pn, vN kn, vN sn, .unset, .unset, .unset, .unset, .unset, .unset, .unset, .unset, .unset, .unset, .unset, .unset, .unset, .unset] [(.int p1)])) rfl (hb hby at_26)) ?_
  refine gW (fun _ r => XS.iand X0.here hx rfl (hb hby at_28) rfl r) ?_
  refine gW (fun _ r => XT.i2c X0.here hx rfl (hb hby at_29) rfl r) ?_
  show GoesW p ee below s _ _ _ _ _ (s₁.setTop (mkF m 30 #[.val (.int p1), .val (.int p2), .val (.int p3), .val (.int p4), vN pn, vN kn, vN sn, .unset, .unset, .unset, .unset, .unset, .unset, .unset, .unset, .unset, .unset, .unset, .unset, .unset, .unset] [(.int (p1 &&& (65535 : Int32)).toUInt32.toUInt16.toUInt32.toInt32)]))
  obtain ⟨j7, hj7, ej7⟩ := own_char (p1 &&& (65535 : Int32))
  rw [ej7]
  show GoesW p ee below s _ _ _ _ _ (s₁.setTop (mkF m 30 #[.val (.int p1), .val (.int p2), .val (.int p3), .val (.int p4), vN pn, vN kn, vN sn, .unset, .unset, .unset, .unset, .unset, .unset, .unset, .unset, .unset, .unset, .unset, .unset, .unset, .unset] [(.int (Int32.ofNat j7))]))
  obtain ⟨v1, T1, L1, X1, hQ1, st1⟩ := own_callS X0 hx hZ (y := (⟨"com/example/aliran/aliran/KeySpaceKeyPinLaw", "noBrace", "(C)C"⟩ : MethodName)) hown (own_w hw 1 rfl) (own_w hw 2 rfl) (own_w hw 3 rfl) (own_w hw 4 rfl) (by decide) (argsL := [(.int (Int32.ofNat j7))]) (rm_noBrace l Z a0 hw [] j7 h0 n0 Z0 hj7) e0 (W := 0) (by decide) (by decide) (by decide) (by decide) (g := (mkF m 30 #[.val (.int p1), .val (.int p2), .val (.int p3), .val (.int p4), vN pn, vN kn, vN sn, .unset, .unset, .unset, .unset, .unset, .unset, .unset, .unset, .unset, .unset, .unset, .unset, .unset, .unset] [(.int (Int32.ofNat j7))])) rfl (by rw [hml]; rfl) (rest := []) (lenOf pd_43 rfl) rfl (by show 2 * 0 + _ ≤ _; exact Nat.le_of_eq rfl) (hb hby at_30)
  refine gW st1 ?_
  obtain ⟨⟨k1, hk1, hx1, rfl⟩, N1, e1⟩ := hQ1
  have N2 := Fr.app N0 N1
  refine gW (fun _ r => XS.istore X1.here hx rfl (hb hby at_33) rfl  (l' := #[.val (.int p1), .val (.int p2), .val (.int p3), .val (.int p4), vN pn, vN kn, vN sn, vN k1, .unset, .unset, .unset, .unset, .unset, .unset, .unset, .unset, .unset, .unset, .unset, .unset, .unset]) rfl r) ?_
  refine gW (fun _ r => XS.iloadN X1.here hx rfl (hb hby at_35) rfl  r) ?_
  refine gW (fun _ r => XS.bipush X1.here hx rfl (hb hby at_36) r) ?_
  refine gW (fun _ r => XT.iushr X1.here hx rfl (hb hby at_38) rfl r) ?_
  refine gW (fun _ r => XT.i2c X1.here hx rfl (hb hby at_39) rfl r) ?_
  show GoesW p ee below s _ _ _ _ _ (T1.setTop (mkF m 40 #[.val (.int p1), .val (.int p2), .val (.int p3), .val (.int p4), vN pn, vN kn, vN sn, vN k1, .unset, .unset, .unset, .unset, .unset, .unset, .unset, .unset, .unset, .unset, .unset, .unset, .unset] [(.int (XT.ushr p1 (16 : Int32)).toUInt32.toUInt16.toUInt32.toInt32)]))
  obtain ⟨j8, hj8, ej8⟩ := own_char (XT.ushr p1 (16 : Int32))
  rw [ej8]
  show GoesW p ee below s _ _ _ _ _ (T1.setTop (mkF m 40 #[.val (.int p1), .val (.int p2), .val (.int p3), .val (.int p4), vN pn, vN kn, vN sn, vN k1, .unset, .unset, .unset, .unset, .unset, .unset, .unset, .unset, .unset, .unset, .unset, .unset, .unset] [(.int (Int32.ofNat j8))]))
  obtain ⟨v3, T3, L3, X3, hQ3, st3⟩ := own_callS X1 hx hZ (y := (⟨"com/example/aliran/aliran/KeySpaceKeyPinLaw", "noBrace", "(C)C"⟩ : MethodName)) hown (own_w hw 1 rfl) (own_w hw 2 rfl) (own_w hw 3 rfl) (own_w hw 4 rfl) (by decide) (argsL := [(.int (Int32.ofNat j8))]) (rm_noBrace l Z a0 hw [] j8 h0 n0 Z0 hj8) e1 (W := 0) (by decide) (by decide) (by decide) (by decide) (g := (mkF m 40 #[.val (.int p1), .val (.int p2), .val (.int p3), .val (.int p4), vN pn, vN kn, vN sn, vN k1, .unset, .unset, .unset, .unset, .unset, .unset, .unset, .unset, .unset, .unset, .unset, .unset, .unset] [(.int (Int32.ofNat j8))])) rfl (by rw [hml]; rfl) (rest := []) (lenOf pd_43 rfl) rfl (by show 2 * 0 + _ ≤ _; exact Nat.le_of_eq rfl) (hb hby at_40)
  refine gW st3 ?_
  obtain ⟨⟨k3, hk3, hx3, rfl⟩, N3, e3⟩ := hQ3
  have N4 := Fr.app N2 N3
  refine gW (fun _ r => XS.istore X3.here hx rfl (hb hby at_43) rfl  (l' := #[.val (.int p1), .val (.int p2), .val (.int p3), .val (.int p4), vN pn, vN kn, vN sn, vN k1, vN k3, .unset, .unset, .unset, .unset, .unset, .unset, .unset, .unset, .unset, .unset, .unset, .unset]) rfl r) ?_
  refine gW (fun _ r => XS.iloadN X3.here hx rfl (hb hby at_45) rfl  r) ?_
  refine gW (X3.ldcInt hx hown (mvT hZ (own_w hw 0 rfl)) (g := (mkF m 46 #[.val (.int p1), .val (.int p2), .val (.int p3), .val (.int p4), vN pn, vN kn, vN sn, vN k1, vN k3, .unset, .unset, .unset, .unset, .unset, .unset, .unset, .unset, .unset, .unset, .unset, .unset] [(.int p2)])) rfl (hb hby at_46)) ?_
  refine gW (fun _ r => XS.iand X3.here hx rfl (hb hby at_48) rfl r) ?_
  refine gW (fun _ r => XT.i2c X3.here hx rfl (hb hby at_49) rfl r) ?_
  show GoesW p ee below s _ _ _ _ _ (T3.setTop (mkF m 50 #[.val (.int p1), .val (.int p2), .val (.int p3), .val (.int p4), vN pn, vN kn, vN sn, vN k1, vN k3, .unset, .unset, .unset, .unset, .unset, .unset, .unset, .unset, .unset, .unset, .unset, .unset] [(.int (p2 &&& (65535 : Int32)).toUInt32.toUInt16.toUInt32.toInt32)]))
  obtain ⟨j9, hj9, ej9⟩ := own_char (p2 &&& (65535 : Int32))
  rw [ej9]
  show GoesW p ee below s _ _ _ _ _ (T3.setTop (mkF m 50 #[.val (.int p1), .val (.int p2), .val (.int p3), .val (.int p4), vN pn, vN kn, vN sn, vN k1, vN k3, .unset, .unset, .unset, .unset, .unset, .unset, .unset, .unset, .unset, .unset, .unset, .unset] [(.int (Int32.ofNat j9))]))
  obtain ⟨v5, T5, L5, X5, hQ5, st5⟩ := own_callS X3 hx hZ (y := (⟨"com/example/aliran/aliran/KeySpaceKeyPinLaw", "noClose", "(C)C"⟩ : MethodName)) hown (own_w hw 5 rfl) (own_w hw 6 rfl) (own_w hw 3 rfl) (own_w hw 7 rfl) (by decide) (argsL := [(.int (Int32.ofNat j9))]) (rm_noClose l Z a0 hw [] j9 h0 n0 Z0 hj9) e3 (W := 0) (by decide) (by decide) (by decide) (by decide) (g := (mkF m 50 #[.val (.int p1), .val (.int p2), .val (.int p3), .val (.int p4), vN pn, vN kn, vN sn, vN k1, vN k3, .unset, .unset, .unset, .unset, .unset, .unset, .unset, .unset, .unset, .unset, .unset, .unset] [(.int (Int32.ofNat j9))])) rfl (by rw [hml]; rfl) (rest := []) (lenOf pd_43 rfl) rfl (by show 2 * 0 + _ ≤ _; exact Nat.le_of_eq rfl) (hb hby at_50)
  refine gW st5 ?_
  obtain ⟨⟨k5, hk5, hx5, rfl⟩, N5, e5⟩ := hQ5
  have N6 := Fr.app N4 N5
  refine gW (fun _ r => XS.istore X5.here hx rfl (hb hby at_53) rfl  (l' := #[.val (.int p1), .val (.int p2), .val (.int p3), .val (.int p4), vN pn, vN kn, vN sn, vN k1, vN k3, vN k5, .unset, .unset, .unset, .unset, .unset, .unset, .unset, .unset, .unset, .unset, .unset]) rfl r) ?_
  refine gW (fun _ r => XS.iloadN X5.here hx rfl (hb hby at_55) rfl  r) ?_
  refine gW (fun _ r => XS.bipush X5.here hx rfl (hb hby at_56) r) ?_
  refine gW (fun _ r => XT.iushr X5.here hx rfl (hb hby at_58) rfl r) ?_
  refine gW (fun _ r => XT.i2c X5.here hx rfl (hb hby at_59) rfl r) ?_
  show GoesW p ee below s _ _ _ _ _ (T5.setTop (mkF m 60 #[.val (.int p1), .val (.int p2), .val (.int p3), .val (.int p4), vN pn, vN kn, vN sn, vN k1, vN k3, vN k5, .unset, .unset, .unset, .unset, .unset, .unset, .unset, .unset, .unset, .unset, .unset] [(.int (XT.ushr p2 (16 : Int32)).toUInt32.toUInt16.toUInt32.toInt32)]))
  obtain ⟨k10, hk10, ek10⟩ := own_char (XT.ushr p2 (16 : Int32))
  rw [ek10]
  show GoesW p ee below s _ _ _ _ _ (T5.setTop (mkF m 60 #[.val (.int p1), .val (.int p2), .val (.int p3), .val (.int p4), vN pn, vN kn, vN sn, vN k1, vN k3, vN k5, .unset, .unset, .unset, .unset, .unset, .unset, .unset, .unset, .unset, .unset, .unset] [(.int (Int32.ofNat k10))]))
  refine gW (fun _ r => XS.istore X5.here hx rfl (hb hby at_60) rfl  (l' := #[.val (.int p1), .val (.int p2), .val (.int p3), .val (.int p4), vN pn, vN kn, vN sn, vN k1, vN k3, vN k5, vN k10, .unset, .unset, .unset, .unset, .unset, .unset, .unset, .unset, .unset, .unset]) rfl r) ?_
  refine gW (fun _ r => XS.iloadN X5.here hx rfl (hb hby at_62) rfl  r) ?_
  refine gW (X5.ldcInt hx hown (mvT hZ (own_w hw 0 rfl)) (g := (mkF m 63 #[.val (.int p1), .val (.int p2), .val (.int p3), .val (.int p4), vN pn, vN kn, vN sn, vN k1, vN k3, vN k5, vN k10, .unset, .unset, .unset, .unset, .unset, .unset, .unset, .unset, .unset, .unset] [(.int p3)])) rfl (hb hby at_63)) ?_
  refine gW (fun _ r => XS.iand X5.here hx rfl (hb hby at_65) rfl r) ?_
  refine gW (fun _ r => XT.i2c X5.here hx rfl (hb hby at_66) rfl r) ?_
  show GoesW p ee below s _ _ _ _ _ (T5.setTop (mkF m 67 #[.val (.int p1), .val (.int p2), .val (.int p3), .val (.int p4), vN pn, vN kn, vN sn, vN k1, vN k3, vN k5, vN k10, .unset, .unset, .unset, .unset, .unset, .unset, .unset, .unset, .unset, .unset] [(.int (p3 &&& (65535 : Int32)).toUInt32.toUInt16.toUInt32.toInt32)]))
  obtain ⟨j11, hj11, ej11⟩ := own_char (p3 &&& (65535 : Int32))
  rw [ej11]
  show GoesW p ee below s _ _ _ _ _ (T5.setTop (mkF m 67 #[.val (.int p1), .val (.int p2), .val (.int p3), .val (.int p4), vN pn, vN kn, vN sn, vN k1, vN k3, vN k5, vN k10, .unset, .unset, .unset, .unset, .unset, .unset, .unset, .unset, .unset, .unset] [(.int (Int32.ofNat j11))]))
  obtain ⟨v7, T7, L7, X7, hQ7, st7⟩ := own_callS X5 hx hZ (y := (⟨"com/example/aliran/aliran/KeySpaceKeyPinLaw", "noClose", "(C)C"⟩ : MethodName)) hown (own_w hw 5 rfl) (own_w hw 6 rfl) (own_w hw 3 rfl) (own_w hw 7 rfl) (by decide) (argsL := [(.int (Int32.ofNat j11))]) (rm_noClose l Z a0 hw [] j11 h0 n0 Z0 hj11) e5 (W := 0) (by decide) (by decide) (by decide) (by decide) (g := (mkF m 67 #[.val (.int p1), .val (.int p2), .val (.int p3), .val (.int p4), vN pn, vN kn, vN sn, vN k1, vN k3, vN k5, vN k10, .unset, .unset, .unset, .unset, .unset, .unset, .unset, .unset, .unset, .unset] [(.int (Int32.ofNat j11))])) rfl (by rw [hml]; rfl) (rest := []) (lenOf pd_43 rfl) rfl (by show 2 * 0 + _ ≤ _; exact Nat.le_of_eq rfl) (hb hby at_67)
  refine gW st7 ?_
  obtain ⟨⟨k7, hk7, hx7, rfl⟩, N7, e7⟩ := hQ7
  have N8 := Fr.app N6 N7
  refine gW (fun _ r => XS.istore X7.here hx rfl (hb hby at_70) rfl  (l' := #[.val (.int p1), .val (.int p2), .val (.int p3), .val (.int p4), vN pn, vN kn, vN sn, vN k1, vN k3, vN k5, vN k10, vN k7, .unset, .unset, .unset, .unset, .unset, .unset, .unset, .unset, .unset]) rfl r) ?_
  refine gW (fun _ r => XS.iloadN X7.here hx rfl (hb hby at_72) rfl  r) ?_
  refine gW (fun _ r => XS.bipush X7.here hx rfl (hb hby at_73) r) ?_
  refine gW (fun _ r => XT.iushr X7.here hx rfl (hb hby at_75) rfl r) ?_
  refine gW (fun _ r => XT.i2c X7.here hx rfl (hb hby at_76) rfl r) ?_
  show GoesW p ee below s _ _ _ _ _ (T7.setTop (mkF m 77 #[.val (.int p1), .val (.int p2), .val (.int p3), .val (.int p4), vN pn, vN kn, vN sn, vN k1, vN k3, vN k5, vN k10, vN k7, .unset, .unset, .unset, .unset, .unset, .unset, .unset, .unset, .unset] [(.int (XT.ushr p3 (16 : Int32)).toUInt32.toUInt16.toUInt32.toInt32)]))
  obtain ⟨j12, hj12, ej12⟩ := own_char (XT.ushr p3 (16 : Int32))
  rw [ej12]
  show GoesW p ee below s _ _ _ _ _ (T7.setTop (mkF m 77 #[.val (.int p1), .val (.int p2), .val (.int p3), .val (.int p4), vN pn, vN kn, vN sn, vN k1, vN k3, vN k5, vN k10, vN k7, .unset, .unset, .unset, .unset, .unset, .unset, .unset, .unset, .unset] [(.int (Int32.ofNat j12))]))
  obtain ⟨v9, T9, L9, X9, hQ9, st9⟩ := own_callS X7 hx hZ (y := (⟨"com/example/aliran/aliran/KeySpaceKeyPinLaw", "noClose", "(C)C"⟩ : MethodName)) hown (own_w hw 5 rfl) (own_w hw 6 rfl) (own_w hw 3 rfl) (own_w hw 7 rfl) (by decide) (argsL := [(.int (Int32.ofNat j12))]) (rm_noClose l Z a0 hw [] j12 h0 n0 Z0 hj12) e7 (W := 0) (by decide) (by decide) (by decide) (by decide) (g := (mkF m 77 #[.val (.int p1), .val (.int p2), .val (.int p3), .val (.int p4), vN pn, vN kn, vN sn, vN k1, vN k3, vN k5, vN k10, vN k7, .unset, .unset, .unset, .unset, .unset, .unset, .unset, .unset, .unset] [(.int (Int32.ofNat j12))])) rfl (by rw [hml]; rfl) (rest := []) (lenOf pd_43 rfl) rfl (by show 2 * 0 + _ ≤ _; exact Nat.le_of_eq rfl) (hb hby at_77)
  refine gW st9 ?_
  obtain ⟨⟨k9, hk9, hx9, rfl⟩, N9, e9⟩ := hQ9
  have N10 := Fr.app N8 N9
  refine gW (fun _ r => XS.istore X9.here hx rfl (hb hby at_80) rfl  (l' := #[.val (.int p1), .val (.int p2), .val (.int p3), .val (.int p4), vN pn, vN kn, vN sn, vN k1, vN k3, vN k5, vN k10, vN k7, vN k9, .unset, .unset, .unset, .unset, .unset, .unset, .unset, .unset]) rfl r) ?_
  show GoesW p ee below s _ _ _ _ _ (T9.setTop (mkF m 82 #[.val (.int p1), .val (.int p2), .val (.int p3), .val (.int p4), vN pn, vN kn, vN sn, vN k1, vN k3, vN k5, vN k10, vN k7, vN k9, .unset, .unset, .unset, .unset, .unset, .unset, .unset, .unset] []))
  have J116 : ∀ (vmj13 : Vm) (T : State) (locs : List Loc) (hh : Heap) (o13j b13j : Addr) (u13j : Bool), Stand p l ee room_1 (s.setVm vmj13) m #[(.int p1), (.int p2), (.int p3), (.int p4)] below meth cc T locs 4 54 → T.heap = hh → Fr n0 locs → n0 ≤ hh.size → Cold Z consts_1 s vmj13 hh → Z.Warmed39 (s.setVm vmj13).vm → (s.setVm vmj13).vm.findClass "com/example/aliran/aliran/KeySpaceKeyPinLaw" = some m.cls → Old Z n0 hh → Exa Z hh o13j "java/lang/String" → Fld Z hh o13j "java/lang/String" "value" "[B" (.ref b13j) → Fld Z hh o13j "java/lang/String" "coder" "B" (.int (own_cd u13j)) → OA Z hh b13j .byte (own_len u13j pn) (own_by u13j (fun j => [k1, k3].getD j 0)) → (u13j = false → ∀ j, j < pn → (fun j => [k1, k3].getD j 0) j < 256) → GoesW p ee below s room_1.cells room_1.slots Z consts_1 (Q_law Z p1 p2 p3 p4 cs fm h0 n0) (T.setTop (mkF m 116 #[.val (.int p1), .val (.int p2), .val (.int p3), .val (.int p4), vN pn, vN kn, vN sn, vN k1, vN k3, vN k5, vN k10, vN k7, vN k9, .unset, .unset, .unset, .unset, .unset, .unset, .unset, .unset] [(.ref o13j)])) := by
    intro vmj13 T locs hh o13j b13j u13j X eT N Zp C hZ hown OO E13j V13j C13j A13j L13j
    show GoesW p ee below s _ _ _ _ _ (T.setTop (mkF m 116 #[.val (.int p1), .val (.int p2), .val (.int p3), .val (.int p4), vN pn, vN kn, vN sn, vN k1, vN k3, vN k5, vN k10, vN k7, vN k9, .unset, .unset, .unset, .unset, .unset, .unset, .unset, .unset] [(.ref o13j)]))
    refine gW (fun _ r => XS.astore X.here hx rfl (hb hby at_116) rfl rfl (l' := #[.val (.int p1), .val (.int p2), .val (.int p3), .val (.int p4), vN pn, vN kn, vN sn, vN k1, vN k3, vN k5, vN k10, vN k7, vN k9, vR o13j, .unset, .unset, .unset, .unset, .unset, .unset, .unset]) rfl r) ?_
    show GoesW p ee below s _ _ _ _ _ (T.setTop (mkF m 118 #[.val (.int p1), .val (.int p2), .val (.int p3), .val (.int p4), vN pn, vN kn, vN sn, vN k1, vN k3, vN k5, vN k10, vN k7, vN k9, vR o13j, .unset, .unset, .unset, .unset, .unset, .unset, .unset] []))
    have J152 : ∀ (vmj14 : Vm) (T : State) (locs : List Loc) (hh : Heap) (o13j b13j : Addr) (u13j : Bool) (o14j b14j : Addr) (u14j : Bool), Stand p l ee room_1 (s.setVm vmj14) m #[(.int p1), (.int p2), (.int p3), (.int p4)] below meth cc T locs 8 108 → T.heap = hh → Fr n0 locs → n0 ≤ hh.size → Cold Z consts_1 s vmj14 hh → Z.Warmed39 (s.setVm vmj14).vm → (s.setVm vmj14).vm.findClass "com/example/aliran/aliran/KeySpaceKeyPinLaw" = some m.cls → Old Z n0 hh → Exa Z hh o13j "java/lang/String" → Fld Z hh o13j "java/lang/String" "value" "[B" (.ref b13j) → Fld Z hh o13j "java/lang/String" "coder" "B" (.int (own_cd u13j)) → OA Z hh b13j .byte (own_len u13j pn) (own_by u13j (fun j => [k1, k3].getD j 0)) → (u13j = false → ∀ j, j < pn → (fun j => [k1, k3].getD j 0) j < 256) → Exa Z hh o14j "java/lang/String" → Fld Z hh o14j "java/lang/String" "value" "[B" (.ref b14j) → Fld Z hh o14j "java/lang/String" "coder" "B" (.int (own_cd u14j)) → OA Z hh b14j .byte (own_len u14j kn) (own_by u14j (fun j => [k5, k10].getD j 0)) → (u14j = false → ∀ j, j < kn → (fun j => [k5, k10].getD j 0) j < 256) → GoesW p ee below s room_1.cells room_1.slots Z consts_1 (Q_law Z p1 p2 p3 p4 cs fm h0 n0) (T.setTop (mkF m 152 #[.val (.int p1), .val (.int p2), .val (.int p3), .val (.int p4), vN pn, vN kn, vN sn, vN k1, vN k3, vN k5, vN k10, vN k7, vN k9, vR o13j, .unset, .unset, .unset, .unset, .unset, .unset, .unset] [(.ref o14j)])) := by
      intro vmj14 T locs hh o13j b13j u13j o14j b14j u14j X eT N Zp C hZ hown OO E13j V13j C13j A13j L13j E14j V14j C14j A14j L14j
      show GoesW p ee below s _ _ _ _ _ (T.setTop (mkF m 152 #[.val (.int p1), .val (.int p2), .val (.int p3), .val (.int p4), vN pn, vN kn, vN sn, vN k1, vN k3, vN k5, vN k10, vN k7, vN k9, vR o13j, .unset, .unset, .unset, .unset, .unset, .unset, .unset] [(.ref o14j)]))
      refine gW (fun _ r => XS.astore X.here hx rfl (hb hby at_152) rfl rfl (l' := #[.val (.int p1), .val (.int p2), .val (.int p3), .val (.int p4), vN pn, vN kn, vN sn, vN k1, vN k3, vN k5, vN k10, vN k7, vN k9, vR o13j, vR o14j, .unset, .unset, .unset, .unset, .unset, .unset]) rfl r) ?_
      show GoesW p ee below s _ _ _ _ _ (T.setTop (mkF m 154 #[.val (.int p1), .val (.int p2), .val (.int p3), .val (.int p4), vN pn, vN kn, vN sn, vN k1, vN k3, vN k5, vN k10, vN k7, vN k9, vR o13j, vR o14j, .unset, .unset, .unset, .unset, .unset, .unset] []))
      have J204 : ∀ (vmj15 : Vm) (T : State) (locs : List Loc) (hh : Heap) (o13j b13j : Addr) (u13j : Bool) (o14j b14j : Addr) (u14j : Bool) (o15j b15j : Addr) (u15j : Bool), Stand p l ee room_1 (s.setVm vmj15) m #[(.int p1), (.int p2), (.int p3), (.int p4)] below meth cc T locs 12 162 → T.heap = hh → Fr n0 locs → n0 ≤ hh.size → Cold Z consts_1 s vmj15 hh → Z.Warmed39 (s.setVm vmj15).vm → (s.setVm vmj15).vm.findClass "com/example/aliran/aliran/KeySpaceKeyPinLaw" = some m.cls → Old Z n0 hh → Exa Z hh o13j "java/lang/String" → Fld Z hh o13j "java/lang/String" "value" "[B" (.ref b13j) → Fld Z hh o13j "java/lang/String" "coder" "B" (.int (own_cd u13j)) → OA Z hh b13j .byte (own_len u13j pn) (own_by u13j (fun j => [k1, k3].getD j 0)) → (u13j = false → ∀ j, j < pn → (fun j => [k1, k3].getD j 0) j < 256) → Exa Z hh o14j "java/lang/String" → Fld Z hh o14j "java/lang/String" "value" "[B" (.ref b14j) → Fld Z hh o14j "java/lang/String" "coder" "B" (.int (own_cd u14j)) → OA Z hh b14j .byte (own_len u14j kn) (own_by u14j (fun j => [k5, k10].getD j 0)) → (u14j = false → ∀ j, j < kn → (fun j => [k5, k10].getD j 0) j < 256) → Exa Z hh o15j "java/lang/String" → Fld Z hh o15j "java/lang/String" "value" "[B" (.ref b15j) → Fld Z hh o15j "java/lang/String" "coder" "B" (.int (own_cd u15j)) → OA Z hh b15j .byte (own_len u15j sn) (own_by u15j (fun j => [k7, k9].getD j 0)) → (u15j = false → ∀ j, j < sn → (fun j => [k7, k9].getD j 0) j < 256) → GoesW p ee below s room_1.cells room_1.slots Z consts_1 (Q_law Z p1 p2 p3 p4 cs fm h0 n0) (T.setTop (mkF m 204 #[.val (.int p1), .val (.int p2), .val (.int p3), .val (.int p4), vN pn, vN kn, vN sn, vN k1, vN k3, vN k5, vN k10, vN k7, vN k9, vR o13j, vR o14j, vR o15j, .unset, .unset, .unset, .unset, .unset] [])) := by
        intro vmj15 T locs hh o13j b13j u13j o14j b14j u14j o15j b15j u15j X eT N Zp C hZ hown OO E13j V13j C13j A13j L13j E14j V14j C14j A14j L14j E15j V15j C15j A15j L15j
        show GoesW p ee below s _ _ _ _ _ (T.setTop (mkF m 204 #[.val (.int p1), .val (.int p2), .val (.int p3), .val (.int p4), vN pn, vN kn, vN sn, vN k1, vN k3, vN k5, vN k10, vN k7, vN k9, vR o13j, vR o14j, vR o15j, .unset, .unset, .unset, .unset, .unset] []))
        have cc13 : ∀ j, j < pn → (fun j => [k1, k3].getD j 0) j < 65536 := fun j hj => by
          have : j = 0 ∨ j = 1 := by omega
          rcases this with rfl | rfl
          · exact hk1
          · exact hk3
        have cc14 : ∀ j, j < kn → (fun j => [k5, k10].getD j 0) j < 65536 := fun j hj => by
          have : j = 0 ∨ j = 1 := by omega
          rcases this with rfl | rfl
          · exact hk5
          · exact hk10
        have cc15 : ∀ j, j < sn → (fun j => [k7, k9].getD j 0) j < 65536 := fun j hj => by
          have : j = 0 ∨ j = 1 := by omega
          rcases this with rfl | rfl
          · exact hk7
          · exact hk9
        have hxp : ∀ j, j < pn → (fun j => [k1, k3].getD j 0) j ≠ 123 ∧ (fun j => [k1, k3].getD j 0) j ≠ 125 := fun j hj => by
          have : j = 0 ∨ j = 1 := by omega
          rcases this with rfl | rfl
          · exact hx1
          · exact hx3
        have hxs : ∀ j, j < sn → (fun j => [k7, k9].getD j 0) j ≠ 125 := fun j hj => by
          have : j = 0 ∨ j = 1 := by omega
          rcases this with rfl | rfl
          · exact hx7
          · exact hx9
        show GoesW p ee below s _ _ _ _ _ (T.setTop (mkF m 204 #[.val (.int p1), .val (.int p2), .val (.int p3), .val (.int p4), vN pn, vN kn, vN sn, vN k1, vN k3, vN k5, vN k10, vN k7, vN k9, vR o13j, vR o14j, vR o15j, .unset, .unset, .unset, .unset, .unset] []))
        obtain ⟨T11, h11, X11, e11, E11, A11, D11, -, st11⟩ := newO X hx hZ hown (own_w hw 55 rfl) (own_w hw 56 rfl) (own_w hw 57 rfl) eT (g := (mkF m 204 #[.val (.int p1), .val (.int p2), .val (.int p3), .val (.int p4), vN pn, vN kn, vN sn, vN k1, vN k3, vN k5, vN k10, vN k7, vN k9, vR o13j, vR o14j, vR o15j, .unset, .unset, .unset, .unset, .unset] [])) rfl (hb hby at_204) (by decide) (by decide)
        obtain ⟨b11, g_b11⟩ : ∃ z, z = hh.size := ⟨_, rfl⟩
        have ne_o13j_b11 : o13j ≠ b11 := Nat.ne_of_lt (Nat.lt_of_lt_of_le E13j.lt (Nat.le_of_eq g_b11.symm))
        have ne_b13j_b11 : b13j ≠ b11 := Nat.ne_of_lt (Nat.lt_of_lt_of_le A13j.lt (Nat.le_of_eq g_b11.symm))
        have ne_o14j_b11 : o14j ≠ b11 := Nat.ne_of_lt (Nat.lt_of_lt_of_le E14j.lt (Nat.le_of_eq g_b11.symm))
        have ne_b14j_b11 : b14j ≠ b11 := Nat.ne_of_lt (Nat.lt_of_lt_of_le A14j.lt (Nat.le_of_eq g_b11.symm))
        have ne_o15j_b11 : o15j ≠ b11 := Nat.ne_of_lt (Nat.lt_of_lt_of_le E15j.lt (Nat.le_of_eq g_b11.symm))
        have ne_b15j_b11 : b15j ≠ b11 := Nat.ne_of_lt (Nat.lt_of_lt_of_le A15j.lt (Nat.le_of_eq g_b11.symm))
        have ge_b11 : n0 ≤ b11 := Nat.le_trans Zp (Nat.le_of_eq g_b11.symm)
        rw [← g_b11] at A11 D11 st11
        have E13j := E13j.ext E11
        have V13j := V13j.ext E11
        have C13j := C13j.ext E11
        have A13j := A13j.ext E11
        have E14j := E14j.ext E11
        have V14j := V14j.ext E11
        have C14j := C14j.ext E11
        have A14j := A14j.ext E11
        have E15j := E15j.ext E11
        have V15j := V15j.ext E11
        have C15j := C15j.ext E11
        have A15j := A15j.ext E11
        have Zp12 := Nat.le_trans Zp E11.1
        have sf_b11 := Safe.ext E11 C.chv (Safe.new (Nat.le_of_eq g_b11.symm))
        have C := C.ext E11
        have OO := OO.ext E11
        refine gW st11 ?_
        have E_b11 := A11
        have F_prefix_b11 : Fld Z h11 b11 "com/example/aliran/aliran/KeySpace" "prefix" "Ljava/lang/String;" .null := D11 (Or.inr (own_w hw 119 rfl)) (ty := (.object "java/lang/String")) (by decide)
        show GoesW p ee below s _ _ _ _ _ (T11.setTop (mkF m 207 #[.val (.int p1), .val (.int p2), .val (.int p3), .val (.int p4), vN pn, vN kn, vN sn, vN k1, vN k3, vN k5, vN k10, vN k7, vN k9, vR o13j, vR o14j, vR o15j, .unset, .unset, .unset, .unset, .unset] [(.ref b11)]))
        refine gW (fun _ r => XS.dup X11.here hx rfl (hb hby at_207) rfl rfl r) ?_
        refine gW (fun _ r => XS.aload X11.here hx rfl (hb hby at_208) rfl rfl r) ?_
        have lt_o13j := E13j.lt
        have lt_b13j := A13j.lt
        have lt_o14j := E14j.lt
        have lt_b14j := A14j.lt
        have lt_o15j := E15j.lt
        have lt_b15j := A15j.lt
        have lt_b11 := E_b11.lt
        obtain ⟨v13, vm13, T13, L13, ⟨X13, Cn13, hZ, hown, hsaf13⟩, hQ13, st13⟩ := own_callNW X11 hx hZ hEL C (y := (⟨"com/example/aliran/aliran/KeySpace", "<init>", "(Ljava/lang/String;)V"⟩ : MethodName)) rfl hown (own_w hw 58 rfl) (own_w hw 59 rfl) (own_w hw 57 rfl) (own_w hw 60 rfl) (by decide) (a := b11) (argsL := [(.ref o13j)]) (ws := [b11]) (own_allS ⟨lt_b11, sf_b11⟩ (fun _ q => nomatch q)) (rm_ksi l Z a0 hw [] cs fm b11 o13j b13j u13j pn (fun j => [k1, k3].getD j 0) _ h11 n0 Zp12 ST OO zpn hxp ge_b11 E_b11 F_prefix_b11 (Ne.symm ne_o13j_b11) (Ne.symm ne_b13j_b11) E13j V13j C13j A13j cc13 L13j (by omega)) e11 (W := 1) (by decide) (by decide) (by decide) (by decide) (g := (mkF m 210 #[.val (.int p1), .val (.int p2), .val (.int p3), .val (.int p4), vN pn, vN kn, vN sn, vN k1, vN k3, vN k5, vN k10, vN k7, vN k9, vR o13j, vR o14j, vR o15j, .unset, .unset, .unset, .unset, .unset] [(.ref o13j), (.ref b11), (.ref b11)])) rfl (by rw [hml]; rfl) (rest := [(.ref b11)]) (lenOf pd_21 rfl) rfl (by show 2 * 0 + _ ≤ _; exact Nat.le_of_eq rfl) (hb hby at_210)
        refine gW st13 ?_
        obtain ⟨rfl, N13, Kc13, Ei13, Fp13⟩ := hQ13
        have N14 := Fr.app N N13
        obtain ⟨h13, e13⟩ : ∃ h', T13.heap = h' := ⟨_, rfl⟩
        rw [e13] at Kc13 Cn13 hsaf13 Ei13 Fp13
        have sf_b11 := hsaf13 b11 lt_b11 sf_b11
        have C := Cn13
        have E13j := E13j.keep Kc13
        have V13j := V13j.keep Kc13 (ninS ne_o13j_b11 nin0)
        have C13j := C13j.keep Kc13 (ninS ne_o13j_b11 nin0)
        have A13j := A13j.keep Kc13 (ninS ne_b13j_b11 nin0)
        have E14j := E14j.keep Kc13
        have V14j := V14j.keep Kc13 (ninS ne_o14j_b11 nin0)
        have C14j := C14j.keep Kc13 (ninS ne_o14j_b11 nin0)
        have A14j := A14j.keep Kc13 (ninS ne_b14j_b11 nin0)
        have E15j := E15j.keep Kc13
        have V15j := V15j.keep Kc13 (ninS ne_o15j_b11 nin0)
        have C15j := C15j.keep Kc13 (ninS ne_o15j_b11 nin0)
        have A15j := A15j.keep Kc13 (ninS ne_b15j_b11 nin0)
        have OO := OO.keep Kc13 (allS ge_b11 all0)
        have Zp15 := Nat.le_trans Zp12 Kc13.1
        refine gW (fun _ r => XS.astore X13.here hx rfl (hb hby at_213) rfl rfl (l' := #[.val (.int p1), .val (.int p2), .val (.int p3), .val (.int p4), vN pn, vN kn, vN sn, vN k1, vN k3, vN k5, vN k10, vN k7, vN k9, vR o13j, vR o14j, vR o15j, vR b11, .unset, .unset, .unset, .unset]) rfl r) ?_
        refine gW (fun _ r => XS.aload X13.here hx rfl (hb hby at_215) rfl rfl r) ?_
        show GoesW p ee below s _ _ _ _ _ (T13.setTop (mkF m 217 #[.val (.int p1), .val (.int p2), .val (.int p3), .val (.int p4), vN pn, vN kn, vN sn, vN k1, vN k3, vN k5, vN k10, vN k7, vN k9, vR o13j, vR o14j, vR o15j, vR b11, .unset, .unset, .unset, .unset] [(.ref b11)]))
        refine gW (fun _ r => XS.aload X13.here hx rfl (hb hby at_217) rfl rfl r) ?_
        refine gW (fun _ r => XS.aload X13.here hx rfl (hb hby at_219) rfl rfl r) ?_
        have lt_o13j := E13j.lt
        have lt_b13j := A13j.lt
        have lt_o14j := E14j.lt
        have lt_b14j := A14j.lt
        have lt_o15j := E15j.lt
        have lt_b15j := A15j.lt
        have lt_b11 := Ei13.lt
        obtain ⟨v16, vm16, T16, L16, ⟨X16, Cn16, hZ, hown, hsaf16⟩, hQ16, st16⟩ := own_callVW X13 hx hZ hEL C (y := (⟨"com/example/aliran/aliran/KeySpace", "key", "(Ljava/lang/String;Ljava/lang/String;)Ljava/lang/String;"⟩ : MethodName)) hown (own_w hw 120 rfl) (own_w hw 121 rfl) (own_w hw 123 rfl) (own_w hw 122 rfl) (own_w hw 57 rfl) (own_w hw 124 rfl) (by decide) (a := b11) (argsL := [(.ref o14j), (.ref o15j)]) (ws := []) (fun _ q => nomatch q) (rm_key l Z a0 hw [] cs fm b11 o14j o15j o13j b13j b14j b15j u13j u14j u15j pn kn sn (fun j => [k1, k3].getD j 0) (fun j => [k5, k10].getD j 0) (fun j => [k7, k9].getD j 0) h13 n0 Zp15 ST OO hpn hkn zkn hx5 Ei13 Fp13 E13j V13j C13j A13j cc13 L13j (by omega) E14j V14j C14j A14j cc14 L14j (by omega) hsn hxs E15j V15j C15j A15j cc15 L15j (by omega)) e13 Ei13 (W := 0) (by decide) (by decide) (by decide) (by decide) (g := (mkF m 221 #[.val (.int p1), .val (.int p2), .val (.int p3), .val (.int p4), vN pn, vN kn, vN sn, vN k1, vN k3, vN k5, vN k10, vN k7, vN k9, vR o13j, vR o14j, vR o15j, vR b11, .unset, .unset, .unset, .unset] [(.ref o15j), (.ref o14j), (.ref b11)])) rfl (by rw [hml]; rfl) (rest := []) (lenOf pd_44 rfl) rfl (by show 2 * 0 + _ ≤ _; exact Nat.le_of_eq rfl) (hb hby at_221)
        refine gW st16 ?_
        obtain ⟨o16, b16, rfl, N16, Kc16, so16, sz16, Ei16, Fv16, Fc16, A_b16, hlu16⟩ := hQ16
        have N17 := Fr.app N14 N16
        obtain ⟨h16, e16⟩ : ∃ h', T16.heap = h' := ⟨_, rfl⟩
        rw [e16] at Kc16 Cn16 hsaf16 Ei16 Fv16 Fc16 A_b16
        have sf_b11 := hsaf16 b11 lt_b11 sf_b11
        have C := Cn16
        have E13j := E13j.keep Kc16
        have V13j := V13j.keep Kc16 nin0
        have C13j := C13j.keep Kc16 nin0
        have A13j := A13j.keep Kc16 nin0
        have E14j := E14j.keep Kc16
        have V14j := V14j.keep Kc16 nin0
        have C14j := C14j.keep Kc16 nin0
        have A14j := A14j.keep Kc16 nin0
        have E15j := E15j.keep Kc16
        have V15j := V15j.keep Kc16 nin0
        have C15j := C15j.keep Kc16 nin0
        have A15j := A15j.keep Kc16 nin0
        have Ei13 := Ei13.keep Kc16
        have Fp13 := Fp13.keep Kc16 nin0
        have OO := OO.keep Kc16 all0
        have Zp18 := Nat.le_trans Zp15 Kc16.1
        have ge_o16 : n0 ≤ o16 := Nat.le_trans Zp15 so16
        have ne_o13j_o16 : o13j ≠ o16 := Nat.ne_of_lt (Nat.lt_of_lt_of_le lt_o13j so16)
        have ne_b13j_o16 : b13j ≠ o16 := Nat.ne_of_lt (Nat.lt_of_lt_of_le lt_b13j so16)
        have ne_o14j_o16 : o14j ≠ o16 := Nat.ne_of_lt (Nat.lt_of_lt_of_le lt_o14j so16)
        have ne_b14j_o16 : b14j ≠ o16 := Nat.ne_of_lt (Nat.lt_of_lt_of_le lt_b14j so16)
        have ne_o15j_o16 : o15j ≠ o16 := Nat.ne_of_lt (Nat.lt_of_lt_of_le lt_o15j so16)
        have ne_b15j_o16 : b15j ≠ o16 := Nat.ne_of_lt (Nat.lt_of_lt_of_le lt_b15j so16)
        have ne_b11_o16 : b11 ≠ o16 := Nat.ne_of_lt (Nat.lt_of_lt_of_le lt_b11 so16)
        have ge_b16 : n0 ≤ b16 := Nat.le_trans Zp15 sz16
        have ne_o13j_b16 : o13j ≠ b16 := Nat.ne_of_lt (Nat.lt_of_lt_of_le lt_o13j sz16)
        have ne_b13j_b16 : b13j ≠ b16 := Nat.ne_of_lt (Nat.lt_of_lt_of_le lt_b13j sz16)
        have ne_o14j_b16 : o14j ≠ b16 := Nat.ne_of_lt (Nat.lt_of_lt_of_le lt_o14j sz16)
        have ne_b14j_b16 : b14j ≠ b16 := Nat.ne_of_lt (Nat.lt_of_lt_of_le lt_b14j sz16)
        have ne_o15j_b16 : o15j ≠ b16 := Nat.ne_of_lt (Nat.lt_of_lt_of_le lt_o15j sz16)
        have ne_b15j_b16 : b15j ≠ b16 := Nat.ne_of_lt (Nat.lt_of_lt_of_le lt_b15j sz16)
        have ne_b11_b16 : b11 ≠ b16 := Nat.ne_of_lt (Nat.lt_of_lt_of_le lt_b11 sz16)
        show GoesW p ee below s _ _ _ _ _ (T16.setTop (mkF m 224 #[.val (.int p1), .val (.int p2), .val (.int p3), .val (.int p4), vN pn, vN kn, vN sn, vN k1, vN k3, vN k5, vN k10, vN k7, vN k9, vR o13j, vR o14j, vR o15j, vR b11, .unset, .unset, .unset, .unset] [(.ref o16)]))
        have hRc := own_kc_lt pn kn sn (fun j => [k1, k3].getD j 0) (fun j => [k5, k10].getD j 0) (fun j => [k7, k9].getD j 0) cc13 cc14 cc15
        have hRn := own_kn_eq pn kn sn
        refine gW (fun _ r => XS.astore X16.here hx rfl (hb hby at_224) rfl rfl (l' := #[.val (.int p1), .val (.int p2), .val (.int p3), .val (.int p4), vN pn, vN kn, vN sn, vN k1, vN k3, vN k5, vN k10, vN k7, vN k9, vR o13j, vR o14j, vR o15j, vR b11, vR o16, .unset, .unset, .unset]) rfl r) ?_
        refine gW (fun _ r => XS.iload X16.here hx rfl (hb hby at_226) rfl  r) ?_
        refine gW (fun _ r => XS.iload X16.here hx rfl (hb hby at_228) rfl  r) ?_
        refine gW (fun _ r => XS.iadd X16.here hx rfl (hb hby at_230) rfl r) ?_
        show GoesW p ee below s _ _ _ _ _ (T16.setTop (mkF m 231 #[.val (.int p1), .val (.int p2), .val (.int p3), .val (.int p4), vN pn, vN kn, vN sn, vN k1, vN k3, vN k5, vN k10, vN k7, vN k9, vR o13j, vR o14j, vR o15j, vR b11, vR o16, .unset, .unset, .unset] [(.int ((Int32.ofNat pn) + (Int32.ofNat kn)))]))
        rw [show Int32.ofNat pn + Int32.ofNat kn = Int32.ofNat (pn + kn) from own_addN _ _]
        show GoesW p ee below s _ _ _ _ _ (T16.setTop (mkF m 231 #[.val (.int p1), .val (.int p2), .val (.int p3), .val (.int p4), vN pn, vN kn, vN sn, vN k1, vN k3, vN k5, vN k10, vN k7, vN k9, vR o13j, vR o14j, vR o15j, vR b11, vR o16, .unset, .unset, .unset] [(.int (Int32.ofNat (pn + kn)))]))
        refine gW (fun _ r => XS.iload X16.here hx rfl (hb hby at_231) rfl  r) ?_
        refine gW (fun _ r => XS.iadd X16.here hx rfl (hb hby at_233) rfl r) ?_
        show GoesW p ee below s _ _ _ _ _ (T16.setTop (mkF m 234 #[.val (.int p1), .val (.int p2), .val (.int p3), .val (.int p4), vN pn, vN kn, vN sn, vN k1, vN k3, vN k5, vN k10, vN k7, vN k9, vR o13j, vR o14j, vR o15j, vR b11, vR o16, .unset, .unset, .unset] [(.int ((Int32.ofNat (pn + kn)) + (Int32.ofNat sn)))]))
        rw [show Int32.ofNat (pn + kn) + Int32.ofNat sn = Int32.ofNat (pn + kn + sn) from own_addN _ _]
        show GoesW p ee below s _ _ _ _ _ (T16.setTop (mkF m 234 #[.val (.int p1), .val (.int p2), .val (.int p3), .val (.int p4), vN pn, vN kn, vN sn, vN k1, vN k3, vN k5, vN k10, vN k7, vN k9, vR o13j, vR o14j, vR o15j, vR b11, vR o16, .unset, .unset, .unset] [(.int (Int32.ofNat (pn + kn + sn)))]))
        refine gW (fun _ r => XS.iconst X16.here hx rfl (hb hby at_234) r) ?_
        refine gW (fun _ r => XS.iadd X16.here hx rfl (hb hby at_235) rfl r) ?_
        show GoesW p ee below s _ _ _ _ _ (T16.setTop (mkF m 236 #[.val (.int p1), .val (.int p2), .val (.int p3), .val (.int p4), vN pn, vN kn, vN sn, vN k1, vN k3, vN k5, vN k10, vN k7, vN k9, vR o13j, vR o14j, vR o15j, vR b11, vR o16, .unset, .unset, .unset] [(.int ((Int32.ofNat (pn + kn + sn)) + (2 : Int32)))]))
        rw [show Int32.ofNat (pn + kn + sn) + (2 : Int32) = Int32.ofNat (pn + kn + sn + 2) from own_addN _ _]
        show GoesW p ee below s _ _ _ _ _ (T16.setTop (mkF m 236 #[.val (.int p1), .val (.int p2), .val (.int p3), .val (.int p4), vN pn, vN kn, vN sn, vN k1, vN k3, vN k5, vN k10, vN k7, vN k9, vR o13j, vR o14j, vR o15j, vR b11, vR o16, .unset, .unset, .unset] [(.int (Int32.ofNat (pn + kn + sn + 2)))]))
        refine gW (fun _ r => XS.istore X16.here hx rfl (hb hby at_236) rfl  (l' := #[.val (.int p1), .val (.int p2), .val (.int p3), .val (.int p4), vN pn, vN kn, vN sn, vN k1, vN k3, vN k5, vN k10, vN k7, vN k9, vR o13j, vR o14j, vR o15j, vR b11, vR o16, vN (pn + kn + sn + 2), .unset, .unset]) rfl r) ?_
        refine gW (fun _ r => XS.aload X16.here hx rfl (hb hby at_238) rfl rfl r) ?_
        have lt_o13j := E13j.lt
        have lt_b13j := A13j.lt
        have lt_o14j := E14j.lt
        have lt_b14j := A14j.lt
        have lt_o15j := E15j.lt
        have lt_b15j := A15j.lt
        have lt_b11 := Ei13.lt
        have lt_o16 := Ei16.lt
        have lt_b16 := A_b16.lt
        obtain ⟨v19, T19, L19, X19, hQ19, st19⟩ := own_callV X16 hx hZ (y := (⟨"java/lang/String", "length", "()I"⟩ : MethodName)) hown (own_w hw 255 rfl) (own_w hw 93 rfl) (own_w hw 95 rfl) (own_w hw 94 rfl) (own_w hw 10 rfl) (own_w hw 96 rfl) (by decide) (a := o16) (argsL := []) (rm_slen l Z a0 hw [] cs fm o16 b16 ((false || ((false || u13j) || u14j)) || u15j) (own_kn pn kn sn) (own_kc pn kn sn (fun j => [k1, k3].getD j 0) (fun j => [k5, k10].getD j 0) (fun j => [k7, k9].getD j 0)) h16 n0 Zp18 ST OO (by omega) Ei16 Fv16 Fc16 A_b16) e16 Ei16 (W := 0) (by decide) (by decide) (by decide) (by decide) (g := (mkF m 240 #[.val (.int p1), .val (.int p2), .val (.int p3), .val (.int p4), vN pn, vN kn, vN sn, vN k1, vN k3, vN k5, vN k10, vN k7, vN k9, vR o13j, vR o14j, vR o15j, vR b11, vR o16, vN (pn + kn + sn + 2), .unset, .unset] [(.ref o16)])) rfl (by rw [hml]; rfl) (rest := []) (lenOf pd_23 rfl) rfl (by show 2 * 0 + _ ≤ _; exact Nat.le_of_eq rfl) (hb hby at_240)
        refine gW st19 ?_
        obtain ⟨rfl, N19, e19⟩ := hQ19
        have N20 := Fr.app N17 N19
        refine gW (fun _ r => XS.iload X19.here hx rfl (hb hby at_243) rfl  r) ?_
        refine gW (fun _ r => XS.icmpYes X19.here hx rfl (pc0 := 245) (pc' := 250) rfl (hb hby at_245) rfl (teq (congrArg Int32.ofNat hRn)).1 (by decide) (by decide) r) ?_
        refine gW (fun _ r => XS.aload X19.here hx rfl (hb hby at_250) rfl rfl r) ?_
        show GoesW p ee below s _ _ _ _ _ (T19.setTop (mkF m 252 #[.val (.int p1), .val (.int p2), .val (.int p3), .val (.int p4), vN pn, vN kn, vN sn, vN k1, vN k3, vN k5, vN k10, vN k7, vN k9, vR o13j, vR o14j, vR o15j, vR b11, vR o16, vN (pn + kn + sn + 2), .unset, .unset] [(.ref o16)]))
        refine gW (fun _ r => XS.iconst X19.here hx rfl (hb hby at_252) r) ?_
        have lt_o13j := E13j.lt
        have lt_b13j := A13j.lt
        have lt_o14j := E14j.lt
        have lt_b14j := A14j.lt
        have lt_o15j := E15j.lt
        have lt_b15j := A15j.lt
        have lt_b11 := Ei13.lt
        have lt_o16 := Ei16.lt
        have lt_b16 := A_b16.lt
        obtain ⟨v21, T21, L21, X21, hQ21, st21⟩ := own_callV X19 hx hZ (y := (⟨"java/lang/String", "charAt", "(I)C"⟩ : MethodName)) hown (own_w hw 256 rfl) (own_w hw 149 rfl) (own_w hw 151 rfl) (own_w hw 150 rfl) (own_w hw 10 rfl) (own_w hw 152 rfl) (by decide) (a := o16) (argsL := [(.int (0 : Int32))]) (rm_schar l Z a0 hw [] cs fm o16 b16 ((false || ((false || u13j) || u14j)) || u15j) (own_kn pn kn sn) (own_kc pn kn sn (fun j => [k1, k3].getD j 0) (fun j => [k5, k10].getD j 0) (fun j => [k7, k9].getD j 0)) 0 h16 n0 Zp18 ST OO (by omega) Ei16 Fv16 Fc16 A_b16 hRc hlu16 (by omega)) e19 Ei16 (W := 0) (by decide) (by decide) (by decide) (by decide) (g := (mkF m 253 #[.val (.int p1), .val (.int p2), .val (.int p3), .val (.int p4), vN pn, vN kn, vN sn, vN k1, vN k3, vN k5, vN k10, vN k7, vN k9, vR o13j, vR o14j, vR o15j, vR b11, vR o16, vN (pn + kn + sn + 2), .unset, .unset] [(.int (0 : Int32)), (.ref o16)])) rfl (by rw [hml]; rfl) (rest := []) (lenOf pd_38 rfl) rfl (by show 2 * 0 + _ ≤ _; exact Nat.le_of_eq rfl) (hb hby at_253)
        refine gW st21 ?_
        obtain ⟨rfl, N21, e21⟩ := hQ21
        have N22 := Fr.app N20 N21
        refine gW (fun _ r => XS.iload X21.here hx rfl (hb hby at_256) rfl  r) ?_
        refine gW (fun _ r => XS.icmpNo X21.here hx rfl (hb hby at_258) rfl (teq (congrArg Int32.ofNat (own_kc_p pn kn sn (fun j => [k1, k3].getD j 0) (fun j => [k5, k10].getD j 0) (fun j => [k7, k9].getD j 0) 0 (by omega)))).2 r) ?_
        refine gW (fun _ r => XS.iconst X21.here hx rfl (hb hby at_261) r) ?_
        refine gW (fun _ r => XS.goto X21.here hx rfl (pc0 := 262) (pc' := 266) rfl (hb hby at_262) (by decide) (by decide) r) ?_
        show GoesW p ee below s _ _ _ _ _ (T21.setTop (mkF m 266 #[.val (.int p1), .val (.int p2), .val (.int p3), .val (.int p4), vN pn, vN kn, vN sn, vN k1, vN k3, vN k5, vN k10, vN k7, vN k9, vR o13j, vR o14j, vR o15j, vR b11, vR o16, vN (pn + kn + sn + 2), .unset, .unset] [(.int (1 : Int32))]))
        refine gW (fun _ r => XS.istore X21.here hx rfl (hb hby at_266) rfl  (l' := #[.val (.int p1), .val (.int p2), .val (.int p3), .val (.int p4), vN pn, vN kn, vN sn, vN k1, vN k3, vN k5, vN k10, vN k7, vN k9, vR o13j, vR o14j, vR o15j, vR b11, vR o16, vN (pn + kn + sn + 2), .val (.int (1 : Int32)), .unset]) rfl r) ?_
        show GoesW p ee below s _ _ _ _ _ (T21.setTop (mkF m 268 #[.val (.int p1), .val (.int p2), .val (.int p3), .val (.int p4), vN pn, vN kn, vN sn, vN k1, vN k3, vN k5, vN k10, vN k7, vN k9, vR o13j, vR o14j, vR o15j, vR b11, vR o16, vN (pn + kn + sn + 2), .val (.int (1 : Int32)), .unset] []))
        have J297 : ∀  (T : State) (locs : List Loc), Stand p l ee room_1 (s.setVm vm16) m #[(.int p1), (.int p2), (.int p3), (.int p4)] below meth cc T locs 29 463 → T.heap = h16 → Fr n0 locs → GoesW p ee below s room_1.cells room_1.slots Z consts_1 (Q_law Z p1 p2 p3 p4 cs fm h0 n0) (T.setTop (mkF m 297 #[.val (.int p1), .val (.int p2), .val (.int p3), .val (.int p4), vN pn, vN kn, vN sn, vN k1, vN k3, vN k5, vN k10, vN k7, vN k9, vR o13j, vR o14j, vR o15j, vR b11, vR o16, vN (pn + kn + sn + 2), .val (.int (1 : Int32)), .unset] [])) := by
          intro T locs X eT N
          show GoesW p ee below s _ _ _ _ _ (T.setTop (mkF m 297 #[.val (.int p1), .val (.int p2), .val (.int p3), .val (.int p4), vN pn, vN kn, vN sn, vN k1, vN k3, vN k5, vN k10, vN k7, vN k9, vR o13j, vR o14j, vR o15j, vR b11, vR o16, vN (pn + kn + sn + 2), .val (.int (1 : Int32)), .unset] []))
          refine gW (fun _ r => XS.iload X.here hx rfl (hb hby at_297) rfl  r) ?_
          refine gW (fun _ r => XS.ifNo X.here hx rfl (hb hby at_299) rfl ((if0 _ _).trans (feq (by decide)).1) r) ?_
          refine gW (fun _ r => XS.aload X.here hx rfl (hb hby at_302) rfl rfl r) ?_
          refine gW (fun _ r => XS.iload X.here hx rfl (hb hby at_304) rfl  r) ?_
          have lt_o13j := E13j.lt
          have lt_b13j := A13j.lt
          have lt_o14j := E14j.lt
          have lt_b14j := A14j.lt
          have lt_o15j := E15j.lt
          have lt_b15j := A15j.lt
          have lt_b11 := Ei13.lt
          have lt_o16 := Ei16.lt
          have lt_b16 := A_b16.lt
          obtain ⟨v23, T23, L23, X23, hQ23, st23⟩ := own_callV X hx hZ (y := (⟨"java/lang/String", "charAt", "(I)C"⟩ : MethodName)) hown (own_w hw 256 rfl) (own_w hw 149 rfl) (own_w hw 151 rfl) (own_w hw 150 rfl) (own_w hw 10 rfl) (own_w hw 152 rfl) (by decide) (a := o16) (argsL := [(.int (Int32.ofNat pn))]) (rm_schar l Z a0 hw [] cs fm o16 b16 ((false || ((false || u13j) || u14j)) || u15j) (own_kn pn kn sn) (own_kc pn kn sn (fun j => [k1, k3].getD j 0) (fun j => [k5, k10].getD j 0) (fun j => [k7, k9].getD j 0)) pn h16 n0 Zp18 ST OO (by omega) Ei16 Fv16 Fc16 A_b16 hRc hlu16 (by omega)) eT Ei16 (W := 0) (by decide) (by decide) (by decide) (by decide) (g := (mkF m 306 #[.val (.int p1), .val (.int p2), .val (.int p3), .val (.int p4), vN pn, vN kn, vN sn, vN k1, vN k3, vN k5, vN k10, vN k7, vN k9, vR o13j, vR o14j, vR o15j, vR b11, vR o16, vN (pn + kn + sn + 2), .val (.int (1 : Int32)), .unset] [(.int (Int32.ofNat pn)), (.ref o16)])) rfl (by rw [hml]; rfl) (rest := []) (lenOf pd_38 rfl) rfl (by show 2 * 0 + _ ≤ _; exact Nat.le_of_eq rfl) (hb hby at_306)
          refine gW st23 ?_
          obtain ⟨rfl, N23, e23⟩ := hQ23
          have N24 := Fr.app N N23
          refine gW (fun _ r => XS.bipush X23.here hx rfl (hb hby at_309) r) ?_
          show GoesW p ee below s _ _ _ _ _ (T23.setTop (mkF m 311 #[.val (.int p1), .val (.int p2), .val (.int p3), .val (.int p4), vN pn, vN kn, vN sn, vN k1, vN k3, vN k5, vN k10, vN k7, vN k9, vR o13j, vR o14j, vR o15j, vR b11, vR o16, vN (pn + kn + sn + 2), .val (.int (1 : Int32)), .unset] [(.int (123 : Int32)), (.int (Int32.ofNat ((own_kc pn kn sn (fun j => [k1, k3].getD j 0) (fun j => [k5, k10].getD j 0) (fun j => [k7, k9].getD j 0)) pn)))]))
          refine gW (fun _ r => XS.icmpNo X23.here hx rfl (hb hby at_311) rfl (teq (congrArg Int32.ofNat (own_kc_o pn kn sn (fun j => [k1, k3].getD j 0) (fun j => [k5, k10].getD j 0) (fun j => [k7, k9].getD j 0)))).2 r) ?_
          refine gW (fun _ r => XS.iconst X23.here hx rfl (hb hby at_314) r) ?_
          refine gW (fun _ r => XS.goto X23.here hx rfl (pc0 := 315) (pc' := 319) rfl (hb hby at_315) (by decide) (by decide) r) ?_
          refine gW (fun _ r => XS.istore X23.here hx rfl (hb hby at_319) rfl  (l' := #[.val (.int p1), .val (.int p2), .val (.int p3), .val (.int p4), vN pn, vN kn, vN sn, vN k1, vN k3, vN k5, vN k10, vN k7, vN k9, vR o13j, vR o14j, vR o15j, vR b11, vR o16, vN (pn + kn + sn + 2), .val (.int (1 : Int32)), .unset]) rfl r) ?_
          refine gW (fun _ r => XS.iload X23.here hx rfl (hb hby at_321) rfl  r) ?_
          refine gW (fun _ r => XS.ifNo X23.here hx rfl (hb hby at_323) rfl ((if0 _ _).trans (feq (by decide)).1) r) ?_
          show GoesW p ee below s _ _ _ _ _ (T23.setTop (mkF m 326 #[.val (.int p1), .val (.int p2), .val (.int p3), .val (.int p4), vN pn, vN kn, vN sn, vN k1, vN k3, vN k5, vN k10, vN k7, vN k9, vR o13j, vR o14j, vR o15j, vR b11, vR o16, vN (pn + kn + sn + 2), .val (.int (1 : Int32)), .unset] []))
          refine gW (fun _ r => XS.aload X23.here hx rfl (hb hby at_326) rfl rfl r) ?_
          refine gW (fun _ r => XS.iload X23.here hx rfl (hb hby at_328) rfl  r) ?_
          refine gW (fun _ r => XS.iconst X23.here hx rfl (hb hby at_330) r) ?_
          refine gW (fun _ r => XS.iadd X23.here hx rfl (hb hby at_331) rfl r) ?_
          show GoesW p ee below s _ _ _ _ _ (T23.setTop (mkF m 332 #[.val (.int p1), .val (.int p2), .val (.int p3), .val (.int p4), vN pn, vN kn, vN sn, vN k1, vN k3, vN k5, vN k10, vN k7, vN k9, vR o13j, vR o14j, vR o15j, vR b11, vR o16, vN (pn + kn + sn + 2), .val (.int (1 : Int32)), .unset] [(.int ((Int32.ofNat pn) + (1 : Int32))), (.ref o16)]))
          rw [show Int32.ofNat pn + (1 : Int32) = Int32.ofNat (pn + 1 + 0) from own_addN _ _]
          show GoesW p ee below s _ _ _ _ _ (T23.setTop (mkF m 332 #[.val (.int p1), .val (.int p2), .val (.int p3), .val (.int p4), vN pn, vN kn, vN sn, vN k1, vN k3, vN k5, vN k10, vN k7, vN k9, vR o13j, vR o14j, vR o15j, vR b11, vR o16, vN (pn + kn + sn + 2), .val (.int (1 : Int32)), .unset] [(.int (Int32.ofNat (pn + 1 + 0))), (.ref o16)]))
          have lt_o13j := E13j.lt
          have lt_b13j := A13j.lt
          have lt_o14j := E14j.lt
          have lt_b14j := A14j.lt
          have lt_o15j := E15j.lt
          have lt_b15j := A15j.lt
          have lt_b11 := Ei13.lt
          have lt_o16 := Ei16.lt
          have lt_b16 := A_b16.lt
          obtain ⟨v25, T25, L25, X25, hQ25, st25⟩ := own_callV X23 hx hZ (y := (⟨"java/lang/String", "charAt", "(I)C"⟩ : MethodName)) hown (own_w hw 256 rfl) (own_w hw 149 rfl) (own_w hw 151 rfl) (own_w hw 150 rfl) (own_w hw 10 rfl) (own_w hw 152 rfl) (by decide) (a := o16) (argsL := [(.int (Int32.ofNat (pn + 1 + 0)))]) (rm_schar l Z a0 hw [] cs fm o16 b16 ((false || ((false || u13j) || u14j)) || u15j) (own_kn pn kn sn) (own_kc pn kn sn (fun j => [k1, k3].getD j 0) (fun j => [k5, k10].getD j 0) (fun j => [k7, k9].getD j 0)) (pn + 1 + 0) h16 n0 Zp18 ST OO (by omega) Ei16 Fv16 Fc16 A_b16 hRc hlu16 (by omega)) e23 Ei16 (W := 0) (by decide) (by decide) (by decide) (by decide) (g := (mkF m 332 #[.val (.int p1), .val (.int p2), .val (.int p3), .val (.int p4), vN pn, vN kn, vN sn, vN k1, vN k3, vN k5, vN k10, vN k7, vN k9, vR o13j, vR o14j, vR o15j, vR b11, vR o16, vN (pn + kn + sn + 2), .val (.int (1 : Int32)), .unset] [(.int (Int32.ofNat (pn + 1 + 0))), (.ref o16)])) rfl (by rw [hml]; rfl) (rest := []) (lenOf pd_38 rfl) rfl (by show 2 * 0 + _ ≤ _; exact Nat.le_of_eq rfl) (hb hby at_332)
          refine gW st25 ?_
          obtain ⟨rfl, N25, e25⟩ := hQ25
          have N26 := Fr.app N24 N25
          refine gW (fun _ r => XS.iload X25.here hx rfl (hb hby at_335) rfl  r) ?_
          refine gW (fun _ r => XS.icmpNo X25.here hx rfl (hb hby at_337) rfl (teq (congrArg Int32.ofNat (own_kc_k pn kn sn (fun j => [k1, k3].getD j 0) (fun j => [k5, k10].getD j 0) (fun j => [k7, k9].getD j 0) 0 (by omega)))).2 r) ?_
          refine gW (fun _ r => XS.iconst X25.here hx rfl (hb hby at_340) r) ?_
          refine gW (fun _ r => XS.goto X25.here hx rfl (pc0 := 341) (pc' := 345) rfl (hb hby at_341) (by decide) (by decide) r) ?_
          refine gW (fun _ r => XS.istore X25.here hx rfl (hb hby at_345) rfl  (l' := #[.val (.int p1), .val (.int p2), .val (.int p3), .val (.int p4), vN pn, vN kn, vN sn, vN k1, vN k3, vN k5, vN k10, vN k7, vN k9, vR o13j, vR o14j, vR o15j, vR b11, vR o16, vN (pn + kn + sn + 2), .val (.int (1 : Int32)), .unset]) rfl r) ?_
          show GoesW p ee below s _ _ _ _ _ (T25.setTop (mkF m 347 #[.val (.int p1), .val (.int p2), .val (.int p3), .val (.int p4), vN pn, vN kn, vN sn, vN k1, vN k3, vN k5, vN k10, vN k7, vN k9, vR o13j, vR o14j, vR o15j, vR b11, vR o16, vN (pn + kn + sn + 2), .val (.int (1 : Int32)), .unset] []))
          have J379 : ∀  (T : State) (locs : List Loc), Stand p l ee room_1 (s.setVm vm16) m #[(.int p1), (.int p2), (.int p3), (.int p4)] below meth cc T locs 29 463 → T.heap = h16 → Fr n0 locs → GoesW p ee below s room_1.cells room_1.slots Z consts_1 (Q_law Z p1 p2 p3 p4 cs fm h0 n0) (T.setTop (mkF m 379 #[.val (.int p1), .val (.int p2), .val (.int p3), .val (.int p4), vN pn, vN kn, vN sn, vN k1, vN k3, vN k5, vN k10, vN k7, vN k9, vR o13j, vR o14j, vR o15j, vR b11, vR o16, vN (pn + kn + sn + 2), .val (.int (1 : Int32)), .unset] [])) := by
            intro T locs X eT N
            show GoesW p ee below s _ _ _ _ _ (T.setTop (mkF m 379 #[.val (.int p1), .val (.int p2), .val (.int p3), .val (.int p4), vN pn, vN kn, vN sn, vN k1, vN k3, vN k5, vN k10, vN k7, vN k9, vR o13j, vR o14j, vR o15j, vR b11, vR o16, vN (pn + kn + sn + 2), .val (.int (1 : Int32)), .unset] []))
            refine gW (fun _ r => XS.iload X.here hx rfl (hb hby at_379) rfl  r) ?_
            refine gW (fun _ r => XS.iload X.here hx rfl (hb hby at_381) rfl  r) ?_
            refine gW (fun _ r => XS.iadd X.here hx rfl (hb hby at_383) rfl r) ?_
            show GoesW p ee below s _ _ _ _ _ (T.setTop (mkF m 384 #[.val (.int p1), .val (.int p2), .val (.int p3), .val (.int p4), vN pn, vN kn, vN sn, vN k1, vN k3, vN k5, vN k10, vN k7, vN k9, vR o13j, vR o14j, vR o15j, vR b11, vR o16, vN (pn + kn + sn + 2), .val (.int (1 : Int32)), .unset] [(.int ((Int32.ofNat pn) + (Int32.ofNat kn)))]))
            rw [show Int32.ofNat pn + Int32.ofNat kn = Int32.ofNat (pn + kn) from own_addN _ _]
            show GoesW p ee below s _ _ _ _ _ (T.setTop (mkF m 384 #[.val (.int p1), .val (.int p2), .val (.int p3), .val (.int p4), vN pn, vN kn, vN sn, vN k1, vN k3, vN k5, vN k10, vN k7, vN k9, vR o13j, vR o14j, vR o15j, vR b11, vR o16, vN (pn + kn + sn + 2), .val (.int (1 : Int32)), .unset] [(.int (Int32.ofNat (pn + kn)))]))
            refine gW (fun _ r => XS.iconst X.here hx rfl (hb hby at_384) r) ?_
            refine gW (fun _ r => XS.iadd X.here hx rfl (hb hby at_385) rfl r) ?_
            show GoesW p ee below s _ _ _ _ _ (T.setTop (mkF m 386 #[.val (.int p1), .val (.int p2), .val (.int p3), .val (.int p4), vN pn, vN kn, vN sn, vN k1, vN k3, vN k5, vN k10, vN k7, vN k9, vR o13j, vR o14j, vR o15j, vR b11, vR o16, vN (pn + kn + sn + 2), .val (.int (1 : Int32)), .unset] [(.int ((Int32.ofNat (pn + kn)) + (1 : Int32)))]))
            rw [show Int32.ofNat (pn + kn) + (1 : Int32) = Int32.ofNat (pn + kn + 1) from own_addN _ _]
            show GoesW p ee below s _ _ _ _ _ (T.setTop (mkF m 386 #[.val (.int p1), .val (.int p2), .val (.int p3), .val (.int p4), vN pn, vN kn, vN sn, vN k1, vN k3, vN k5, vN k10, vN k7, vN k9, vR o13j, vR o14j, vR o15j, vR b11, vR o16, vN (pn + kn + sn + 2), .val (.int (1 : Int32)), .unset] [(.int (Int32.ofNat (pn + kn + 1)))]))
            refine gW (fun _ r => XS.istore X.here hx rfl (hb hby at_386) rfl  (l' := #[.val (.int p1), .val (.int p2), .val (.int p3), .val (.int p4), vN pn, vN kn, vN sn, vN k1, vN k3, vN k5, vN k10, vN k7, vN k9, vR o13j, vR o14j, vR o15j, vR b11, vR o16, vN (pn + kn + sn + 2), .val (.int (1 : Int32)), vN (pn + kn + 1)]) rfl r) ?_
            refine gW (fun _ r => XS.iload X.here hx rfl (hb hby at_388) rfl  r) ?_
            refine gW (fun _ r => XS.ifNo X.here hx rfl (hb hby at_390) rfl ((if0 _ _).trans (feq (by decide)).1) r) ?_
            refine gW (fun _ r => XS.aload X.here hx rfl (hb hby at_393) rfl rfl r) ?_
            refine gW (fun _ r => XS.iload X.here hx rfl (hb hby at_395) rfl  r) ?_
            have lt_o13j := E13j.lt
            have lt_b13j := A13j.lt
            have lt_o14j := E14j.lt
            have lt_b14j := A14j.lt
            have lt_o15j := E15j.lt
            have lt_b15j := A15j.lt
            have lt_b11 := Ei13.lt
            have lt_o16 := Ei16.lt
            have lt_b16 := A_b16.lt
            obtain ⟨v27, T27, L27, X27, hQ27, st27⟩ := own_callV X hx hZ (y := (⟨"java/lang/String", "charAt", "(I)C"⟩ : MethodName)) hown (own_w hw 256 rfl) (own_w hw 149 rfl) (own_w hw 151 rfl) (own_w hw 150 rfl) (own_w hw 10 rfl) (own_w hw 152 rfl) (by decide) (a := o16) (argsL := [(.int (Int32.ofNat (pn + kn + 1)))]) (rm_schar l Z a0 hw [] cs fm o16 b16 ((false || ((false || u13j) || u14j)) || u15j) (own_kn pn kn sn) (own_kc pn kn sn (fun j => [k1, k3].getD j 0) (fun j => [k5, k10].getD j 0) (fun j => [k7, k9].getD j 0)) (pn + kn + 1) h16 n0 Zp18 ST OO (by omega) Ei16 Fv16 Fc16 A_b16 hRc hlu16 (by omega)) eT Ei16 (W := 0) (by decide) (by decide) (by decide) (by decide) (g := (mkF m 397 #[.val (.int p1), .val (.int p2), .val (.int p3), .val (.int p4), vN pn, vN kn, vN sn, vN k1, vN k3, vN k5, vN k10, vN k7, vN k9, vR o13j, vR o14j, vR o15j, vR b11, vR o16, vN (pn + kn + sn + 2), .val (.int (1 : Int32)), vN (pn + kn + 1)] [(.int (Int32.ofNat (pn + kn + 1))), (.ref o16)])) rfl (by rw [hml]; rfl) (rest := []) (lenOf pd_38 rfl) rfl (by show 2 * 0 + _ ≤ _; exact Nat.le_of_eq rfl) (hb hby at_397)
            refine gW st27 ?_
            obtain ⟨rfl, N27, e27⟩ := hQ27
            have N28 := Fr.app N N27
            show GoesW p ee below s _ _ _ _ _ (T27.setTop (mkF m 400 #[.val (.int p1), .val (.int p2), .val (.int p3), .val (.int p4), vN pn, vN kn, vN sn, vN k1, vN k3, vN k5, vN k10, vN k7, vN k9, vR o13j, vR o14j, vR o15j, vR b11, vR o16, vN (pn + kn + sn + 2), .val (.int (1 : Int32)), vN (pn + kn + 1)] [(.int (Int32.ofNat ((own_kc pn kn sn (fun j => [k1, k3].getD j 0) (fun j => [k5, k10].getD j 0) (fun j => [k7, k9].getD j 0)) (pn + kn + 1))))]))
            refine gW (fun _ r => XS.bipush X27.here hx rfl (hb hby at_400) r) ?_
            refine gW (fun _ r => XS.icmpNo X27.here hx rfl (hb hby at_402) rfl (teq (congrArg Int32.ofNat (own_kc_c pn kn sn (fun j => [k1, k3].getD j 0) (fun j => [k5, k10].getD j 0) (fun j => [k7, k9].getD j 0)))).2 r) ?_
            refine gW (fun _ r => XS.iconst X27.here hx rfl (hb hby at_405) r) ?_
            refine gW (fun _ r => XS.goto X27.here hx rfl (pc0 := 406) (pc' := 410) rfl (hb hby at_406) (by decide) (by decide) r) ?_
            refine gW (fun _ r => XS.istore X27.here hx rfl (hb hby at_410) rfl  (l' := #[.val (.int p1), .val (.int p2), .val (.int p3), .val (.int p4), vN pn, vN kn, vN sn, vN k1, vN k3, vN k5, vN k10, vN k7, vN k9, vR o13j, vR o14j, vR o15j, vR b11, vR o16, vN (pn + kn + sn + 2), .val (.int (1 : Int32)), vN (pn + kn + 1)]) rfl r) ?_
            show GoesW p ee below s _ _ _ _ _ (T27.setTop (mkF m 412 #[.val (.int p1), .val (.int p2), .val (.int p3), .val (.int p4), vN pn, vN kn, vN sn, vN k1, vN k3, vN k5, vN k10, vN k7, vN k9, vR o13j, vR o14j, vR o15j, vR b11, vR o16, vN (pn + kn + sn + 2), .val (.int (1 : Int32)), vN (pn + kn + 1)] []))
            have J444 : ∀  (T : State) (locs : List Loc), Stand p l ee room_1 (s.setVm vm16) m #[(.int p1), (.int p2), (.int p3), (.int p4)] below meth cc T locs 29 463 → T.heap = h16 → Fr n0 locs → GoesW p ee below s room_1.cells room_1.slots Z consts_1 (Q_law Z p1 p2 p3 p4 cs fm h0 n0) (T.setTop (mkF m 444 #[.val (.int p1), .val (.int p2), .val (.int p3), .val (.int p4), vN pn, vN kn, vN sn, vN k1, vN k3, vN k5, vN k10, vN k7, vN k9, vR o13j, vR o14j, vR o15j, vR b11, vR o16, vN (pn + kn + sn + 2), .val (.int (1 : Int32)), vN (pn + kn + 1)] [])) := by
              intro T locs X eT N
              show GoesW p ee below s _ _ _ _ _ (T.setTop (mkF m 444 #[.val (.int p1), .val (.int p2), .val (.int p3), .val (.int p4), vN pn, vN kn, vN sn, vN k1, vN k3, vN k5, vN k10, vN k7, vN k9, vR o13j, vR o14j, vR o15j, vR b11, vR o16, vN (pn + kn + sn + 2), .val (.int (1 : Int32)), vN (pn + kn + 1)] []))
              refine gW (fun _ r => XS.iload X.here hx rfl (hb hby at_444) rfl  r) ?_
              refine gW (fun _ r => XS.iconst X.here hx rfl (hb hby at_446) r) ?_
              by_cases hn447_29 : sn = 2
              · refine gW (fun _ r => XS.icmpNo X.here hx rfl (hb hby at_447) rfl (teq ((own_eqN sn 2 (by omega) (by decide)).mpr hn447_29)).2 r) ?_
                refine gW (fun _ r => XS.iload X.here hx rfl (hb hby at_450) rfl  r) ?_
                refine gW (fun _ r => XS.ifNo X.here hx rfl (hb hby at_452) rfl ((if0 _ _).trans (feq (by decide)).1) r) ?_
                refine gW (fun _ r => XS.aload X.here hx rfl (hb hby at_455) rfl rfl r) ?_
                show GoesW p ee below s _ _ _ _ _ (T.setTop (mkF m 457 #[.val (.int p1), .val (.int p2), .val (.int p3), .val (.int p4), vN pn, vN kn, vN sn, vN k1, vN k3, vN k5, vN k10, vN k7, vN k9, vR o13j, vR o14j, vR o15j, vR b11, vR o16, vN (pn + kn + sn + 2), .val (.int (1 : Int32)), vN (pn + kn + 1)] [(.ref o16)]))
                refine gW (fun _ r => XS.iload X.here hx rfl (hb hby at_457) rfl  r) ?_
                refine gW (fun _ r => XS.iconst X.here hx rfl (hb hby at_459) r) ?_
                refine gW (fun _ r => XS.iadd X.here hx rfl (hb hby at_460) rfl r) ?_
                show GoesW p ee below s _ _ _ _ _ (T.setTop (mkF m 461 #[.val (.int p1), .val (.int p2), .val (.int p3), .val (.int p4), vN pn, vN kn, vN sn, vN k1, vN k3, vN k5, vN k10, vN k7, vN k9, vR o13j, vR o14j, vR o15j, vR b11, vR o16, vN (pn + kn + sn + 2), .val (.int (1 : Int32)), vN (pn + kn + 1)] [(.int ((Int32.ofNat (pn + kn + 1)) + (2 : Int32))), (.ref o16)]))
                rw [show Int32.ofNat (pn + kn + 1) + (2 : Int32) = Int32.ofNat (pn + kn + 2 + 1) from own_addN _ _]
                show GoesW p ee below s _ _ _ _ _ (T.setTop (mkF m 461 #[.val (.int p1), .val (.int p2), .val (.int p3), .val (.int p4), vN pn, vN kn, vN sn, vN k1, vN k3, vN k5, vN k10, vN k7, vN k9, vR o13j, vR o14j, vR o15j, vR b11, vR o16, vN (pn + kn + sn + 2), .val (.int (1 : Int32)), vN (pn + kn + 1)] [(.int (Int32.ofNat (pn + kn + 2 + 1))), (.ref o16)]))
                have lt_o13j := E13j.lt
                have lt_b13j := A13j.lt
                have lt_o14j := E14j.lt
                have lt_b14j := A14j.lt
                have lt_o15j := E15j.lt
                have lt_b15j := A15j.lt
                have lt_b11 := Ei13.lt
                have lt_o16 := Ei16.lt
                have lt_b16 := A_b16.lt
                obtain ⟨v30, T30, L30, X30, hQ30, st30⟩ := own_callV X hx hZ (y := (⟨"java/lang/String", "charAt", "(I)C"⟩ : MethodName)) hown (own_w hw 256 rfl) (own_w hw 149 rfl) (own_w hw 151 rfl) (own_w hw 150 rfl) (own_w hw 10 rfl) (own_w hw 152 rfl) (by decide) (a := o16) (argsL := [(.int (Int32.ofNat (pn + kn + 2 + 1)))]) (rm_schar l Z a0 hw [] cs fm o16 b16 ((false || ((false || u13j) || u14j)) || u15j) (own_kn pn kn sn) (own_kc pn kn sn (fun j => [k1, k3].getD j 0) (fun j => [k5, k10].getD j 0) (fun j => [k7, k9].getD j 0)) (pn + kn + 2 + 1) h16 n0 Zp18 ST OO (by omega) Ei16 Fv16 Fc16 A_b16 hRc hlu16 (by omega)) eT Ei16 (W := 0) (by decide) (by decide) (by decide) (by decide) (g := (mkF m 461 #[.val (.int p1), .val (.int p2), .val (.int p3), .val (.int p4), vN pn, vN kn, vN sn, vN k1, vN k3, vN k5, vN k10, vN k7, vN k9, vR o13j, vR o14j, vR o15j, vR b11, vR o16, vN (pn + kn + sn + 2), .val (.int (1 : Int32)), vN (pn + kn + 1)] [(.int (Int32.ofNat (pn + kn + 2 + 1))), (.ref o16)])) rfl (by rw [hml]; rfl) (rest := []) (lenOf pd_38 rfl) rfl (by show 2 * 0 + _ ≤ _; exact Nat.le_of_eq rfl) (hb hby at_461)
                refine gW st30 ?_
                obtain ⟨rfl, N30, e30⟩ := hQ30
                have N31 := Fr.app N N30
                refine gW (fun _ r => XS.iload X30.here hx rfl (hb hby at_464) rfl  r) ?_
                refine gW (fun _ r => XS.icmpNo X30.here hx rfl (hb hby at_466) rfl (teq (congrArg Int32.ofNat (own_kc_s pn kn sn (fun j => [k1, k3].getD j 0) (fun j => [k5, k10].getD j 0) (fun j => [k7, k9].getD j 0) 1))).2 r) ?_
                refine gW (fun _ r => XS.iconst X30.here hx rfl (hb hby at_469) r) ?_
                refine gW (fun _ r => XS.goto X30.here hx rfl (pc0 := 470) (pc' := 474) rfl (hb hby at_470) (by decide) (by decide) r) ?_
                refine gW (fun _ r => XS.istore X30.here hx rfl (hb hby at_474) rfl  (l' := #[.val (.int p1), .val (.int p2), .val (.int p3), .val (.int p4), vN pn, vN kn, vN sn, vN k1, vN k3, vN k5, vN k10, vN k7, vN k9, vR o13j, vR o14j, vR o15j, vR b11, vR o16, vN (pn + kn + sn + 2), .val (.int (1 : Int32)), vN (pn + kn + 1)]) rfl r) ?_
                show GoesW p ee below s _ _ _ _ _ (T30.setTop (mkF m 476 #[.val (.int p1), .val (.int p2), .val (.int p3), .val (.int p4), vN pn, vN kn, vN sn, vN k1, vN k3, vN k5, vN k10, vN k7, vN k9, vR o13j, vR o14j, vR o15j, vR b11, vR o16, vN (pn + kn + sn + 2), .val (.int (1 : Int32)), vN (pn + kn + 1)] []))
                refine gW (fun _ r => XS.iload X30.here hx rfl (hb hby at_476) rfl  r) ?_
                show GoesW p ee below s _ _ _ _ _ (T30.setTop (mkF m 478 #[.val (.int p1), .val (.int p2), .val (.int p3), .val (.int p4), vN pn, vN kn, vN sn, vN k1, vN k3, vN k5, vN k10, vN k7, vN k9, vR o13j, vR o14j, vR o15j, vR b11, vR o16, vN (pn + kn + sn + 2), .val (.int (1 : Int32)), vN (pn + kn + 1)] [(.int (1 : Int32))]))
                refine GoesW.retZ X30 hx hZ hEL C e30 Bd.notSynchronized Bd.returns (by simp) rfl (hb hby at_478) (by decide) (by decide) ?_
                exact ⟨rfl, N31⟩
              · refine gW (fun _ r => XS.icmpYes X.here hx rfl (pc0 := 447) (pc' := 476) rfl (hb hby at_447) rfl (feq (fun z => hn447_29 ((own_eqN sn 2 (by omega) (by decide)).mp z))).2 (by decide) (by decide) r) ?_
                refine gW (fun _ r => XS.iload X.here hx rfl (hb hby at_476) rfl  r) ?_
                show GoesW p ee below s _ _ _ _ _ (T.setTop (mkF m 478 #[.val (.int p1), .val (.int p2), .val (.int p3), .val (.int p4), vN pn, vN kn, vN sn, vN k1, vN k3, vN k5, vN k10, vN k7, vN k9, vR o13j, vR o14j, vR o15j, vR b11, vR o16, vN (pn + kn + sn + 2), .val (.int (1 : Int32)), vN (pn + kn + 1)] [(.int (1 : Int32))]))
                refine GoesW.retZ X hx hZ hEL C eT Bd.notSynchronized Bd.returns (by simp) rfl (hb hby at_478) (by decide) (by decide) ?_
                exact ⟨rfl, N⟩
            refine gW (fun _ r => XS.iload X27.here hx rfl (hb hby at_412) rfl  r) ?_
            refine gW (fun _ r => XS.iconst X27.here hx rfl (hb hby at_414) r) ?_
            by_cases hn415_32 : sn < 1
            · refine gW (fun _ r => XS.icmpYes X27.here hx rfl (pc0 := 415) (pc' := 444) rfl (hb hby at_415) rfl (tlt ((own_ltN sn 1 (by omega) (by decide)).mpr hn415_32)).1 (by decide) (by decide) r) ?_
              show GoesW p ee below s _ _ _ _ _ (T27.setTop (mkF m 444 #[.val (.int p1), .val (.int p2), .val (.int p3), .val (.int p4), vN pn, vN kn, vN sn, vN k1, vN k3, vN k5, vN k10, vN k7, vN k9, vR o13j, vR o14j, vR o15j, vR b11, vR o16, vN (pn + kn + sn + 2), .val (.int (1 : Int32)), vN (pn + kn + 1)] []))
              exact J444 _ _ X27 e27 N28
            · refine gW (fun _ r => XS.icmpNo X27.here hx rfl (hb hby at_415) rfl (flt (fun z => hn415_32 ((own_ltN sn 1 (by omega) (by decide)).mp z))).1 r) ?_
              refine gW (fun _ r => XS.iload X27.here hx rfl (hb hby at_418) rfl  r) ?_
              refine gW (fun _ r => XS.ifNo X27.here hx rfl (hb hby at_420) rfl ((if0 _ _).trans (feq (by decide)).1) r) ?_
              refine gW (fun _ r => XS.aload X27.here hx rfl (hb hby at_423) rfl rfl r) ?_
              show GoesW p ee below s _ _ _ _ _ (T27.setTop (mkF m 425 #[.val (.int p1), .val (.int p2), .val (.int p3), .val (.int p4), vN pn, vN kn, vN sn, vN k1, vN k3, vN k5, vN k10, vN k7, vN k9, vR o13j, vR o14j, vR o15j, vR b11, vR o16, vN (pn + kn + sn + 2), .val (.int (1 : Int32)), vN (pn + kn + 1)] [(.ref o16)]))
              refine gW (fun _ r => XS.iload X27.here hx rfl (hb hby at_425) rfl  r) ?_
              refine gW (fun _ r => XS.iconst X27.here hx rfl (hb hby at_427) r) ?_
              refine gW (fun _ r => XS.iadd X27.here hx rfl (hb hby at_428) rfl r) ?_
              show GoesW p ee below s _ _ _ _ _ (T27.setTop (mkF m 429 #[.val (.int p1), .val (.int p2), .val (.int p3), .val (.int p4), vN pn, vN kn, vN sn, vN k1, vN k3, vN k5, vN k10, vN k7, vN k9, vR o13j, vR o14j, vR o15j, vR b11, vR o16, vN (pn + kn + sn + 2), .val (.int (1 : Int32)), vN (pn + kn + 1)] [(.int ((Int32.ofNat (pn + kn + 1)) + (1 : Int32))), (.ref o16)]))
              rw [show Int32.ofNat (pn + kn + 1) + (1 : Int32) = Int32.ofNat (pn + kn + 2 + 0) from own_addN _ _]
              show GoesW p ee below s _ _ _ _ _ (T27.setTop (mkF m 429 #[.val (.int p1), .val (.int p2), .val (.int p3), .val (.int p4), vN pn, vN kn, vN sn, vN k1, vN k3, vN k5, vN k10, vN k7, vN k9, vR o13j, vR o14j, vR o15j, vR b11, vR o16, vN (pn + kn + sn + 2), .val (.int (1 : Int32)), vN (pn + kn + 1)] [(.int (Int32.ofNat (pn + kn + 2 + 0))), (.ref o16)]))
              have lt_o13j := E13j.lt
              have lt_b13j := A13j.lt
              have lt_o14j := E14j.lt
              have lt_b14j := A14j.lt
              have lt_o15j := E15j.lt
              have lt_b15j := A15j.lt
              have lt_b11 := Ei13.lt
              have lt_o16 := Ei16.lt
              have lt_b16 := A_b16.lt
              obtain ⟨v33, T33, L33, X33, hQ33, st33⟩ := own_callV X27 hx hZ (y := (⟨"java/lang/String", "charAt", "(I)C"⟩ : MethodName)) hown (own_w hw 256 rfl) (own_w hw 149 rfl) (own_w hw 151 rfl) (own_w hw 150 rfl) (own_w hw 10 rfl) (own_w hw 152 rfl) (by decide) (a := o16) (argsL := [(.int (Int32.ofNat (pn + kn + 2 + 0)))]) (rm_schar l Z a0 hw [] cs fm o16 b16 ((false || ((false || u13j) || u14j)) || u15j) (own_kn pn kn sn) (own_kc pn kn sn (fun j => [k1, k3].getD j 0) (fun j => [k5, k10].getD j 0) (fun j => [k7, k9].getD j 0)) (pn + kn + 2 + 0) h16 n0 Zp18 ST OO (by omega) Ei16 Fv16 Fc16 A_b16 hRc hlu16 (by omega)) e27 Ei16 (W := 0) (by decide) (by decide) (by decide) (by decide) (g := (mkF m 429 #[.val (.int p1), .val (.int p2), .val (.int p3), .val (.int p4), vN pn, vN kn, vN sn, vN k1, vN k3, vN k5, vN k10, vN k7, vN k9, vR o13j, vR o14j, vR o15j, vR b11, vR o16, vN (pn + kn + sn + 2), .val (.int (1 : Int32)), vN (pn + kn + 1)] [(.int (Int32.ofNat (pn + kn + 2 + 0))), (.ref o16)])) rfl (by rw [hml]; rfl) (rest := []) (lenOf pd_38 rfl) rfl (by show 2 * 0 + _ ≤ _; exact Nat.le_of_eq rfl) (hb hby at_429)
              refine gW st33 ?_
              obtain ⟨rfl, N33, e33⟩ := hQ33
              have N34 := Fr.app N28 N33
              refine gW (fun _ r => XS.iload X33.here hx rfl (hb hby at_432) rfl  r) ?_
              refine gW (fun _ r => XS.icmpNo X33.here hx rfl (hb hby at_434) rfl (teq (congrArg Int32.ofNat (own_kc_s pn kn sn (fun j => [k1, k3].getD j 0) (fun j => [k5, k10].getD j 0) (fun j => [k7, k9].getD j 0) 0))).2 r) ?_
              refine gW (fun _ r => XS.iconst X33.here hx rfl (hb hby at_437) r) ?_
              refine gW (fun _ r => XS.goto X33.here hx rfl (pc0 := 438) (pc' := 442) rfl (hb hby at_438) (by decide) (by decide) r) ?_
              refine gW (fun _ r => XS.istore X33.here hx rfl (hb hby at_442) rfl  (l' := #[.val (.int p1), .val (.int p2), .val (.int p3), .val (.int p4), vN pn, vN kn, vN sn, vN k1, vN k3, vN k5, vN k10, vN k7, vN k9, vR o13j, vR o14j, vR o15j, vR b11, vR o16, vN (pn + kn + sn + 2), .val (.int (1 : Int32)), vN (pn + kn + 1)]) rfl r) ?_
              show GoesW p ee below s _ _ _ _ _ (T33.setTop (mkF m 444 #[.val (.int p1), .val (.int p2), .val (.int p3), .val (.int p4), vN pn, vN kn, vN sn, vN k1, vN k3, vN k5, vN k10, vN k7, vN k9, vR o13j, vR o14j, vR o15j, vR b11, vR o16, vN (pn + kn + sn + 2), .val (.int (1 : Int32)), vN (pn + kn + 1)] []))
              exact J444 _ _ X33 e33 N34
          refine gW (fun _ r => XS.iload X25.here hx rfl (hb hby at_347) rfl  r) ?_
          refine gW (fun _ r => XS.iconst X25.here hx rfl (hb hby at_349) r) ?_
          by_cases hn350_35 : kn = 2
          · refine gW (fun _ r => XS.icmpNo X25.here hx rfl (hb hby at_350) rfl (teq ((own_eqN kn 2 (by omega) (by decide)).mpr hn350_35)).2 r) ?_
            refine gW (fun _ r => XS.iload X25.here hx rfl (hb hby at_353) rfl  r) ?_
            refine gW (fun _ r => XS.ifNo X25.here hx rfl (hb hby at_355) rfl ((if0 _ _).trans (feq (by decide)).1) r) ?_
            refine gW (fun _ r => XS.aload X25.here hx rfl (hb hby at_358) rfl rfl r) ?_
            show GoesW p ee below s _ _ _ _ _ (T25.setTop (mkF m 360 #[.val (.int p1), .val (.int p2), .val (.int p3), .val (.int p4), vN pn, vN kn, vN sn, vN k1, vN k3, vN k5, vN k10, vN k7, vN k9, vR o13j, vR o14j, vR o15j, vR b11, vR o16, vN (pn + kn + sn + 2), .val (.int (1 : Int32)), .unset] [(.ref o16)]))
            refine gW (fun _ r => XS.iload X25.here hx rfl (hb hby at_360) rfl  r) ?_
            refine gW (fun _ r => XS.iconst X25.here hx rfl (hb hby at_362) r) ?_
            refine gW (fun _ r => XS.iadd X25.here hx rfl (hb hby at_363) rfl r) ?_
            show GoesW p ee below s _ _ _ _ _ (T25.setTop (mkF m 364 #[.val (.int p1), .val (.int p2), .val (.int p3), .val (.int p4), vN pn, vN kn, vN sn, vN k1, vN k3, vN k5, vN k10, vN k7, vN k9, vR o13j, vR o14j, vR o15j, vR b11, vR o16, vN (pn + kn + sn + 2), .val (.int (1 : Int32)), .unset] [(.int ((Int32.ofNat pn) + (2 : Int32))), (.ref o16)]))
            rw [show Int32.ofNat pn + (2 : Int32) = Int32.ofNat (pn + 1 + 1) from own_addN _ _]
            show GoesW p ee below s _ _ _ _ _ (T25.setTop (mkF m 364 #[.val (.int p1), .val (.int p2), .val (.int p3), .val (.int p4), vN pn, vN kn, vN sn, vN k1, vN k3, vN k5, vN k10, vN k7, vN k9, vR o13j, vR o14j, vR o15j, vR b11, vR o16, vN (pn + kn + sn + 2), .val (.int (1 : Int32)), .unset] [(.int (Int32.ofNat (pn + 1 + 1))), (.ref o16)]))
            have lt_o13j := E13j.lt
            have lt_b13j := A13j.lt
            have lt_o14j := E14j.lt
            have lt_b14j := A14j.lt
            have lt_o15j := E15j.lt
            have lt_b15j := A15j.lt
            have lt_b11 := Ei13.lt
            have lt_o16 := Ei16.lt
            have lt_b16 := A_b16.lt
            obtain ⟨v36, T36, L36, X36, hQ36, st36⟩ := own_callV X25 hx hZ (y := (⟨"java/lang/String", "charAt", "(I)C"⟩ : MethodName)) hown (own_w hw 256 rfl) (own_w hw 149 rfl) (own_w hw 151 rfl) (own_w hw 150 rfl) (own_w hw 10 rfl) (own_w hw 152 rfl) (by decide) (a := o16) (argsL := [(.int (Int32.ofNat (pn + 1 + 1)))]) (rm_schar l Z a0 hw [] cs fm o16 b16 ((false || ((false || u13j) || u14j)) || u15j) (own_kn pn kn sn) (own_kc pn kn sn (fun j => [k1, k3].getD j 0) (fun j => [k5, k10].getD j 0) (fun j => [k7, k9].getD j 0)) (pn + 1 + 1) h16 n0 Zp18 ST OO (by omega) Ei16 Fv16 Fc16 A_b16 hRc hlu16 (by omega)) e25 Ei16 (W := 0) (by decide) (by decide) (by decide) (by decide) (g := (mkF m 364 #[.val (.int p1), .val (.int p2), .val (.int p3), .val (.int p4), vN pn, vN kn, vN sn, vN k1, vN k3, vN k5, vN k10, vN k7, vN k9, vR o13j, vR o14j, vR o15j, vR b11, vR o16, vN (pn + kn + sn + 2), .val (.int (1 : Int32)), .unset] [(.int (Int32.ofNat (pn + 1 + 1))), (.ref o16)])) rfl (by rw [hml]; rfl) (rest := []) (lenOf pd_38 rfl) rfl (by show 2 * 0 + _ ≤ _; exact Nat.le_of_eq rfl) (hb hby at_364)
            refine gW st36 ?_
            obtain ⟨rfl, N36, e36⟩ := hQ36
            have N37 := Fr.app N26 N36
            refine gW (fun _ r => XS.iload X36.here hx rfl (hb hby at_367) rfl  r) ?_
            refine gW (fun _ r => XS.icmpNo X36.here hx rfl (hb hby at_369) rfl (teq (congrArg Int32.ofNat (own_kc_k pn kn sn (fun j => [k1, k3].getD j 0) (fun j => [k5, k10].getD j 0) (fun j => [k7, k9].getD j 0) 1 (by omega)))).2 r) ?_
            refine gW (fun _ r => XS.iconst X36.here hx rfl (hb hby at_372) r) ?_
            refine gW (fun _ r => XS.goto X36.here hx rfl (pc0 := 373) (pc' := 377) rfl (hb hby at_373) (by decide) (by decide) r) ?_
            refine gW (fun _ r => XS.istore X36.here hx rfl (hb hby at_377) rfl  (l' := #[.val (.int p1), .val (.int p2), .val (.int p3), .val (.int p4), vN pn, vN kn, vN sn, vN k1, vN k3, vN k5, vN k10, vN k7, vN k9, vR o13j, vR o14j, vR o15j, vR b11, vR o16, vN (pn + kn + sn + 2), .val (.int (1 : Int32)), .unset]) rfl r) ?_
            show GoesW p ee below s _ _ _ _ _ (T36.setTop (mkF m 379 #[.val (.int p1), .val (.int p2), .val (.int p3), .val (.int p4), vN pn, vN kn, vN sn, vN k1, vN k3, vN k5, vN k10, vN k7, vN k9, vR o13j, vR o14j, vR o15j, vR b11, vR o16, vN (pn + kn + sn + 2), .val (.int (1 : Int32)), .unset] []))
            exact J379 _ _ X36 e36 N37
          · refine gW (fun _ r => XS.icmpYes X25.here hx rfl (pc0 := 350) (pc' := 379) rfl (hb hby at_350) rfl (feq (fun z => hn350_35 ((own_eqN kn 2 (by omega) (by decide)).mp z))).2 (by decide) (by decide) r) ?_
            show GoesW p ee below s _ _ _ _ _ (T25.setTop (mkF m 379 #[.val (.int p1), .val (.int p2), .val (.int p3), .val (.int p4), vN pn, vN kn, vN sn, vN k1, vN k3, vN k5, vN k10, vN k7, vN k9, vR o13j, vR o14j, vR o15j, vR b11, vR o16, vN (pn + kn + sn + 2), .val (.int (1 : Int32)), .unset] []))
            exact J379 _ _ X25 e25 N26
        refine gW (fun _ r => XS.iload X21.here hx rfl (hb hby at_268) rfl  r) ?_
        refine gW (fun _ r => XS.iconst X21.here hx rfl (hb hby at_270) r) ?_
        by_cases hn271_38 : pn = 2
        · refine gW (fun _ r => XS.icmpNo X21.here hx rfl (hb hby at_271) rfl (teq ((own_eqN pn 2 (by omega) (by decide)).mpr hn271_38)).2 r) ?_
          refine gW (fun _ r => XS.iload X21.here hx rfl (hb hby at_274) rfl  r) ?_
          refine gW (fun _ r => XS.ifNo X21.here hx rfl (hb hby at_276) rfl ((if0 _ _).trans (feq (by decide)).1) r) ?_
          refine gW (fun _ r => XS.aload X21.here hx rfl (hb hby at_279) rfl rfl r) ?_
          show GoesW p ee below s _ _ _ _ _ (T21.setTop (mkF m 281 #[.val (.int p1), .val (.int p2), .val (.int p3), .val (.int p4), vN pn, vN kn, vN sn, vN k1, vN k3, vN k5, vN k10, vN k7, vN k9, vR o13j, vR o14j, vR o15j, vR b11, vR o16, vN (pn + kn + sn + 2), .val (.int (1 : Int32)), .unset] [(.ref o16)]))
          refine gW (fun _ r => XS.iconst X21.here hx rfl (hb hby at_281) r) ?_
          have lt_o13j := E13j.lt
          have lt_b13j := A13j.lt
          have lt_o14j := E14j.lt
          have lt_b14j := A14j.lt
          have lt_o15j := E15j.lt
          have lt_b15j := A15j.lt
          have lt_b11 := Ei13.lt
          have lt_o16 := Ei16.lt
          have lt_b16 := A_b16.lt
          obtain ⟨v39, T39, L39, X39, hQ39, st39⟩ := own_callV X21 hx hZ (y := (⟨"java/lang/String", "charAt", "(I)C"⟩ : MethodName)) hown (own_w hw 256 rfl) (own_w hw 149 rfl) (own_w hw 151 rfl) (own_w hw 150 rfl) (own_w hw 10 rfl) (own_w hw 152 rfl) (by decide) (a := o16) (argsL := [(.int (1 : Int32))]) (rm_schar l Z a0 hw [] cs fm o16 b16 ((false || ((false || u13j) || u14j)) || u15j) (own_kn pn kn sn) (own_kc pn kn sn (fun j => [k1, k3].getD j 0) (fun j => [k5, k10].getD j 0) (fun j => [k7, k9].getD j 0)) 1 h16 n0 Zp18 ST OO (by omega) Ei16 Fv16 Fc16 A_b16 hRc hlu16 (by omega)) e21 Ei16 (W := 0) (by decide) (by decide) (by decide) (by decide) (g := (mkF m 282 #[.val (.int p1), .val (.int p2), .val (.int p3), .val (.int p4), vN pn, vN kn, vN sn, vN k1, vN k3, vN k5, vN k10, vN k7, vN k9, vR o13j, vR o14j, vR o15j, vR b11, vR o16, vN (pn + kn + sn + 2), .val (.int (1 : Int32)), .unset] [(.int (1 : Int32)), (.ref o16)])) rfl (by rw [hml]; rfl) (rest := []) (lenOf pd_38 rfl) rfl (by show 2 * 0 + _ ≤ _; exact Nat.le_of_eq rfl) (hb hby at_282)
          refine gW st39 ?_
          obtain ⟨rfl, N39, e39⟩ := hQ39
          have N40 := Fr.app N22 N39
          refine gW (fun _ r => XS.iload X39.here hx rfl (hb hby at_285) rfl  r) ?_
          refine gW (fun _ r => XS.icmpNo X39.here hx rfl (hb hby at_287) rfl (teq (congrArg Int32.ofNat (own_kc_p pn kn sn (fun j => [k1, k3].getD j 0) (fun j => [k5, k10].getD j 0) (fun j => [k7, k9].getD j 0) 1 (by omega)))).2 r) ?_
          refine gW (fun _ r => XS.iconst X39.here hx rfl (hb hby at_290) r) ?_
          refine gW (fun _ r => XS.goto X39.here hx rfl (pc0 := 291) (pc' := 295) rfl (hb hby at_291) (by decide) (by decide) r) ?_
          show GoesW p ee below s _ _ _ _ _ (T39.setTop (mkF m 295 #[.val (.int p1), .val (.int p2), .val (.int p3), .val (.int p4), vN pn, vN kn, vN sn, vN k1, vN k3, vN k5, vN k10, vN k7, vN k9, vR o13j, vR o14j, vR o15j, vR b11, vR o16, vN (pn + kn + sn + 2), .val (.int (1 : Int32)), .unset] [(.int (1 : Int32))]))
          refine gW (fun _ r => XS.istore X39.here hx rfl (hb hby at_295) rfl  (l' := #[.val (.int p1), .val (.int p2), .val (.int p3), .val (.int p4), vN pn, vN kn, vN sn, vN k1, vN k3, vN k5, vN k10, vN k7, vN k9, vR o13j, vR o14j, vR o15j, vR b11, vR o16, vN (pn + kn + sn + 2), .val (.int (1 : Int32)), .unset]) rfl r) ?_
          show GoesW p ee below s _ _ _ _ _ (T39.setTop (mkF m 297 #[.val (.int p1), .val (.int p2), .val (.int p3), .val (.int p4), vN pn, vN kn, vN sn, vN k1, vN k3, vN k5, vN k10, vN k7, vN k9, vR o13j, vR o14j, vR o15j, vR b11, vR o16, vN (pn + kn + sn + 2), .val (.int (1 : Int32)), .unset] []))
          exact J297 _ _ X39 e39 N40
        · refine gW (fun _ r => XS.icmpYes X21.here hx rfl (pc0 := 271) (pc' := 297) rfl (hb hby at_271) rfl (feq (fun z => hn271_38 ((own_eqN pn 2 (by omega) (by decide)).mp z))).2 (by decide) (by decide) r) ?_
          show GoesW p ee below s _ _ _ _ _ (T21.setTop (mkF m 297 #[.val (.int p1), .val (.int p2), .val (.int p3), .val (.int p4), vN pn, vN kn, vN sn, vN k1, vN k3, vN k5, vN k10, vN k7, vN k9, vR o13j, vR o14j, vR o15j, vR b11, vR o16, vN (pn + kn + sn + 2), .val (.int (1 : Int32)), .unset] []))
          exact J297 _ _ X21 e21 N22
      show GoesW p ee below s _ _ _ _ _ (T.setTop (mkF m 154 #[.val (.int p1), .val (.int p2), .val (.int p3), .val (.int p4), vN pn, vN kn, vN sn, vN k1, vN k3, vN k5, vN k10, vN k7, vN k9, vR o13j, vR o14j, .unset, .unset, .unset, .unset, .unset, .unset] []))
      refine gW (fun _ r => XS.iload X.here hx rfl (hb hby at_154) rfl  r) ?_
      by_cases hn156_41 : sn = 0
      · refine gW (fun _ r => XS.ifNo X.here hx rfl (hb hby at_156) rfl ((if0 _ _).trans (teq ((own_eqN sn 0 (by omega) (by decide)).mpr hn156_41)).2) r) ?_
        have lt_o13j := E13j.lt
        have lt_b13j := A13j.lt
        have lt_o14j := E14j.lt
        have lt_b14j := A14j.lt
        obtain ⟨la42, lb42, vm42, T42, h42, ⟨X42, Cn42, hZ, hown, hsaf42⟩, e42, E42, Ei42, Fv42, Fc42, A_lb42, Lit42, hlit42, st42⟩ := own_ldcW X hx hZ hEL C hown (own_w hw 52 rfl) (own_wS hw) eT (List.mem_of_getElem? (i := 2) rfl) (vs := []) (k := 0) ⟨by decide, by decide⟩ rfl (by decide) (g := (mkF m 159 #[.val (.int p1), .val (.int p2), .val (.int p3), .val (.int p4), vN pn, vN kn, vN sn, vN k1, vN k3, vN k5, vN k10, vN k7, vN k9, vR o13j, vR o14j, .unset, .unset, .unset, .unset, .unset, .unset] [])) rfl (hb hby at_159) (n := 0) (by decide) (by decide) (by decide) (by decide)
        refine gW st42 ?_
        rw [e42] at Cn42 hsaf42
        have C := Cn42
        have E13j := E13j.ext E42
        have V13j := V13j.ext E42
        have C13j := C13j.ext E42
        have A13j := A13j.ext E42
        have E14j := E14j.ext E42
        have V14j := V14j.ext E42
        have C14j := C14j.ext E42
        have A14j := A14j.ext E42
        have Zp43 := Nat.le_trans Zp E42.1
        have OO := OO.ext E42
        show GoesW p ee below s _ _ _ _ _ (T42.setTop (mkF m 161 #[.val (.int p1), .val (.int p2), .val (.int p3), .val (.int p4), vN pn, vN kn, vN sn, vN k1, vN k3, vN k5, vN k10, vN k7, vN k9, vR o13j, vR o14j, .unset, .unset, .unset, .unset, .unset, .unset] [(.ref la42)]))
        have A_lb42 : OA Z h42 lb42 .byte (own_len false 0) (own_by false (fun _ => 0)) := A_lb42.congr (fun j hj => absurd hj (Nat.not_lt_zero j))
        refine gW (fun _ r => XS.astore X42.here hx rfl (hb hby at_161) rfl rfl (l' := #[.val (.int p1), .val (.int p2), .val (.int p3), .val (.int p4), vN pn, vN kn, vN sn, vN k1, vN k3, vN k5, vN k10, vN k7, vN k9, vR o13j, vR o14j, vR la42, .unset, .unset, .unset, .unset, .unset]) rfl r) ?_
        refine gW (fun _ r => XS.goto X42.here hx rfl (pc0 := 163) (pc' := 204) rfl (hb hby at_163) (by decide) (by decide) r) ?_
        show GoesW p ee below s _ _ _ _ _ (T42.setTop (mkF m 204 #[.val (.int p1), .val (.int p2), .val (.int p3), .val (.int p4), vN pn, vN kn, vN sn, vN k1, vN k3, vN k5, vN k10, vN k7, vN k9, vR o13j, vR o14j, vR la42, .unset, .unset, .unset, .unset, .unset] []))
        exact J204 _ _ _ _ o13j b13j u13j o14j b14j u14j la42 lb42 false (X42.mono (by decide) (by decide)) e42 N Zp43 C hZ hown OO E13j V13j C13j A13j L13j E14j V14j C14j A14j L14j Ei42 Fv42 Fc42 (own_by_congr hn156_41.symm (fun j hj => absurd hj (Nat.not_lt_zero j)) A_lb42) (fun q j hj => by omega)
      · refine gW (fun _ r => XS.ifYes X.here hx rfl (pc0 := 156) (pc' := 166) rfl (hb hby at_156) rfl ((if0 _ _).trans (feq (fun z => hn156_41 ((own_eqN sn 0 (by omega) (by decide)).mp z))).2) (by decide) (by decide) r) ?_
        refine gW (fun _ r => XS.iload X.here hx rfl (hb hby at_166) rfl  r) ?_
        refine gW (fun _ r => XS.iconst X.here hx rfl (hb hby at_168) r) ?_
        by_cases hn169_44 : sn = 1
        · refine gW (fun _ r => XS.icmpNo X.here hx rfl (hb hby at_169) rfl (teq ((own_eqN sn 1 (by omega) (by decide)).mpr hn169_44)).2 r) ?_
          refine gW (fun _ r => XS.iload X.here hx rfl (hb hby at_172) rfl  r) ?_
          show GoesW p ee below s _ _ _ _ _ (T.setTop (mkF m 174 #[.val (.int p1), .val (.int p2), .val (.int p3), .val (.int p4), vN pn, vN kn, vN sn, vN k1, vN k3, vN k5, vN k10, vN k7, vN k9, vR o13j, vR o14j, .unset, .unset, .unset, .unset, .unset, .unset] [(.int (Int32.ofNat k7))]))
          have lt_o13j := E13j.lt
          have lt_b13j := A13j.lt
          have lt_o14j := E14j.lt
          have lt_b14j := A14j.lt
          obtain ⟨v45, T45, L45, X45, hQ45, st45⟩ := own_callS X hx hZ (y := (⟨"java/lang/String", "valueOf", "(C)Ljava/lang/String;"⟩ : MethodName)) hown (own_w hw 38 rfl) (own_w hw 39 rfl) (own_w hw 10 rfl) (own_w hw 40 rfl) (by decide) (argsL := [(.int (Int32.ofNat k7))]) (rm_vof l Z a0 hw [] cs fm k7 hh n0 Zp ST OO hk7) eT (W := 0) (by decide) (by decide) (by decide) (by decide) (g := (mkF m 174 #[.val (.int p1), .val (.int p2), .val (.int p3), .val (.int p4), vN pn, vN kn, vN sn, vN k1, vN k3, vN k5, vN k10, vN k7, vN k9, vR o13j, vR o14j, .unset, .unset, .unset, .unset, .unset, .unset] [(.int (Int32.ofNat k7))])) rfl (by rw [hml]; rfl) (rest := []) (lenOf pd_45 rfl) rfl (by show 2 * 0 + _ ≤ _; exact Nat.le_of_eq rfl) (hb hby at_174)
          refine gW st45 ?_
          obtain ⟨o45, b45, u45, rfl, N45, Kc45, Ei45, Fv45, Fc45, A_b45, hlu45⟩ := hQ45
          have N46 := Fr.app N N45
          obtain ⟨h45, e45⟩ : ∃ h', T45.heap = h' := ⟨_, rfl⟩
          rw [e45] at Kc45 Ei45 Fv45 Fc45 A_b45
          have E13j := E13j.keep Kc45
          have V13j := V13j.keep Kc45 nin0
          have C13j := C13j.keep Kc45 nin0
          have A13j := A13j.keep Kc45 nin0
          have E14j := E14j.keep Kc45
          have V14j := V14j.keep Kc45 nin0
          have C14j := C14j.keep Kc45 nin0
          have A14j := A14j.keep Kc45 nin0
          have C := C.keep Kc45 sf0
          have OO := OO.keep Kc45 all0
          have Zp47 := Nat.le_trans Zp Kc45.1
          refine gW (fun _ r => XS.astore X45.here hx rfl (hb hby at_177) rfl rfl (l' := #[.val (.int p1), .val (.int p2), .val (.int p3), .val (.int p4), vN pn, vN kn, vN sn, vN k1, vN k3, vN k5, vN k10, vN k7, vN k9, vR o13j, vR o14j, vR o45, .unset, .unset, .unset, .unset, .unset]) rfl r) ?_
          refine gW (fun _ r => XS.goto X45.here hx rfl (pc0 := 179) (pc' := 204) rfl (hb hby at_179) (by decide) (by decide) r) ?_
          show GoesW p ee below s _ _ _ _ _ (T45.setTop (mkF m 204 #[.val (.int p1), .val (.int p2), .val (.int p3), .val (.int p4), vN pn, vN kn, vN sn, vN k1, vN k3, vN k5, vN k10, vN k7, vN k9, vR o13j, vR o14j, vR o45, .unset, .unset, .unset, .unset, .unset] []))
          exact J204 _ _ _ _ o13j b13j u13j o14j b14j u14j o45 b45 u45 (X45.mono (by decide) (by decide)) e45 N46 Zp47 C hZ hown OO E13j V13j C13j A13j L13j E14j V14j C14j A14j L14j Ei45 Fv45 Fc45 (own_by_congr hn169_44.symm (fun j hj => by match j, hj with | 0, _ => rfl | j + 1, hj => omega) A_b45) (fun q j hj => by
            have h0 := hlu45 q 0 (by decide)
            match j, hj with
            | 0, _ => exact h0
            | j + 1, hj => omega)
        · refine gW (fun _ r => XS.icmpYes X.here hx rfl (pc0 := 169) (pc' := 182) rfl (hb hby at_169) rfl (feq (fun z => hn169_44 ((own_eqN sn 1 (by omega) (by decide)).mp z))).2 (by decide) (by decide) r) ?_
          show GoesW p ee below s _ _ _ _ _ (T.setTop (mkF m 182 #[.val (.int p1), .val (.int p2), .val (.int p3), .val (.int p4), vN pn, vN kn, vN sn, vN k1, vN k3, vN k5, vN k10, vN k7, vN k9, vR o13j, vR o14j, .unset, .unset, .unset, .unset, .unset, .unset] []))
          obtain ⟨T48, h48, X48, e48, E48, A48, D48, -, st48⟩ := newO X hx hZ hown (own_w hw 8 rfl) (own_w hw 9 rfl) (own_w hw 10 rfl) eT (g := (mkF m 182 #[.val (.int p1), .val (.int p2), .val (.int p3), .val (.int p4), vN pn, vN kn, vN sn, vN k1, vN k3, vN k5, vN k10, vN k7, vN k9, vR o13j, vR o14j, .unset, .unset, .unset, .unset, .unset, .unset] [])) rfl (hb hby at_182) (by decide) (by decide)
          obtain ⟨b48, g_b48⟩ : ∃ z, z = hh.size := ⟨_, rfl⟩
          have ne_o13j_b48 : o13j ≠ b48 := Nat.ne_of_lt (Nat.lt_of_lt_of_le E13j.lt (Nat.le_of_eq g_b48.symm))
          have ne_b13j_b48 : b13j ≠ b48 := Nat.ne_of_lt (Nat.lt_of_lt_of_le A13j.lt (Nat.le_of_eq g_b48.symm))
          have ne_o14j_b48 : o14j ≠ b48 := Nat.ne_of_lt (Nat.lt_of_lt_of_le E14j.lt (Nat.le_of_eq g_b48.symm))
          have ne_b14j_b48 : b14j ≠ b48 := Nat.ne_of_lt (Nat.lt_of_lt_of_le A14j.lt (Nat.le_of_eq g_b48.symm))
          have ge_b48 : n0 ≤ b48 := Nat.le_trans Zp (Nat.le_of_eq g_b48.symm)
          rw [← g_b48] at A48 D48 st48
          have E13j := E13j.ext E48
          have V13j := V13j.ext E48
          have C13j := C13j.ext E48
          have A13j := A13j.ext E48
          have E14j := E14j.ext E48
          have V14j := V14j.ext E48
          have C14j := C14j.ext E48
          have A14j := A14j.ext E48
          have Zp49 := Nat.le_trans Zp E48.1
          have sf_b48 := Safe.ext E48 C.chv (Safe.new (Nat.le_of_eq g_b48.symm))
          have C := C.ext E48
          have OO := OO.ext E48
          refine gW st48 ?_
          have E_b48 := A48
          have F_coder_b48 : Fld Z h48 b48 "java/lang/String" "coder" "B" (.int (0 : Int32)) := D48 (Or.inr (own_w hw 35 rfl)) (ty := .byte) (by decide)
          have F_value_b48 : Fld Z h48 b48 "java/lang/String" "value" "[B" .null := D48 (Or.inr (own_w hw 37 rfl)) (ty := (.array .byte)) (by decide)
          show GoesW p ee below s _ _ _ _ _ (T48.setTop (mkF m 185 #[.val (.int p1), .val (.int p2), .val (.int p3), .val (.int p4), vN pn, vN kn, vN sn, vN k1, vN k3, vN k5, vN k10, vN k7, vN k9, vR o13j, vR o14j, .unset, .unset, .unset, .unset, .unset, .unset] [(.ref b48)]))
          refine gW (fun _ r => XS.dup X48.here hx rfl (hb hby at_185) rfl rfl r) ?_
          refine gW (fun _ r => XS.iconst X48.here hx rfl (hb hby at_186) r) ?_
          show GoesW p ee below s _ _ _ _ _ (T48.setTop (mkF m 187 #[.val (.int p1), .val (.int p2), .val (.int p3), .val (.int p4), vN pn, vN kn, vN sn, vN k1, vN k3, vN k5, vN k10, vN k7, vN k9, vR o13j, vR o14j, .unset, .unset, .unset, .unset, .unset, .unset] [(.int (2 : Int32)), (.ref b48), (.ref b48)]))
          obtain ⟨T50, h50, X50, e50, E50, A50, st50⟩ := own_newP X48 hx hZ (aty := .char) (own_w hw 11 rfl) e48 (z := (2 : Int32)) (by decide) (n := 2) rfl (cap := 2) (Nat.le_refl _) (by decide) (by decide) (by decide) (g := (mkF m 187 #[.val (.int p1), .val (.int p2), .val (.int p3), .val (.int p4), vN pn, vN kn, vN sn, vN k1, vN k3, vN k5, vN k10, vN k7, vN k9, vR o13j, vR o14j, .unset, .unset, .unset, .unset, .unset, .unset] [(.int (2 : Int32)), (.ref b48), (.ref b48)])) rfl rfl (hb hby at_187)
          obtain ⟨b50, g_b50⟩ : ∃ z, z = h48.size := ⟨_, rfl⟩
          have ne_o13j_b50 : o13j ≠ b50 := Nat.ne_of_lt (Nat.lt_of_lt_of_le E13j.lt (Nat.le_of_eq g_b50.symm))
          have ne_b13j_b50 : b13j ≠ b50 := Nat.ne_of_lt (Nat.lt_of_lt_of_le A13j.lt (Nat.le_of_eq g_b50.symm))
          have ne_o14j_b50 : o14j ≠ b50 := Nat.ne_of_lt (Nat.lt_of_lt_of_le E14j.lt (Nat.le_of_eq g_b50.symm))
          have ne_b14j_b50 : b14j ≠ b50 := Nat.ne_of_lt (Nat.lt_of_lt_of_le A14j.lt (Nat.le_of_eq g_b50.symm))
          have ne_b48_b50 : b48 ≠ b50 := Nat.ne_of_lt (Nat.lt_of_lt_of_le E_b48.lt (Nat.le_of_eq g_b50.symm))
          have ge_b50 : n0 ≤ b50 := Nat.le_trans Zp49 (Nat.le_of_eq g_b50.symm)
          rw [← g_b50] at A50 st50
          have E13j := E13j.ext E50
          have V13j := V13j.ext E50
          have C13j := C13j.ext E50
          have A13j := A13j.ext E50
          have E14j := E14j.ext E50
          have V14j := V14j.ext E50
          have C14j := C14j.ext E50
          have A14j := A14j.ext E50
          have E_b48 := E_b48.ext E50
          have F_coder_b48 := F_coder_b48.ext E50
          have F_value_b48 := F_value_b48.ext E50
          have Zp51 := Nat.le_trans Zp49 E50.1
          have sf_b48 := Safe.ext E50 C.chv sf_b48
          have sf_b50 := Safe.ext E50 C.chv (Safe.new (Nat.le_of_eq g_b50.symm))
          have C := C.ext E50
          have OO := OO.ext E50
          refine gW st50 ?_
          have A_b50 : OA Z h50 b50 .char 2 (fun _ => (.int 0)) := A50
          show GoesW p ee below s _ _ _ _ _ (T50.setTop (mkF m 189 #[.val (.int p1), .val (.int p2), .val (.int p3), .val (.int p4), vN pn, vN kn, vN sn, vN k1, vN k3, vN k5, vN k10, vN k7, vN k9, vR o13j, vR o14j, .unset, .unset, .unset, .unset, .unset, .unset] [(.ref b50), (.ref b48), (.ref b48)]))
          refine gW (fun _ r => XS.dup X50.here hx rfl (hb hby at_189) rfl rfl r) ?_
          refine gW (fun _ r => XS.iconst X50.here hx rfl (hb hby at_190) r) ?_
          refine gW (fun _ r => XS.iload X50.here hx rfl (hb hby at_191) rfl  r) ?_
          show GoesW p ee below s _ _ _ _ _ (T50.setTop (mkF m 193 #[.val (.int p1), .val (.int p2), .val (.int p3), .val (.int p4), vN pn, vN kn, vN sn, vN k1, vN k3, vN k5, vN k10, vN k7, vN k9, vR o13j, vR o14j, .unset, .unset, .unset, .unset, .unset, .unset] [(.int (Int32.ofNat k7)), (.int (0 : Int32)), (.ref b50), (.ref b50), (.ref b48), (.ref b48)]))
          obtain ⟨T52, h52, X52, e52, W52, A52, st52⟩ := own_stC X50 hx hZ e50 A_b50 (x := (Int32.ofNat k7)) (j := (0 : Int32)) (by decide) (k := 0) rfl (by decide) (g := (mkF m 193 #[.val (.int p1), .val (.int p2), .val (.int p3), .val (.int p4), vN pn, vN kn, vN sn, vN k1, vN k3, vN k5, vN k10, vN k7, vN k9, vR o13j, vR o14j, .unset, .unset, .unset, .unset, .unset, .unset] [(.int (Int32.ofNat k7)), (.int (0 : Int32)), (.ref b50), (.ref b50), (.ref b48), (.ref b48)])) rfl rfl (hb hby at_193)
          refine gW st52 ?_
          have E13j := E13j.wr W52
          have V13j := V13j.other W52 (Or.inl ne_o13j_b50)
          have C13j := C13j.other W52 (Or.inl ne_o13j_b50)
          have A13j := A13j.other W52 ne_b13j_b50
          have E14j := E14j.wr W52
          have V14j := V14j.other W52 (Or.inl ne_o14j_b50)
          have C14j := C14j.other W52 (Or.inl ne_o14j_b50)
          have A14j := A14j.other W52 ne_b14j_b50
          have E_b48 := E_b48.wr W52
          have F_coder_b48 := F_coder_b48.other W52 (Or.inl ne_b48_b50)
          have F_value_b48 := F_value_b48.other W52 (Or.inl ne_b48_b50)
          have Zp53 := Nat.le_trans Zp51 (Keep.of_wr W52).1
          have N54 := Fr.snoc X52 N ge_b50
          have sfw := sf_b50
          have sf_b48 := Safe.wr W52 sfw C.chv sf_b48
          have sf_b50 := Safe.wr W52 sfw C.chv sf_b50
          have C := C.wr W52 sfw
          have OO := OO.wr W52 ge_b50
          have A_b50 : OA Z h52 b50 .char 2 (fun i => [(.int (nar .char (Int32.ofNat k7))), (.int 0)].getD i (.int 0)) := A52.congr (fun i hi => by match i, hi with | 0, _ => rfl | 1, _ => rfl | i + 2, hi => omega)
          show GoesW p ee below s _ _ _ _ _ (T52.setTop (mkF m 194 #[.val (.int p1), .val (.int p2), .val (.int p3), .val (.int p4), vN pn, vN kn, vN sn, vN k1, vN k3, vN k5, vN k10, vN k7, vN k9, vR o13j, vR o14j, .unset, .unset, .unset, .unset, .unset, .unset] [(.ref b50), (.ref b48), (.ref b48)]))
          refine gW (fun _ r => XS.dup X52.here hx rfl (hb hby at_194) rfl rfl r) ?_
          refine gW (fun _ r => XS.iconst X52.here hx rfl (hb hby at_195) r) ?_
          refine gW (fun _ r => XS.iload X52.here hx rfl (hb hby at_196) rfl  r) ?_
          show GoesW p ee below s _ _ _ _ _ (T52.setTop (mkF m 198 #[.val (.int p1), .val (.int p2), .val (.int p3), .val (.int p4), vN pn, vN kn, vN sn, vN k1, vN k3, vN k5, vN k10, vN k7, vN k9, vR o13j, vR o14j, .unset, .unset, .unset, .unset, .unset, .unset] [(.int (Int32.ofNat k9)), (.int (1 : Int32)), (.ref b50), (.ref b50), (.ref b48), (.ref b48)]))
          obtain ⟨T55, h55, X55, e55, W55, A55, st55⟩ := own_stC X52 hx hZ e52 A_b50 (x := (Int32.ofNat k9)) (j := (1 : Int32)) (by decide) (k := 1) rfl (by decide) (g := (mkF m 198 #[.val (.int p1), .val (.int p2), .val (.int p3), .val (.int p4), vN pn, vN kn, vN sn, vN k1, vN k3, vN k5, vN k10, vN k7, vN k9, vR o13j, vR o14j, .unset, .unset, .unset, .unset, .unset, .unset] [(.int (Int32.ofNat k9)), (.int (1 : Int32)), (.ref b50), (.ref b50), (.ref b48), (.ref b48)])) rfl rfl (hb hby at_198)
          refine gW st55 ?_
          have E13j := E13j.wr W55
          have V13j := V13j.other W55 (Or.inl ne_o13j_b50)
          have C13j := C13j.other W55 (Or.inl ne_o13j_b50)
          have A13j := A13j.other W55 ne_b13j_b50
          have E14j := E14j.wr W55
          have V14j := V14j.other W55 (Or.inl ne_o14j_b50)
          have C14j := C14j.other W55 (Or.inl ne_o14j_b50)
          have A14j := A14j.other W55 ne_b14j_b50
          have E_b48 := E_b48.wr W55
          have F_coder_b48 := F_coder_b48.other W55 (Or.inl ne_b48_b50)
          have F_value_b48 := F_value_b48.other W55 (Or.inl ne_b48_b50)
          have Zp56 := Nat.le_trans Zp53 (Keep.of_wr W55).1
          have N57 := Fr.snoc X55 N54 ge_b50
          have sfw := sf_b50
          have sf_b48 := Safe.wr W55 sfw C.chv sf_b48
          have sf_b50 := Safe.wr W55 sfw C.chv sf_b50
          have C := C.wr W55 sfw
          have OO := OO.wr W55 ge_b50
          have A_b50 : OA Z h55 b50 .char 2 (fun i => [(.int (nar .char (Int32.ofNat k7))), (.int (nar .char (Int32.ofNat k9)))].getD i (.int 0)) := A55.congr (fun i hi => by match i, hi with | 0, _ => rfl | 1, _ => rfl | i + 2, hi => omega)
          show GoesW p ee below s _ _ _ _ _ (T55.setTop (mkF m 199 #[.val (.int p1), .val (.int p2), .val (.int p3), .val (.int p4), vN pn, vN kn, vN sn, vN k1, vN k3, vN k5, vN k10, vN k7, vN k9, vR o13j, vR o14j, .unset, .unset, .unset, .unset, .unset, .unset] [(.ref b50), (.ref b48), (.ref b48)]))
          have hc11 : ∀ j, j < 2 → (fun j => [k7, k9].getD j 0) j < 65536 := fun j hj => by match j, hj with | 0, _ => exact hk7 | 1, _ => exact hk9 | j + 2, hj => omega
          have A_b50 : OA Z h55 b50 .char 2 (fun i => .int (Int32.ofNat ((fun j => [k7, k9].getD j 0) i))) := A_b50.congr (fun i hi => by match i, hi with | 0, _ => exact congrArg Value.int (own_charnar k7 hk7) | 1, _ => exact congrArg Value.int (own_charnar k9 hk9) | i + 2, hi => omega)
          have lt_o13j := E13j.lt
          have lt_b13j := A13j.lt
          have lt_o14j := E14j.lt
          have lt_b14j := A14j.lt
          have lt_b48 := E_b48.lt
          have lt_b50 := A_b50.lt
          obtain ⟨v58, T58, L58, X58, hQ58, st58⟩ := own_callN X55 hx hZ (y := (⟨"java/lang/String", "<init>", "([C)V"⟩ : MethodName)) rfl hown (own_w hw 12 rfl) (own_w hw 13 rfl) (own_w hw 10 rfl) (own_w hw 14 rfl) (by decide) (a := b48) (argsL := [(.ref b50)]) (rm_sin1 l Z a0 hw [] cs fm b48 b50 2 (fun j => [k7, k9].getD j 0) _ _ h55 n0 Zp56 ST OO (by decide) (by decide) hc11 ge_b48 ne_b48_b50 E_b48 F_value_b48 F_coder_b48 A_b50) e55 (W := 1) (by decide) (by decide) (by decide) (by decide) (g := (mkF m 199 #[.val (.int p1), .val (.int p2), .val (.int p3), .val (.int p4), vN pn, vN kn, vN sn, vN k1, vN k3, vN k5, vN k10, vN k7, vN k9, vR o13j, vR o14j, .unset, .unset, .unset, .unset, .unset, .unset] [(.ref b50), (.ref b48), (.ref b48)])) rfl (by rw [hml]; rfl) (rest := [(.ref b48)]) (lenOf pd_46 rfl) rfl (by show 2 * 0 + _ ≤ _; exact Nat.le_of_eq rfl) (hb hby at_199)
          refine gW st58 ?_
          obtain ⟨rfl, N58, Kc58, b58, u, sz58, Ei58, Fv58, Fc58, A_b58, hlu, hlu2⟩ := hQ58
          have N59 := Fr.app N57 N58
          obtain ⟨h58, e58⟩ : ∃ h', T58.heap = h' := ⟨_, rfl⟩
          rw [e58] at Kc58 Ei58 Fv58 Fc58 A_b58
          have E13j := E13j.keep Kc58
          have V13j := V13j.keep Kc58 (ninS ne_o13j_b48 nin0)
          have C13j := C13j.keep Kc58 (ninS ne_o13j_b48 nin0)
          have A13j := A13j.keep Kc58 (ninS ne_b13j_b48 nin0)
          have E14j := E14j.keep Kc58
          have V14j := V14j.keep Kc58 (ninS ne_o14j_b48 nin0)
          have C14j := C14j.keep Kc58 (ninS ne_o14j_b48 nin0)
          have A14j := A14j.keep Kc58 (ninS ne_b14j_b48 nin0)
          have A_b50 := A_b50.keep Kc58 (ninS (Ne.symm ne_b48_b50) nin0)
          have hsk := (sfS sf_b48 sf0)
          have sf_b48 := Safe.keep Kc58 hsk C.chv sf_b48
          have sf_b50 := Safe.keep Kc58 hsk C.chv sf_b50
          have C := C.keep Kc58 hsk
          have OO := OO.keep Kc58 (allS ge_b48 all0)
          have Zp60 := Nat.le_trans Zp56 Kc58.1
          have ge_b58 : n0 ≤ b58 := Nat.le_trans Zp56 sz58
          have ne_o13j_b58 : o13j ≠ b58 := Nat.ne_of_lt (Nat.lt_of_lt_of_le lt_o13j sz58)
          have ne_b13j_b58 : b13j ≠ b58 := Nat.ne_of_lt (Nat.lt_of_lt_of_le lt_b13j sz58)
          have ne_o14j_b58 : o14j ≠ b58 := Nat.ne_of_lt (Nat.lt_of_lt_of_le lt_o14j sz58)
          have ne_b14j_b58 : b14j ≠ b58 := Nat.ne_of_lt (Nat.lt_of_lt_of_le lt_b14j sz58)
          have ne_b48_b58 : b48 ≠ b58 := Nat.ne_of_lt (Nat.lt_of_lt_of_le lt_b48 sz58)
          have ne_b50_b58 : b50 ≠ b58 := Nat.ne_of_lt (Nat.lt_of_lt_of_le lt_b50 sz58)
          refine gW (fun _ r => XS.astore X58.here hx rfl (hb hby at_202) rfl rfl (l' := #[.val (.int p1), .val (.int p2), .val (.int p3), .val (.int p4), vN pn, vN kn, vN sn, vN k1, vN k3, vN k5, vN k10, vN k7, vN k9, vR o13j, vR o14j, vR b48, .unset, .unset, .unset, .unset, .unset]) rfl r) ?_
          show GoesW p ee below s _ _ _ _ _ (T58.setTop (mkF m 204 #[.val (.int p1), .val (.int p2), .val (.int p3), .val (.int p4), vN pn, vN kn, vN sn, vN k1, vN k3, vN k5, vN k10, vN k7, vN k9, vR o13j, vR o14j, vR b48, .unset, .unset, .unset, .unset, .unset] []))
          exact J204 _ _ _ _ o13j b13j u13j o14j b14j u14j b48 b58 u (X58.mono (by decide) (by decide)) e58 N59 Zp60 C hZ hown OO E13j V13j C13j A13j L13j E14j V14j C14j A14j L14j Ei58 Fv58 Fc58 (own_by_congr (by omega) (fun j hj => rfl) A_b58) (fun q j hj => hlu q j (by omega))
    show GoesW p ee below s _ _ _ _ _ (T.setTop (mkF m 118 #[.val (.int p1), .val (.int p2), .val (.int p3), .val (.int p4), vN pn, vN kn, vN sn, vN k1, vN k3, vN k5, vN k10, vN k7, vN k9, vR o13j, .unset, .unset, .unset, .unset, .unset, .unset, .unset] []))
    refine gW (fun _ r => XS.iload X.here hx rfl (hb hby at_118) rfl  r) ?_
    refine gW (fun _ r => XS.iconst X.here hx rfl (hb hby at_120) r) ?_
    by_cases hn121_61 : kn = 1
    · refine gW (fun _ r => XS.icmpNo X.here hx rfl (hb hby at_121) rfl (teq ((own_eqN kn 1 (by omega) (by decide)).mpr hn121_61)).2 r) ?_
      refine gW (fun _ r => XS.iload X.here hx rfl (hb hby at_124) rfl  r) ?_
      have lt_o13j := E13j.lt
      have lt_b13j := A13j.lt
      obtain ⟨v62, T62, L62, X62, hQ62, st62⟩ := own_callS X hx hZ (y := (⟨"java/lang/String", "valueOf", "(C)Ljava/lang/String;"⟩ : MethodName)) hown (own_w hw 38 rfl) (own_w hw 39 rfl) (own_w hw 10 rfl) (own_w hw 40 rfl) (by decide) (argsL := [(.int (Int32.ofNat k5))]) (rm_vof l Z a0 hw [] cs fm k5 hh n0 Zp ST OO hk5) eT (W := 0) (by decide) (by decide) (by decide) (by decide) (g := (mkF m 126 #[.val (.int p1), .val (.int p2), .val (.int p3), .val (.int p4), vN pn, vN kn, vN sn, vN k1, vN k3, vN k5, vN k10, vN k7, vN k9, vR o13j, .unset, .unset, .unset, .unset, .unset, .unset, .unset] [(.int (Int32.ofNat k5))])) rfl (by rw [hml]; rfl) (rest := []) (lenOf pd_45 rfl) rfl (by show 2 * 0 + _ ≤ _; exact Nat.le_of_eq rfl) (hb hby at_126)
      refine gW st62 ?_
      obtain ⟨o62, b62, u62, rfl, N62, Kc62, Ei62, Fv62, Fc62, A_b62, hlu62⟩ := hQ62
      have N63 := Fr.app N N62
      obtain ⟨h62, e62⟩ : ∃ h', T62.heap = h' := ⟨_, rfl⟩
      rw [e62] at Kc62 Ei62 Fv62 Fc62 A_b62
      have E13j := E13j.keep Kc62
      have V13j := V13j.keep Kc62 nin0
      have C13j := C13j.keep Kc62 nin0
      have A13j := A13j.keep Kc62 nin0
      have C := C.keep Kc62 sf0
      have OO := OO.keep Kc62 all0
      have Zp64 := Nat.le_trans Zp Kc62.1
      refine gW (fun _ r => XS.goto X62.here hx rfl (pc0 := 129) (pc' := 152) rfl (hb hby at_129) (by decide) (by decide) r) ?_
      show GoesW p ee below s _ _ _ _ _ (T62.setTop (mkF m 152 #[.val (.int p1), .val (.int p2), .val (.int p3), .val (.int p4), vN pn, vN kn, vN sn, vN k1, vN k3, vN k5, vN k10, vN k7, vN k9, vR o13j, .unset, .unset, .unset, .unset, .unset, .unset, .unset] [(.ref o62)]))
      exact J152 _ _ _ _ o13j b13j u13j o62 b62 u62 (X62.mono (by decide) (by decide)) e62 N63 Zp64 C hZ hown OO E13j V13j C13j A13j L13j Ei62 Fv62 Fc62 (own_by_congr hn121_61.symm (fun j hj => by match j, hj with | 0, _ => rfl | j + 1, hj => omega) A_b62) (fun q j hj => by
        have h0 := hlu62 q 0 (by decide)
        match j, hj with
        | 0, _ => exact h0
        | j + 1, hj => omega)
    · refine gW (fun _ r => XS.icmpYes X.here hx rfl (pc0 := 121) (pc' := 132) rfl (hb hby at_121) rfl (feq (fun z => hn121_61 ((own_eqN kn 1 (by omega) (by decide)).mp z))).2 (by decide) (by decide) r) ?_
      show GoesW p ee below s _ _ _ _ _ (T.setTop (mkF m 132 #[.val (.int p1), .val (.int p2), .val (.int p3), .val (.int p4), vN pn, vN kn, vN sn, vN k1, vN k3, vN k5, vN k10, vN k7, vN k9, vR o13j, .unset, .unset, .unset, .unset, .unset, .unset, .unset] []))
      obtain ⟨T65, h65, X65, e65, E65, A65, D65, -, st65⟩ := newO X hx hZ hown (own_w hw 8 rfl) (own_w hw 9 rfl) (own_w hw 10 rfl) eT (g := (mkF m 132 #[.val (.int p1), .val (.int p2), .val (.int p3), .val (.int p4), vN pn, vN kn, vN sn, vN k1, vN k3, vN k5, vN k10, vN k7, vN k9, vR o13j, .unset, .unset, .unset, .unset, .unset, .unset, .unset] [])) rfl (hb hby at_132) (by decide) (by decide)
      obtain ⟨b65, g_b65⟩ : ∃ z, z = hh.size := ⟨_, rfl⟩
      have ne_o13j_b65 : o13j ≠ b65 := Nat.ne_of_lt (Nat.lt_of_lt_of_le E13j.lt (Nat.le_of_eq g_b65.symm))
      have ne_b13j_b65 : b13j ≠ b65 := Nat.ne_of_lt (Nat.lt_of_lt_of_le A13j.lt (Nat.le_of_eq g_b65.symm))
      have ge_b65 : n0 ≤ b65 := Nat.le_trans Zp (Nat.le_of_eq g_b65.symm)
      rw [← g_b65] at A65 D65 st65
      have E13j := E13j.ext E65
      have V13j := V13j.ext E65
      have C13j := C13j.ext E65
      have A13j := A13j.ext E65
      have Zp66 := Nat.le_trans Zp E65.1
      have sf_b65 := Safe.ext E65 C.chv (Safe.new (Nat.le_of_eq g_b65.symm))
      have C := C.ext E65
      have OO := OO.ext E65
      refine gW st65 ?_
      have E_b65 := A65
      have F_coder_b65 : Fld Z h65 b65 "java/lang/String" "coder" "B" (.int (0 : Int32)) := D65 (Or.inr (own_w hw 35 rfl)) (ty := .byte) (by decide)
      have F_value_b65 : Fld Z h65 b65 "java/lang/String" "value" "[B" .null := D65 (Or.inr (own_w hw 37 rfl)) (ty := (.array .byte)) (by decide)
      show GoesW p ee below s _ _ _ _ _ (T65.setTop (mkF m 135 #[.val (.int p1), .val (.int p2), .val (.int p3), .val (.int p4), vN pn, vN kn, vN sn, vN k1, vN k3, vN k5, vN k10, vN k7, vN k9, vR o13j, .unset, .unset, .unset, .unset, .unset, .unset, .unset] [(.ref b65)]))
      refine gW (fun _ r => XS.dup X65.here hx rfl (hb hby at_135) rfl rfl r) ?_
      refine gW (fun _ r => XS.iconst X65.here hx rfl (hb hby at_136) r) ?_
      show GoesW p ee below s _ _ _ _ _ (T65.setTop (mkF m 137 #[.val (.int p1), .val (.int p2), .val (.int p3), .val (.int p4), vN pn, vN kn, vN sn, vN k1, vN k3, vN k5, vN k10, vN k7, vN k9, vR o13j, .unset, .unset, .unset, .unset, .unset, .unset, .unset] [(.int (2 : Int32)), (.ref b65), (.ref b65)]))
      obtain ⟨T67, h67, X67, e67, E67, A67, st67⟩ := own_newP X65 hx hZ (aty := .char) (own_w hw 11 rfl) e65 (z := (2 : Int32)) (by decide) (n := 2) rfl (cap := 2) (Nat.le_refl _) (by decide) (by decide) (by decide) (g := (mkF m 137 #[.val (.int p1), .val (.int p2), .val (.int p3), .val (.int p4), vN pn, vN kn, vN sn, vN k1, vN k3, vN k5, vN k10, vN k7, vN k9, vR o13j, .unset, .unset, .unset, .unset, .unset, .unset, .unset] [(.int (2 : Int32)), (.ref b65), (.ref b65)])) rfl rfl (hb hby at_137)
      obtain ⟨b67, g_b67⟩ : ∃ z, z = h65.size := ⟨_, rfl⟩
      have ne_o13j_b67 : o13j ≠ b67 := Nat.ne_of_lt (Nat.lt_of_lt_of_le E13j.lt (Nat.le_of_eq g_b67.symm))
      have ne_b13j_b67 : b13j ≠ b67 := Nat.ne_of_lt (Nat.lt_of_lt_of_le A13j.lt (Nat.le_of_eq g_b67.symm))
      have ne_b65_b67 : b65 ≠ b67 := Nat.ne_of_lt (Nat.lt_of_lt_of_le E_b65.lt (Nat.le_of_eq g_b67.symm))
      have ge_b67 : n0 ≤ b67 := Nat.le_trans Zp66 (Nat.le_of_eq g_b67.symm)
      rw [← g_b67] at A67 st67
      have E13j := E13j.ext E67
      have V13j := V13j.ext E67
      have C13j := C13j.ext E67
      have A13j := A13j.ext E67
      have E_b65 := E_b65.ext E67
      have F_coder_b65 := F_coder_b65.ext E67
      have F_value_b65 := F_value_b65.ext E67
      have Zp68 := Nat.le_trans Zp66 E67.1
      have sf_b65 := Safe.ext E67 C.chv sf_b65
      have sf_b67 := Safe.ext E67 C.chv (Safe.new (Nat.le_of_eq g_b67.symm))
      have C := C.ext E67
      have OO := OO.ext E67
      refine gW st67 ?_
      have A_b67 : OA Z h67 b67 .char 2 (fun _ => (.int 0)) := A67
      show GoesW p ee below s _ _ _ _ _ (T67.setTop (mkF m 139 #[.val (.int p1), .val (.int p2), .val (.int p3), .val (.int p4), vN pn, vN kn, vN sn, vN k1, vN k3, vN k5, vN k10, vN k7, vN k9, vR o13j, .unset, .unset, .unset, .unset, .unset, .unset, .unset] [(.ref b67), (.ref b65), (.ref b65)]))
      refine gW (fun _ r => XS.dup X67.here hx rfl (hb hby at_139) rfl rfl r) ?_
      refine gW (fun _ r => XS.iconst X67.here hx rfl (hb hby at_140) r) ?_
      refine gW (fun _ r => XS.iload X67.here hx rfl (hb hby at_141) rfl  r) ?_
      show GoesW p ee below s _ _ _ _ _ (T67.setTop (mkF m 143 #[.val (.int p1), .val (.int p2), .val (.int p3), .val (.int p4), vN pn, vN kn, vN sn, vN k1, vN k3, vN k5, vN k10, vN k7, vN k9, vR o13j, .unset, .unset, .unset, .unset, .unset, .unset, .unset] [(.int (Int32.ofNat k5)), (.int (0 : Int32)), (.ref b67), (.ref b67), (.ref b65), (.ref b65)]))
      obtain ⟨T69, h69, X69, e69, W69, A69, st69⟩ := own_stC X67 hx hZ e67 A_b67 (x := (Int32.ofNat k5)) (j := (0 : Int32)) (by decide) (k := 0) rfl (by decide) (g := (mkF m 143 #[.val (.int p1), .val (.int p2), .val (.int p3), .val (.int p4), vN pn, vN kn, vN sn, vN k1, vN k3, vN k5, vN k10, vN k7, vN k9, vR o13j, .unset, .unset, .unset, .unset, .unset, .unset, .unset] [(.int (Int32.ofNat k5)), (.int (0 : Int32)), (.ref b67), (.ref b67), (.ref b65), (.ref b65)])) rfl rfl (hb hby at_143)
      refine gW st69 ?_
      have E13j := E13j.wr W69
      have V13j := V13j.other W69 (Or.inl ne_o13j_b67)
      have C13j := C13j.other W69 (Or.inl ne_o13j_b67)
      have A13j := A13j.other W69 ne_b13j_b67
      have E_b65 := E_b65.wr W69
      have F_coder_b65 := F_coder_b65.other W69 (Or.inl ne_b65_b67)
      have F_value_b65 := F_value_b65.other W69 (Or.inl ne_b65_b67)
      have Zp70 := Nat.le_trans Zp68 (Keep.of_wr W69).1
      have N71 := Fr.snoc X69 N ge_b67
      have sfw := sf_b67
      have sf_b65 := Safe.wr W69 sfw C.chv sf_b65
      have sf_b67 := Safe.wr W69 sfw C.chv sf_b67
      have C := C.wr W69 sfw
      have OO := OO.wr W69 ge_b67
      have A_b67 : OA Z h69 b67 .char 2 (fun i => [(.int (nar .char (Int32.ofNat k5))), (.int 0)].getD i (.int 0)) := A69.congr (fun i hi => by match i, hi with | 0, _ => rfl | 1, _ => rfl | i + 2, hi => omega)
      show GoesW p ee below s _ _ _ _ _ (T69.setTop (mkF m 144 #[.val (.int p1), .val (.int p2), .val (.int p3), .val (.int p4), vN pn, vN kn, vN sn, vN k1, vN k3, vN k5, vN k10, vN k7, vN k9, vR o13j, .unset, .unset, .unset, .unset, .unset, .unset, .unset] [(.ref b67), (.ref b65), (.ref b65)]))
      refine gW (fun _ r => XS.dup X69.here hx rfl (hb hby at_144) rfl rfl r) ?_
      refine gW (fun _ r => XS.iconst X69.here hx rfl (hb hby at_145) r) ?_
      refine gW (fun _ r => XS.iload X69.here hx rfl (hb hby at_146) rfl  r) ?_
      show GoesW p ee below s _ _ _ _ _ (T69.setTop (mkF m 148 #[.val (.int p1), .val (.int p2), .val (.int p3), .val (.int p4), vN pn, vN kn, vN sn, vN k1, vN k3, vN k5, vN k10, vN k7, vN k9, vR o13j, .unset, .unset, .unset, .unset, .unset, .unset, .unset] [(.int (Int32.ofNat k10)), (.int (1 : Int32)), (.ref b67), (.ref b67), (.ref b65), (.ref b65)]))
      obtain ⟨T72, h72, X72, e72, W72, A72, st72⟩ := own_stC X69 hx hZ e69 A_b67 (x := (Int32.ofNat k10)) (j := (1 : Int32)) (by decide) (k := 1) rfl (by decide) (g := (mkF m 148 #[.val (.int p1), .val (.int p2), .val (.int p3), .val (.int p4), vN pn, vN kn, vN sn, vN k1, vN k3, vN k5, vN k10, vN k7, vN k9, vR o13j, .unset, .unset, .unset, .unset, .unset, .unset, .unset] [(.int (Int32.ofNat k10)), (.int (1 : Int32)), (.ref b67), (.ref b67), (.ref b65), (.ref b65)])) rfl rfl (hb hby at_148)
      refine gW st72 ?_
      have E13j := E13j.wr W72
      have V13j := V13j.other W72 (Or.inl ne_o13j_b67)
      have C13j := C13j.other W72 (Or.inl ne_o13j_b67)
      have A13j := A13j.other W72 ne_b13j_b67
      have E_b65 := E_b65.wr W72
      have F_coder_b65 := F_coder_b65.other W72 (Or.inl ne_b65_b67)
      have F_value_b65 := F_value_b65.other W72 (Or.inl ne_b65_b67)
      have Zp73 := Nat.le_trans Zp70 (Keep.of_wr W72).1
      have N74 := Fr.snoc X72 N71 ge_b67
      have sfw := sf_b67
      have sf_b65 := Safe.wr W72 sfw C.chv sf_b65
      have sf_b67 := Safe.wr W72 sfw C.chv sf_b67
      have C := C.wr W72 sfw
      have OO := OO.wr W72 ge_b67
      have A_b67 : OA Z h72 b67 .char 2 (fun i => [(.int (nar .char (Int32.ofNat k5))), (.int (nar .char (Int32.ofNat k10)))].getD i (.int 0)) := A72.congr (fun i hi => by match i, hi with | 0, _ => rfl | 1, _ => rfl | i + 2, hi => omega)
      show GoesW p ee below s _ _ _ _ _ (T72.setTop (mkF m 149 #[.val (.int p1), .val (.int p2), .val (.int p3), .val (.int p4), vN pn, vN kn, vN sn, vN k1, vN k3, vN k5, vN k10, vN k7, vN k9, vR o13j, .unset, .unset, .unset, .unset, .unset, .unset, .unset] [(.ref b67), (.ref b65), (.ref b65)]))
      have hc9 : ∀ j, j < 2 → (fun j => [k5, k10].getD j 0) j < 65536 := fun j hj => by match j, hj with | 0, _ => exact hk5 | 1, _ => exact hk10 | j + 2, hj => omega
      have A_b67 : OA Z h72 b67 .char 2 (fun i => .int (Int32.ofNat ((fun j => [k5, k10].getD j 0) i))) := A_b67.congr (fun i hi => by match i, hi with | 0, _ => exact congrArg Value.int (own_charnar k5 hk5) | 1, _ => exact congrArg Value.int (own_charnar k10 hk10) | i + 2, hi => omega)
      have lt_o13j := E13j.lt
      have lt_b13j := A13j.lt
      have lt_b65 := E_b65.lt
      have lt_b67 := A_b67.lt
      obtain ⟨v75, T75, L75, X75, hQ75, st75⟩ := own_callN X72 hx hZ (y := (⟨"java/lang/String", "<init>", "([C)V"⟩ : MethodName)) rfl hown (own_w hw 12 rfl) (own_w hw 13 rfl) (own_w hw 10 rfl) (own_w hw 14 rfl) (by decide) (a := b65) (argsL := [(.ref b67)]) (rm_sin1 l Z a0 hw [] cs fm b65 b67 2 (fun j => [k5, k10].getD j 0) _ _ h72 n0 Zp73 ST OO (by decide) (by decide) hc9 ge_b65 ne_b65_b67 E_b65 F_value_b65 F_coder_b65 A_b67) e72 (W := 1) (by decide) (by decide) (by decide) (by decide) (g := (mkF m 149 #[.val (.int p1), .val (.int p2), .val (.int p3), .val (.int p4), vN pn, vN kn, vN sn, vN k1, vN k3, vN k5, vN k10, vN k7, vN k9, vR o13j, .unset, .unset, .unset, .unset, .unset, .unset, .unset] [(.ref b67), (.ref b65), (.ref b65)])) rfl (by rw [hml]; rfl) (rest := [(.ref b65)]) (lenOf pd_46 rfl) rfl (by show 2 * 0 + _ ≤ _; exact Nat.le_of_eq rfl) (hb hby at_149)
      refine gW st75 ?_
      obtain ⟨rfl, N75, Kc75, b75, u, sz75, Ei75, Fv75, Fc75, A_b75, hlu, hlu2⟩ := hQ75
      have N76 := Fr.app N74 N75
      obtain ⟨h75, e75⟩ : ∃ h', T75.heap = h' := ⟨_, rfl⟩
      rw [e75] at Kc75 Ei75 Fv75 Fc75 A_b75
      have E13j := E13j.keep Kc75
      have V13j := V13j.keep Kc75 (ninS ne_o13j_b65 nin0)
      have C13j := C13j.keep Kc75 (ninS ne_o13j_b65 nin0)
      have A13j := A13j.keep Kc75 (ninS ne_b13j_b65 nin0)
      have A_b67 := A_b67.keep Kc75 (ninS (Ne.symm ne_b65_b67) nin0)
      have hsk := (sfS sf_b65 sf0)
      have sf_b65 := Safe.keep Kc75 hsk C.chv sf_b65
      have sf_b67 := Safe.keep Kc75 hsk C.chv sf_b67
      have C := C.keep Kc75 hsk
      have OO := OO.keep Kc75 (allS ge_b65 all0)
      have Zp77 := Nat.le_trans Zp73 Kc75.1
      have ge_b75 : n0 ≤ b75 := Nat.le_trans Zp73 sz75
      have ne_o13j_b75 : o13j ≠ b75 := Nat.ne_of_lt (Nat.lt_of_lt_of_le lt_o13j sz75)
      have ne_b13j_b75 : b13j ≠ b75 := Nat.ne_of_lt (Nat.lt_of_lt_of_le lt_b13j sz75)
      have ne_b65_b75 : b65 ≠ b75 := Nat.ne_of_lt (Nat.lt_of_lt_of_le lt_b65 sz75)
      have ne_b67_b75 : b67 ≠ b75 := Nat.ne_of_lt (Nat.lt_of_lt_of_le lt_b67 sz75)
      show GoesW p ee below s _ _ _ _ _ (T75.setTop (mkF m 152 #[.val (.int p1), .val (.int p2), .val (.int p3), .val (.int p4), vN pn, vN kn, vN sn, vN k1, vN k3, vN k5, vN k10, vN k7, vN k9, vR o13j, .unset, .unset, .unset, .unset, .unset, .unset, .unset] [(.ref b65)]))
      exact J152 _ _ _ _ o13j b13j u13j b65 b75 u (X75.mono (by decide) (by decide)) e75 N76 Zp77 C hZ hown OO E13j V13j C13j A13j L13j Ei75 Fv75 Fc75 (own_by_congr (by omega) (fun j hj => rfl) A_b75) (fun q j hj => hlu q j (by omega))
  show GoesW p ee below s _ _ _ _ _ (T9.setTop (mkF m 82 #[.val (.int p1), .val (.int p2), .val (.int p3), .val (.int p4), vN pn, vN kn, vN sn, vN k1, vN k3, vN k5, vN k10, vN k7, vN k9, .unset, .unset, .unset, .unset, .unset, .unset, .unset, .unset] []))
  refine gW (fun _ r => XS.iload X9.here hx rfl (hb hby at_82) rfl  r) ?_
  refine gW (fun _ r => XS.iconst X9.here hx rfl (hb hby at_84) r) ?_
  by_cases hn85_78 : pn = 1
  · refine gW (fun _ r => XS.icmpNo X9.here hx rfl (hb hby at_85) rfl (teq ((own_eqN pn 1 (by omega) (by decide)).mpr hn85_78)).2 r) ?_
    refine gW (fun _ r => XS.iload X9.here hx rfl (hb hby at_88) rfl  r) ?_
    obtain ⟨v79, T79, L79, X79, hQ79, st79⟩ := own_callS X9 hx hZ (y := (⟨"java/lang/String", "valueOf", "(C)Ljava/lang/String;"⟩ : MethodName)) hown (own_w hw 38 rfl) (own_w hw 39 rfl) (own_w hw 10 rfl) (own_w hw 40 rfl) (by decide) (argsL := [(.int (Int32.ofNat k1))]) (rm_vof l Z a0 hw [] cs fm k1 h0 n0 Z0 ST OO hk1) e9 (W := 0) (by decide) (by decide) (by decide) (by decide) (g := (mkF m 90 #[.val (.int p1), .val (.int p2), .val (.int p3), .val (.int p4), vN pn, vN kn, vN sn, vN k1, vN k3, vN k5, vN k10, vN k7, vN k9, .unset, .unset, .unset, .unset, .unset, .unset, .unset, .unset] [(.int (Int32.ofNat k1))])) rfl (by rw [hml]; rfl) (rest := []) (lenOf pd_45 rfl) rfl (by show 2 * 0 + _ ≤ _; exact Nat.le_of_eq rfl) (hb hby at_90)
    refine gW st79 ?_
    obtain ⟨o79, b79, u79, rfl, N79, Kc79, Ei79, Fv79, Fc79, A_b79, hlu79⟩ := hQ79
    have N80 := Fr.app N10 N79
    obtain ⟨h79, e79⟩ : ∃ h', T79.heap = h' := ⟨_, rfl⟩
    rw [e79] at Kc79 Ei79 Fv79 Fc79 A_b79
    have C := C.keep Kc79 sf0
    have OO := OO.keep Kc79 all0
    have Zp81 := Nat.le_trans Z0 Kc79.1
    refine gW (fun _ r => XS.goto X79.here hx rfl (pc0 := 93) (pc' := 116) rfl (hb hby at_93) (by decide) (by decide) r) ?_
    show GoesW p ee below s _ _ _ _ _ (T79.setTop (mkF m 116 #[.val (.int p1), .val (.int p2), .val (.int p3), .val (.int p4), vN pn, vN kn, vN sn, vN k1, vN k3, vN k5, vN k10, vN k7, vN k9, .unset, .unset, .unset, .unset, .unset, .unset, .unset, .unset] [(.ref o79)]))
    exact J116 _ _ _ _  o79 b79 u79 (X79.mono (by decide) (by decide)) e79 N80 Zp81 C hZ hown OO  Ei79 Fv79 Fc79 (own_by_congr hn85_78.symm (fun j hj => by match j, hj with | 0, _ => rfl | j + 1, hj => omega) A_b79) (fun q j hj => by
      have h0 := hlu79 q 0 (by decide)
      match j, hj with
      | 0, _ => exact h0
      | j + 1, hj => omega)
  · refine gW (fun _ r => XS.icmpYes X9.here hx rfl (pc0 := 85) (pc' := 96) rfl (hb hby at_85) rfl (feq (fun z => hn85_78 ((own_eqN pn 1 (by omega) (by decide)).mp z))).2 (by decide) (by decide) r) ?_
    show GoesW p ee below s _ _ _ _ _ (T9.setTop (mkF m 96 #[.val (.int p1), .val (.int p2), .val (.int p3), .val (.int p4), vN pn, vN kn, vN sn, vN k1, vN k3, vN k5, vN k10, vN k7, vN k9, .unset, .unset, .unset, .unset, .unset, .unset, .unset, .unset] []))
    obtain ⟨T82, h82, X82, e82, E82, A82, D82, -, st82⟩ := newO X9 hx hZ hown (own_w hw 8 rfl) (own_w hw 9 rfl) (own_w hw 10 rfl) e9 (g := (mkF m 96 #[.val (.int p1), .val (.int p2), .val (.int p3), .val (.int p4), vN pn, vN kn, vN sn, vN k1, vN k3, vN k5, vN k10, vN k7, vN k9, .unset, .unset, .unset, .unset, .unset, .unset, .unset, .unset] [])) rfl (hb hby at_96) (by decide) (by decide)
    obtain ⟨b82, g_b82⟩ : ∃ z, z = h0.size := ⟨_, rfl⟩
    have ge_b82 : n0 ≤ b82 := Nat.le_trans Z0 (Nat.le_of_eq g_b82.symm)
    rw [← g_b82] at A82 D82 st82
    have Zp83 := Nat.le_trans Z0 E82.1
    have sf_b82 := Safe.ext E82 C.chv (Safe.new (Nat.le_of_eq g_b82.symm))
    have C := C.ext E82
    have OO := OO.ext E82
    refine gW st82 ?_
    have E_b82 := A82
    have F_coder_b82 : Fld Z h82 b82 "java/lang/String" "coder" "B" (.int (0 : Int32)) := D82 (Or.inr (own_w hw 35 rfl)) (ty := .byte) (by decide)
    have F_value_b82 : Fld Z h82 b82 "java/lang/String" "value" "[B" .null := D82 (Or.inr (own_w hw 37 rfl)) (ty := (.array .byte)) (by decide)
    show GoesW p ee below s _ _ _ _ _ (T82.setTop (mkF m 99 #[.val (.int p1), .val (.int p2), .val (.int p3), .val (.int p4), vN pn, vN kn, vN sn, vN k1, vN k3, vN k5, vN k10, vN k7, vN k9, .unset, .unset, .unset, .unset, .unset, .unset, .unset, .unset] [(.ref b82)]))
    refine gW (fun _ r => XS.dup X82.here hx rfl (hb hby at_99) rfl rfl r) ?_
    refine gW (fun _ r => XS.iconst X82.here hx rfl (hb hby at_100) r) ?_
    show GoesW p ee below s _ _ _ _ _ (T82.setTop (mkF m 101 #[.val (.int p1), .val (.int p2), .val (.int p3), .val (.int p4), vN pn, vN kn, vN sn, vN k1, vN k3, vN k5, vN k10, vN k7, vN k9, .unset, .unset, .unset, .unset, .unset, .unset, .unset, .unset] [(.int (2 : Int32)), (.ref b82), (.ref b82)]))
    obtain ⟨T84, h84, X84, e84, E84, A84, st84⟩ := own_newP X82 hx hZ (aty := .char) (own_w hw 11 rfl) e82 (z := (2 : Int32)) (by decide) (n := 2) rfl (cap := 2) (Nat.le_refl _) (by decide) (by decide) (by decide) (g := (mkF m 101 #[.val (.int p1), .val (.int p2), .val (.int p3), .val (.int p4), vN pn, vN kn, vN sn, vN k1, vN k3, vN k5, vN k10, vN k7, vN k9, .unset, .unset, .unset, .unset, .unset, .unset, .unset, .unset] [(.int (2 : Int32)), (.ref b82), (.ref b82)])) rfl rfl (hb hby at_101)
    obtain ⟨b84, g_b84⟩ : ∃ z, z = h82.size := ⟨_, rfl⟩
    have ne_b82_b84 : b82 ≠ b84 := Nat.ne_of_lt (Nat.lt_of_lt_of_le E_b82.lt (Nat.le_of_eq g_b84.symm))
    have ge_b84 : n0 ≤ b84 := Nat.le_trans Zp83 (Nat.le_of_eq g_b84.symm)
    rw [← g_b84] at A84 st84
    have E_b82 := E_b82.ext E84
    have F_coder_b82 := F_coder_b82.ext E84
    have F_value_b82 := F_value_b82.ext E84
    have Zp85 := Nat.le_trans Zp83 E84.1
    have sf_b82 := Safe.ext E84 C.chv sf_b82
    have sf_b84 := Safe.ext E84 C.chv (Safe.new (Nat.le_of_eq g_b84.symm))
    have C := C.ext E84
    have OO := OO.ext E84
    refine gW st84 ?_
    have A_b84 : OA Z h84 b84 .char 2 (fun _ => (.int 0)) := A84
    show GoesW p ee below s _ _ _ _ _ (T84.setTop (mkF m 103 #[.val (.int p1), .val (.int p2), .val (.int p3), .val (.int p4), vN pn, vN kn, vN sn, vN k1, vN k3, vN k5, vN k10, vN k7, vN k9, .unset, .unset, .unset, .unset, .unset, .unset, .unset, .unset] [(.ref b84), (.ref b82), (.ref b82)]))
    refine gW (fun _ r => XS.dup X84.here hx rfl (hb hby at_103) rfl rfl r) ?_
    refine gW (fun _ r => XS.iconst X84.here hx rfl (hb hby at_104) r) ?_
    refine gW (fun _ r => XS.iload X84.here hx rfl (hb hby at_105) rfl  r) ?_
    show GoesW p ee below s _ _ _ _ _ (T84.setTop (mkF m 107 #[.val (.int p1), .val (.int p2), .val (.int p3), .val (.int p4), vN pn, vN kn, vN sn, vN k1, vN k3, vN k5, vN k10, vN k7, vN k9, .unset, .unset, .unset, .unset, .unset, .unset, .unset, .unset] [(.int (Int32.ofNat k1)), (.int (0 : Int32)), (.ref b84), (.ref b84), (.ref b82), (.ref b82)]))
    obtain ⟨T86, h86, X86, e86, W86, A86, st86⟩ := own_stC X84 hx hZ e84 A_b84 (x := (Int32.ofNat k1)) (j := (0 : Int32)) (by decide) (k := 0) rfl (by decide) (g := (mkF m 107 #[.val (.int p1), .val (.int p2), .val (.int p3), .val (.int p4), vN pn, vN kn, vN sn, vN k1, vN k3, vN k5, vN k10, vN k7, vN k9, .unset, .unset, .unset, .unset, .unset, .unset, .unset, .unset] [(.int (Int32.ofNat k1)), (.int (0 : Int32)), (.ref b84), (.ref b84), (.ref b82), (.ref b82)])) rfl rfl (hb hby at_107)
    refine gW st86 ?_
    have E_b82 := E_b82.wr W86
    have F_coder_b82 := F_coder_b82.other W86 (Or.inl ne_b82_b84)
    have F_value_b82 := F_value_b82.other W86 (Or.inl ne_b82_b84)
    have Zp87 := Nat.le_trans Zp85 (Keep.of_wr W86).1
    have N88 := Fr.snoc X86 N10 ge_b84
    have sfw := sf_b84
    have sf_b82 := Safe.wr W86 sfw C.chv sf_b82
    have sf_b84 := Safe.wr W86 sfw C.chv sf_b84
    have C := C.wr W86 sfw
    have OO := OO.wr W86 ge_b84
    have A_b84 : OA Z h86 b84 .char 2 (fun i => [(.int (nar .char (Int32.ofNat k1))), (.int 0)].getD i (.int 0)) := A86.congr (fun i hi => by match i, hi with | 0, _ => rfl | 1, _ => rfl | i + 2, hi => omega)
    show GoesW p ee below s _ _ _ _ _ (T86.setTop (mkF m 108 #[.val (.int p1), .val (.int p2), .val (.int p3), .val (.int p4), vN pn, vN kn, vN sn, vN k1, vN k3, vN k5, vN k10, vN k7, vN k9, .unset, .unset, .unset, .unset, .unset, .unset, .unset, .unset] [(.ref b84), (.ref b82), (.ref b82)]))
    refine gW (fun _ r => XS.dup X86.here hx rfl (hb hby at_108) rfl rfl r) ?_
    refine gW (fun _ r => XS.iconst X86.here hx rfl (hb hby at_109) r) ?_
    refine gW (fun _ r => XS.iload X86.here hx rfl (hb hby at_110) rfl  r) ?_
    show GoesW p ee below s _ _ _ _ _ (T86.setTop (mkF m 112 #[.val (.int p1), .val (.int p2), .val (.int p3), .val (.int p4), vN pn, vN kn, vN sn, vN k1, vN k3, vN k5, vN k10, vN k7, vN k9, .unset, .unset, .unset, .unset, .unset, .unset, .unset, .unset] [(.int (Int32.ofNat k3)), (.int (1 : Int32)), (.ref b84), (.ref b84), (.ref b82), (.ref b82)]))
    obtain ⟨T89, h89, X89, e89, W89, A89, st89⟩ := own_stC X86 hx hZ e86 A_b84 (x := (Int32.ofNat k3)) (j := (1 : Int32)) (by decide) (k := 1) rfl (by decide) (g := (mkF m 112 #[.val (.int p1), .val (.int p2), .val (.int p3), .val (.int p4), vN pn, vN kn, vN sn, vN k1, vN k3, vN k5, vN k10, vN k7, vN k9, .unset, .unset, .unset, .unset, .unset, .unset, .unset, .unset] [(.int (Int32.ofNat k3)), (.int (1 : Int32)), (.ref b84), (.ref b84), (.ref b82), (.ref b82)])) rfl rfl (hb hby at_112)
    refine gW st89 ?_
    have E_b82 := E_b82.wr W89
    have F_coder_b82 := F_coder_b82.other W89 (Or.inl ne_b82_b84)
    have F_value_b82 := F_value_b82.other W89 (Or.inl ne_b82_b84)
    have Zp90 := Nat.le_trans Zp87 (Keep.of_wr W89).1
    have N91 := Fr.snoc X89 N88 ge_b84
    have sfw := sf_b84
    have sf_b82 := Safe.wr W89 sfw C.chv sf_b82
    have sf_b84 := Safe.wr W89 sfw C.chv sf_b84
    have C := C.wr W89 sfw
    have OO := OO.wr W89 ge_b84
    have A_b84 : OA Z h89 b84 .char 2 (fun i => [(.int (nar .char (Int32.ofNat k1))), (.int (nar .char (Int32.ofNat k3)))].getD i (.int 0)) := A89.congr (fun i hi => by match i, hi with | 0, _ => rfl | 1, _ => rfl | i + 2, hi => omega)
    show GoesW p ee below s _ _ _ _ _ (T89.setTop (mkF m 113 #[.val (.int p1), .val (.int p2), .val (.int p3), .val (.int p4), vN pn, vN kn, vN sn, vN k1, vN k3, vN k5, vN k10, vN k7, vN k9, .unset, .unset, .unset, .unset, .unset, .unset, .unset, .unset] [(.ref b84), (.ref b82), (.ref b82)]))
    have hc7 : ∀ j, j < 2 → (fun j => [k1, k3].getD j 0) j < 65536 := fun j hj => by match j, hj with | 0, _ => exact hk1 | 1, _ => exact hk3 | j + 2, hj => omega
    have A_b84 : OA Z h89 b84 .char 2 (fun i => .int (Int32.ofNat ((fun j => [k1, k3].getD j 0) i))) := A_b84.congr (fun i hi => by match i, hi with | 0, _ => exact congrArg Value.int (own_charnar k1 hk1) | 1, _ => exact congrArg Value.int (own_charnar k3 hk3) | i + 2, hi => omega)
    have lt_b82 := E_b82.lt
    have lt_b84 := A_b84.lt
    obtain ⟨v92, T92, L92, X92, hQ92, st92⟩ := own_callN X89 hx hZ (y := (⟨"java/lang/String", "<init>", "([C)V"⟩ : MethodName)) rfl hown (own_w hw 12 rfl) (own_w hw 13 rfl) (own_w hw 10 rfl) (own_w hw 14 rfl) (by decide) (a := b82) (argsL := [(.ref b84)]) (rm_sin1 l Z a0 hw [] cs fm b82 b84 2 (fun j => [k1, k3].getD j 0) _ _ h89 n0 Zp90 ST OO (by decide) (by decide) hc7 ge_b82 ne_b82_b84 E_b82 F_value_b82 F_coder_b82 A_b84) e89 (W := 1) (by decide) (by decide) (by decide) (by decide) (g := (mkF m 113 #[.val (.int p1), .val (.int p2), .val (.int p3), .val (.int p4), vN pn, vN kn, vN sn, vN k1, vN k3, vN k5, vN k10, vN k7, vN k9, .unset, .unset, .unset, .unset, .unset, .unset, .unset, .unset] [(.ref b84), (.ref b82), (.ref b82)])) rfl (by rw [hml]; rfl) (rest := [(.ref b82)]) (lenOf pd_46 rfl) rfl (by show 2 * 0 + _ ≤ _; exact Nat.le_of_eq rfl) (hb hby at_113)
    refine gW st92 ?_
    obtain ⟨rfl, N92, Kc92, b92, u, sz92, Ei92, Fv92, Fc92, A_b92, hlu, hlu2⟩ := hQ92
    have N93 := Fr.app N91 N92
    obtain ⟨h92, e92⟩ : ∃ h', T92.heap = h' := ⟨_, rfl⟩
    rw [e92] at Kc92 Ei92 Fv92 Fc92 A_b92
    have A_b84 := A_b84.keep Kc92 (ninS (Ne.symm ne_b82_b84) nin0)
    have hsk := (sfS sf_b82 sf0)
    have sf_b82 := Safe.keep Kc92 hsk C.chv sf_b82
    have sf_b84 := Safe.keep Kc92 hsk C.chv sf_b84
    have C := C.keep Kc92 hsk
    have OO := OO.keep Kc92 (allS ge_b82 all0)
    have Zp94 := Nat.le_trans Zp90 Kc92.1
    have ge_b92 : n0 ≤ b92 := Nat.le_trans Zp90 sz92
    have ne_b82_b92 : b82 ≠ b92 := Nat.ne_of_lt (Nat.lt_of_lt_of_le lt_b82 sz92)
    have ne_b84_b92 : b84 ≠ b92 := Nat.ne_of_lt (Nat.lt_of_lt_of_le lt_b84 sz92)
    show GoesW p ee below s _ _ _ _ _ (T92.setTop (mkF m 116 #[.val (.int p1), .val (.int p2), .val (.int p3), .val (.int p4), vN pn, vN kn, vN sn, vN k1, vN k3, vN k5, vN k10, vN k7, vN k9, .unset, .unset, .unset, .unset, .unset, .unset, .unset, .unset] [(.ref b82)]))
    exact J116 _ _ _ _  b82 b92 u (X92.mono (by decide) (by decide)) e92 N93 Zp94 C hZ hown OO  Ei92 Fv92 Fc92 (own_by_congr (by omega) (fun j hj => rfl) A_b92) (fun q j hj => hlu q j (by omega))
theorem own_eqi {args : Array Value} {s : State} {t : Term} {k : Int32} (h : (Cond.eq t (.int k)).value args s none s [] = some true) : t.eval args s none [] s = some (.int k) := by
  obtain ⟨u, v, h1, h2, h3, h4⟩ := cmp_v (Or.inl h)
  have e2 : (Term.int k).eval args s none [] s = some (.int k) := Term.int_eval _
  rw [e2] at h2
  obtain rfl := Option.some.inj h2
  obtain ⟨z, rfl⟩ := h4
  have q : (Cond.eq t (.int k)).value args s none s [] = some (decide (z = k)) := by simp [Cond.value, h1, e2]
  have := gotT q h
  subst this
  exact h1
theorem own_ne0 {args : Array Value} {s : State} {t : Term} {z k : Int32} (ev : t.eval args s none [] s = some (.int z)) (h : (Cond.not (Cond.eq t (.int k))).value args s none s [] = some true) : z ≠ k := by
  have e2 : (Term.int k).eval args s none [] s = some (.int k) := Term.int_eval _
  have q : (Cond.eq t (.int k)).value args s none s [] = some (decide (z = k)) := by simp [Cond.value, ev, e2]
  have := not_v h
  exact gotF q this
set_option maxRecDepth 65536 in
set_option maxHeartbeats 40000000 in
theorem comes_1 {Post : Tables → Env → Array Value → State → Outcome → State → Prop} (hpost : ∀ tb e args s v u, (limb_1_1.after args s (.returned v) u = true ∧ limb_1_2.after args s (.returned v) u = true ∧ True) → ReturnedEndW s (.returned v) u (Jvm.fieldLocs frame_1_writes args s ++ Jvm.arrayLocs frame_1_arrays args s ++ Jvm.staticLocs frame_1_statics s) 64 3520 → Post tb e args s (.returned v) u) :
    ArmFor flags0 classFile x code maxLocals ret World_1 tables_1 room_1 Calls_1 rest_1 Pre_1 Post := by
  intro l hfl _ _ p e ha hc hk s m args below hf hA hF happ hP
  obtain ⟨hcalls, hrest, hpre⟩ := hP
  obtain ⟨-, -, -, hnamed, -, -, -, hat⟩ := (Spec.applies_iff hf).mp happ
  obtain ⟨hg, hn⟩ := and_e (Cond.before_iff.mp (show (Jvm.Cond.and given_1 narrow_1).before args s = true from hpre))
  obtain ⟨hcount, r0⟩ := and_e hg
  obtain ⟨k0, r1⟩ := and_e r0
  obtain ⟨k1, r2⟩ := and_e r1
  obtain ⟨k2, k3⟩ := and_e r2
  obtain ⟨w0, w1, w2, w3, rfl⟩ : ∃ w0 w1 w2 w3 : Value, args = #[w0, w1, w2, w3] := by
    have hs : args.size = 4 := by simpa [Cond.value, given_1] using hcount
    obtain ⟨L⟩ := args
    match L, hs with
    | [w0, w1, w2, w3], _ => exact ⟨w0, w1, w2, w3, rfl⟩
  have hw := fun d (hd : d ∈ tables_1) => atoms_spec (ws := Jvm.Cond.code x code maxLocals ret :: tables_1) hat d (List.mem_cons_of_mem _ hd)
  obtain ⟨i0, ei0⟩ := is_v k0
  obtain rfl : w0 = (.int i0) := Option.some.inj ei0
  obtain ⟨i1, ei1⟩ := is_v k1
  obtain rfl : w1 = (.int i1) := Option.some.inj ei1
  obtain ⟨i2, ei2⟩ := is_v k2
  obtain rfl : w2 = (.int i2) := Option.some.inj ei2
  obtain ⟨i3, ei3⟩ := is_v k3
  obtain rfl : w3 = (.int i3) := Option.some.inj ei3
  obtain ⟨hsets, hown0⟩ := atoms_of _ (rest_1_c_eq ▸ (show rest_1_c.before _ s = true from hrest))
  obtain ⟨cs, ecs⟩ := is_v (Cond.before_iff.mp (hsets _ (List.mem_of_getElem? (i := 1) rfl)))
  have Scs := Sta.start ecs (Or.inl (hsets _ (List.mem_of_getElem? (i := 0) rfl)))
  have cs0 : cs ≠ 0 := own_ne0 ecs (Cond.before_iff.mp (hsets _ (List.mem_of_getElem? (i := 2) rfl)))
  obtain ⟨fm, efm, hfm⟩ := isR_v (Cond.before_iff.mp (hsets _ (List.mem_of_getElem? (i := 8) rfl)))
  have Sfm := Sta.start efm (Or.inl (hsets _ (List.mem_of_getElem? (i := 7) rfl)))
  have Sad := Sta.start (own_eqi (Cond.before_iff.mp (hsets _ (List.mem_of_getElem? (i := 12) rfl)))) (Or.inl (hsets _ (List.mem_of_getElem? (i := 11) rfl)))
  have Shi := Sta.start (own_eqi (Cond.before_iff.mp (hsets _ (List.mem_of_getElem? (i := 15) rfl)))) (Or.inl (hsets _ (List.mem_of_getElem? (i := 14) rfl)))
  have Slo := Sta.start (own_eqi (Cond.before_iff.mp (hsets _ (List.mem_of_getElem? (i := 18) rfl)))) (Or.inl (hsets _ (List.mem_of_getElem? (i := 17) rfl)))
  have ST : own_ST s cs fm := ⟨Scs, cs0, Sfm, hfm, Sad, Shi, Slo, trivial⟩
  have hcw := hsets _ (List.mem_of_getElem? (i := 2) rfl)
  obtain ⟨n, o, h1, h2, h3, _, L, rfl, ⟨rfl, N⟩, -, hq⟩ := rm_law l s _ hw tables_1 i0 i1 i2 i3 cs fm s.heap s.heap.size (Nat.le_refl _) ST (Old.start s) p e ha hc hk s m _ below hf ((Spec.applies_iff_loose hf).mp happ).1 ⟨rfl, State.Warmed39.refl s, rfl, CHv.start (own_EW hw) hcalls.1 hcw (own_w hw 27 rfl) (own_w hw 9 rfl), fun _ q => nomatch q⟩ trivial
  refine ⟨n, _, h1, h2, h3, hpost _ _ _ _ _ _ ⟨Cond.after_iff.mpr rfl, Cond.after_iff.mpr (eq_i res_at (Term.int_eval (1)) rfl), trivial⟩ ⟨hq.1, hq.2.1, hq.2.2.1, (hq.2.2.2.sift fun y hy => Or.inr (N y hy)).mono (by decide) (by decide)⟩⟩
theorem main_1_1 : Claimed_1_1 := comes_1 fun _ _ _ _ _ _ h hF => ⟨h.1, hF⟩
theorem main_1_2 : Claimed_1_2 := comes_1 fun _ _ _ _ _ _ h hF => ⟨h.2.1, hF⟩
end Jvm.Pilot.@@N@@
namespace Jvm.Pilot.@@N@@
open Jvm Jvm.ClassFile Sem Op Lib Jvm.Free Jvm.Stand Jvm.Pilot.@@N@@.Jvm.D
/-! MADE BY PROGRAM (witnessworld.py) out of the Statement's table words and the real class files: 28 classes; the members and pool entries that the words name. The judged class is class 1, her method 3. -/
namespace start1
open Jvm.ClassFile
def u (s : String) : CpInfo := .utf8 (stringToUtf16 s)
/-- a pool by its gaps: so many unusable entries, then the entry; so many at the end -/
def gap : Nat → List CpInfo → List CpInfo
  | 0, r => r
  | n + 1, r => .unusable :: gap n r
def poolList (es : List (Nat × CpInfo)) (last : Nat) : List CpInfo := es.foldr (fun e r => gap e.1 (e.2 :: r)) (gap last [])
def pool (es : List (Nat × CpInfo)) (last : Nat) : Array CpInfo := ⟨poolList es last⟩
def fileOf (pool : Array CpInfo) (this : Nat) (attrs : Array Attribute := #[]) (ms : Array MethodInfo := #[]) (fl : Nat := 33) (sup : Nat := 0) (ifs : Array Nat := #[]) (fds : Array FieldInfo := #[]) : ClassFile where
  minorVersion := 0
  majorVersion := 65
  constantPool := pool
  accessFlags := fl
  thisClass := this
  superClass := sup
  interfaces := ifs
  fields := fds
  methods := ms
  attributes := attrs
def plain (name : String) (sup : Option ClassId) : Class where
  name := name
  kind := .ordinary
  loader := none
  accessFlags := 33
  super := sup
  interfaces := #[]
  cf := none
  fields := #[]
  methods := #[]
  instanceTypes := #[]
  staticTypes := #[]
  resolved := #[]
  callSites := []
  init := .initialized
  statics := none
  mirror := none

def pool0 : Array CpInfo := pool [(5, u "<init>"), (0, u "()V"), (1, .class_ 10), (1, u "java/lang/Object")] 113

def k0c0 : Code := { maxStack := 0, maxLocals := 1, code := object_method_1_code, exceptionTable := #[], attributes := #[] }
def k0m0 : Method := { name := "<init>", desc := "()V", sig := { parameters := [], returnType := none }, accessFlags := 1, code := some k0c0 }
/-- java/lang/Object -/
def k0 : Class := { plain "java/lang/Object" none with
  accessFlags := 33
  interfaces := #[]
  cf := some (fileOf pool0 8 #[] #[{ accessFlags := 1, nameIndex := 5, descriptorIndex := 6, attributes := #[] }] 33 0 #[] #[])
  fields := #[]
  methods := #[k0m0]
  instanceTypes := #[]
  staticTypes := #[]
  resolved := Array.replicate 124 none
  statics := none }

def pool1 : Array CpInfo := pool [(2, .class_ 4), (1, u "java/lang/Object"), (0, u "<init>"), (0, u "()V"), (0, .integer 65535), (0, .methodref 9 10), (0, .class_ 11), (0, .nameAndType 12 13), (0, u "com/example/aliran/aliran/KeySpaceKeyPinLaw"), (0, u "noBrace"), (0, u "(C)C"), (0, .methodref 9 15), (0, .nameAndType 16 13), (0, u "noClose"), (0, .methodref 18 19), (0, .class_ 20), (0, .nameAndType 21 22), (0, u "java/lang/String"), (0, u "valueOf"), (0, u "(C)Ljava/lang/String;"), (0, .methodref 18 24), (0, .nameAndType 5 25), (0, u "([C)V"), (0, .string 27), (0, u ""), (0, .class_ 29), (0, u "com/example/aliran/aliran/KeySpace"), (0, .methodref 28 31), (0, .nameAndType 5 32), (0, u "(Ljava/lang/String;)V"), (0, .methodref 28 34), (0, .nameAndType 35 36), (0, u "key"), (0, u "(Ljava/lang/String;Ljava/lang/String;)Ljava/lang/String;"), (0, .methodref 18 38), (0, .nameAndType 39 40), (0, u "length"), (0, u "()I"), (0, .methodref 18 42), (0, .nameAndType 43 44), (0, u "charAt"), (0, u "(I)C"), (3, u "law"), (0, u "(IIII)Z")] 2

def k1m0 : Method := { name := "<init>", desc := "()V", sig := { parameters := [], returnType := none }, accessFlags := 1, code := none }
def k1c1 : Code := { maxStack := 2, maxLocals := 1, code := method_2_code, exceptionTable := #[], attributes := #[] }
def k1m1 : Method := { name := "noBrace", desc := "(C)C", sig := { parameters := [.char], returnType := some .char }, accessFlags := 10, code := some k1c1 }
def k1c2 : Code := { maxStack := 2, maxLocals := 1, code := method_3_code, exceptionTable := #[], attributes := #[] }
def k1m2 : Method := { name := "noClose", desc := "(C)C", sig := { parameters := [.char], returnType := some .char }, accessFlags := 10, code := some k1c2 }
def k1c3 : Code := { maxStack := 6, maxLocals := 21, code := code, exceptionTable := #[], attributes := #[] }
def k1m3 : Method := { name := "law", desc := "(IIII)Z", sig := { parameters := [.int, .int, .int, .int], returnType := some .boolean }, accessFlags := 9, code := some k1c3 }
/-- com/example/aliran/aliran/KeySpaceKeyPinLaw -/
def k1 : Class := { plain "com/example/aliran/aliran/KeySpaceKeyPinLaw" (some 0) with
  accessFlags := 49
  interfaces := #[]
  cf := some (fileOf pool1 9 #[] #[{ accessFlags := 1, nameIndex := 5, descriptorIndex := 6, attributes := #[] }, { accessFlags := 10, nameIndex := 12, descriptorIndex := 13, attributes := #[] }, { accessFlags := 10, nameIndex := 16, descriptorIndex := 13, attributes := #[] }, { accessFlags := 9, nameIndex := 48, descriptorIndex := 49, attributes := #[] }] 49 2 #[] #[])
  fields := #[]
  methods := #[k1m0, k1m1, k1m2, k1m3]
  instanceTypes := #[]
  staticTypes := #[]
  resolved := Array.replicate 52 none
  statics := none }

def pool2 : Array CpInfo := pool [(1, .class_ 2), (0, u "java/io/Serializable"), (0, .class_ 4), (0, u "java/lang/Object")] 2

/-- java/io/Serializable -/
def k2 : Class := { plain "java/io/Serializable" (some 0) with
  accessFlags := 1537
  interfaces := #[]
  cf := some (fileOf pool2 1 #[] #[] 1537 3 #[] #[])
  fields := #[]
  methods := #[]
  instanceTypes := #[]
  staticTypes := #[]
  resolved := Array.replicate 7 none
  statics := none }

def pool3 : Array CpInfo := pool [(1, .class_ 2), (0, u "java/lang/Comparable"), (0, .class_ 4), (0, u "java/lang/Object")] 7

/-- java/lang/Comparable -/
def k3 : Class := { plain "java/lang/Comparable" (some 0) with
  accessFlags := 1537
  interfaces := #[]
  cf := some (fileOf pool3 1 #[] #[] 1537 3 #[] #[])
  fields := #[]
  methods := #[]
  instanceTypes := #[]
  staticTypes := #[]
  resolved := Array.replicate 12 none
  statics := none }

def pool4 : Array CpInfo := pool [(2, .class_ 4), (1, u "java/lang/CharSequence"), (42, .class_ 48), (0, u "java/lang/CharSequence$1CodePointIterator"), (10, .class_ 60), (0, u "java/lang/CharSequence$1CharIterator"), (5, .class_ 67), (0, u "java/lang/Object")] 63

/-- java/lang/CharSequence -/
def k4 : Class := { plain "java/lang/CharSequence" (some 0) with
  accessFlags := 1537
  interfaces := #[]
  cf := some (fileOf pool4 2 #[.nestMembers #[47, 59]] #[] 1537 66 #[] #[])
  fields := #[]
  methods := #[]
  instanceTypes := #[]
  staticTypes := #[]
  resolved := Array.replicate 131 none
  statics := none }

def pool5 : Array CpInfo := pool [(1, .class_ 2), (0, u "java/lang/constant/Constable"), (0, .class_ 4), (0, u "java/lang/Object")] 6

/-- java/lang/constant/Constable -/
def k5 : Class := { plain "java/lang/constant/Constable" (some 0) with
  accessFlags := 1537
  interfaces := #[]
  cf := some (fileOf pool5 1 #[] #[] 1537 3 #[] #[])
  fields := #[]
  methods := #[]
  instanceTypes := #[]
  staticTypes := #[]
  resolved := Array.replicate 11 none
  statics := none }

def pool6 : Array CpInfo := pool [(1, .class_ 2), (0, u "java/lang/constant/ConstantDesc"), (0, .class_ 4), (0, u "java/lang/Object")] 32

/-- java/lang/constant/ConstantDesc -/
def k6 : Class := { plain "java/lang/constant/ConstantDesc" (some 0) with
  accessFlags := 1537
  interfaces := #[]
  cf := some (fileOf pool6 1 #[] #[] 1537 3 #[] #[])
  fields := #[]
  methods := #[]
  instanceTypes := #[]
  staticTypes := #[]
  resolved := Array.replicate 37 none
  statics := none }

def pool7 : Array CpInfo := pool [(1, .methodref 2 3), (0, .class_ 4), (0, .nameAndType 5 6), (0, u "java/lang/Object"), (0, u "<init>"), (0, u "()V"), (2, .fieldref 10 11), (0, .class_ 12), (0, .nameAndType 13 14), (0, u "java/lang/String"), (0, u "value"), (0, u "[B"), (0, .fieldref 10 16), (0, .nameAndType 17 18), (0, u "coder"), (0, u "B"), (2, u "hash"), (0, u "I"), (2, u "hashIsZero"), (0, u "Z"), (0, .methodref 10 28), (0, .nameAndType 5 29), (0, u "([CIILjava/lang/Void;)V"), (6, u "checkBoundsOffCount"), (0, u "(III)I"), (0, .fieldref 10 39), (0, .nameAndType 40 26), (0, u "COMPACT_STRINGS"), (1, .class_ 44), (1, u "java/lang/StringUTF16"), (0, u "compress"), (1, .methodref 42 48), (0, .nameAndType 49 50), (0, u "coderFromArrayLen"), (0, u "([BI)B"), (2, u "toBytes"), (0, .methodref 55 56), (0, .class_ 57), (0, .nameAndType 58 59), (0, u "java/util/Arrays"), (0, u "copyOfRange"), (0, u "([BII)[B"), (46, .methodref 107 108), (0, .class_ 109), (0, .nameAndType 110 111), (0, u "java/lang/StringLatin1"), (0, u "inflate"), (0, u "([BI[BII)V"), (30, u "()Z"), (34, .methodref 42 178), (0, .nameAndType 45 179), (0, u "([CII)[B"), (13, .class_ 195), (1, u "java/lang/System"), (13, .methodref 10 210), (0, .nameAndType 5 211), (0, u "([BB)V"), (0, .methodref 193 213), (0, .nameAndType 214 215), (0, u "arraycopy"), (0, u "(Ljava/lang/Object;ILjava/lang/Object;II)V"), (118, u "()I"), (0, .methodref 10 336), (0, .nameAndType 17 337), (0, u "()B"), (2, u "()[B"), (22, u "([BI)C"), (5, u "(C)Z"), (21, u "(II)V"), (35, u "(I)C"), (61, .methodref 10 490), (0, .nameAndType 5 491), (0, u "(Ljava/lang/AbstractStringBuilder;Ljava/lang/Void;)V"), (0, .methodref 10 493), (0, .nameAndType 494 142), (0, u "isLatin1"), (0, .methodref 107 496), (0, .nameAndType 497 363), (0, u "charAt"), (0, .methodref 42 496), (2, u "checkIndex"), (3, .methodref 10 506), (0, .nameAndType 507 334), (0, u "length"), (5, u "checkFromToIndex"), (9, u "checkBoundsBeginEnd"), (0, u "(III)V"), (7, u "getBytes"), (16, .methodref 550 506), (0, .class_ 551), (0, u "java/lang/AbstractStringBuilder"), (0, .methodref 550 553), (0, .nameAndType 554 340), (0, u "getValue"), (20, .class_ 576), (0, u "java/lang/CharSequence"), (22, u "CASE_INSENSITIVE_ORDER"), (0, u "Ljava/util/Comparator;"), (32, .methodref 10 634), (0, .nameAndType 635 636), (0, u "indexOf"), (0, u "(II)I"), (0, .methodref 107 638), (0, .nameAndType 635 639), (0, u "([BIII)I"), (0, .methodref 42 638), (51, u "isEmpty"), (72, u "(I)I"), (16, u "valueOf"), (0, u "(C)Ljava/lang/String;"), (37, u "([BIB)V"), (188, u "([C)V"), (4, .methodref 107 1016), (0, .nameAndType 1017 369), (0, u "canEncode"), (0, .methodref 107 1019), (0, .nameAndType 53 1020), (0, u "(C)[B"), (0, .methodref 42 1019), (25, .methodref 550 493), (0, .fieldref 550 1049), (0, .nameAndType 1050 26), (0, u "maybeLatin1"), (2, .fieldref 1054 1055), (0, .class_ 1056), (0, .nameAndType 1057 1058), (0, u "jdk/internal/util/Preconditions"), (0, u "SIOOBE_FORMATTER"), (0, u "Ljava/util/function/BiFunction;"), (0, .methodref 1054 1060), (0, .nameAndType 501 1061), (0, u "(IILjava/util/function/BiFunction;)I"), (0, .methodref 1054 1063), (0, .nameAndType 513 1064), (0, u "(IIILjava/util/function/BiFunction;)I"), (0, .methodref 1054 1066), (0, .nameAndType 1067 1064), (0, u "checkFromIndexSize"), (33, u "serialPersistentFields"), (0, u "[Ljava/io/ObjectStreamField;"), (0, .class_ 1104), (0, u "java/lang/String$CaseInsensitiveComparator"), (1, .class_ 1107), (0, u "java/io/Serializable"), (0, .class_ 1109), (0, u "java/lang/Comparable"), (0, .class_ 1111), (0, u "java/lang/constant/Constable"), (0, .class_ 1113), (0, u "java/lang/constant/ConstantDesc"), (2, u "serialVersionUID"), (0, u "J"), (3, u "REPL"), (0, u "C"), (2, u "LATIN1"), (1, u "UTF16"), (105, u "(Ljava/lang/StringBuilder;)V")] 217

def k7m0 : Method := { name := "<init>", desc := "()V", sig := { parameters := [], returnType := none }, accessFlags := 1, code := none }
def k7c1 : Code := { maxStack := 5, maxLocals := 2, code := jdk_42_method_3_code, exceptionTable := #[], attributes := #[] }
def k7m1 : Method := { name := "<init>", desc := "([C)V", sig := { parameters := [(.array .char)], returnType := none }, accessFlags := 1, code := some k7c1 }
def k7c2 : Code := { maxStack := 3, maxLocals := 2, code := jdk_42_method_53_code, exceptionTable := #[], attributes := #[] }
def k7m2 : Method := { name := "<init>", desc := "(Ljava/lang/StringBuilder;)V", sig := { parameters := [(.object "java/lang/StringBuilder")], returnType := none }, accessFlags := 1, code := some k7c2 }
def k7c3 : Code := { maxStack := 2, maxLocals := 1, code := jdk_42_method_54_code, exceptionTable := #[], attributes := #[] }
def k7m3 : Method := { name := "length", desc := "()I", sig := { parameters := [], returnType := some .int }, accessFlags := 1, code := some k7c3 }
def k7c4 : Code := { maxStack := 1, maxLocals := 1, code := jdk_42_method_55_code, exceptionTable := #[], attributes := #[] }
def k7m4 : Method := { name := "isEmpty", desc := "()Z", sig := { parameters := [], returnType := some .boolean }, accessFlags := 1, code := some k7c4 }
def k7c5 : Code := { maxStack := 2, maxLocals := 2, code := jdk_42_method_56_code, exceptionTable := #[], attributes := #[] }
def k7m5 : Method := { name := "charAt", desc := "(I)C", sig := { parameters := [.int], returnType := some .char }, accessFlags := 1, code := some k7c5 }
def k7c6 : Code := { maxStack := 3, maxLocals := 2, code := jdk_42_method_79_code, exceptionTable := #[], attributes := #[] }
def k7m6 : Method := { name := "indexOf", desc := "(I)I", sig := { parameters := [.int], returnType := some .int }, accessFlags := 1, code := some k7c6 }
def k7c7 : Code := { maxStack := 4, maxLocals := 3, code := jdk_42_method_80_code, exceptionTable := #[], attributes := #[] }
def k7m7 : Method := { name := "indexOf", desc := "(II)I", sig := { parameters := [.int, .int], returnType := some .int }, accessFlags := 1, code := some k7c7 }
def k7c8 : Code := { maxStack := 4, maxLocals := 1, code := jdk_42_method_139_code, exceptionTable := #[], attributes := #[] }
def k7m8 : Method := { name := "valueOf", desc := "(C)Ljava/lang/String;", sig := { parameters := [.char], returnType := some (.object "java/lang/String") }, accessFlags := 9, code := some k7c8 }
def k7c9 : Code := { maxStack := 5, maxLocals := 4, code := jdk_42_method_147_code, exceptionTable := #[], attributes := #[] }
def k7m9 : Method := { name := "getBytes", desc := "([BIB)V", sig := { parameters := [(.array .byte), .int, .byte], returnType := none }, accessFlags := 0, code := some k7c9 }
def k7c10 : Code := { maxStack := 4, maxLocals := 6, code := jdk_42_method_149_code, exceptionTable := #[], attributes := #[] }
def k7m10 : Method := { name := "<init>", desc := "([CIILjava/lang/Void;)V", sig := { parameters := [(.array .char), .int, .int, (.object "java/lang/Void")], returnType := none }, accessFlags := 2, code := some k7c10 }
def k7c11 : Code := { maxStack := 5, maxLocals := 5, code := jdk_42_method_150_code, exceptionTable := #[], attributes := #[] }
def k7m11 : Method := { name := "<init>", desc := "(Ljava/lang/AbstractStringBuilder;Ljava/lang/Void;)V", sig := { parameters := [(.object "java/lang/AbstractStringBuilder"), (.object "java/lang/Void")], returnType := none }, accessFlags := 0, code := some k7c11 }
def k7c12 : Code := { maxStack := 2, maxLocals := 3, code := jdk_42_method_151_code, exceptionTable := #[], attributes := #[] }
def k7m12 : Method := { name := "<init>", desc := "([BB)V", sig := { parameters := [(.array .byte), .byte], returnType := none }, accessFlags := 0, code := some k7c12 }
def k7c13 : Code := { maxStack := 1, maxLocals := 1, code := jdk_42_method_152_code, exceptionTable := #[], attributes := #[] }
def k7m13 : Method := { name := "coder", desc := "()B", sig := { parameters := [], returnType := some .byte }, accessFlags := 0, code := some k7c13 }
def k7c14 : Code := { maxStack := 1, maxLocals := 1, code := jdk_42_method_154_code, exceptionTable := #[], attributes := #[] }
def k7m14 : Method := { name := "isLatin1", desc := "()Z", sig := { parameters := [], returnType := some .boolean }, accessFlags := 0, code := some k7c14 }
def k7c15 : Code := { maxStack := 3, maxLocals := 2, code := jdk_42_method_155_code, exceptionTable := #[], attributes := #[] }
def k7m15 : Method := { name := "checkIndex", desc := "(II)V", sig := { parameters := [.int, .int], returnType := none }, accessFlags := 8, code := some k7c15 }
def k7c16 : Code := { maxStack := 4, maxLocals := 3, code := jdk_42_method_157_code, exceptionTable := #[], attributes := #[] }
def k7m16 : Method := { name := "checkBoundsOffCount", desc := "(III)I", sig := { parameters := [.int, .int, .int], returnType := some .int }, accessFlags := 8, code := some k7c16 }
def k7c17 : Code := { maxStack := 4, maxLocals := 3, code := jdk_42_method_158_code, exceptionTable := #[], attributes := #[] }
def k7m17 : Method := { name := "checkBoundsBeginEnd", desc := "(III)V", sig := { parameters := [.int, .int, .int], returnType := none }, accessFlags := 8, code := some k7c17 }
/-- java/lang/String -/
def k7 : Class := { plain "java/lang/String" (some 0) with
  accessFlags := 49
  interfaces := #[2, 3, 4, 5, 6]
  cf := some (fileOf pool7 10 #[.nestMembers #[1103]] #[{ accessFlags := 1, nameIndex := 5, descriptorIndex := 6, attributes := #[] }, { accessFlags := 1, nameIndex := 5, descriptorIndex := 1010, attributes := #[] }, { accessFlags := 1, nameIndex := 5, descriptorIndex := 1233, attributes := #[] }, { accessFlags := 1, nameIndex := 507, descriptorIndex := 334, attributes := #[] }, { accessFlags := 1, nameIndex := 692, descriptorIndex := 142, attributes := #[] }, { accessFlags := 1, nameIndex := 497, descriptorIndex := 427, attributes := #[] }, { accessFlags := 1, nameIndex := 635, descriptorIndex := 765, attributes := #[] }, { accessFlags := 1, nameIndex := 635, descriptorIndex := 636, attributes := #[] }, { accessFlags := 9, nameIndex := 782, descriptorIndex := 783, attributes := #[] }, { accessFlags := 0, nameIndex := 532, descriptorIndex := 821, attributes := #[] }, { accessFlags := 2, nameIndex := 5, descriptorIndex := 29, attributes := #[] }, { accessFlags := 0, nameIndex := 5, descriptorIndex := 491, attributes := #[] }, { accessFlags := 0, nameIndex := 5, descriptorIndex := 211, attributes := #[] }, { accessFlags := 0, nameIndex := 17, descriptorIndex := 337, attributes := #[] }, { accessFlags := 0, nameIndex := 494, descriptorIndex := 142, attributes := #[] }, { accessFlags := 8, nameIndex := 501, descriptorIndex := 391, attributes := #[] }, { accessFlags := 8, nameIndex := 36, descriptorIndex := 37, attributes := #[] }, { accessFlags := 8, nameIndex := 523, descriptorIndex := 524, attributes := #[] }] 49 2 #[1106, 1108, 575, 1110, 1112] #[{ accessFlags := 18, nameIndex := 13, descriptorIndex := 14, attributes := #[] }, { accessFlags := 18, nameIndex := 17, descriptorIndex := 18, attributes := #[] }, { accessFlags := 2, nameIndex := 21, descriptorIndex := 22, attributes := #[] }, { accessFlags := 2, nameIndex := 25, descriptorIndex := 26, attributes := #[] }, { accessFlags := 26, nameIndex := 1116, descriptorIndex := 1117, attributes := #[] }, { accessFlags := 24, nameIndex := 40, descriptorIndex := 26, attributes := #[] }, { accessFlags := 26, nameIndex := 1101, descriptorIndex := 1102, attributes := #[] }, { accessFlags := 26, nameIndex := 1121, descriptorIndex := 1122, attributes := #[] }, { accessFlags := 25, nameIndex := 599, descriptorIndex := 600, attributes := #[] }, { accessFlags := 24, nameIndex := 1125, descriptorIndex := 18, attributes := #[] }, { accessFlags := 24, nameIndex := 1127, descriptorIndex := 18, attributes := #[] }])
  fields := #[{ name := "value", type := (.array .byte), accessFlags := 18, slot := 0, constantValue := 0 }, { name := "coder", type := .byte, accessFlags := 18, slot := 1, constantValue := 0 }, { name := "hash", type := .int, accessFlags := 2, slot := 2, constantValue := 0 }, { name := "hashIsZero", type := .boolean, accessFlags := 2, slot := 3, constantValue := 0 }, { name := "serialVersionUID", type := .long, accessFlags := 26, slot := 0, constantValue := 0 }, { name := "COMPACT_STRINGS", type := .boolean, accessFlags := 24, slot := 1, constantValue := 0 }, { name := "serialPersistentFields", type := (.array (.object "java/io/ObjectStreamField")), accessFlags := 26, slot := 2, constantValue := 0 }, { name := "REPL", type := .char, accessFlags := 26, slot := 3, constantValue := 0 }, { name := "CASE_INSENSITIVE_ORDER", type := (.object "java/util/Comparator"), accessFlags := 25, slot := 4, constantValue := 0 }, { name := "LATIN1", type := .byte, accessFlags := 24, slot := 5, constantValue := 0 }, { name := "UTF16", type := .byte, accessFlags := 24, slot := 6, constantValue := 0 }]
  methods := #[k7m0, k7m1, k7m2, k7m3, k7m4, k7m5, k7m6, k7m7, k7m8, k7m9, k7m10, k7m11, k7m12, k7m13, k7m14, k7m15, k7m16, k7m17]
  instanceTypes := #[(.array .byte), .byte, .int, .boolean]
  staticTypes := #[.long, .boolean, (.array (.object "java/io/ObjectStreamField")), .char, (.object "java/util/Comparator"), .byte, .byte]
  resolved := Array.replicate 1451 none
  statics := some 0 }

def pool8 : Array CpInfo := pool [(3, .class_ 4), (0, u "java/lang/String"), (1, .class_ 8), (1, u "java/lang/Object"), (0, u "<init>"), (0, u "()V"), (0, .methodref 12 13), (0, .class_ 14), (0, .nameAndType 15 16), (0, u "java/lang/StringUTF16"), (0, u "newBytesLength"), (0, u "(I)I"), (3, .integer 1073741823), (23, .fieldref 12 45), (0, .nameAndType 46 47), (0, u "$assertionsDisabled"), (0, u "Z"), (0, .methodref 12 49), (0, .nameAndType 50 51), (0, u "length"), (0, u "([B)I"), (7, .fieldref 12 60), (0, .nameAndType 61 62), (0, u "HI_BYTE_SHIFT"), (0, u "I"), (0, .fieldref 12 64), (0, .nameAndType 65 62), (0, u "LO_BYTE_SHIFT"), (1, .methodref 12 68), (0, .nameAndType 69 70), (0, u "checkIndex"), (0, u "(I[B)V"), (0, .methodref 12 72), (0, .nameAndType 73 74), (0, u "getChar"), (0, u "([BI)C"), (21, .methodref 12 97), (0, .nameAndType 98 99), (0, u "checkBoundsBeginEnd"), (0, u "(II[B)V"), (7, .methodref 12 108), (0, .nameAndType 109 110), (0, u "newBytesFor"), (0, u "(I)[B"), (0, .methodref 12 112), (0, .nameAndType 113 114), (0, u "putChar"), (0, u "([BII)V"), (0, .methodref 12 116), (0, .nameAndType 117 118), (0, u "compress"), (0, u "([CI[BII)I"), (0, .methodref 12 120), (0, .nameAndType 121 122), (0, u "toBytes"), (0, u "([CII)[B"), (17, u "inflate"), (0, u "([BI[BII)V"), (31, .methodref 12 174), (0, .nameAndType 175 99), (0, u "checkBoundsOffCount"), (7, .methodref 184 185), (0, .class_ 186), (0, .nameAndType 187 188), (0, u "java/lang/Math"), (0, u "min"), (0, u "(II)I"), (35, .methodref 184 225), (0, .nameAndType 226 188), (0, u "max"), (0, .integer 65536), (0, .methodref 12 229), (0, .nameAndType 230 231), (0, u "indexOfChar"), (0, u "([BIII)I"), (9, .methodref 3 242), (0, .nameAndType 98 243), (0, u "(III)V"), (0, .methodref 12 245), (0, .nameAndType 246 231), (0, u "indexOfCharUnsafe"), (14, u "coderFromArrayLen"), (0, u "([BI)B"), (5, u "indexOf"), (12, u "(III)I"), (87, .class_ 371), (1, u "java/lang/StringUTF16$LinesSpliterator"), (20, u "charAt"), (21, .methodref 3 415), (0, .nameAndType 69 416), (0, u "(II)V"), (2, .methodref 3 420), (0, .nameAndType 175 281), (9, u "MAX_LENGTH"), (44, u "(C)[B"), (110, u "putCharSB"), (40, .class_ 628), (0, u "java/lang/StringUTF16$CodePointsSpliterator"), (0, .class_ 630), (0, u "java/lang/StringUTF16$CharsSpliterator")] 4

def k8m0 : Method := { name := "<init>", desc := "()V", sig := { parameters := [], returnType := none }, accessFlags := 0, code := none }
def k8c1 : Code := { maxStack := 1, maxLocals := 1, code := jdk_52_method_2_code, exceptionTable := #[], attributes := #[] }
def k8m1 : Method := { name := "newBytesFor", desc := "(I)[B", sig := { parameters := [.int], returnType := some (.array .byte) }, accessFlags := 9, code := some k8c1 }
def k8c2 : Code := { maxStack := 4, maxLocals := 1, code := jdk_52_method_3_code, exceptionTable := #[], attributes := #[] }
def k8m2 : Method := { name := "newBytesLength", desc := "(I)I", sig := { parameters := [.int], returnType := some .int }, accessFlags := 9, code := some k8c2 }
def k8c3 : Code := { maxStack := 4, maxLocals := 3, code := jdk_52_method_4_code, exceptionTable := #[], attributes := #[] }
def k8m3 : Method := { name := "putChar", desc := "([BII)V", sig := { parameters := [(.array .byte), .int, .int], returnType := none }, accessFlags := 8, code := some k8c3 }
def k8c4 : Code := { maxStack := 3, maxLocals := 2, code := jdk_52_method_5_code, exceptionTable := #[], attributes := #[] }
def k8m4 : Method := { name := "getChar", desc := "([BI)C", sig := { parameters := [(.array .byte), .int], returnType := some .char }, accessFlags := 8, code := some k8c4 }
def k8c5 : Code := { maxStack := 2, maxLocals := 1, code := jdk_52_method_6_code, exceptionTable := #[], attributes := #[] }
def k8m5 : Method := { name := "length", desc := "([B)I", sig := { parameters := [(.array .byte)], returnType := some .int }, accessFlags := 9, code := some k8c5 }
def k8c6 : Code := { maxStack := 4, maxLocals := 5, code := jdk_52_method_14_code, exceptionTable := #[], attributes := #[] }
def k8m6 : Method := { name := "toBytes", desc := "([CII)[B", sig := { parameters := [(.array .char), .int, .int], returnType := some (.array .byte) }, accessFlags := 9, code := some k8c6 }
def k8c7 : Code := { maxStack := 2, maxLocals := 2, code := jdk_52_method_15_code, exceptionTable := #[], attributes := #[] }
def k8m7 : Method := { name := "coderFromArrayLen", desc := "([BI)B", sig := { parameters := [(.array .byte), .int], returnType := some .byte }, accessFlags := 8, code := some k8c7 }
def k8c8 : Code := { maxStack := 5, maxLocals := 6, code := jdk_52_method_16_code, exceptionTable := #[], attributes := #[] }
def k8m8 : Method := { name := "compress", desc := "([CII)[B", sig := { parameters := [(.array .char), .int, .int], returnType := some (.array .byte) }, accessFlags := 9, code := some k8c8 }
def k8c9 : Code := { maxStack := 3, maxLocals := 7, code := jdk_52_method_21_code, exceptionTable := #[], attributes := #[] }
def k8m9 : Method := { name := "compress", desc := "([CI[BII)I", sig := { parameters := [(.array .char), .int, (.array .byte), .int, .int], returnType := some .int }, accessFlags := 9, code := some k8c9 }
def k8c10 : Code := { maxStack := 3, maxLocals := 2, code := jdk_52_method_24_code, exceptionTable := #[], attributes := #[] }
def k8m10 : Method := { name := "toBytes", desc := "(C)[B", sig := { parameters := [.char], returnType := some (.array .byte) }, accessFlags := 9, code := some k8c10 }
def k8c11 : Code := { maxStack := 4, maxLocals := 4, code := jdk_52_method_40_code, exceptionTable := #[], attributes := #[] }
def k8m11 : Method := { name := "indexOf", desc := "([BIII)I", sig := { parameters := [(.array .byte), .int, .int, .int], returnType := some .int }, accessFlags := 9, code := some k8c11 }
def k8c12 : Code := { maxStack := 4, maxLocals := 4, code := jdk_52_method_47_code, exceptionTable := #[], attributes := #[] }
def k8m12 : Method := { name := "indexOfChar", desc := "([BIII)I", sig := { parameters := [(.array .byte), .int, .int, .int], returnType := some .int }, accessFlags := 10, code := some k8c12 }
def k8c13 : Code := { maxStack := 2, maxLocals := 5, code := jdk_52_method_48_code, exceptionTable := #[], attributes := #[] }
def k8m13 : Method := { name := "indexOfCharUnsafe", desc := "([BIII)I", sig := { parameters := [(.array .byte), .int, .int, .int], returnType := some .int }, accessFlags := 10, code := some k8c13 }
def k8c14 : Code := { maxStack := 3, maxLocals := 3, code := jdk_52_method_71_code, exceptionTable := #[], attributes := #[] }
def k8m14 : Method := { name := "putCharSB", desc := "([BII)V", sig := { parameters := [(.array .byte), .int, .int], returnType := none }, accessFlags := 9, code := some k8c14 }
def k8c15 : Code := { maxStack := 2, maxLocals := 2, code := jdk_52_method_83_code, exceptionTable := #[], attributes := #[] }
def k8m15 : Method := { name := "charAt", desc := "([BI)C", sig := { parameters := [(.array .byte), .int], returnType := some .char }, accessFlags := 9, code := some k8c15 }
def k8c16 : Code := { maxStack := 4, maxLocals := 6, code := jdk_52_method_86_code, exceptionTable := #[], attributes := #[] }
def k8m16 : Method := { name := "inflate", desc := "([BI[BII)V", sig := { parameters := [(.array .byte), .int, (.array .byte), .int, .int], returnType := none }, accessFlags := 9, code := some k8c16 }
def k8c17 : Code := { maxStack := 2, maxLocals := 2, code := jdk_52_method_91_code, exceptionTable := #[], attributes := #[] }
def k8m17 : Method := { name := "checkIndex", desc := "(I[B)V", sig := { parameters := [.int, (.array .byte)], returnType := none }, accessFlags := 9, code := some k8c17 }
def k8c18 : Code := { maxStack := 3, maxLocals := 3, code := jdk_52_method_93_code, exceptionTable := #[], attributes := #[] }
def k8m18 : Method := { name := "checkBoundsBeginEnd", desc := "(II[B)V", sig := { parameters := [.int, .int, (.array .byte)], returnType := none }, accessFlags := 9, code := some k8c18 }
def k8c19 : Code := { maxStack := 3, maxLocals := 3, code := jdk_52_method_94_code, exceptionTable := #[], attributes := #[] }
def k8m19 : Method := { name := "checkBoundsOffCount", desc := "(II[B)V", sig := { parameters := [.int, .int, (.array .byte)], returnType := none }, accessFlags := 9, code := some k8c19 }
/-- java/lang/StringUTF16 -/
def k8 : Class := { plain "java/lang/StringUTF16" (some 0) with
  accessFlags := 48
  interfaces := #[]
  cf := some (fileOf pool8 12 #[.nestMembers #[627, 629, 369]] #[{ accessFlags := 0, nameIndex := 9, descriptorIndex := 10, attributes := #[] }, { accessFlags := 9, nameIndex := 109, descriptorIndex := 110, attributes := #[] }, { accessFlags := 9, nameIndex := 15, descriptorIndex := 16, attributes := #[] }, { accessFlags := 8, nameIndex := 113, descriptorIndex := 114, attributes := #[] }, { accessFlags := 8, nameIndex := 73, descriptorIndex := 74, attributes := #[] }, { accessFlags := 9, nameIndex := 50, descriptorIndex := 51, attributes := #[] }, { accessFlags := 9, nameIndex := 121, descriptorIndex := 122, attributes := #[] }, { accessFlags := 8, nameIndex := 261, descriptorIndex := 262, attributes := #[] }, { accessFlags := 9, nameIndex := 117, descriptorIndex := 122, attributes := #[] }, { accessFlags := 9, nameIndex := 117, descriptorIndex := 118, attributes := #[] }, { accessFlags := 9, nameIndex := 121, descriptorIndex := 475, attributes := #[] }, { accessFlags := 9, nameIndex := 268, descriptorIndex := 231, attributes := #[] }, { accessFlags := 10, nameIndex := 230, descriptorIndex := 231, attributes := #[] }, { accessFlags := 10, nameIndex := 246, descriptorIndex := 231, attributes := #[] }, { accessFlags := 9, nameIndex := 586, descriptorIndex := 114, attributes := #[] }, { accessFlags := 9, nameIndex := 392, descriptorIndex := 74, attributes := #[] }, { accessFlags := 9, nameIndex := 140, descriptorIndex := 141, attributes := #[] }, { accessFlags := 9, nameIndex := 69, descriptorIndex := 70, attributes := #[] }, { accessFlags := 9, nameIndex := 98, descriptorIndex := 99, attributes := #[] }, { accessFlags := 9, nameIndex := 175, descriptorIndex := 99, attributes := #[] }] 48 6 #[] #[{ accessFlags := 26, nameIndex := 61, descriptorIndex := 62, attributes := #[] }, { accessFlags := 26, nameIndex := 65, descriptorIndex := 62, attributes := #[] }, { accessFlags := 24, nameIndex := 430, descriptorIndex := 62, attributes := #[] }, { accessFlags := 4120, nameIndex := 46, descriptorIndex := 47, attributes := #[] }])
  fields := #[{ name := "HI_BYTE_SHIFT", type := .int, accessFlags := 26, slot := 0, constantValue := 0 }, { name := "LO_BYTE_SHIFT", type := .int, accessFlags := 26, slot := 1, constantValue := 0 }, { name := "MAX_LENGTH", type := .int, accessFlags := 24, slot := 2, constantValue := 0 }, { name := "$assertionsDisabled", type := .boolean, accessFlags := 4120, slot := 3, constantValue := 0 }]
  methods := #[k8m0, k8m1, k8m2, k8m3, k8m4, k8m5, k8m6, k8m7, k8m8, k8m9, k8m10, k8m11, k8m12, k8m13, k8m14, k8m15, k8m16, k8m17, k8m18, k8m19]
  instanceTypes := #[]
  staticTypes := #[.int, .int, .int, .boolean]
  resolved := Array.replicate 635 none
  statics := some 1 }

def pool9 : Array CpInfo := pool [(1, .class_ 2), (0, u "java/lang/String"), (1, .class_ 6), (1, u "java/lang/Object"), (0, u "<init>"), (0, u "()V"), (0, .methodref 1 10), (0, .nameAndType 11 12), (0, u "checkIndex"), (0, u "(II)V"), (1, .class_ 16), (1, u "java/lang/StringLatin1"), (0, u "inflate"), (2, .class_ 22), (1, u "java/lang/StringUTF16"), (3, .nameAndType 17 27), (0, u "([BI[BII)V"), (10, .methodref 39 40), (0, .class_ 41), (0, .nameAndType 42 43), (0, u "java/lang/Math"), (0, u "min"), (0, u "(II)I"), (9, u "([BI)C"), (34, .methodref 14 89), (0, .nameAndType 90 91), (0, u "canEncode"), (0, u "(I)Z"), (0, .methodref 39 93), (0, .nameAndType 94 43), (0, u "max"), (0, .methodref 14 96), (0, .nameAndType 97 98), (0, u "indexOfChar"), (0, u "([BIII)I"), (2, u "indexOf"), (3, u "(C)Z"), (15, u "$assertionsDisabled"), (0, u "Z"), (98, .class_ 223), (1, u "java/lang/StringLatin1$LinesSpliterator"), (16, .methodref 20 26), (11, u "charAt"), (127, u "toBytes"), (1, u "(C)[B"), (7, .class_ 391), (0, u "java/lang/StringLatin1$CharsSpliterator")] 3

def k9m0 : Method := { name := "<init>", desc := "()V", sig := { parameters := [], returnType := none }, accessFlags := 0, code := none }
def k9c1 : Code := { maxStack := 2, maxLocals := 2, code := jdk_43_method_2_code, exceptionTable := #[], attributes := #[] }
def k9m1 : Method := { name := "charAt", desc := "([BI)C", sig := { parameters := [(.array .byte), .int], returnType := some .char }, accessFlags := 9, code := some k9c1 }
def k9c2 : Code := { maxStack := 2, maxLocals := 1, code := jdk_43_method_3_code, exceptionTable := #[], attributes := #[] }
def k9m2 : Method := { name := "canEncode", desc := "(C)Z", sig := { parameters := [.char], returnType := some .boolean }, accessFlags := 9, code := some k9c2 }
def k9c3 : Code := { maxStack := 2, maxLocals := 1, code := jdk_43_method_4_code, exceptionTable := #[], attributes := #[] }
def k9m3 : Method := { name := "canEncode", desc := "(I)Z", sig := { parameters := [.int], returnType := some .boolean }, accessFlags := 9, code := some k9c3 }
def k9c4 : Code := { maxStack := 4, maxLocals := 4, code := jdk_43_method_22_code, exceptionTable := #[], attributes := #[] }
def k9m4 : Method := { name := "indexOf", desc := "([BIII)I", sig := { parameters := [(.array .byte), .int, .int, .int], returnType := some .int }, accessFlags := 9, code := some k9c4 }
def k9c5 : Code := { maxStack := 2, maxLocals := 6, code := jdk_43_method_23_code, exceptionTable := #[], attributes := #[] }
def k9m5 : Method := { name := "indexOfChar", desc := "([BIII)I", sig := { parameters := [(.array .byte), .int, .int, .int], returnType := some .int }, accessFlags := 10, code := some k9c5 }
def k9c6 : Code := { maxStack := 4, maxLocals := 1, code := jdk_43_method_46_code, exceptionTable := #[], attributes := #[] }
def k9m6 : Method := { name := "toBytes", desc := "(C)[B", sig := { parameters := [.char], returnType := some (.array .byte) }, accessFlags := 9, code := some k9c6 }
def k9c7 : Code := { maxStack := 5, maxLocals := 5, code := jdk_43_method_50_code, exceptionTable := #[], attributes := #[] }
def k9m7 : Method := { name := "inflate", desc := "([BI[BII)V", sig := { parameters := [(.array .byte), .int, (.array .byte), .int, .int], returnType := none }, accessFlags := 9, code := some k9c7 }
/-- java/lang/StringLatin1 -/
def k9 : Class := { plain "java/lang/StringLatin1" (some 0) with
  accessFlags := 48
  interfaces := #[]
  cf := some (fileOf pool9 14 #[.nestMembers #[390, 221]] #[{ accessFlags := 0, nameIndex := 7, descriptorIndex := 8, attributes := #[] }, { accessFlags := 9, nameIndex := 252, descriptorIndex := 53, attributes := #[] }, { accessFlags := 9, nameIndex := 90, descriptorIndex := 105, attributes := #[] }, { accessFlags := 9, nameIndex := 90, descriptorIndex := 91, attributes := #[] }, { accessFlags := 9, nameIndex := 101, descriptorIndex := 98, attributes := #[] }, { accessFlags := 10, nameIndex := 97, descriptorIndex := 98, attributes := #[] }, { accessFlags := 9, nameIndex := 380, descriptorIndex := 382, attributes := #[] }, { accessFlags := 9, nameIndex := 17, descriptorIndex := 27, attributes := #[] }] 48 4 #[] #[{ accessFlags := 4120, nameIndex := 121, descriptorIndex := 122, attributes := #[] }])
  fields := #[{ name := "$assertionsDisabled", type := .boolean, accessFlags := 4120, slot := 0, constantValue := 0 }]
  methods := #[k9m0, k9m1, k9m2, k9m3, k9m4, k9m5, k9m6, k9m7]
  instanceTypes := #[]
  staticTypes := #[.boolean]
  resolved := Array.replicate 395 none
  statics := none }

def pool10 : Array CpInfo := pool [(1, .methodref 2 3), (0, .class_ 4), (0, .nameAndType 5 6), (0, u "java/lang/Object"), (0, u "<init>"), (0, u "()V"), (0, .class_ 8), (0, u "java/lang/Record")] 13

def k10c0 : Code := { maxStack := 1, maxLocals := 1, code := jdk_30_method_1_code, exceptionTable := #[], attributes := #[] }
def k10m0 : Method := { name := "<init>", desc := "()V", sig := { parameters := [], returnType := none }, accessFlags := 4, code := some k10c0 }
/-- java/lang/Record -/
def k10 : Class := { plain "java/lang/Record" (some 0) with
  accessFlags := 1057
  interfaces := #[]
  cf := some (fileOf pool10 7 #[] #[{ accessFlags := 4, nameIndex := 5, descriptorIndex := 6, attributes := #[] }] 1057 2 #[] #[])
  fields := #[]
  methods := #[k10m0]
  instanceTypes := #[]
  staticTypes := #[]
  resolved := Array.replicate 22 none
  statics := none }

def pool11 : Array CpInfo := pool [(1, .methodref 2 3), (0, .class_ 4), (0, .nameAndType 5 6), (0, u "java/lang/Record"), (0, u "<init>"), (0, u "()V"), (0, .string 8), (0, u "prefix"), (0, .methodref 10 11), (0, .class_ 12), (0, .nameAndType 13 14), (0, u "java/util/Objects"), (0, u "requireNonNull"), (0, u "(Ljava/lang/Object;Ljava/lang/String;)Ljava/lang/Object;"), (0, .methodref 16 17), (0, .class_ 18), (0, .nameAndType 19 20), (0, u "java/lang/String"), (0, u "isEmpty"), (0, u "()Z"), (6, u "(Ljava/lang/String;)V"), (0, .methodref 16 29), (0, .nameAndType 30 31), (0, u "indexOf"), (0, u "(I)I"), (0, .class_ 33), (0, u "java/lang/StringBuilder"), (0, .methodref 32 3), (2, .methodref 32 38), (0, .nameAndType 39 40), (0, u "append"), (0, u "(Ljava/lang/String;)Ljava/lang/StringBuilder;"), (0, .methodref 32 42), (0, .nameAndType 39 43), (0, u "(C)Ljava/lang/StringBuilder;"), (0, .methodref 32 45), (0, .nameAndType 46 47), (0, u "toString"), (0, u "()Ljava/lang/String;"), (0, .fieldref 49 50), (0, .class_ 51), (0, .nameAndType 8 52), (0, u "com/example/aliran/aliran/KeySpace"), (0, u "Ljava/lang/String;"), (2, .methodref 49 56), (0, .nameAndType 57 58), (0, u "tagged"), (0, u "(Ljava/lang/String;)Ljava/lang/String;"), (7, .methodref 16 67), (0, .nameAndType 68 69), (0, u "charAt"), (0, u "(I)C"), (0, .string 71), (0, u "userKey"), (20, u "DEFAULT"), (0, u "Lcom/example/aliran/aliran/KeySpace;"), (0, u "DEFAULT_PREFIX"), (5, u "key"), (0, u "(Ljava/lang/String;Ljava/lang/String;)Ljava/lang/String;")] 21

def k11c0 : Code := { maxStack := 4, maxLocals := 2, code := prog_5_method_1_code, exceptionTable := #[], attributes := #[] }
def k11m0 : Method := { name := "<init>", desc := "(Ljava/lang/String;)V", sig := { parameters := [(.object "java/lang/String")], returnType := none }, accessFlags := 1, code := some k11c0 }
def k11c1 : Code := { maxStack := 4, maxLocals := 3, code := prog_5_method_2_code, exceptionTable := #[], attributes := #[] }
def k11m1 : Method := { name := "key", desc := "(Ljava/lang/String;Ljava/lang/String;)Ljava/lang/String;", sig := { parameters := [(.object "java/lang/String"), (.object "java/lang/String")], returnType := some (.object "java/lang/String") }, accessFlags := 0, code := some k11c1 }
def k11c2 : Code := { maxStack := 4, maxLocals := 2, code := prog_5_method_4_code, exceptionTable := #[], attributes := #[] }
def k11m2 : Method := { name := "tagged", desc := "(Ljava/lang/String;)Ljava/lang/String;", sig := { parameters := [(.object "java/lang/String")], returnType := some (.object "java/lang/String") }, accessFlags := 2, code := some k11c2 }
/-- com/example/aliran/aliran/KeySpace -/
def k11 : Class := { plain "com/example/aliran/aliran/KeySpace" (some 10) with
  accessFlags := 49
  interfaces := #[]
  cf := some (fileOf pool11 49 #[] #[{ accessFlags := 1, nameIndex := 5, descriptorIndex := 27, attributes := #[] }, { accessFlags := 0, nameIndex := 100, descriptorIndex := 101, attributes := #[] }, { accessFlags := 2, nameIndex := 57, descriptorIndex := 58, attributes := #[] }] 49 2 #[] #[{ accessFlags := 18, nameIndex := 8, descriptorIndex := 52, attributes := #[] }, { accessFlags := 25, nameIndex := 94, descriptorIndex := 52, attributes := #[] }, { accessFlags := 25, nameIndex := 92, descriptorIndex := 93, attributes := #[] }])
  fields := #[{ name := "prefix", type := (.object "java/lang/String"), accessFlags := 18, slot := 0, constantValue := 0 }, { name := "DEFAULT_PREFIX", type := (.object "java/lang/String"), accessFlags := 25, slot := 0, constantValue := 0 }, { name := "DEFAULT", type := (.object "com/example/aliran/aliran/KeySpace"), accessFlags := 25, slot := 1, constantValue := 0 }]
  methods := #[k11m0, k11m1, k11m2]
  instanceTypes := #[(.object "java/lang/String")]
  staticTypes := #[(.object "java/lang/String"), (.object "com/example/aliran/aliran/KeySpace")]
  resolved := Array.replicate 123 none
  statics := none }

def pool12 : Array CpInfo := pool [(2, .class_ 4), (1, u "java/lang/Object"), (0, u "<init>"), (0, u "()V"), (35, .class_ 44), (1, u "java/util/Objects"), (0, u "requireNonNull"), (48, u "(Ljava/lang/Object;Ljava/lang/String;)Ljava/lang/Object;")] 89

def k12m0 : Method := { name := "<init>", desc := "()V", sig := { parameters := [], returnType := none }, accessFlags := 2, code := none }
def k12c1 : Code := { maxStack := 3, maxLocals := 2, code := jdk_31_method_11_code, exceptionTable := #[], attributes := #[] }
def k12m1 : Method := { name := "requireNonNull", desc := "(Ljava/lang/Object;Ljava/lang/String;)Ljava/lang/Object;", sig := { parameters := [(.object "java/lang/Object"), (.object "java/lang/String")], returnType := some (.object "java/lang/Object") }, accessFlags := 9, code := some k12c1 }
/-- java/util/Objects -/
def k12 : Class := { plain "java/util/Objects" (some 0) with
  accessFlags := 49
  interfaces := #[]
  cf := some (fileOf pool12 42 #[] #[{ accessFlags := 2, nameIndex := 5, descriptorIndex := 6, attributes := #[] }, { accessFlags := 9, nameIndex := 45, descriptorIndex := 94, attributes := #[] }] 49 2 #[] #[])
  fields := #[]
  methods := #[k12m0, k12m1]
  instanceTypes := #[]
  staticTypes := #[]
  resolved := Array.replicate 184 none
  statics := none }

def pool13 : Array CpInfo := pool [(1, .class_ 2), (0, u "java/lang/Math"), (1, .class_ 6), (1, u "java/lang/Object"), (0, u "<init>"), (0, u "()V"), (89, .class_ 100), (1, u "java/lang/Math$RandomNumberGeneratorHolder"), (71, u "negativeZeroFloatBits"), (0, u "J"), (2, u "negativeZeroDoubleBits"), (21, u "max"), (2, u "min"), (43, u "$assertionsDisabled"), (0, u "Z"), (88, u "(II)I"), (2, u "twoToTheDoubleScaleDown"), (0, u "D"), (4, u "twoToTheDoubleScaleUp"), (9, u "E"), (3, u "PI"), (2, u "TAU"), (2, u "DEGREES_TO_RADIANS"), (0, u "RADIANS_TO_DEGREES")] 94

def k13m0 : Method := { name := "<init>", desc := "()V", sig := { parameters := [], returnType := none }, accessFlags := 2, code := none }
def k13c1 : Code := { maxStack := 2, maxLocals := 2, code := jdk_29_method_65_code, exceptionTable := #[], attributes := #[] }
def k13m1 : Method := { name := "max", desc := "(II)I", sig := { parameters := [.int, .int], returnType := some .int }, accessFlags := 9, code := some k13c1 }
def k13c2 : Code := { maxStack := 2, maxLocals := 2, code := jdk_29_method_69_code, exceptionTable := #[], attributes := #[] }
def k13m2 : Method := { name := "min", desc := "(II)I", sig := { parameters := [.int, .int], returnType := some .int }, accessFlags := 9, code := some k13c2 }
/-- java/lang/Math -/
def k13 : Class := { plain "java/lang/Math" (some 0) with
  accessFlags := 49
  interfaces := #[]
  cf := some (fileOf pool13 1 #[.nestMembers #[98]] #[{ accessFlags := 2, nameIndex := 7, descriptorIndex := 8, attributes := #[] }, { accessFlags := 9, nameIndex := 198, descriptorIndex := 335, attributes := #[] }, { accessFlags := 9, nameIndex := 201, descriptorIndex := 335, attributes := #[] }] 49 4 #[] #[{ accessFlags := 25, nameIndex := 354, descriptorIndex := 339, attributes := #[] }, { accessFlags := 25, nameIndex := 358, descriptorIndex := 339, attributes := #[] }, { accessFlags := 25, nameIndex := 361, descriptorIndex := 339, attributes := #[] }, { accessFlags := 26, nameIndex := 364, descriptorIndex := 339, attributes := #[] }, { accessFlags := 26, nameIndex := 365, descriptorIndex := 339, attributes := #[] }, { accessFlags := 26, nameIndex := 172, descriptorIndex := 173, attributes := #[] }, { accessFlags := 26, nameIndex := 176, descriptorIndex := 173, attributes := #[] }, { accessFlags := 8, nameIndex := 344, descriptorIndex := 339, attributes := #[] }, { accessFlags := 8, nameIndex := 338, descriptorIndex := 339, attributes := #[] }, { accessFlags := 4120, nameIndex := 245, descriptorIndex := 246, attributes := #[] }])
  fields := #[{ name := "E", type := .double, accessFlags := 25, slot := 0, constantValue := 0 }, { name := "PI", type := .double, accessFlags := 25, slot := 1, constantValue := 0 }, { name := "TAU", type := .double, accessFlags := 25, slot := 2, constantValue := 0 }, { name := "DEGREES_TO_RADIANS", type := .double, accessFlags := 26, slot := 3, constantValue := 0 }, { name := "RADIANS_TO_DEGREES", type := .double, accessFlags := 26, slot := 4, constantValue := 0 }, { name := "negativeZeroFloatBits", type := .long, accessFlags := 26, slot := 5, constantValue := 0 }, { name := "negativeZeroDoubleBits", type := .long, accessFlags := 26, slot := 6, constantValue := 0 }, { name := "twoToTheDoubleScaleUp", type := .double, accessFlags := 8, slot := 7, constantValue := 0 }, { name := "twoToTheDoubleScaleDown", type := .double, accessFlags := 8, slot := 8, constantValue := 0 }, { name := "$assertionsDisabled", type := .boolean, accessFlags := 4120, slot := 9, constantValue := 0 }]
  methods := #[k13m0, k13m1, k13m2]
  instanceTypes := #[]
  staticTypes := #[.double, .double, .double, .double, .double, .long, .long, .double, .double, .boolean]
  resolved := Array.replicate 460 none
  statics := none }

def pool14 : Array CpInfo := pool [(1, .class_ 2), (0, u "java/lang/Appendable"), (0, .class_ 4), (0, u "java/lang/Object")] 9

/-- java/lang/Appendable -/
def k14 : Class := { plain "java/lang/Appendable" (some 0) with
  accessFlags := 1537
  interfaces := #[]
  cf := some (fileOf pool14 1 #[] #[] 1537 3 #[] #[])
  fields := #[]
  methods := #[]
  instanceTypes := #[]
  staticTypes := #[]
  resolved := Array.replicate 14 none
  statics := none }

def pool15 : Array CpInfo := pool [(1, .class_ 2), (0, u "java/lang/String"), (0, .methodref 4 5), (0, .class_ 6), (0, .nameAndType 7 8), (0, u "java/lang/Object"), (0, u "<init>"), (0, u "()V"), (1, .class_ 12), (1, u "java/lang/AbstractStringBuilder"), (0, u "EMPTYVALUE"), (0, u "[B"), (0, .fieldref 10 16), (0, .nameAndType 17 14), (0, u "value"), (0, .fieldref 1 19), (0, .nameAndType 20 21), (0, u "COMPACT_STRINGS"), (0, u "Z"), (0, .fieldref 10 23), (0, .nameAndType 24 25), (0, u "coder"), (0, u "B"), (0, .methodref 27 28), (0, .class_ 29), (0, .nameAndType 30 31), (0, u "java/lang/StringUTF16"), (0, u "newBytesFor"), (0, u "(I)[B"), (0, .methodref 1 33), (0, .nameAndType 34 35), (0, u "length"), (0, u "()I"), (4, .methodref 1 41), (0, .nameAndType 24 42), (0, u "()B"), (2, u "append"), (0, u "(Ljava/lang/String;)Ljava/lang/AbstractStringBuilder;"), (1, .class_ 49), (0, u "java/lang/CharSequence"), (19, u "(Ljava/lang/String;)V"), (5, u "maybeLatin1"), (3, .fieldref 10 80), (0, .nameAndType 81 82), (0, u "count"), (0, u "I"), (0, .methodref 10 84), (0, .nameAndType 85 86), (0, u "isLatin1"), (0, u "()Z"), (1, .class_ 90), (1, u "java/lang/StringLatin1"), (9, .methodref 10 101), (0, .nameAndType 102 103), (0, u "ensureCapacityInternal"), (0, u "(I)V"), (21, .methodref 88 126), (0, .nameAndType 127 128), (0, u "inflate"), (0, u "([BI[BII)V"), (7, u "([BII)V"), (54, .methodref 88 192), (0, .nameAndType 193 194), (0, u "canEncode"), (0, u "(C)Z"), (0, .methodref 10 196), (0, .nameAndType 127 8), (0, .methodref 27 198), (0, .nameAndType 199 136), (0, u "putCharSB"), (8, .methodref 10 209), (0, .nameAndType 210 211), (0, u "putStringAt"), (0, u "(ILjava/lang/String;)V"), (5, u "inflateIfNeededFor"), (2, .nameAndType 221 222), (0, u "getBytes"), (0, u "([BIB)V"), (69, u "(C)Ljava/lang/AbstractStringBuilder;"), (104, .methodref 10 398), (0, .nameAndType 217 69), (0, .methodref 1 220), (3, u "()[B"), (40, .class_ 445), (0, u "java/lang/Appendable"), (106, u "getValue")] 56

def k15m0 : Method := { name := "<init>", desc := "()V", sig := { parameters := [], returnType := none }, accessFlags := 0, code := none }
def k15c1 : Code := { maxStack := 2, maxLocals := 2, code := jdk_68_method_2_code, exceptionTable := #[], attributes := #[] }
def k15m1 : Method := { name := "<init>", desc := "(I)V", sig := { parameters := [.int], returnType := none }, accessFlags := 0, code := some k15c1 }
def k15c2 : Code := { maxStack := 1, maxLocals := 1, code := jdk_68_method_6_code, exceptionTable := #[], attributes := #[] }
def k15m2 : Method := { name := "length", desc := "()I", sig := { parameters := [], returnType := some .int }, accessFlags := 1, code := some k15c2 }
def k15c3 : Code := { maxStack := 4, maxLocals := 3, code := jdk_68_method_9_code, exceptionTable := #[], attributes := #[] }
def k15m3 : Method := { name := "ensureCapacityInternal", desc := "(I)V", sig := { parameters := [.int], returnType := none }, accessFlags := 2, code := some k15c3 }
def k15c4 : Code := { maxStack := 5, maxLocals := 2, code := jdk_68_method_11_code, exceptionTable := #[], attributes := #[] }
def k15m4 : Method := { name := "inflate", desc := "()V", sig := { parameters := [], returnType := none }, accessFlags := 2, code := some k15c4 }
def k15c5 : Code := { maxStack := 3, maxLocals := 3, code := jdk_68_method_22_code, exceptionTable := #[], attributes := #[] }
def k15m5 : Method := { name := "append", desc := "(Ljava/lang/String;)Ljava/lang/AbstractStringBuilder;", sig := { parameters := [(.object "java/lang/String")], returnType := some (.object "java/lang/AbstractStringBuilder") }, accessFlags := 1, code := some k15c5 }
def k15c6 : Code := { maxStack := 5, maxLocals := 2, code := jdk_68_method_31_code, exceptionTable := #[], attributes := #[] }
def k15m6 : Method := { name := "append", desc := "(C)Ljava/lang/AbstractStringBuilder;", sig := { parameters := [.char], returnType := some (.object "java/lang/AbstractStringBuilder") }, accessFlags := 1, code := some k15c6 }
def k15c7 : Code := { maxStack := 1, maxLocals := 1, code := jdk_68_method_64_code, exceptionTable := #[], attributes := #[] }
def k15m7 : Method := { name := "getValue", desc := "()[B", sig := { parameters := [], returnType := some (.array .byte) }, accessFlags := 16, code := some k15c7 }
def k15c8 : Code := { maxStack := 1, maxLocals := 1, code := jdk_68_method_68_code, exceptionTable := #[], attributes := #[] }
def k15m8 : Method := { name := "isLatin1", desc := "()Z", sig := { parameters := [], returnType := some .boolean }, accessFlags := 16, code := some k15c8 }
def k15c9 : Code := { maxStack := 2, maxLocals := 2, code := jdk_68_method_71_code, exceptionTable := #[], attributes := #[] }
def k15m9 : Method := { name := "inflateIfNeededFor", desc := "(Ljava/lang/String;)V", sig := { parameters := [(.object "java/lang/String")], returnType := none }, accessFlags := 2, code := some k15c9 }
def k15c10 : Code := { maxStack := 4, maxLocals := 3, code := jdk_68_method_73_code, exceptionTable := #[], attributes := #[] }
def k15m10 : Method := { name := "putStringAt", desc := "(ILjava/lang/String;)V", sig := { parameters := [.int, (.object "java/lang/String")], returnType := none }, accessFlags := 2, code := some k15c10 }
/-- java/lang/AbstractStringBuilder -/
def k15 : Class := { plain "java/lang/AbstractStringBuilder" (some 0) with
  accessFlags := 1056
  interfaces := #[14, 4]
  cf := some (fileOf pool15 10 #[] #[{ accessFlags := 0, nameIndex := 7, descriptorIndex := 8, attributes := #[] }, { accessFlags := 0, nameIndex := 7, descriptorIndex := 103, attributes := #[] }, { accessFlags := 1, nameIndex := 34, descriptorIndex := 35, attributes := #[] }, { accessFlags := 2, nameIndex := 102, descriptorIndex := 103, attributes := #[] }, { accessFlags := 2, nameIndex := 127, descriptorIndex := 8, attributes := #[] }, { accessFlags := 1, nameIndex := 45, descriptorIndex := 46, attributes := #[] }, { accessFlags := 1, nameIndex := 45, descriptorIndex := 292, attributes := #[] }, { accessFlags := 16, nameIndex := 552, descriptorIndex := 403, attributes := #[] }, { accessFlags := 16, nameIndex := 85, descriptorIndex := 86, attributes := #[] }, { accessFlags := 2, nameIndex := 217, descriptorIndex := 69, attributes := #[] }, { accessFlags := 2, nameIndex := 210, descriptorIndex := 211, attributes := #[] }] 1056 4 #[444, 48] #[{ accessFlags := 0, nameIndex := 17, descriptorIndex := 14, attributes := #[] }, { accessFlags := 0, nameIndex := 24, descriptorIndex := 25, attributes := #[] }, { accessFlags := 0, nameIndex := 75, descriptorIndex := 21, attributes := #[] }, { accessFlags := 0, nameIndex := 81, descriptorIndex := 82, attributes := #[] }, { accessFlags := 26, nameIndex := 13, descriptorIndex := 14, attributes := #[] }])
  fields := #[{ name := "value", type := (.array .byte), accessFlags := 0, slot := 0, constantValue := 0 }, { name := "coder", type := .byte, accessFlags := 0, slot := 1, constantValue := 0 }, { name := "maybeLatin1", type := .boolean, accessFlags := 0, slot := 2, constantValue := 0 }, { name := "count", type := .int, accessFlags := 0, slot := 3, constantValue := 0 }, { name := "EMPTYVALUE", type := (.array .byte), accessFlags := 26, slot := 0, constantValue := 0 }]
  methods := #[k15m0, k15m1, k15m2, k15m3, k15m4, k15m5, k15m6, k15m7, k15m8, k15m9, k15m10]
  instanceTypes := #[(.array .byte), .byte, .boolean, .int]
  staticTypes := #[(.array .byte)]
  resolved := Array.replicate 609 none
  statics := none }

def pool16 : Array CpInfo := pool [(1, .methodref 2 3), (0, .class_ 4), (0, .nameAndType 5 6), (0, u "java/lang/AbstractStringBuilder"), (0, u "<init>"), (0, u "(I)V"), (11, .class_ 20), (1, u "java/lang/String"), (3, .class_ 26), (1, u "java/lang/StringBuilder"), (0, u "append"), (0, u "(Ljava/lang/String;)Ljava/lang/StringBuilder;"), (0, .methodref 2 30), (0, .nameAndType 27 31), (0, u "(Ljava/lang/String;)Ljava/lang/AbstractStringBuilder;"), (18, .methodref 2 51), (0, .nameAndType 27 52), (0, u "(C)Ljava/lang/AbstractStringBuilder;"), (84, .methodref 18 138), (0, .nameAndType 5 139), (0, u "(Ljava/lang/StringBuilder;)V"), (5, u "()V"), (10, u "()I"), (129, u "(C)Ljava/lang/StringBuilder;"), (56, .methodref 2 344), (0, .nameAndType 345 156), (0, u "length"), (3, .class_ 350), (0, u "java/lang/Appendable"), (0, .class_ 352), (0, u "java/io/Serializable"), (0, .class_ 354), (0, u "java/lang/Comparable"), (0, .class_ 356), (0, u "java/lang/CharSequence"), (0, u "serialVersionUID"), (0, u "J"), (40, u "toString"), (0, u "()Ljava/lang/String;")] 21

def k16c0 : Code := { maxStack := 2, maxLocals := 1, code := jdk_67_method_1_code, exceptionTable := #[], attributes := #[] }
def k16m0 : Method := { name := "<init>", desc := "()V", sig := { parameters := [], returnType := none }, accessFlags := 1, code := some k16c0 }
def k16c1 : Code := { maxStack := 2, maxLocals := 2, code := jdk_67_method_7_code, exceptionTable := #[], attributes := #[] }
def k16m1 : Method := { name := "append", desc := "(Ljava/lang/String;)Ljava/lang/StringBuilder;", sig := { parameters := [(.object "java/lang/String")], returnType := some (.object "java/lang/StringBuilder") }, accessFlags := 1, code := some k16c1 }
def k16c2 : Code := { maxStack := 2, maxLocals := 2, code := jdk_67_method_14_code, exceptionTable := #[], attributes := #[] }
def k16m2 : Method := { name := "append", desc := "(C)Ljava/lang/StringBuilder;", sig := { parameters := [.char], returnType := some (.object "java/lang/StringBuilder") }, accessFlags := 1, code := some k16c2 }
def k16c3 : Code := { maxStack := 3, maxLocals := 1, code := jdk_67_method_42_code, exceptionTable := #[], attributes := #[] }
def k16m3 : Method := { name := "toString", desc := "()Ljava/lang/String;", sig := { parameters := [], returnType := some (.object "java/lang/String") }, accessFlags := 1, code := some k16c3 }
def k16c4 : Code := { maxStack := 1, maxLocals := 1, code := jdk_67_method_93_code, exceptionTable := #[], attributes := #[] }
def k16m4 : Method := { name := "length", desc := "()I", sig := { parameters := [], returnType := some .int }, accessFlags := 4161, code := some k16c4 }
/-- java/lang/StringBuilder -/
def k16 : Class := { plain "java/lang/StringBuilder" (some 15) with
  accessFlags := 49
  interfaces := #[14, 2, 3, 4]
  cf := some (fileOf pool16 24 #[] #[{ accessFlags := 1, nameIndex := 5, descriptorIndex := 145, attributes := #[] }, { accessFlags := 1, nameIndex := 27, descriptorIndex := 28, attributes := #[] }, { accessFlags := 1, nameIndex := 27, descriptorIndex := 286, attributes := #[] }, { accessFlags := 1, nameIndex := 399, descriptorIndex := 400, attributes := #[] }, { accessFlags := 4161, nameIndex := 345, descriptorIndex := 156, attributes := #[] }] 49 2 #[349, 351, 353, 355] #[{ accessFlags := 24, nameIndex := 357, descriptorIndex := 358, attributes := #[] }])
  fields := #[{ name := "serialVersionUID", type := .long, accessFlags := 24, slot := 0, constantValue := 0 }]
  methods := #[k16m0, k16m1, k16m2, k16m3, k16m4]
  instanceTypes := #[(.array .byte), .byte, .boolean, .int]
  staticTypes := #[.long]
  resolved := Array.replicate 422 none
  statics := none }

def pool17 : Array CpInfo := pool [(2, .class_ 4), (1, u "java/lang/Object"), (0, u "<init>"), (0, u "()V"), (17, .class_ 26), (1, u "jdk/internal/util/Preconditions"), (6, u "checkIndex"), (13, u "checkFromToIndex"), (1, u "checkFromIndexSize"), (5, .class_ 56), (0, u "jdk/internal/util/Preconditions$4"), (57, .class_ 115), (0, u "jdk/internal/util/Preconditions$1"), (7, u "SIOOBE_FORMATTER"), (0, u "Ljava/util/function/BiFunction;"), (0, .class_ 126), (0, u "jdk/internal/util/Preconditions$2"), (3, u "AIOOBE_FORMATTER"), (0, .class_ 132), (0, u "jdk/internal/util/Preconditions$3"), (3, u "IOOBE_FORMATTER"), (41, u "(IILjava/util/function/BiFunction;)I"), (4, u "(IIILjava/util/function/BiFunction;)I")] 10

def k17m0 : Method := { name := "<init>", desc := "()V", sig := { parameters := [], returnType := none }, accessFlags := 1, code := none }
def k17c1 : Code := { maxStack := 3, maxLocals := 3, code := jdk_41_method_11_code, exceptionTable := #[], attributes := #[] }
def k17m1 : Method := { name := "checkIndex", desc := "(IILjava/util/function/BiFunction;)I", sig := { parameters := [.int, .int, (.object "java/util/function/BiFunction")], returnType := some .int }, accessFlags := 9, code := some k17c1 }
def k17c2 : Code := { maxStack := 4, maxLocals := 4, code := jdk_41_method_12_code, exceptionTable := #[], attributes := #[] }
def k17m2 : Method := { name := "checkFromToIndex", desc := "(IIILjava/util/function/BiFunction;)I", sig := { parameters := [.int, .int, .int, (.object "java/util/function/BiFunction")], returnType := some .int }, accessFlags := 9, code := some k17c2 }
def k17c3 : Code := { maxStack := 4, maxLocals := 4, code := jdk_41_method_13_code, exceptionTable := #[], attributes := #[] }
def k17m3 : Method := { name := "checkFromIndexSize", desc := "(IIILjava/util/function/BiFunction;)I", sig := { parameters := [.int, .int, .int, (.object "java/util/function/BiFunction")], returnType := some .int }, accessFlags := 9, code := some k17c3 }
/-- jdk/internal/util/Preconditions -/
def k17 : Class := { plain "jdk/internal/util/Preconditions" (some 0) with
  accessFlags := 33
  interfaces := #[]
  cf := some (fileOf pool17 24 #[.nestMembers #[55, 131, 125, 114]] #[{ accessFlags := 1, nameIndex := 5, descriptorIndex := 6, attributes := #[] }, { accessFlags := 9, nameIndex := 33, descriptorIndex := 178, attributes := #[] }, { accessFlags := 9, nameIndex := 47, descriptorIndex := 183, attributes := #[] }, { accessFlags := 9, nameIndex := 49, descriptorIndex := 183, attributes := #[] }] 33 2 #[] #[{ accessFlags := 25, nameIndex := 123, descriptorIndex := 124, attributes := #[] }, { accessFlags := 25, nameIndex := 130, descriptorIndex := 124, attributes := #[] }, { accessFlags := 25, nameIndex := 136, descriptorIndex := 124, attributes := #[] }])
  fields := #[{ name := "SIOOBE_FORMATTER", type := (.object "java/util/function/BiFunction"), accessFlags := 25, slot := 0, constantValue := 0 }, { name := "AIOOBE_FORMATTER", type := (.object "java/util/function/BiFunction"), accessFlags := 25, slot := 1, constantValue := 0 }, { name := "IOOBE_FORMATTER", type := (.object "java/util/function/BiFunction"), accessFlags := 25, slot := 2, constantValue := 0 }]
  methods := #[k17m0, k17m1, k17m2, k17m3]
  instanceTypes := #[]
  staticTypes := #[(.object "java/util/function/BiFunction"), (.object "java/util/function/BiFunction"), (.object "java/util/function/BiFunction")]
  resolved := Array.replicate 194 none
  statics := some 2 }

def pool18 : Array CpInfo := pool [(2, .class_ 4), (1, u "java/lang/Object"), (0, u "<init>"), (0, u "()V"), (1, .class_ 10), (1, u "java/lang/System"), (0, u "allowSecurityManager"), (0, u "I"), (16, u "cons"), (0, u "Ljava/io/Console;"), (77, .class_ 110), (1, u "java/lang/System$CallersHolder"), (43, u "initialErrStream"), (0, u "Ljava/io/PrintStream;"), (19, u "security"), (0, u "Ljava/lang/SecurityManager;"), (31, .class_ 209), (0, u "java/lang/System$1"), (7, u "props"), (0, u "Ljava/util/Properties;"), (2, u "lineSeparator"), (0, u "Ljava/lang/String;"), (96, .class_ 321), (1, u "java/lang/System$LoggerFinder"), (5, .class_ 328), (0, u "java/lang/System$Logger"), (67, u "err"), (2, u "out"), (91, u "notSupportedJnuEncoding"), (15, u "in"), (17, u "initialIn"), (0, u "Ljava/io/InputStream;"), (35, u "bootLayer"), (0, u "Ljava/lang/ModuleLayer;"), (99, .class_ 664), (0, u "java/lang/System$2"), (9, u "NEVER"), (2, u "MAYBE"), (49, u "arraycopy"), (0, u "(Ljava/lang/Object;ILjava/lang/Object;II)V"), (72, .class_ 802), (0, u "java/lang/System$Logger$Level")] 31

def k18m0 : Method := { name := "<init>", desc := "()V", sig := { parameters := [], returnType := none }, accessFlags := 2, code := none }
def k18m1 : Method := { name := "arraycopy", desc := "(Ljava/lang/Object;ILjava/lang/Object;II)V", sig := { parameters := [(.object "java/lang/Object"), .int, (.object "java/lang/Object"), .int, .int], returnType := none }, accessFlags := 265, code := none }
/-- java/lang/System -/
def k18 : Class := { plain "java/lang/System" (some 0) with
  accessFlags := 49
  interfaces := #[]
  cf := some (fileOf pool18 8 #[.nestMembers #[319, 327, 801, 108, 663, 208]] #[{ accessFlags := 2, nameIndex := 5, descriptorIndex := 6, attributes := #[] }, { accessFlags := 265, nameIndex := 727, descriptorIndex := 728, attributes := #[] }] 49 2 #[] #[{ accessFlags := 25, nameIndex := 507, descriptorIndex := 526, attributes := #[] }, { accessFlags := 25, nameIndex := 399, descriptorIndex := 155, attributes := #[] }, { accessFlags := 25, nameIndex := 396, descriptorIndex := 155, attributes := #[] }, { accessFlags := 10, nameIndex := 525, descriptorIndex := 526, attributes := #[] }, { accessFlags := 26, nameIndex := 674, descriptorIndex := 12, attributes := #[] }, { accessFlags := 26, nameIndex := 677, descriptorIndex := 12, attributes := #[] }, { accessFlags := 10, nameIndex := 11, descriptorIndex := 12, attributes := #[] }, { accessFlags := 74, nameIndex := 175, descriptorIndex := 176, attributes := #[] }, { accessFlags := 10, nameIndex := 491, descriptorIndex := 222, attributes := #[] }, { accessFlags := 74, nameIndex := 29, descriptorIndex := 30, attributes := #[] }, { accessFlags := 74, nameIndex := 154, descriptorIndex := 155, attributes := #[] }, { accessFlags := 10, nameIndex := 217, descriptorIndex := 218, attributes := #[] }, { accessFlags := 10, nameIndex := 221, descriptorIndex := 222, attributes := #[] }, { accessFlags := 8, nameIndex := 562, descriptorIndex := 563, attributes := #[] }])
  fields := #[{ name := "in", type := (.object "java/io/InputStream"), accessFlags := 25, slot := 0, constantValue := 0 }, { name := "out", type := (.object "java/io/PrintStream"), accessFlags := 25, slot := 1, constantValue := 0 }, { name := "err", type := (.object "java/io/PrintStream"), accessFlags := 25, slot := 2, constantValue := 0 }, { name := "initialIn", type := (.object "java/io/InputStream"), accessFlags := 10, slot := 3, constantValue := 0 }, { name := "NEVER", type := .int, accessFlags := 26, slot := 4, constantValue := 0 }, { name := "MAYBE", type := .int, accessFlags := 26, slot := 5, constantValue := 0 }, { name := "allowSecurityManager", type := .int, accessFlags := 10, slot := 6, constantValue := 0 }, { name := "security", type := (.object "java/lang/SecurityManager"), accessFlags := 74, slot := 7, constantValue := 0 }, { name := "notSupportedJnuEncoding", type := (.object "java/lang/String"), accessFlags := 10, slot := 8, constantValue := 0 }, { name := "cons", type := (.object "java/io/Console"), accessFlags := 74, slot := 9, constantValue := 0 }, { name := "initialErrStream", type := (.object "java/io/PrintStream"), accessFlags := 74, slot := 10, constantValue := 0 }, { name := "props", type := (.object "java/util/Properties"), accessFlags := 10, slot := 11, constantValue := 0 }, { name := "lineSeparator", type := (.object "java/lang/String"), accessFlags := 10, slot := 12, constantValue := 0 }, { name := "bootLayer", type := (.object "java/lang/ModuleLayer"), accessFlags := 8, slot := 13, constantValue := 0 }]
  methods := #[k18m0, k18m1]
  instanceTypes := #[]
  staticTypes := #[(.object "java/io/InputStream"), (.object "java/io/PrintStream"), (.object "java/io/PrintStream"), (.object "java/io/InputStream"), .int, .int, .int, (.object "java/lang/SecurityManager"), (.object "java/lang/String"), (.object "java/io/Console"), (.object "java/io/PrintStream"), (.object "java/util/Properties"), (.object "java/lang/String"), (.object "java/lang/ModuleLayer")]
  resolved := Array.replicate 834 none
  statics := none }

def pool19 : Array CpInfo := pool [(2, .class_ 4), (1, u "java/lang/Object"), (0, u "<init>"), (0, u "()V"), (7, .class_ 16), (1, u "java/util/Arrays"), (57, .class_ 76), (1, u "java/util/Arrays$NaturalOrder"), (36, .class_ 115), (1, u "java/util/Arrays$LegacyMergeSort"), (1, u "Z"), (21, u "copyOfRange"), (10, .methodref 151 152), (0, .class_ 153), (0, .nameAndType 154 155), (0, u "java/lang/System"), (0, u "arraycopy"), (0, u "(Ljava/lang/Object;ILjava/lang/Object;II)V"), (148, .methodref 305 306), (0, .class_ 307), (0, .nameAndType 308 309), (0, u "java/lang/Math"), (0, u "min"), (0, u "(II)I"), (29, .methodref 14 340), (0, .nameAndType 341 342), (0, u "copyOfRangeByte"), (0, u "([BII)[B"), (0, .methodref 14 344), (0, .nameAndType 345 346), (0, u "checkLength"), (0, u "(II)V"), (28, .class_ 376), (0, u "java/util/Arrays$ArrayList"), (68, u "$assertionsDisabled"), (269, u "MIN_ARRAY_SORT_GRAN"), (0, u "I"), (2, u "INSERTIONSORT_THRESHOLD"), (255, .class_ 976), (0, u "java/util/Arrays$ArrayItr")] 52

def k19m0 : Method := { name := "<init>", desc := "()V", sig := { parameters := [], returnType := none }, accessFlags := 2, code := none }
def k19c1 : Code := { maxStack := 4, maxLocals := 2, code := jdk_65_method_131_code, exceptionTable := #[], attributes := #[] }
def k19m1 : Method := { name := "checkLength", desc := "(II)V", sig := { parameters := [.int, .int], returnType := none }, accessFlags := 10, code := some k19c1 }
def k19c2 : Code := { maxStack := 3, maxLocals := 3, code := jdk_65_method_132_code, exceptionTable := #[], attributes := #[] }
def k19m2 : Method := { name := "copyOfRange", desc := "([BII)[B", sig := { parameters := [(.array .byte), .int, .int], returnType := some (.array .byte) }, accessFlags := 9, code := some k19c2 }
def k19c3 : Code := { maxStack := 6, maxLocals := 5, code := jdk_65_method_133_code, exceptionTable := #[], attributes := #[] }
def k19m3 : Method := { name := "copyOfRangeByte", desc := "([BII)[B", sig := { parameters := [(.array .byte), .int, .int], returnType := some (.array .byte) }, accessFlags := 10, code := some k19c3 }
/-- java/util/Arrays -/
def k19 : Class := { plain "java/util/Arrays" (some 0) with
  accessFlags := 49
  interfaces := #[]
  cf := some (fileOf pool19 14 #[.nestMembers #[975, 375, 113, 74]] #[{ accessFlags := 2, nameIndex := 5, descriptorIndex := 6, attributes := #[] }, { accessFlags := 10, nameIndex := 345, descriptorIndex := 346, attributes := #[] }, { accessFlags := 9, nameIndex := 139, descriptorIndex := 342, attributes := #[] }, { accessFlags := 10, nameIndex := 341, descriptorIndex := 342, attributes := #[] }] 49 2 #[] #[{ accessFlags := 26, nameIndex := 715, descriptorIndex := 716, attributes := #[] }, { accessFlags := 26, nameIndex := 719, descriptorIndex := 716, attributes := #[] }, { accessFlags := 4120, nameIndex := 445, descriptorIndex := 117, attributes := #[] }])
  fields := #[{ name := "MIN_ARRAY_SORT_GRAN", type := .int, accessFlags := 26, slot := 0, constantValue := 0 }, { name := "INSERTIONSORT_THRESHOLD", type := .int, accessFlags := 26, slot := 1, constantValue := 0 }, { name := "$assertionsDisabled", type := .boolean, accessFlags := 4120, slot := 2, constantValue := 0 }]
  methods := #[k19m0, k19m1, k19m2, k19m3]
  instanceTypes := #[]
  staticTypes := #[.int, .int, .boolean]
  resolved := Array.replicate 1029 none
  statics := none }

def pool20 : Array CpInfo := pool [(9, u "<init>"), (6, .class_ 18), (1, u "java/lang/Object"), (0, u "()V"), (1, .class_ 23), (1, u "jdk/internal/util/ArraysSupport"), (0, u "LOG2_ARRAY_LONG_INDEX_SCALE"), (0, u "I"), (2, u "U"), (0, u "Ljdk/internal/misc/Unsafe;"), (8, u "BIG_ENDIAN"), (0, u "Z"), (8, u "LOG2_BYTE_BIT_SIZE"), (4, u "LOG2_ARRAY_INT_INDEX_SCALE"), (54, u "JLA"), (0, u "Ljdk/internal/access/JavaLangAccess;"), (11, u "LOG2_ARRAY_BOOLEAN_INDEX_SCALE"), (9, u "LOG2_ARRAY_BYTE_INDEX_SCALE"), (5, u "LOG2_ARRAY_CHAR_INDEX_SCALE"), (5, u "LOG2_ARRAY_SHORT_INDEX_SCALE"), (18, u "LOG2_ARRAY_FLOAT_INDEX_SCALE"), (24, u "LOG2_ARRAY_DOUBLE_INDEX_SCALE"), (89, u "T_BOOLEAN"), (2, u "T_CHAR"), (1, u "T_FLOAT"), (1, u "T_DOUBLE"), (1, u "T_BYTE"), (1, u "T_SHORT"), (1, u "T_INT"), (1, u "T_LONG"), (1, u "SOFT_MAX_ARRAY_LENGTH")] 83

def k20m0 : Method := { name := "<init>", desc := "()V", sig := { parameters := [], returnType := none }, accessFlags := 2, code := none }
/-- jdk/internal/util/ArraysSupport -/
def k20 : Class := { plain "jdk/internal/util/ArraysSupport" (some 0) with
  accessFlags := 33
  interfaces := #[]
  cf := some (fileOf pool20 21 #[] #[{ accessFlags := 2, nameIndex := 9, descriptorIndex := 19, attributes := #[] }] 33 16 #[] #[{ accessFlags := 24, nameIndex := 28, descriptorIndex := 29, attributes := #[] }, { accessFlags := 26, nameIndex := 38, descriptorIndex := 39, attributes := #[] }, { accessFlags := 25, nameIndex := 121, descriptorIndex := 25, attributes := #[] }, { accessFlags := 25, nameIndex := 131, descriptorIndex := 25, attributes := #[] }, { accessFlags := 25, nameIndex := 137, descriptorIndex := 25, attributes := #[] }, { accessFlags := 25, nameIndex := 143, descriptorIndex := 25, attributes := #[] }, { accessFlags := 25, nameIndex := 53, descriptorIndex := 25, attributes := #[] }, { accessFlags := 25, nameIndex := 24, descriptorIndex := 25, attributes := #[] }, { accessFlags := 25, nameIndex := 162, descriptorIndex := 25, attributes := #[] }, { accessFlags := 25, nameIndex := 187, descriptorIndex := 25, attributes := #[] }, { accessFlags := 26, nameIndex := 48, descriptorIndex := 25, attributes := #[] }, { accessFlags := 25, nameIndex := 277, descriptorIndex := 25, attributes := #[] }, { accessFlags := 25, nameIndex := 280, descriptorIndex := 25, attributes := #[] }, { accessFlags := 25, nameIndex := 282, descriptorIndex := 25, attributes := #[] }, { accessFlags := 25, nameIndex := 284, descriptorIndex := 25, attributes := #[] }, { accessFlags := 25, nameIndex := 286, descriptorIndex := 25, attributes := #[] }, { accessFlags := 25, nameIndex := 288, descriptorIndex := 25, attributes := #[] }, { accessFlags := 25, nameIndex := 290, descriptorIndex := 25, attributes := #[] }, { accessFlags := 25, nameIndex := 292, descriptorIndex := 25, attributes := #[] }, { accessFlags := 26, nameIndex := 108, descriptorIndex := 109, attributes := #[] }, { accessFlags := 25, nameIndex := 294, descriptorIndex := 25, attributes := #[] }])
  fields := #[{ name := "U", type := (.object "jdk/internal/misc/Unsafe"), accessFlags := 24, slot := 0, constantValue := 0 }, { name := "BIG_ENDIAN", type := .boolean, accessFlags := 26, slot := 1, constantValue := 0 }, { name := "LOG2_ARRAY_BOOLEAN_INDEX_SCALE", type := .int, accessFlags := 25, slot := 2, constantValue := 0 }, { name := "LOG2_ARRAY_BYTE_INDEX_SCALE", type := .int, accessFlags := 25, slot := 3, constantValue := 0 }, { name := "LOG2_ARRAY_CHAR_INDEX_SCALE", type := .int, accessFlags := 25, slot := 4, constantValue := 0 }, { name := "LOG2_ARRAY_SHORT_INDEX_SCALE", type := .int, accessFlags := 25, slot := 5, constantValue := 0 }, { name := "LOG2_ARRAY_INT_INDEX_SCALE", type := .int, accessFlags := 25, slot := 6, constantValue := 0 }, { name := "LOG2_ARRAY_LONG_INDEX_SCALE", type := .int, accessFlags := 25, slot := 7, constantValue := 0 }, { name := "LOG2_ARRAY_FLOAT_INDEX_SCALE", type := .int, accessFlags := 25, slot := 8, constantValue := 0 }, { name := "LOG2_ARRAY_DOUBLE_INDEX_SCALE", type := .int, accessFlags := 25, slot := 9, constantValue := 0 }, { name := "LOG2_BYTE_BIT_SIZE", type := .int, accessFlags := 26, slot := 10, constantValue := 0 }, { name := "T_BOOLEAN", type := .int, accessFlags := 25, slot := 11, constantValue := 0 }, { name := "T_CHAR", type := .int, accessFlags := 25, slot := 12, constantValue := 0 }, { name := "T_FLOAT", type := .int, accessFlags := 25, slot := 13, constantValue := 0 }, { name := "T_DOUBLE", type := .int, accessFlags := 25, slot := 14, constantValue := 0 }, { name := "T_BYTE", type := .int, accessFlags := 25, slot := 15, constantValue := 0 }, { name := "T_SHORT", type := .int, accessFlags := 25, slot := 16, constantValue := 0 }, { name := "T_INT", type := .int, accessFlags := 25, slot := 17, constantValue := 0 }, { name := "T_LONG", type := .int, accessFlags := 25, slot := 18, constantValue := 0 }, { name := "JLA", type := (.object "jdk/internal/access/JavaLangAccess"), accessFlags := 26, slot := 19, constantValue := 0 }, { name := "SOFT_MAX_ARRAY_LENGTH", type := .int, accessFlags := 25, slot := 20, constantValue := 0 }]
  methods := #[k20m0]
  instanceTypes := #[]
  staticTypes := #[(.object "jdk/internal/misc/Unsafe"), .boolean, .int, .int, .int, .int, .int, .int, .int, .int, .int, .int, .int, .int, .int, .int, .int, .int, .int, (.object "jdk/internal/access/JavaLangAccess"), .int]
  resolved := Array.replicate 378 none
  statics := none }

def pool21 : Array CpInfo := pool [(1, u "java/lang/Cloneable"), (0, .class_ 1), (0, u "java/lang/Object"), (0, .class_ 3)] 3

/-- java/lang/Cloneable -/
def k21 : Class := { plain "java/lang/Cloneable" (some 0) with
  accessFlags := 1537
  interfaces := #[]
  cf := some (fileOf pool21 2 #[] #[] 1537 4 #[] #[])
  fields := #[]
  methods := #[]
  instanceTypes := #[]
  staticTypes := #[]
  resolved := Array.replicate 8 none
  statics := none }

/-- the primitive byte -/
def k22 : Class := { plain "byte" none with kind := .primitive 'B', accessFlags := 0x411 }
/-- [B -/
def k23 : Class := { plain "[B" (some 0) with kind := .array 22 .byte, interfaces := #[21, 2], accessFlags := 1041 }

/-- the primitive char -/
def k24 : Class := { plain "char" none with kind := .primitive 'C', accessFlags := 0x411 }
/-- [C -/
def k25 : Class := { plain "[C" (some 0) with kind := .array 24 .char, interfaces := #[21, 2], accessFlags := 1041 }

/-- the primitive int -/
def k26 : Class := { plain "int" none with kind := .primitive 'I', accessFlags := 0x411 }
/-- [I -/
def k27 : Class := { plain "[I" (some 0) with kind := .array 26 .int, interfaces := #[21, 2], accessFlags := 1041 }

def heap : Heap := #[{ cls := 7, slots := #[.long 0, .int 1, .null, .int 0, .null, .int 0, .int 0], vm := .statics 7 },
  { cls := 8, slots := #[.int 0, .int 8, .int 0, .int 1], vm := .statics 8 },
  { cls := 17, slots := #[.null, .null, .null], vm := .statics 17 }]
def classes : Array Class := #[k0, k1, k2, k3, k4, k5, k6, k7, k8, k9, k10, k11, k12, k13, k14, k15, k16, k17, k18, k19, k20, k21, k22, k23, k24, k25, k26, k27]
def interned : List (Array UInt16 × Addr) := []
def slotsUsed : Nat := 14
def theMethod : MethodId := ⟨1, 3⟩
def args0 : Array Value := #[.int 66, .int 67, .int 68, .int 3]
def aboutOver (below : List Frame) : State where
  vm := { classes := classes, interned := interned.toArray }
  heap := heap
  slotsUsed := slotsUsed
  threads := #[{ frames := .invoking theMethod args0 :: below }]
def below0 : List Frame := [.native { method := ⟨0, 0⟩, args := #[] }]
def about1 : State := aboutOver below0
def p0 : Program := .bare "" "" ""
def e0 : Env := launch0.env 0 0 0
theorem w_frames : about1.frames = Frame.invoking theMethod args0 :: below0 := rfl
set_option maxRecDepth 65536 in
theorem w_args : argsFit about1.vm theMethod args0 = true := by decide +kernel
set_option maxRecDepth 65536 in
theorem w_heap : heapFits about1 = true := by decide +kernel
set_option maxRecDepth 65536 in
theorem w_runnable : about1.curStatus? = some .runnable := by decide +kernel
set_option maxRecDepth 65536 in
theorem w_alone : about1.alone = true := by decide +kernel
set_option maxRecDepth 65536 in
theorem w_named : about1.methodNamed? x = some theMethod := by decide +kernel
set_option maxRecDepth 65536 in
theorem w_hears : about1.hears theMethod below0 = true := by decide +kernel
set_option maxRecDepth 65536 in
theorem w_ripe : about1.ripe theMethod args0 below0 = true := by decide +kernel
theorem w_running : about1.status = .running := rfl
set_option maxRecDepth 65536 in
theorem w_room : about1.hasRoom e0.platform room_1 = true :=
  launch0.hasRoom_least _ room_1 (by decide +kernel) (by decide +kernel) (by decide +kernel) (by decide +kernel) (by decide +kernel) (by decide +kernel)
theorem allAtoms_all (ts : List Jvm.Cond) (a : Array Jvm.Value) (st : Jvm.State) : (allAtoms ts).before a st = ts.all (fun c => c.before a st) := by
  induction ts with
  | nil => rfl
  | cons c t ih =>
    show (Jvm.Cond.and c (allAtoms t)).before a st = _
    rw [Jvm.Cond.before_and, ih, List.all_cons]
def words1 : List Jvm.Cond := Jvm.Cond.code x code maxLocals ret :: tables_1
/-- a 'code' word, met by the world's own term for the bytes: nothing is compared byte by byte -/
theorem code_word {y : MethodName} {bytes : ByteArray} {mx : Nat} {rt : Option FieldType} {a : Array Value} {s : State} {m : MethodId} {meth : Method} {c : Code} (h1 : s.methodNamed? y = some m) (h2 : s.vm.method? m = some meth) (h3 : meth.code = some c) (h4 : c.code = bytes)
    (h5 : (c.maxLocals == mx && c.exceptionTable.isEmpty && decide (c.maxStack ≤ mostOperands) && decide (meth.sig.returnType = rt) && !meth.locks && decide (parseMethodDescriptor y.desc = some meth.sig)) = true) : (Jvm.Cond.code y bytes mx rt).before a s = true := by
  simp only [Bool.and_eq_true, beq_iff_eq, Bool.not_eq_true', decide_eq_true_eq] at h5
  obtain ⟨⟨⟨⟨⟨g1, g2⟩, g3⟩, g4⟩, g5⟩, g6⟩ := h5
  simp [Cond.before, Cond.holds, Cond.value, h1, h2, h3, h4, g1, g2, g3, g4, g5, g6]
def isCode : Jvm.Cond → Bool
  | .code _ _ _ _ => true
  | _ => false
theorem all_split {L : List Jvm.Cond} {P : Jvm.Cond → Bool} (h1 : L.all (fun c => isCode c || P c) = true) (h2 : ∀ c ∈ L.filter isCode, P c = true) : L.all P = true := by
  refine List.all_eq_true.mpr fun c hc => ?_
  have h := List.all_eq_true.mp h1 c hc
  rcases Bool.eq_false_or_eq_true (isCode c) with hi | hi
  · exact h2 c (List.mem_filter.mpr ⟨hc, hi⟩)
  · simpa [hi] using h
set_option maxRecDepth 65536 in
theorem w_c0 : (Jvm.Cond.code x code maxLocals ret).before args0 about1 = true := code_word (m := ⟨1, 3⟩) (meth := k1m3) (c := k1c3) (by decide +kernel) rfl rfl rfl (by decide +kernel)
set_option maxRecDepth 65536 in
theorem w_c1 : (Jvm.Cond.code ({ cls := "com/example/aliran/aliran/KeySpaceKeyPinLaw", name := "noBrace", desc := "(C)C" } : Jvm.MethodName) method_2_code (1 : Nat) (Option.some Jvm.ClassFile.FieldType.char)).before args0 about1 = true := code_word (m := ⟨1, 1⟩) (meth := k1m1) (c := k1c1) (by decide +kernel) rfl rfl rfl (by decide +kernel)
set_option maxRecDepth 65536 in
theorem w_c2 : (Jvm.Cond.code ({ cls := "com/example/aliran/aliran/KeySpaceKeyPinLaw", name := "noClose", desc := "(C)C" } : Jvm.MethodName) method_3_code (1 : Nat) (Option.some Jvm.ClassFile.FieldType.char)).before args0 about1 = true := code_word (m := ⟨1, 2⟩) (meth := k1m2) (c := k1c2) (by decide +kernel) rfl rfl rfl (by decide +kernel)
set_option maxRecDepth 65536 in
theorem w_c3 : (Jvm.Cond.code ({ cls := "java/lang/String", name := "<init>", desc := "([C)V" } : Jvm.MethodName) jdk_42_method_3_code (2 : Nat) (Option.none : Option Jvm.ClassFile.FieldType)).before args0 about1 = true := code_word (m := ⟨7, 1⟩) (meth := k7m1) (c := k7c1) (by decide +kernel) rfl rfl rfl (by decide +kernel)
set_option maxRecDepth 65536 in
theorem w_c4 : (Jvm.Cond.code ({ cls := "java/lang/String", name := "<init>", desc := "([CIILjava/lang/Void;)V" } : Jvm.MethodName) jdk_42_method_149_code (6 : Nat) (Option.none : Option Jvm.ClassFile.FieldType)).before args0 about1 = true := code_word (m := ⟨7, 10⟩) (meth := k7m10) (c := k7c10) (by decide +kernel) rfl rfl rfl (by decide +kernel)
set_option maxRecDepth 65536 in
theorem w_c5 : (Jvm.Cond.code ({ cls := "java/lang/Object", name := "<init>", desc := "()V" } : Jvm.MethodName) object_method_1_code (1 : Nat) (Option.none : Option Jvm.ClassFile.FieldType)).before args0 about1 = true := code_word (m := ⟨0, 0⟩) (meth := k0m0) (c := k0c0) (by decide +kernel) rfl rfl rfl (by decide +kernel)
set_option maxRecDepth 65536 in
theorem w_c6 : (Jvm.Cond.code ({ cls := "java/lang/StringUTF16", name := "compress", desc := "([CII)[B" } : Jvm.MethodName) jdk_52_method_16_code (6 : Nat) (Option.some (Jvm.ClassFile.FieldType.array Jvm.ClassFile.FieldType.byte))).before args0 about1 = true := code_word (m := ⟨8, 8⟩) (meth := k8m8) (c := k8c8) (by decide +kernel) rfl rfl rfl (by decide +kernel)
set_option maxRecDepth 65536 in
theorem w_c7 : (Jvm.Cond.code ({ cls := "java/lang/StringUTF16", name := "compress", desc := "([CI[BII)I" } : Jvm.MethodName) jdk_52_method_21_code (7 : Nat) (Option.some Jvm.ClassFile.FieldType.int)).before args0 about1 = true := code_word (m := ⟨8, 9⟩) (meth := k8m9) (c := k8c9) (by decide +kernel) rfl rfl rfl (by decide +kernel)
set_option maxRecDepth 65536 in
theorem w_c8 : (Jvm.Cond.code ({ cls := "java/lang/StringUTF16", name := "coderFromArrayLen", desc := "([BI)B" } : Jvm.MethodName) jdk_52_method_15_code (2 : Nat) (Option.some Jvm.ClassFile.FieldType.byte)).before args0 about1 = true := code_word (m := ⟨8, 7⟩) (meth := k8m7) (c := k8c7) (by decide +kernel) rfl rfl rfl (by decide +kernel)
set_option maxRecDepth 65536 in
theorem w_c9 : (Jvm.Cond.code ({ cls := "java/lang/String", name := "valueOf", desc := "(C)Ljava/lang/String;" } : Jvm.MethodName) jdk_42_method_139_code (1 : Nat) (Option.some (Jvm.ClassFile.FieldType.object "java/lang/String"))).before args0 about1 = true := code_word (m := ⟨7, 8⟩) (meth := k7m8) (c := k7c8) (by decide +kernel) rfl rfl rfl (by decide +kernel)
set_option maxRecDepth 65536 in
theorem w_c10 : (Jvm.Cond.code ({ cls := "java/lang/StringLatin1", name := "canEncode", desc := "(C)Z" } : Jvm.MethodName) jdk_43_method_3_code (1 : Nat) (Option.some Jvm.ClassFile.FieldType.boolean)).before args0 about1 = true := code_word (m := ⟨9, 2⟩) (meth := k9m2) (c := k9c2) (by decide +kernel) rfl rfl rfl (by decide +kernel)
set_option maxRecDepth 65536 in
theorem w_c11 : (Jvm.Cond.code ({ cls := "java/lang/StringLatin1", name := "toBytes", desc := "(C)[B" } : Jvm.MethodName) jdk_43_method_46_code (1 : Nat) (Option.some (Jvm.ClassFile.FieldType.array Jvm.ClassFile.FieldType.byte))).before args0 about1 = true := code_word (m := ⟨9, 6⟩) (meth := k9m6) (c := k9c6) (by decide +kernel) rfl rfl rfl (by decide +kernel)
set_option maxRecDepth 65536 in
theorem w_c12 : (Jvm.Cond.code ({ cls := "java/lang/String", name := "<init>", desc := "([BB)V" } : Jvm.MethodName) jdk_42_method_151_code (3 : Nat) (Option.none : Option Jvm.ClassFile.FieldType)).before args0 about1 = true := code_word (m := ⟨7, 12⟩) (meth := k7m12) (c := k7c12) (by decide +kernel) rfl rfl rfl (by decide +kernel)
set_option maxRecDepth 65536 in
theorem w_c13 : (Jvm.Cond.code ({ cls := "com/example/aliran/aliran/KeySpace", name := "<init>", desc := "(Ljava/lang/String;)V" } : Jvm.MethodName) prog_5_method_1_code (2 : Nat) (Option.none : Option Jvm.ClassFile.FieldType)).before args0 about1 = true := code_word (m := ⟨11, 0⟩) (meth := k11m0) (c := k11c0) (by decide +kernel) rfl rfl rfl (by decide +kernel)
set_option maxRecDepth 65536 in
theorem w_c14 : (Jvm.Cond.code ({ cls := "java/lang/Record", name := "<init>", desc := "()V" } : Jvm.MethodName) jdk_30_method_1_code (1 : Nat) (Option.none : Option Jvm.ClassFile.FieldType)).before args0 about1 = true := code_word (m := ⟨10, 0⟩) (meth := k10m0) (c := k10c0) (by decide +kernel) rfl rfl rfl (by decide +kernel)
set_option maxRecDepth 65536 in
theorem w_c15 : (Jvm.Cond.code ({ cls := "java/util/Objects", name := "requireNonNull", desc := "(Ljava/lang/Object;Ljava/lang/String;)Ljava/lang/Object;" } : Jvm.MethodName) jdk_31_method_11_code (2 : Nat) (Option.some (Jvm.ClassFile.FieldType.object "java/lang/Object"))).before args0 about1 = true := code_word (m := ⟨12, 1⟩) (meth := k12m1) (c := k12c1) (by decide +kernel) rfl rfl rfl (by decide +kernel)
set_option maxRecDepth 65536 in
theorem w_c16 : (Jvm.Cond.code ({ cls := "java/lang/String", name := "isEmpty", desc := "()Z" } : Jvm.MethodName) jdk_42_method_55_code (1 : Nat) (Option.some Jvm.ClassFile.FieldType.boolean)).before args0 about1 = true := code_word (m := ⟨7, 4⟩) (meth := k7m4) (c := k7c4) (by decide +kernel) rfl rfl rfl (by decide +kernel)
set_option maxRecDepth 65536 in
theorem w_c17 : (Jvm.Cond.code ({ cls := "java/lang/String", name := "indexOf", desc := "(I)I" } : Jvm.MethodName) jdk_42_method_79_code (2 : Nat) (Option.some Jvm.ClassFile.FieldType.int)).before args0 about1 = true := code_word (m := ⟨7, 6⟩) (meth := k7m6) (c := k7c6) (by decide +kernel) rfl rfl rfl (by decide +kernel)
set_option maxRecDepth 65536 in
theorem w_c18 : (Jvm.Cond.code ({ cls := "java/lang/String", name := "indexOf", desc := "(II)I" } : Jvm.MethodName) jdk_42_method_80_code (3 : Nat) (Option.some Jvm.ClassFile.FieldType.int)).before args0 about1 = true := code_word (m := ⟨7, 7⟩) (meth := k7m7) (c := k7c7) (by decide +kernel) rfl rfl rfl (by decide +kernel)
set_option maxRecDepth 65536 in
theorem w_c19 : (Jvm.Cond.code ({ cls := "java/lang/String", name := "isLatin1", desc := "()Z" } : Jvm.MethodName) jdk_42_method_154_code (1 : Nat) (Option.some Jvm.ClassFile.FieldType.boolean)).before args0 about1 = true := code_word (m := ⟨7, 14⟩) (meth := k7m14) (c := k7c14) (by decide +kernel) rfl rfl rfl (by decide +kernel)
set_option maxRecDepth 65536 in
theorem w_c20 : (Jvm.Cond.code ({ cls := "java/lang/String", name := "length", desc := "()I" } : Jvm.MethodName) jdk_42_method_54_code (1 : Nat) (Option.some Jvm.ClassFile.FieldType.int)).before args0 about1 = true := code_word (m := ⟨7, 3⟩) (meth := k7m3) (c := k7c3) (by decide +kernel) rfl rfl rfl (by decide +kernel)
set_option maxRecDepth 65536 in
theorem w_c21 : (Jvm.Cond.code ({ cls := "java/lang/String", name := "coder", desc := "()B" } : Jvm.MethodName) jdk_42_method_152_code (1 : Nat) (Option.some Jvm.ClassFile.FieldType.byte)).before args0 about1 = true := code_word (m := ⟨7, 13⟩) (meth := k7m13) (c := k7c13) (by decide +kernel) rfl rfl rfl (by decide +kernel)
set_option maxRecDepth 65536 in
theorem w_c22 : (Jvm.Cond.code ({ cls := "java/lang/StringLatin1", name := "indexOf", desc := "([BIII)I" } : Jvm.MethodName) jdk_43_method_22_code (4 : Nat) (Option.some Jvm.ClassFile.FieldType.int)).before args0 about1 = true := code_word (m := ⟨9, 4⟩) (meth := k9m4) (c := k9c4) (by decide +kernel) rfl rfl rfl (by decide +kernel)
set_option maxRecDepth 65536 in
theorem w_c23 : (Jvm.Cond.code ({ cls := "java/lang/StringLatin1", name := "canEncode", desc := "(I)Z" } : Jvm.MethodName) jdk_43_method_4_code (1 : Nat) (Option.some Jvm.ClassFile.FieldType.boolean)).before args0 about1 = true := code_word (m := ⟨9, 3⟩) (meth := k9m3) (c := k9c3) (by decide +kernel) rfl rfl rfl (by decide +kernel)
set_option maxRecDepth 65536 in
theorem w_c24 : (Jvm.Cond.code ({ cls := "java/lang/Math", name := "max", desc := "(II)I" } : Jvm.MethodName) jdk_29_method_65_code (2 : Nat) (Option.some Jvm.ClassFile.FieldType.int)).before args0 about1 = true := code_word (m := ⟨13, 1⟩) (meth := k13m1) (c := k13c1) (by decide +kernel) rfl rfl rfl (by decide +kernel)
set_option maxRecDepth 65536 in
theorem w_c25 : (Jvm.Cond.code ({ cls := "java/lang/Math", name := "min", desc := "(II)I" } : Jvm.MethodName) jdk_29_method_69_code (2 : Nat) (Option.some Jvm.ClassFile.FieldType.int)).before args0 about1 = true := code_word (m := ⟨13, 2⟩) (meth := k13m2) (c := k13c2) (by decide +kernel) rfl rfl rfl (by decide +kernel)
set_option maxRecDepth 65536 in
theorem w_c26 : (Jvm.Cond.code ({ cls := "java/lang/StringLatin1", name := "indexOfChar", desc := "([BIII)I" } : Jvm.MethodName) jdk_43_method_23_code (6 : Nat) (Option.some Jvm.ClassFile.FieldType.int)).before args0 about1 = true := code_word (m := ⟨9, 5⟩) (meth := k9m5) (c := k9c5) (by decide +kernel) rfl rfl rfl (by decide +kernel)
set_option maxRecDepth 65536 in
theorem w_c27 : (Jvm.Cond.code ({ cls := "com/example/aliran/aliran/KeySpace", name := "key", desc := "(Ljava/lang/String;Ljava/lang/String;)Ljava/lang/String;" } : Jvm.MethodName) prog_5_method_2_code (3 : Nat) (Option.some (Jvm.ClassFile.FieldType.object "java/lang/String"))).before args0 about1 = true := code_word (m := ⟨11, 1⟩) (meth := k11m1) (c := k11c1) (by decide +kernel) rfl rfl rfl (by decide +kernel)
set_option maxRecDepth 65536 in
theorem w_c28 : (Jvm.Cond.code ({ cls := "java/lang/StringBuilder", name := "<init>", desc := "()V" } : Jvm.MethodName) jdk_67_method_1_code (1 : Nat) (Option.none : Option Jvm.ClassFile.FieldType)).before args0 about1 = true := code_word (m := ⟨16, 0⟩) (meth := k16m0) (c := k16c0) (by decide +kernel) rfl rfl rfl (by decide +kernel)
set_option maxRecDepth 65536 in
theorem w_c29 : (Jvm.Cond.code ({ cls := "java/lang/AbstractStringBuilder", name := "<init>", desc := "(I)V" } : Jvm.MethodName) jdk_68_method_2_code (2 : Nat) (Option.none : Option Jvm.ClassFile.FieldType)).before args0 about1 = true := code_word (m := ⟨15, 1⟩) (meth := k15m1) (c := k15c1) (by decide +kernel) rfl rfl rfl (by decide +kernel)
set_option maxRecDepth 65536 in
theorem w_c30 : (Jvm.Cond.code ({ cls := "com/example/aliran/aliran/KeySpace", name := "tagged", desc := "(Ljava/lang/String;)Ljava/lang/String;" } : Jvm.MethodName) prog_5_method_4_code (2 : Nat) (Option.some (Jvm.ClassFile.FieldType.object "java/lang/String"))).before args0 about1 = true := code_word (m := ⟨11, 2⟩) (meth := k11m2) (c := k11c2) (by decide +kernel) rfl rfl rfl (by decide +kernel)
set_option maxRecDepth 65536 in
theorem w_c31 : (Jvm.Cond.code ({ cls := "java/lang/String", name := "charAt", desc := "(I)C" } : Jvm.MethodName) jdk_42_method_56_code (2 : Nat) (Option.some Jvm.ClassFile.FieldType.char)).before args0 about1 = true := code_word (m := ⟨7, 5⟩) (meth := k7m5) (c := k7c5) (by decide +kernel) rfl rfl rfl (by decide +kernel)
set_option maxRecDepth 65536 in
theorem w_c32 : (Jvm.Cond.code ({ cls := "java/lang/StringLatin1", name := "charAt", desc := "([BI)C" } : Jvm.MethodName) jdk_43_method_2_code (2 : Nat) (Option.some Jvm.ClassFile.FieldType.char)).before args0 about1 = true := code_word (m := ⟨9, 1⟩) (meth := k9m1) (c := k9c1) (by decide +kernel) rfl rfl rfl (by decide +kernel)
set_option maxRecDepth 65536 in
theorem w_c33 : (Jvm.Cond.code ({ cls := "java/lang/String", name := "checkIndex", desc := "(II)V" } : Jvm.MethodName) jdk_42_method_155_code (2 : Nat) (Option.none : Option Jvm.ClassFile.FieldType)).before args0 about1 = true := code_word (m := ⟨7, 15⟩) (meth := k7m15) (c := k7c15) (by decide +kernel) rfl rfl rfl (by decide +kernel)
set_option maxRecDepth 65536 in
theorem w_c34 : (Jvm.Cond.code ({ cls := "jdk/internal/util/Preconditions", name := "checkIndex", desc := "(IILjava/util/function/BiFunction;)I" } : Jvm.MethodName) jdk_41_method_11_code (3 : Nat) (Option.some Jvm.ClassFile.FieldType.int)).before args0 about1 = true := code_word (m := ⟨17, 1⟩) (meth := k17m1) (c := k17c1) (by decide +kernel) rfl rfl rfl (by decide +kernel)
set_option maxRecDepth 65536 in
theorem w_c35 : (Jvm.Cond.code ({ cls := "java/lang/StringBuilder", name := "append", desc := "(Ljava/lang/String;)Ljava/lang/StringBuilder;" } : Jvm.MethodName) jdk_67_method_7_code (2 : Nat) (Option.some (Jvm.ClassFile.FieldType.object "java/lang/StringBuilder"))).before args0 about1 = true := code_word (m := ⟨16, 1⟩) (meth := k16m1) (c := k16c1) (by decide +kernel) rfl rfl rfl (by decide +kernel)
set_option maxRecDepth 65536 in
theorem w_c36 : (Jvm.Cond.code ({ cls := "java/lang/AbstractStringBuilder", name := "append", desc := "(Ljava/lang/String;)Ljava/lang/AbstractStringBuilder;" } : Jvm.MethodName) jdk_68_method_22_code (3 : Nat) (Option.some (Jvm.ClassFile.FieldType.object "java/lang/AbstractStringBuilder"))).before args0 about1 = true := code_word (m := ⟨15, 5⟩) (meth := k15m5) (c := k15c5) (by decide +kernel) rfl rfl rfl (by decide +kernel)
set_option maxRecDepth 65536 in
theorem w_c37 : (Jvm.Cond.code ({ cls := "java/lang/AbstractStringBuilder", name := "ensureCapacityInternal", desc := "(I)V" } : Jvm.MethodName) jdk_68_method_9_code (3 : Nat) (Option.none : Option Jvm.ClassFile.FieldType)).before args0 about1 = true := code_word (m := ⟨15, 3⟩) (meth := k15m3) (c := k15c3) (by decide +kernel) rfl rfl rfl (by decide +kernel)
set_option maxRecDepth 65536 in
theorem w_c38 : (Jvm.Cond.code ({ cls := "java/lang/AbstractStringBuilder", name := "putStringAt", desc := "(ILjava/lang/String;)V" } : Jvm.MethodName) jdk_68_method_73_code (3 : Nat) (Option.none : Option Jvm.ClassFile.FieldType)).before args0 about1 = true := code_word (m := ⟨15, 10⟩) (meth := k15m10) (c := k15c10) (by decide +kernel) rfl rfl rfl (by decide +kernel)
set_option maxRecDepth 65536 in
theorem w_c39 : (Jvm.Cond.code ({ cls := "java/lang/AbstractStringBuilder", name := "inflateIfNeededFor", desc := "(Ljava/lang/String;)V" } : Jvm.MethodName) jdk_68_method_71_code (2 : Nat) (Option.none : Option Jvm.ClassFile.FieldType)).before args0 about1 = true := code_word (m := ⟨15, 9⟩) (meth := k15m9) (c := k15c9) (by decide +kernel) rfl rfl rfl (by decide +kernel)
set_option maxRecDepth 65536 in
theorem w_c40 : (Jvm.Cond.code ({ cls := "java/lang/String", name := "getBytes", desc := "([BIB)V" } : Jvm.MethodName) jdk_42_method_147_code (4 : Nat) (Option.none : Option Jvm.ClassFile.FieldType)).before args0 about1 = true := code_word (m := ⟨7, 9⟩) (meth := k7m9) (c := k7c9) (by decide +kernel) rfl rfl rfl (by decide +kernel)
set_option maxRecDepth 65536 in
theorem w_c41 : (Jvm.Cond.code ({ cls := "java/lang/StringBuilder", name := "append", desc := "(C)Ljava/lang/StringBuilder;" } : Jvm.MethodName) jdk_67_method_14_code (2 : Nat) (Option.some (Jvm.ClassFile.FieldType.object "java/lang/StringBuilder"))).before args0 about1 = true := code_word (m := ⟨16, 2⟩) (meth := k16m2) (c := k16c2) (by decide +kernel) rfl rfl rfl (by decide +kernel)
set_option maxRecDepth 65536 in
theorem w_c42 : (Jvm.Cond.code ({ cls := "java/lang/AbstractStringBuilder", name := "append", desc := "(C)Ljava/lang/AbstractStringBuilder;" } : Jvm.MethodName) jdk_68_method_31_code (2 : Nat) (Option.some (Jvm.ClassFile.FieldType.object "java/lang/AbstractStringBuilder"))).before args0 about1 = true := code_word (m := ⟨15, 6⟩) (meth := k15m6) (c := k15c6) (by decide +kernel) rfl rfl rfl (by decide +kernel)
set_option maxRecDepth 65536 in
theorem w_c43 : (Jvm.Cond.code ({ cls := "java/lang/AbstractStringBuilder", name := "isLatin1", desc := "()Z" } : Jvm.MethodName) jdk_68_method_68_code (1 : Nat) (Option.some Jvm.ClassFile.FieldType.boolean)).before args0 about1 = true := code_word (m := ⟨15, 8⟩) (meth := k15m8) (c := k15c8) (by decide +kernel) rfl rfl rfl (by decide +kernel)
set_option maxRecDepth 65536 in
theorem w_c44 : (Jvm.Cond.code ({ cls := "java/lang/StringBuilder", name := "toString", desc := "()Ljava/lang/String;" } : Jvm.MethodName) jdk_67_method_42_code (1 : Nat) (Option.some (Jvm.ClassFile.FieldType.object "java/lang/String"))).before args0 about1 = true := code_word (m := ⟨16, 3⟩) (meth := k16m3) (c := k16c3) (by decide +kernel) rfl rfl rfl (by decide +kernel)
set_option maxRecDepth 65536 in
theorem w_c45 : (Jvm.Cond.code ({ cls := "java/lang/String", name := "<init>", desc := "(Ljava/lang/StringBuilder;)V" } : Jvm.MethodName) jdk_42_method_53_code (2 : Nat) (Option.none : Option Jvm.ClassFile.FieldType)).before args0 about1 = true := code_word (m := ⟨7, 2⟩) (meth := k7m2) (c := k7c2) (by decide +kernel) rfl rfl rfl (by decide +kernel)
set_option maxRecDepth 65536 in
theorem w_c46 : (Jvm.Cond.code ({ cls := "java/lang/String", name := "<init>", desc := "(Ljava/lang/AbstractStringBuilder;Ljava/lang/Void;)V" } : Jvm.MethodName) jdk_42_method_150_code (5 : Nat) (Option.none : Option Jvm.ClassFile.FieldType)).before args0 about1 = true := code_word (m := ⟨7, 11⟩) (meth := k7m11) (c := k7c11) (by decide +kernel) rfl rfl rfl (by decide +kernel)
set_option maxRecDepth 65536 in
theorem w_c47 : (Jvm.Cond.code ({ cls := "java/lang/AbstractStringBuilder", name := "getValue", desc := "()[B" } : Jvm.MethodName) jdk_68_method_64_code (1 : Nat) (Option.some (Jvm.ClassFile.FieldType.array Jvm.ClassFile.FieldType.byte))).before args0 about1 = true := code_word (m := ⟨15, 7⟩) (meth := k15m7) (c := k15c7) (by decide +kernel) rfl rfl rfl (by decide +kernel)
set_option maxRecDepth 65536 in
theorem w_c48 : (Jvm.Cond.code ({ cls := "java/lang/StringBuilder", name := "length", desc := "()I" } : Jvm.MethodName) jdk_67_method_93_code (1 : Nat) (Option.some Jvm.ClassFile.FieldType.int)).before args0 about1 = true := code_word (m := ⟨16, 4⟩) (meth := k16m4) (c := k16c4) (by decide +kernel) rfl rfl rfl (by decide +kernel)
set_option maxRecDepth 65536 in
theorem w_c49 : (Jvm.Cond.code ({ cls := "java/lang/AbstractStringBuilder", name := "length", desc := "()I" } : Jvm.MethodName) jdk_68_method_6_code (1 : Nat) (Option.some Jvm.ClassFile.FieldType.int)).before args0 about1 = true := code_word (m := ⟨15, 2⟩) (meth := k15m2) (c := k15c2) (by decide +kernel) rfl rfl rfl (by decide +kernel)
set_option maxRecDepth 65536 in
theorem w_c50 : (Jvm.Cond.code ({ cls := "java/util/Arrays", name := "copyOfRange", desc := "([BII)[B" } : Jvm.MethodName) jdk_65_method_132_code (3 : Nat) (Option.some (Jvm.ClassFile.FieldType.array Jvm.ClassFile.FieldType.byte))).before args0 about1 = true := code_word (m := ⟨19, 2⟩) (meth := k19m2) (c := k19c2) (by decide +kernel) rfl rfl rfl (by decide +kernel)
set_option maxRecDepth 65536 in
theorem w_c51 : (Jvm.Cond.code ({ cls := "java/util/Arrays", name := "copyOfRangeByte", desc := "([BII)[B" } : Jvm.MethodName) jdk_65_method_133_code (5 : Nat) (Option.some (Jvm.ClassFile.FieldType.array Jvm.ClassFile.FieldType.byte))).before args0 about1 = true := code_word (m := ⟨19, 3⟩) (meth := k19m3) (c := k19c3) (by decide +kernel) rfl rfl rfl (by decide +kernel)
set_option maxRecDepth 65536 in
theorem w_c52 : (Jvm.Cond.code ({ cls := "java/util/Arrays", name := "checkLength", desc := "(II)V" } : Jvm.MethodName) jdk_65_method_131_code (2 : Nat) (Option.none : Option Jvm.ClassFile.FieldType)).before args0 about1 = true := code_word (m := ⟨19, 1⟩) (meth := k19m1) (c := k19c1) (by decide +kernel) rfl rfl rfl (by decide +kernel)
set_option maxRecDepth 65536 in
theorem w_c53 : (Jvm.Cond.code ({ cls := "java/lang/StringUTF16", name := "toBytes", desc := "(C)[B" } : Jvm.MethodName) jdk_52_method_24_code (2 : Nat) (Option.some (Jvm.ClassFile.FieldType.array Jvm.ClassFile.FieldType.byte))).before args0 about1 = true := code_word (m := ⟨8, 10⟩) (meth := k8m10) (c := k8c10) (by decide +kernel) rfl rfl rfl (by decide +kernel)
set_option maxRecDepth 65536 in
theorem w_c54 : (Jvm.Cond.code ({ cls := "java/lang/StringUTF16", name := "putChar", desc := "([BII)V" } : Jvm.MethodName) jdk_52_method_4_code (3 : Nat) (Option.none : Option Jvm.ClassFile.FieldType)).before args0 about1 = true := code_word (m := ⟨8, 3⟩) (meth := k8m3) (c := k8c3) (by decide +kernel) rfl rfl rfl (by decide +kernel)
set_option maxRecDepth 65536 in
theorem w_c55 : (Jvm.Cond.code ({ cls := "java/lang/StringUTF16", name := "indexOf", desc := "([BIII)I" } : Jvm.MethodName) jdk_52_method_40_code (4 : Nat) (Option.some Jvm.ClassFile.FieldType.int)).before args0 about1 = true := code_word (m := ⟨8, 11⟩) (meth := k8m11) (c := k8c11) (by decide +kernel) rfl rfl rfl (by decide +kernel)
set_option maxRecDepth 65536 in
theorem w_c56 : (Jvm.Cond.code ({ cls := "java/lang/StringUTF16", name := "indexOfChar", desc := "([BIII)I" } : Jvm.MethodName) jdk_52_method_47_code (4 : Nat) (Option.some Jvm.ClassFile.FieldType.int)).before args0 about1 = true := code_word (m := ⟨8, 12⟩) (meth := k8m12) (c := k8c12) (by decide +kernel) rfl rfl rfl (by decide +kernel)
set_option maxRecDepth 65536 in
theorem w_c57 : (Jvm.Cond.code ({ cls := "java/lang/StringUTF16", name := "checkBoundsBeginEnd", desc := "(II[B)V" } : Jvm.MethodName) jdk_52_method_93_code (3 : Nat) (Option.none : Option Jvm.ClassFile.FieldType)).before args0 about1 = true := code_word (m := ⟨8, 18⟩) (meth := k8m18) (c := k8c18) (by decide +kernel) rfl rfl rfl (by decide +kernel)
set_option maxRecDepth 65536 in
theorem w_c58 : (Jvm.Cond.code ({ cls := "java/lang/StringUTF16", name := "length", desc := "([B)I" } : Jvm.MethodName) jdk_52_method_6_code (1 : Nat) (Option.some Jvm.ClassFile.FieldType.int)).before args0 about1 = true := code_word (m := ⟨8, 5⟩) (meth := k8m5) (c := k8c5) (by decide +kernel) rfl rfl rfl (by decide +kernel)
set_option maxRecDepth 65536 in
theorem w_c59 : (Jvm.Cond.code ({ cls := "java/lang/String", name := "checkBoundsBeginEnd", desc := "(III)V" } : Jvm.MethodName) jdk_42_method_158_code (3 : Nat) (Option.none : Option Jvm.ClassFile.FieldType)).before args0 about1 = true := code_word (m := ⟨7, 17⟩) (meth := k7m17) (c := k7c17) (by decide +kernel) rfl rfl rfl (by decide +kernel)
set_option maxRecDepth 65536 in
theorem w_c60 : (Jvm.Cond.code ({ cls := "jdk/internal/util/Preconditions", name := "checkFromToIndex", desc := "(IIILjava/util/function/BiFunction;)I" } : Jvm.MethodName) jdk_41_method_12_code (4 : Nat) (Option.some Jvm.ClassFile.FieldType.int)).before args0 about1 = true := code_word (m := ⟨17, 2⟩) (meth := k17m2) (c := k17c2) (by decide +kernel) rfl rfl rfl (by decide +kernel)
set_option maxRecDepth 65536 in
theorem w_c61 : (Jvm.Cond.code ({ cls := "java/lang/StringUTF16", name := "indexOfCharUnsafe", desc := "([BIII)I" } : Jvm.MethodName) jdk_52_method_48_code (5 : Nat) (Option.some Jvm.ClassFile.FieldType.int)).before args0 about1 = true := code_word (m := ⟨8, 13⟩) (meth := k8m13) (c := k8c13) (by decide +kernel) rfl rfl rfl (by decide +kernel)
set_option maxRecDepth 65536 in
theorem w_c62 : (Jvm.Cond.code ({ cls := "java/lang/StringUTF16", name := "getChar", desc := "([BI)C" } : Jvm.MethodName) jdk_52_method_5_code (2 : Nat) (Option.some Jvm.ClassFile.FieldType.char)).before args0 about1 = true := code_word (m := ⟨8, 4⟩) (meth := k8m4) (c := k8c4) (by decide +kernel) rfl rfl rfl (by decide +kernel)
set_option maxRecDepth 65536 in
theorem w_c63 : (Jvm.Cond.code ({ cls := "java/lang/StringUTF16", name := "charAt", desc := "([BI)C" } : Jvm.MethodName) jdk_52_method_83_code (2 : Nat) (Option.some Jvm.ClassFile.FieldType.char)).before args0 about1 = true := code_word (m := ⟨8, 15⟩) (meth := k8m15) (c := k8c15) (by decide +kernel) rfl rfl rfl (by decide +kernel)
set_option maxRecDepth 65536 in
theorem w_c64 : (Jvm.Cond.code ({ cls := "java/lang/StringUTF16", name := "checkIndex", desc := "(I[B)V" } : Jvm.MethodName) jdk_52_method_91_code (2 : Nat) (Option.none : Option Jvm.ClassFile.FieldType)).before args0 about1 = true := code_word (m := ⟨8, 17⟩) (meth := k8m17) (c := k8c17) (by decide +kernel) rfl rfl rfl (by decide +kernel)
set_option maxRecDepth 65536 in
theorem w_c65 : (Jvm.Cond.code ({ cls := "java/lang/AbstractStringBuilder", name := "inflate", desc := "()V" } : Jvm.MethodName) jdk_68_method_11_code (2 : Nat) (Option.none : Option Jvm.ClassFile.FieldType)).before args0 about1 = true := code_word (m := ⟨15, 4⟩) (meth := k15m4) (c := k15c4) (by decide +kernel) rfl rfl rfl (by decide +kernel)
set_option maxRecDepth 65536 in
theorem w_c66 : (Jvm.Cond.code ({ cls := "java/lang/StringUTF16", name := "newBytesFor", desc := "(I)[B" } : Jvm.MethodName) jdk_52_method_2_code (1 : Nat) (Option.some (Jvm.ClassFile.FieldType.array Jvm.ClassFile.FieldType.byte))).before args0 about1 = true := code_word (m := ⟨8, 1⟩) (meth := k8m1) (c := k8c1) (by decide +kernel) rfl rfl rfl (by decide +kernel)
set_option maxRecDepth 65536 in
theorem w_c67 : (Jvm.Cond.code ({ cls := "java/lang/StringUTF16", name := "newBytesLength", desc := "(I)I" } : Jvm.MethodName) jdk_52_method_3_code (1 : Nat) (Option.some Jvm.ClassFile.FieldType.int)).before args0 about1 = true := code_word (m := ⟨8, 2⟩) (meth := k8m2) (c := k8c2) (by decide +kernel) rfl rfl rfl (by decide +kernel)
set_option maxRecDepth 65536 in
theorem w_c68 : (Jvm.Cond.code ({ cls := "java/lang/StringLatin1", name := "inflate", desc := "([BI[BII)V" } : Jvm.MethodName) jdk_43_method_50_code (5 : Nat) (Option.none : Option Jvm.ClassFile.FieldType)).before args0 about1 = true := code_word (m := ⟨9, 7⟩) (meth := k9m7) (c := k9c7) (by decide +kernel) rfl rfl rfl (by decide +kernel)
set_option maxRecDepth 65536 in
theorem w_c69 : (Jvm.Cond.code ({ cls := "java/lang/StringUTF16", name := "inflate", desc := "([BI[BII)V" } : Jvm.MethodName) jdk_52_method_86_code (6 : Nat) (Option.none : Option Jvm.ClassFile.FieldType)).before args0 about1 = true := code_word (m := ⟨8, 16⟩) (meth := k8m16) (c := k8c16) (by decide +kernel) rfl rfl rfl (by decide +kernel)
set_option maxRecDepth 65536 in
theorem w_c70 : (Jvm.Cond.code ({ cls := "java/lang/StringUTF16", name := "checkBoundsOffCount", desc := "(II[B)V" } : Jvm.MethodName) jdk_52_method_94_code (3 : Nat) (Option.none : Option Jvm.ClassFile.FieldType)).before args0 about1 = true := code_word (m := ⟨8, 19⟩) (meth := k8m19) (c := k8c19) (by decide +kernel) rfl rfl rfl (by decide +kernel)
set_option maxRecDepth 65536 in
theorem w_c71 : (Jvm.Cond.code ({ cls := "java/lang/String", name := "checkBoundsOffCount", desc := "(III)I" } : Jvm.MethodName) jdk_42_method_157_code (3 : Nat) (Option.some Jvm.ClassFile.FieldType.int)).before args0 about1 = true := code_word (m := ⟨7, 16⟩) (meth := k7m16) (c := k7c16) (by decide +kernel) rfl rfl rfl (by decide +kernel)
set_option maxRecDepth 65536 in
theorem w_c72 : (Jvm.Cond.code ({ cls := "jdk/internal/util/Preconditions", name := "checkFromIndexSize", desc := "(IIILjava/util/function/BiFunction;)I" } : Jvm.MethodName) jdk_41_method_13_code (4 : Nat) (Option.some Jvm.ClassFile.FieldType.int)).before args0 about1 = true := code_word (m := ⟨17, 3⟩) (meth := k17m3) (c := k17c3) (by decide +kernel) rfl rfl rfl (by decide +kernel)
set_option maxRecDepth 65536 in
theorem w_c73 : (Jvm.Cond.code ({ cls := "java/lang/StringUTF16", name := "putCharSB", desc := "([BII)V" } : Jvm.MethodName) jdk_52_method_71_code (3 : Nat) (Option.none : Option Jvm.ClassFile.FieldType)).before args0 about1 = true := code_word (m := ⟨8, 14⟩) (meth := k8m14) (c := k8c14) (by decide +kernel) rfl rfl rfl (by decide +kernel)
set_option maxRecDepth 65536 in
theorem w_c74 : (Jvm.Cond.code ({ cls := "java/lang/StringUTF16", name := "toBytes", desc := "([CII)[B" } : Jvm.MethodName) jdk_52_method_14_code (5 : Nat) (Option.some (Jvm.ClassFile.FieldType.array Jvm.ClassFile.FieldType.byte))).before args0 about1 = true := code_word (m := ⟨8, 6⟩) (meth := k8m6) (c := k8c6) (by decide +kernel) rfl rfl rfl (by decide +kernel)
def codes1 : List Jvm.Cond := [Jvm.Cond.code x code maxLocals ret, Jvm.Cond.code ({ cls := "com/example/aliran/aliran/KeySpaceKeyPinLaw", name := "noBrace", desc := "(C)C" } : Jvm.MethodName) method_2_code (1 : Nat) (Option.some Jvm.ClassFile.FieldType.char), Jvm.Cond.code ({ cls := "com/example/aliran/aliran/KeySpaceKeyPinLaw", name := "noClose", desc := "(C)C" } : Jvm.MethodName) method_3_code (1 : Nat) (Option.some Jvm.ClassFile.FieldType.char), Jvm.Cond.code ({ cls := "java/lang/String", name := "<init>", desc := "([C)V" } : Jvm.MethodName) jdk_42_method_3_code (2 : Nat) (Option.none : Option Jvm.ClassFile.FieldType), Jvm.Cond.code ({ cls := "java/lang/String", name := "<init>", desc := "([CIILjava/lang/Void;)V" } : Jvm.MethodName) jdk_42_method_149_code (6 : Nat) (Option.none : Option Jvm.ClassFile.FieldType), Jvm.Cond.code ({ cls := "java/lang/Object", name := "<init>", desc := "()V" } : Jvm.MethodName) object_method_1_code (1 : Nat) (Option.none : Option Jvm.ClassFile.FieldType), Jvm.Cond.code ({ cls := "java/lang/StringUTF16", name := "compress", desc := "([CII)[B" } : Jvm.MethodName) jdk_52_method_16_code (6 : Nat) (Option.some (Jvm.ClassFile.FieldType.array Jvm.ClassFile.FieldType.byte)), Jvm.Cond.code ({ cls := "java/lang/StringUTF16", name := "compress", desc := "([CI[BII)I" } : Jvm.MethodName) jdk_52_method_21_code (7 : Nat) (Option.some Jvm.ClassFile.FieldType.int), Jvm.Cond.code ({ cls := "java/lang/StringUTF16", name := "coderFromArrayLen", desc := "([BI)B" } : Jvm.MethodName) jdk_52_method_15_code (2 : Nat) (Option.some Jvm.ClassFile.FieldType.byte), Jvm.Cond.code ({ cls := "java/lang/String", name := "valueOf", desc := "(C)Ljava/lang/String;" } : Jvm.MethodName) jdk_42_method_139_code (1 : Nat) (Option.some (Jvm.ClassFile.FieldType.object "java/lang/String")), Jvm.Cond.code ({ cls := "java/lang/StringLatin1", name := "canEncode", desc := "(C)Z" } : Jvm.MethodName) jdk_43_method_3_code (1 : Nat) (Option.some Jvm.ClassFile.FieldType.boolean), Jvm.Cond.code ({ cls := "java/lang/StringLatin1", name := "toBytes", desc := "(C)[B" } : Jvm.MethodName) jdk_43_method_46_code (1 : Nat) (Option.some (Jvm.ClassFile.FieldType.array Jvm.ClassFile.FieldType.byte)), Jvm.Cond.code ({ cls := "java/lang/String", name := "<init>", desc := "([BB)V" } : Jvm.MethodName) jdk_42_method_151_code (3 : Nat) (Option.none : Option Jvm.ClassFile.FieldType), Jvm.Cond.code ({ cls := "com/example/aliran/aliran/KeySpace", name := "<init>", desc := "(Ljava/lang/String;)V" } : Jvm.MethodName) prog_5_method_1_code (2 : Nat) (Option.none : Option Jvm.ClassFile.FieldType), Jvm.Cond.code ({ cls := "java/lang/Record", name := "<init>", desc := "()V" } : Jvm.MethodName) jdk_30_method_1_code (1 : Nat) (Option.none : Option Jvm.ClassFile.FieldType), Jvm.Cond.code ({ cls := "java/util/Objects", name := "requireNonNull", desc := "(Ljava/lang/Object;Ljava/lang/String;)Ljava/lang/Object;" } : Jvm.MethodName) jdk_31_method_11_code (2 : Nat) (Option.some (Jvm.ClassFile.FieldType.object "java/lang/Object")), Jvm.Cond.code ({ cls := "java/lang/String", name := "isEmpty", desc := "()Z" } : Jvm.MethodName) jdk_42_method_55_code (1 : Nat) (Option.some Jvm.ClassFile.FieldType.boolean), Jvm.Cond.code ({ cls := "java/lang/String", name := "indexOf", desc := "(I)I" } : Jvm.MethodName) jdk_42_method_79_code (2 : Nat) (Option.some Jvm.ClassFile.FieldType.int), Jvm.Cond.code ({ cls := "java/lang/String", name := "indexOf", desc := "(II)I" } : Jvm.MethodName) jdk_42_method_80_code (3 : Nat) (Option.some Jvm.ClassFile.FieldType.int), Jvm.Cond.code ({ cls := "java/lang/String", name := "isLatin1", desc := "()Z" } : Jvm.MethodName) jdk_42_method_154_code (1 : Nat) (Option.some Jvm.ClassFile.FieldType.boolean), Jvm.Cond.code ({ cls := "java/lang/String", name := "length", desc := "()I" } : Jvm.MethodName) jdk_42_method_54_code (1 : Nat) (Option.some Jvm.ClassFile.FieldType.int), Jvm.Cond.code ({ cls := "java/lang/String", name := "coder", desc := "()B" } : Jvm.MethodName) jdk_42_method_152_code (1 : Nat) (Option.some Jvm.ClassFile.FieldType.byte), Jvm.Cond.code ({ cls := "java/lang/StringLatin1", name := "indexOf", desc := "([BIII)I" } : Jvm.MethodName) jdk_43_method_22_code (4 : Nat) (Option.some Jvm.ClassFile.FieldType.int), Jvm.Cond.code ({ cls := "java/lang/StringLatin1", name := "canEncode", desc := "(I)Z" } : Jvm.MethodName) jdk_43_method_4_code (1 : Nat) (Option.some Jvm.ClassFile.FieldType.boolean), Jvm.Cond.code ({ cls := "java/lang/Math", name := "max", desc := "(II)I" } : Jvm.MethodName) jdk_29_method_65_code (2 : Nat) (Option.some Jvm.ClassFile.FieldType.int), Jvm.Cond.code ({ cls := "java/lang/Math", name := "min", desc := "(II)I" } : Jvm.MethodName) jdk_29_method_69_code (2 : Nat) (Option.some Jvm.ClassFile.FieldType.int), Jvm.Cond.code ({ cls := "java/lang/StringLatin1", name := "indexOfChar", desc := "([BIII)I" } : Jvm.MethodName) jdk_43_method_23_code (6 : Nat) (Option.some Jvm.ClassFile.FieldType.int), Jvm.Cond.code ({ cls := "com/example/aliran/aliran/KeySpace", name := "key", desc := "(Ljava/lang/String;Ljava/lang/String;)Ljava/lang/String;" } : Jvm.MethodName) prog_5_method_2_code (3 : Nat) (Option.some (Jvm.ClassFile.FieldType.object "java/lang/String")), Jvm.Cond.code ({ cls := "java/lang/StringBuilder", name := "<init>", desc := "()V" } : Jvm.MethodName) jdk_67_method_1_code (1 : Nat) (Option.none : Option Jvm.ClassFile.FieldType), Jvm.Cond.code ({ cls := "java/lang/AbstractStringBuilder", name := "<init>", desc := "(I)V" } : Jvm.MethodName) jdk_68_method_2_code (2 : Nat) (Option.none : Option Jvm.ClassFile.FieldType), Jvm.Cond.code ({ cls := "com/example/aliran/aliran/KeySpace", name := "tagged", desc := "(Ljava/lang/String;)Ljava/lang/String;" } : Jvm.MethodName) prog_5_method_4_code (2 : Nat) (Option.some (Jvm.ClassFile.FieldType.object "java/lang/String")), Jvm.Cond.code ({ cls := "java/lang/String", name := "charAt", desc := "(I)C" } : Jvm.MethodName) jdk_42_method_56_code (2 : Nat) (Option.some Jvm.ClassFile.FieldType.char), Jvm.Cond.code ({ cls := "java/lang/StringLatin1", name := "charAt", desc := "([BI)C" } : Jvm.MethodName) jdk_43_method_2_code (2 : Nat) (Option.some Jvm.ClassFile.FieldType.char), Jvm.Cond.code ({ cls := "java/lang/String", name := "checkIndex", desc := "(II)V" } : Jvm.MethodName) jdk_42_method_155_code (2 : Nat) (Option.none : Option Jvm.ClassFile.FieldType), Jvm.Cond.code ({ cls := "jdk/internal/util/Preconditions", name := "checkIndex", desc := "(IILjava/util/function/BiFunction;)I" } : Jvm.MethodName) jdk_41_method_11_code (3 : Nat) (Option.some Jvm.ClassFile.FieldType.int), Jvm.Cond.code ({ cls := "java/lang/StringBuilder", name := "append", desc := "(Ljava/lang/String;)Ljava/lang/StringBuilder;" } : Jvm.MethodName) jdk_67_method_7_code (2 : Nat) (Option.some (Jvm.ClassFile.FieldType.object "java/lang/StringBuilder")), Jvm.Cond.code ({ cls := "java/lang/AbstractStringBuilder", name := "append", desc := "(Ljava/lang/String;)Ljava/lang/AbstractStringBuilder;" } : Jvm.MethodName) jdk_68_method_22_code (3 : Nat) (Option.some (Jvm.ClassFile.FieldType.object "java/lang/AbstractStringBuilder")), Jvm.Cond.code ({ cls := "java/lang/AbstractStringBuilder", name := "ensureCapacityInternal", desc := "(I)V" } : Jvm.MethodName) jdk_68_method_9_code (3 : Nat) (Option.none : Option Jvm.ClassFile.FieldType), Jvm.Cond.code ({ cls := "java/lang/AbstractStringBuilder", name := "putStringAt", desc := "(ILjava/lang/String;)V" } : Jvm.MethodName) jdk_68_method_73_code (3 : Nat) (Option.none : Option Jvm.ClassFile.FieldType), Jvm.Cond.code ({ cls := "java/lang/AbstractStringBuilder", name := "inflateIfNeededFor", desc := "(Ljava/lang/String;)V" } : Jvm.MethodName) jdk_68_method_71_code (2 : Nat) (Option.none : Option Jvm.ClassFile.FieldType), Jvm.Cond.code ({ cls := "java/lang/String", name := "getBytes", desc := "([BIB)V" } : Jvm.MethodName) jdk_42_method_147_code (4 : Nat) (Option.none : Option Jvm.ClassFile.FieldType), Jvm.Cond.code ({ cls := "java/lang/StringBuilder", name := "append", desc := "(C)Ljava/lang/StringBuilder;" } : Jvm.MethodName) jdk_67_method_14_code (2 : Nat) (Option.some (Jvm.ClassFile.FieldType.object "java/lang/StringBuilder")), Jvm.Cond.code ({ cls := "java/lang/AbstractStringBuilder", name := "append", desc := "(C)Ljava/lang/AbstractStringBuilder;" } : Jvm.MethodName) jdk_68_method_31_code (2 : Nat) (Option.some (Jvm.ClassFile.FieldType.object "java/lang/AbstractStringBuilder")), Jvm.Cond.code ({ cls := "java/lang/AbstractStringBuilder", name := "isLatin1", desc := "()Z" } : Jvm.MethodName) jdk_68_method_68_code (1 : Nat) (Option.some Jvm.ClassFile.FieldType.boolean), Jvm.Cond.code ({ cls := "java/lang/StringBuilder", name := "toString", desc := "()Ljava/lang/String;" } : Jvm.MethodName) jdk_67_method_42_code (1 : Nat) (Option.some (Jvm.ClassFile.FieldType.object "java/lang/String")), Jvm.Cond.code ({ cls := "java/lang/String", name := "<init>", desc := "(Ljava/lang/StringBuilder;)V" } : Jvm.MethodName) jdk_42_method_53_code (2 : Nat) (Option.none : Option Jvm.ClassFile.FieldType), Jvm.Cond.code ({ cls := "java/lang/String", name := "<init>", desc := "(Ljava/lang/AbstractStringBuilder;Ljava/lang/Void;)V" } : Jvm.MethodName) jdk_42_method_150_code (5 : Nat) (Option.none : Option Jvm.ClassFile.FieldType), Jvm.Cond.code ({ cls := "java/lang/AbstractStringBuilder", name := "getValue", desc := "()[B" } : Jvm.MethodName) jdk_68_method_64_code (1 : Nat) (Option.some (Jvm.ClassFile.FieldType.array Jvm.ClassFile.FieldType.byte)), Jvm.Cond.code ({ cls := "java/lang/StringBuilder", name := "length", desc := "()I" } : Jvm.MethodName) jdk_67_method_93_code (1 : Nat) (Option.some Jvm.ClassFile.FieldType.int), Jvm.Cond.code ({ cls := "java/lang/AbstractStringBuilder", name := "length", desc := "()I" } : Jvm.MethodName) jdk_68_method_6_code (1 : Nat) (Option.some Jvm.ClassFile.FieldType.int), Jvm.Cond.code ({ cls := "java/util/Arrays", name := "copyOfRange", desc := "([BII)[B" } : Jvm.MethodName) jdk_65_method_132_code (3 : Nat) (Option.some (Jvm.ClassFile.FieldType.array Jvm.ClassFile.FieldType.byte)), Jvm.Cond.code ({ cls := "java/util/Arrays", name := "copyOfRangeByte", desc := "([BII)[B" } : Jvm.MethodName) jdk_65_method_133_code (5 : Nat) (Option.some (Jvm.ClassFile.FieldType.array Jvm.ClassFile.FieldType.byte)), Jvm.Cond.code ({ cls := "java/util/Arrays", name := "checkLength", desc := "(II)V" } : Jvm.MethodName) jdk_65_method_131_code (2 : Nat) (Option.none : Option Jvm.ClassFile.FieldType), Jvm.Cond.code ({ cls := "java/lang/StringUTF16", name := "toBytes", desc := "(C)[B" } : Jvm.MethodName) jdk_52_method_24_code (2 : Nat) (Option.some (Jvm.ClassFile.FieldType.array Jvm.ClassFile.FieldType.byte)), Jvm.Cond.code ({ cls := "java/lang/StringUTF16", name := "putChar", desc := "([BII)V" } : Jvm.MethodName) jdk_52_method_4_code (3 : Nat) (Option.none : Option Jvm.ClassFile.FieldType), Jvm.Cond.code ({ cls := "java/lang/StringUTF16", name := "indexOf", desc := "([BIII)I" } : Jvm.MethodName) jdk_52_method_40_code (4 : Nat) (Option.some Jvm.ClassFile.FieldType.int), Jvm.Cond.code ({ cls := "java/lang/StringUTF16", name := "indexOfChar", desc := "([BIII)I" } : Jvm.MethodName) jdk_52_method_47_code (4 : Nat) (Option.some Jvm.ClassFile.FieldType.int), Jvm.Cond.code ({ cls := "java/lang/StringUTF16", name := "checkBoundsBeginEnd", desc := "(II[B)V" } : Jvm.MethodName) jdk_52_method_93_code (3 : Nat) (Option.none : Option Jvm.ClassFile.FieldType), Jvm.Cond.code ({ cls := "java/lang/StringUTF16", name := "length", desc := "([B)I" } : Jvm.MethodName) jdk_52_method_6_code (1 : Nat) (Option.some Jvm.ClassFile.FieldType.int), Jvm.Cond.code ({ cls := "java/lang/String", name := "checkBoundsBeginEnd", desc := "(III)V" } : Jvm.MethodName) jdk_42_method_158_code (3 : Nat) (Option.none : Option Jvm.ClassFile.FieldType), Jvm.Cond.code ({ cls := "jdk/internal/util/Preconditions", name := "checkFromToIndex", desc := "(IIILjava/util/function/BiFunction;)I" } : Jvm.MethodName) jdk_41_method_12_code (4 : Nat) (Option.some Jvm.ClassFile.FieldType.int), Jvm.Cond.code ({ cls := "java/lang/StringUTF16", name := "indexOfCharUnsafe", desc := "([BIII)I" } : Jvm.MethodName) jdk_52_method_48_code (5 : Nat) (Option.some Jvm.ClassFile.FieldType.int), Jvm.Cond.code ({ cls := "java/lang/StringUTF16", name := "getChar", desc := "([BI)C" } : Jvm.MethodName) jdk_52_method_5_code (2 : Nat) (Option.some Jvm.ClassFile.FieldType.char), Jvm.Cond.code ({ cls := "java/lang/StringUTF16", name := "charAt", desc := "([BI)C" } : Jvm.MethodName) jdk_52_method_83_code (2 : Nat) (Option.some Jvm.ClassFile.FieldType.char), Jvm.Cond.code ({ cls := "java/lang/StringUTF16", name := "checkIndex", desc := "(I[B)V" } : Jvm.MethodName) jdk_52_method_91_code (2 : Nat) (Option.none : Option Jvm.ClassFile.FieldType), Jvm.Cond.code ({ cls := "java/lang/AbstractStringBuilder", name := "inflate", desc := "()V" } : Jvm.MethodName) jdk_68_method_11_code (2 : Nat) (Option.none : Option Jvm.ClassFile.FieldType), Jvm.Cond.code ({ cls := "java/lang/StringUTF16", name := "newBytesFor", desc := "(I)[B" } : Jvm.MethodName) jdk_52_method_2_code (1 : Nat) (Option.some (Jvm.ClassFile.FieldType.array Jvm.ClassFile.FieldType.byte)), Jvm.Cond.code ({ cls := "java/lang/StringUTF16", name := "newBytesLength", desc := "(I)I" } : Jvm.MethodName) jdk_52_method_3_code (1 : Nat) (Option.some Jvm.ClassFile.FieldType.int), Jvm.Cond.code ({ cls := "java/lang/StringLatin1", name := "inflate", desc := "([BI[BII)V" } : Jvm.MethodName) jdk_43_method_50_code (5 : Nat) (Option.none : Option Jvm.ClassFile.FieldType), Jvm.Cond.code ({ cls := "java/lang/StringUTF16", name := "inflate", desc := "([BI[BII)V" } : Jvm.MethodName) jdk_52_method_86_code (6 : Nat) (Option.none : Option Jvm.ClassFile.FieldType), Jvm.Cond.code ({ cls := "java/lang/StringUTF16", name := "checkBoundsOffCount", desc := "(II[B)V" } : Jvm.MethodName) jdk_52_method_94_code (3 : Nat) (Option.none : Option Jvm.ClassFile.FieldType), Jvm.Cond.code ({ cls := "java/lang/String", name := "checkBoundsOffCount", desc := "(III)I" } : Jvm.MethodName) jdk_42_method_157_code (3 : Nat) (Option.some Jvm.ClassFile.FieldType.int), Jvm.Cond.code ({ cls := "jdk/internal/util/Preconditions", name := "checkFromIndexSize", desc := "(IIILjava/util/function/BiFunction;)I" } : Jvm.MethodName) jdk_41_method_13_code (4 : Nat) (Option.some Jvm.ClassFile.FieldType.int), Jvm.Cond.code ({ cls := "java/lang/StringUTF16", name := "putCharSB", desc := "([BII)V" } : Jvm.MethodName) jdk_52_method_71_code (3 : Nat) (Option.none : Option Jvm.ClassFile.FieldType), Jvm.Cond.code ({ cls := "java/lang/StringUTF16", name := "toBytes", desc := "([CII)[B" } : Jvm.MethodName) jdk_52_method_14_code (5 : Nat) (Option.some (Jvm.ClassFile.FieldType.array Jvm.ClassFile.FieldType.byte))]
set_option maxRecDepth 65536 in
theorem codes_eq : words1.filter isCode = codes1 := rfl
theorem w_codes : ∀ c ∈ words1.filter isCode, c.before args0 about1 = true := by
  rw [codes_eq]
  intro c hc
  simp only [codes1, List.mem_cons, List.not_mem_nil, or_false] at hc
  rcases hc with rfl | rfl | rfl | rfl | rfl | rfl | rfl | rfl | rfl | rfl | rfl | rfl | rfl | rfl | rfl | rfl | rfl | rfl | rfl | rfl | rfl | rfl | rfl | rfl | rfl | rfl | rfl | rfl | rfl | rfl | rfl | rfl | rfl | rfl | rfl | rfl | rfl | rfl | rfl | rfl | rfl | rfl | rfl | rfl | rfl | rfl | rfl | rfl | rfl | rfl | rfl | rfl | rfl | rfl | rfl | rfl | rfl | rfl | rfl | rfl | rfl | rfl | rfl | rfl | rfl | rfl | rfl | rfl | rfl | rfl | rfl | rfl | rfl | rfl | rfl
  · exact w_c0
  · exact w_c1
  · exact w_c2
  · exact w_c3
  · exact w_c4
  · exact w_c5
  · exact w_c6
  · exact w_c7
  · exact w_c8
  · exact w_c9
  · exact w_c10
  · exact w_c11
  · exact w_c12
  · exact w_c13
  · exact w_c14
  · exact w_c15
  · exact w_c16
  · exact w_c17
  · exact w_c18
  · exact w_c19
  · exact w_c20
  · exact w_c21
  · exact w_c22
  · exact w_c23
  · exact w_c24
  · exact w_c25
  · exact w_c26
  · exact w_c27
  · exact w_c28
  · exact w_c29
  · exact w_c30
  · exact w_c31
  · exact w_c32
  · exact w_c33
  · exact w_c34
  · exact w_c35
  · exact w_c36
  · exact w_c37
  · exact w_c38
  · exact w_c39
  · exact w_c40
  · exact w_c41
  · exact w_c42
  · exact w_c43
  · exact w_c44
  · exact w_c45
  · exact w_c46
  · exact w_c47
  · exact w_c48
  · exact w_c49
  · exact w_c50
  · exact w_c51
  · exact w_c52
  · exact w_c53
  · exact w_c54
  · exact w_c55
  · exact w_c56
  · exact w_c57
  · exact w_c58
  · exact w_c59
  · exact w_c60
  · exact w_c61
  · exact w_c62
  · exact w_c63
  · exact w_c64
  · exact w_c65
  · exact w_c66
  · exact w_c67
  · exact w_c68
  · exact w_c69
  · exact w_c70
  · exact w_c71
  · exact w_c72
  · exact w_c73
  · exact w_c74
set_option maxRecDepth 65536 in
theorem w_t1 : (words1.take 24).all (fun c => isCode c || c.before args0 about1) = true := by decide +kernel
set_option maxRecDepth 65536 in
theorem w_t2 : ((words1.drop 24).take 24).all (fun c => isCode c || c.before args0 about1) = true := by decide +kernel
set_option maxRecDepth 65536 in
theorem w_t3 : (((words1.drop 24).drop 24).take 24).all (fun c => isCode c || c.before args0 about1) = true := by decide +kernel
set_option maxRecDepth 65536 in
theorem w_t4 : ((((words1.drop 24).drop 24).drop 24).take 24).all (fun c => isCode c || c.before args0 about1) = true := by decide +kernel
set_option maxRecDepth 65536 in
theorem w_t5 : (((((words1.drop 24).drop 24).drop 24).drop 24).take 24).all (fun c => isCode c || c.before args0 about1) = true := by decide +kernel
set_option maxRecDepth 65536 in
theorem w_t6 : ((((((words1.drop 24).drop 24).drop 24).drop 24).drop 24).take 24).all (fun c => isCode c || c.before args0 about1) = true := by decide +kernel
set_option maxRecDepth 65536 in
theorem w_t7 : (((((((words1.drop 24).drop 24).drop 24).drop 24).drop 24).drop 24).take 24).all (fun c => isCode c || c.before args0 about1) = true := by decide +kernel
set_option maxRecDepth 65536 in
theorem w_t8 : ((((((((words1.drop 24).drop 24).drop 24).drop 24).drop 24).drop 24).drop 24).take 24).all (fun c => isCode c || c.before args0 about1) = true := by decide +kernel
set_option maxRecDepth 65536 in
theorem w_t9 : (((((((((words1.drop 24).drop 24).drop 24).drop 24).drop 24).drop 24).drop 24).drop 24).take 24).all (fun c => isCode c || c.before args0 about1) = true := by decide +kernel
set_option maxRecDepth 65536 in
theorem w_t10 : ((((((((((words1.drop 24).drop 24).drop 24).drop 24).drop 24).drop 24).drop 24).drop 24).drop 24).take 24).all (fun c => isCode c || c.before args0 about1) = true := by decide +kernel
set_option maxRecDepth 65536 in
theorem w_t11 : (((((((((((words1.drop 24).drop 24).drop 24).drop 24).drop 24).drop 24).drop 24).drop 24).drop 24).drop 24).take 24).all (fun c => isCode c || c.before args0 about1) = true := by decide +kernel
set_option maxRecDepth 65536 in
theorem w_t12 : ((((((((((((words1.drop 24).drop 24).drop 24).drop 24).drop 24).drop 24).drop 24).drop 24).drop 24).drop 24).drop 24).take 24).all (fun c => isCode c || c.before args0 about1) = true := by decide +kernel
set_option maxRecDepth 65536 in
theorem w_t13 : (((((((((((((words1.drop 24).drop 24).drop 24).drop 24).drop 24).drop 24).drop 24).drop 24).drop 24).drop 24).drop 24).drop 24).take 24).all (fun c => isCode c || c.before args0 about1) = true := by decide +kernel
set_option maxRecDepth 65536 in
theorem w_t14 : ((((((((((((((words1.drop 24).drop 24).drop 24).drop 24).drop 24).drop 24).drop 24).drop 24).drop 24).drop 24).drop 24).drop 24).drop 24).take 24).all (fun c => isCode c || c.before args0 about1) = true := by decide +kernel
set_option maxRecDepth 65536 in
theorem w_t15 : ((((((((((((((words1.drop 24).drop 24).drop 24).drop 24).drop 24).drop 24).drop 24).drop 24).drop 24).drop 24).drop 24).drop 24).drop 24).drop 24).all (fun c => isCode c || c.before args0 about1) = true := by decide +kernel
theorem w_tables : (allAtoms (Jvm.Cond.code x code maxLocals ret :: tables_1)).before args0 about1 = true := by
  rw [allAtoms_all]
  show words1.all (fun c => c.before args0 about1) = true
  refine all_split ?_ w_codes
  rw [← List.take_append_drop 24 words1, List.all_append, w_t1, ← List.take_append_drop 24 (words1.drop 24), List.all_append, w_t2, ← List.take_append_drop 24 ((words1.drop 24).drop 24), List.all_append, w_t3, ← List.take_append_drop 24 (((words1.drop 24).drop 24).drop 24), List.all_append, w_t4, ← List.take_append_drop 24 ((((words1.drop 24).drop 24).drop 24).drop 24), List.all_append, w_t5, ← List.take_append_drop 24 (((((words1.drop 24).drop 24).drop 24).drop 24).drop 24), List.all_append, w_t6, ← List.take_append_drop 24 ((((((words1.drop 24).drop 24).drop 24).drop 24).drop 24).drop 24), List.all_append, w_t7, ← List.take_append_drop 24 (((((((words1.drop 24).drop 24).drop 24).drop 24).drop 24).drop 24).drop 24), List.all_append, w_t8, ← List.take_append_drop 24 ((((((((words1.drop 24).drop 24).drop 24).drop 24).drop 24).drop 24).drop 24).drop 24), List.all_append, w_t9, ← List.take_append_drop 24 (((((((((words1.drop 24).drop 24).drop 24).drop 24).drop 24).drop 24).drop 24).drop 24).drop 24), List.all_append, w_t10, ← List.take_append_drop 24 ((((((((((words1.drop 24).drop 24).drop 24).drop 24).drop 24).drop 24).drop 24).drop 24).drop 24).drop 24), List.all_append, w_t11, ← List.take_append_drop 24 (((((((((((words1.drop 24).drop 24).drop 24).drop 24).drop 24).drop 24).drop 24).drop 24).drop 24).drop 24).drop 24), List.all_append, w_t12, ← List.take_append_drop 24 ((((((((((((words1.drop 24).drop 24).drop 24).drop 24).drop 24).drop 24).drop 24).drop 24).drop 24).drop 24).drop 24).drop 24), List.all_append, w_t13, ← List.take_append_drop 24 (((((((((((((words1.drop 24).drop 24).drop 24).drop 24).drop 24).drop 24).drop 24).drop 24).drop 24).drop 24).drop 24).drop 24).drop 24), List.all_append, w_t14, w_t15]
  rfl
set_option maxRecDepth 65536 in
theorem w_rest : rest_1_c.before args0 about1 = true := by decide +kernel
set_option maxRecDepth 65536 in
theorem w_case : (Jvm.Cond.and given_1 narrow_1).before args0 about1 = true := by decide +kernel
set_option maxRecDepth 65536 in
theorem w_consts : constsHeld consts_1 about1 := Jvm.Lit.constsHeldB_iff.mp (by decide +kernel)
theorem w_applies : (headSpec (Jvm.Cond.code x code maxLocals ret :: tables_1) room_1).applies x e0.platform about1 = true :=
  (Spec.applies_iff w_frames).mpr ⟨w_running, w_runnable, w_alone, w_named, w_hears, w_ripe, w_room, w_tables⟩
theorem atStart : AtStart classFile x code maxLocals ret World_1 tables_1 room_1 Calls_1 rest_1 Pre_1 launch0 p0 e0 about1 theMethod args0 below0 :=
  ⟨lists_1, trivial, launch0.admits_env _ _ _, launch0.least_env, fairChoices_fair.cas, fairChoices_fair.clock, w_frames, w_args, w_heap, w_applies, ⟨w_consts, trivial⟩, w_rest, w_case⟩
end start1
theorem witness_1 : WitnessClaimed_1 := ⟨start1.p0, start1.e0, start1.about1, start1.theMethod, start1.args0, start1.below0, start1.atStart⟩
end Jvm.Pilot.@@N@@
