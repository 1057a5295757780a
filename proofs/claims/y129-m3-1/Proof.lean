import JvmDerived
import JvmDerived.Pilot.@@N@@Statement
import JvmDerived.Pilot.@@N@@Code
set_option linter.unusedVariables false
set_option linter.unusedSimpArgs false
namespace Jvm.Pilot.@@N@@
open Jvm Jvm.ClassFile Sem Op Lib Jvm.Free Jvm.Stand Jvm.LawKit Jvm.RoadKit Bundle Jvm.Pilot.@@N@@.Jvm.D
section OwnNums
theorem own_toInt (n : Nat) (h : n < 2 ^ 31) : (Int32.ofNat n).toInt = n := Int32.toInt_ofNat_of_lt h
theorem own_eq {x : Int32} {n : Nat} (h : n < 2 ^ 31) (e : x.toInt = n) : x = Int32.ofNat n := by rw [← Int32.toInt_inj, own_toInt n h, e]
theorem own_ltN (a b : Nat) (ha : a < 2 ^ 31) (hb : b < 2 ^ 31) : Int32.ofNat a < Int32.ofNat b ↔ a < b := by
  rw [Int32.lt_iff_toInt_lt, own_toInt a ha, own_toInt b hb]; omega
theorem own_eqN (a b : Nat) (ha : a < 2 ^ 31) (hb : b < 2 ^ 31) : Int32.ofNat a = Int32.ofNat b ↔ a = b := by
  rw [← Int32.toInt_inj, own_toInt a ha, own_toInt b hb]; omega
theorem own_addN (a b : Nat) : Int32.ofNat a + Int32.ofNat b = Int32.ofNat (a + b) := (Int32.ofNat_add a b).symm
theorem own_subI (a b : Nat) (ha : a < 2 ^ 31) (hb : b < 2 ^ 31) : (Int32.ofNat a - Int32.ofNat b).toInt = (a : Int) - b := by
  rw [Int32.toInt_sub, own_toInt a ha, own_toInt b hb]
  exact Int.bmod_eq_of_le (by omega) (by omega)
theorem own_subN (a b : Nat) (ha : a < 2 ^ 31) (hb : b ≤ a) : Int32.ofNat a - Int32.ofNat b = Int32.ofNat (a - b) :=
  own_eq (by omega) (by rw [own_subI a b ha (by omega)]; omega)
theorem own_clamp (a : Nat) (ha : a < 2 ^ 31) : (Int32.ofNat a).toNatClampNeg = a := by
  show (Int32.ofNat a).toInt.toNat = a
  rw [own_toInt a ha]; rfl
theorem own_nneg (a : Nat) (ha : a < 2 ^ 31) : ¬ Int32.ofNat a < 0 := by
  rw [Int32.lt_iff_toInt_lt, own_toInt a ha]
  have : (0 : Int32).toInt = 0 := rfl
  omega
theorem own_ixs (a b : Nat) (ha : a < 2 ^ 31) (hb : b ≤ a) : ¬ (Int32.ofNat a - Int32.ofNat b < 0) ∧ (Int32.ofNat a - Int32.ofNat b).toNatClampNeg = a - b := by
  rw [own_subN a b ha hb]; exact ⟨own_nneg _ (by omega), own_clamp _ (by omega)⟩
theorem own_ixa (a b : Nat) (ha : a + b < 2 ^ 31) : ¬ (Int32.ofNat a + Int32.ofNat b < 0) ∧ (Int32.ofNat a + Int32.ofNat b).toNatClampNeg = a + b := by
  rw [own_addN]; exact ⟨own_nneg _ ha, own_clamp _ ha⟩
/-- a small natural behind a mask and a remainder -/
theorem own_small (x : Int32) (k : Nat) (hk0 : 0 < k) (hk : k < 2 ^ 31) : ∃ n : Nat, n < k ∧ (x &&& 2147483647) % Int32.ofNat k = Int32.ofNat n := by
  obtain ⟨q1, q2⟩ := c_and x 2147483647 (by decide)
  obtain ⟨c1, -⟩ := c_irem (x &&& 2147483647) (Int32.ofNat k) k (own_toInt k hk)
  have h1 := c1 q1
  have h2 := Int.emod_nonneg (x &&& 2147483647).toInt (b := (k : Int)) (by omega)
  have h3 := Int.emod_lt_of_pos (x &&& 2147483647).toInt (b := (k : Int)) (by omega)
  exact ⟨((x &&& 2147483647) % Int32.ofNat k).toInt.toNat, by omega, own_eq (by omega) (by omega)⟩
/-- a small natural behind a mask -/
theorem own_masked (x : Int32) (k : Nat) (hk : k < 2 ^ 31) : ∃ n : Nat, n ≤ k ∧ x &&& Int32.ofNat k = Int32.ofNat n := by
  have h0 := own_toInt k hk
  obtain ⟨q1, q2⟩ := c_and x (Int32.ofNat k) (by omega)
  exact ⟨(x &&& Int32.ofNat k).toInt.toNat, by omega, own_eq (by omega) (by omega)⟩
theorem own_cmp (x y : Int64) : XT.cmpL x y = 0 ↔ x = y := lw_eq x y
theorem own_cmplt (x y : Int64) : XT.cmpL x y < 0 ↔ x < y := lw_lt x y
theorem own_cmpgt (x y : Int64) : 0 < XT.cmpL x y ↔ y < x := lw_gt x y
end OwnNums
section OwnLayer
variable {p : Program} {l : Launch} {e : Env} {R : Room} {s : State} {m : MethodId} {args : Array Value} {below : List Frame} {meth : Method} {c : Code} {T : State} {locs : List Loc} {cells slots : Nat} {Z : State} {a0 : Array Value} {h h' : Heap}
/-- from U the run comes to a return of which Q tells (value, heap, written places), within rc cells and rs slots -/
def Goes (p : Program) (e : Env) (below : List Frame) (s : State) (rc rs : Nat) (Q : Option Value → Heap → List Loc → Prop) (U : State) : Prop :=
  ∃ t o, Steps p.tables e below U t ∧ t.status = .running ∧ Ended t below o ∧ ∃ v L, o = .returned v ∧ Q v t.heap L ∧ FrameEnd s o t L rc rs
theorem Goes.step {rc rs : Nat} {Q : Option Value → Heap → List Loc → Prop} {U V : State} (st : ∀ t, Steps p.tables e below V t → Steps p.tables e below U t) (k : Goes p e below s rc rs Q V) : Goes p e below s rc rs Q U := by
  obtain ⟨t, o, k1, k2⟩ := k
  exact ⟨t, o, st t k1, k2⟩
theorem Goes.ret {rc rs : Nat} {Q : Option Value → Heap → List Loc → Prop} (X : Stand p l e R s m args below meth c T locs cells slots) (hx : p.tables.exec = Jvm.exec) (hlk : meth.locks = false) {pc : Nat} {Ls : Array Slot} {w : Value} {t : FieldType} {i : Instr} {rest : List Value} (hret : meth.sig.returnType = some t) (hn : narrow t w = w)
    (hi : (i = .ireturn ∧ (t = .int ∨ t = .boolean ∨ t = .byte ∨ t = .char ∨ t = .short) ∧ ∃ z, w = .int z) ∨ (i = .lreturn ∧ t = .long ∧ ∃ z, w = .long z) ∨ (i = .dreturn ∧ t = .double ∧ ∃ z, w = .double z) ∨ (i = .freturn ∧ t = .float ∧ ∃ z, w = .float z) ∨ (i = .areturn ∧ t.isReference = true ∧ w.isRef = true))
    (hd : decode c.code pc = .ok (i, 1)) (hc : cells ≤ rc) (hs : slots ≤ rs) (hQ : Q (some w) T.heap locs) : Goes p e below s rc rs Q (T.setTop (mkF m pc Ls (w :: rest))) := by
  obtain ⟨fs, hr, hrun, hended, hW, hsame⟩ := X.leave (v := some w) (fun h => by rw [hret] at h; cases h) hlk
  exact ⟨_, _, retOut X hx hret hn hi hd hr, hrun, hended, _, _, rfl, hQ, ⟨_, rfl⟩, hW, hsame.mono hc hs⟩
theorem Goes.retI {rc rs : Nat} {Q : Option Value → Heap → List Loc → Prop} (X : Stand p l e R s m args below meth c T locs cells slots) (hx : p.tables.exec = Jvm.exec) (hlk : meth.locks = false) {pc : Nat} {Ls : Array Slot} {z : Int32} {rest : List Value} (hret : meth.sig.returnType = some .int)
    (hd : decode c.code pc = .ok (.ireturn, 1)) (hc : cells ≤ rc) (hs : slots ≤ rs) (hQ : Q (some (.int z)) T.heap locs) : Goes p e below s rc rs Q (T.setTop (mkF m pc Ls (.int z :: rest))) :=
  Goes.ret X hx hlk hret rfl (Or.inl ⟨rfl, Or.inl rfl, _, rfl⟩) hd hc hs hQ
theorem Goes.retZ {rc rs : Nat} {Q : Option Value → Heap → List Loc → Prop} (X : Stand p l e R s m args below meth c T locs cells slots) (hx : p.tables.exec = Jvm.exec) (hlk : meth.locks = false) {pc : Nat} {Ls : Array Slot} {z : Int32} {t : FieldType} {rest : List Value} (hret : meth.sig.returnType = some t)
    (ht : t = .boolean ∨ t = .byte ∨ t = .char ∨ t = .short) (hn : narrow t (.int z) = .int z)
    (hd : decode c.code pc = .ok (.ireturn, 1)) (hc : cells ≤ rc) (hs : slots ≤ rs) (hQ : Q (some (.int z)) T.heap locs) : Goes p e below s rc rs Q (T.setTop (mkF m pc Ls (.int z :: rest))) :=
  Goes.ret X hx hlk hret hn (Or.inl ⟨rfl, Or.inr ht, _, rfl⟩) hd hc hs hQ
theorem Goes.retJ {rc rs : Nat} {Q : Option Value → Heap → List Loc → Prop} (X : Stand p l e R s m args below meth c T locs cells slots) (hx : p.tables.exec = Jvm.exec) (hlk : meth.locks = false) {pc : Nat} {Ls : Array Slot} {z : Int64} {rest : List Value} (hret : meth.sig.returnType = some .long)
    (hd : decode c.code pc = .ok (.lreturn, 1)) (hc : cells ≤ rc) (hs : slots ≤ rs) (hQ : Q (some (.long z)) T.heap locs) : Goes p e below s rc rs Q (T.setTop (mkF m pc Ls (.long z :: rest))) :=
  Goes.ret X hx hlk hret rfl (Or.inr (Or.inl ⟨rfl, rfl, _, rfl⟩)) hd hc hs hQ
theorem own_narrow_ref {t : FieldType} {w : Value} (hw : w.isRef = true) : narrow t w = w := by
  cases w <;> simp [Value.isRef] at hw <;> cases t <;> rfl
theorem Goes.retA {rc rs : Nat} {Q : Option Value → Heap → List Loc → Prop} (X : Stand p l e R s m args below meth c T locs cells slots) (hx : p.tables.exec = Jvm.exec) (hlk : meth.locks = false) {pc : Nat} {Ls : Array Slot} {w : Value} {t : FieldType} {rest : List Value} (hret : meth.sig.returnType = some t)
    (ht : t.isReference = true) (hw : w.isRef = true)
    (hd : decode c.code pc = .ok (.areturn, 1)) (hc : cells ≤ rc) (hs : slots ≤ rs) (hQ : Q (some w) T.heap locs) : Goes p e below s rc rs Q (T.setTop (mkF m pc Ls (w :: rest))) :=
  Goes.ret X hx hlk hret (own_narrow_ref hw) (Or.inr (Or.inr (Or.inr (Or.inr ⟨rfl, ht, hw⟩)))) hd hc hs hQ
theorem Goes.retV {rc rs : Nat} {Q : Option Value → Heap → List Loc → Prop} (X : Stand p l e R s m args below meth c T locs cells slots) (hx : p.tables.exec = Jvm.exec) (hlk : meth.locks = false) {pc : Nat} {Ls : Array Slot} (hret : meth.sig.returnType = none)
    (hd : decode c.code pc = .ok (.return_, 1)) (hc : cells ≤ rc) (hs : slots ≤ rs) (hQ : Q none T.heap locs) : Goes p e below s rc rs Q (T.setTop (mkF m pc Ls [])) := by
  obtain ⟨fs, hr, hrun, hended, hW, hsame⟩ := X.leave (v := none) (fun _ => rfl) hlk
  exact ⟨_, _, X.returnOut hx hret hd hr, hrun, hended, _, _, rfl, hQ, ⟨_, rfl⟩, hW, hsame.mono hc hs⟩
/-- a static call by its contract -/
theorem own_callS (X : Stand p l e R s m args below meth c T locs cells slots) (hx : p.tables.exec = Jvm.exec) (hZ : Z.Warmed39 s.vm) {own : String} {index : Nat} {y : MethodName} {bytes : ByteArray} {maxL : Nat} {ret : Option FieldType} (hown : s.vm.findClass own = some m.cls)
    (w1 : (Cond.methodLink own index y).before a0 Z = true) (w2 : (Cond.static y).before a0 Z = true) (w3 : (Cond.initialized y.cls).before a0 Z = true) (w4 : (Cond.code y bytes maxL ret).before a0 Z = true) (hy : y.cls ≠ "java/lang/invoke/MethodHandle" ∧ y.cls ≠ "java/lang/invoke/VarHandle")
    {rm : Room} {argsL : List Value} {Q : Option Value → Heap → List Loc → Prop}
    (hM : MetFree l y (head1 [Cond.code y bytes maxL ret] rm) (fun a U => a = argsL.toArray ∧ Z.Warmed39 U.vm ∧ U.heap = h) (fun _ _ _ _ _ => True) (fun _ U o U' => ∃ v L, o = .returned v ∧ Q v U'.heap L ∧ FrameEnd U o U' L rm.cells rm.slots))
    (eT : T.heap = h) {W : Nat} (hf : rm.frames + 1 ≤ R.frames) (hl : W + (maxL + 11) + rm.locals ≤ R.locals) (hc : cells + rm.cells ≤ R.cells) (hsl : slots + rm.slots ≤ R.slots)
    {g : JFrame} (hg : g.method = m) (hsize : g.locals.size = c.maxLocals) {rest : List Value} (hlen : ∀ sig, parseMethodDescriptor y.desc = some sig → argsL.length = sig.parameters.length)
    (hstack : g.stack = argsL.reverse ++ rest) (hW : 2 * g.monitorRoom + (rest.map fun v => v.category).sum ≤ W) (hdg : decode c.code g.pc = .ok (.invokestatic index, 3)) :
    ∃ (v : Option Value) (T' : State) (L : List Loc), Stand p l e R s m args below meth c T' (locs ++ L) (cells + rm.cells) (slots + rm.slots) ∧ Q v T'.heap L ∧
      ∀ t, Steps p.tables e below (T'.setTop { g with pc := g.pc + 3, stack := v.toList ++ rest }) t → Steps p.tables e below (T.setTop g) t := by
  obtain ⟨v, _, ⟨U, Ls, k, n⟩, -, X', ⟨Lc, hQ, l1, y1, z1⟩, st⟩ := Jvm.LawKit.callS X hx (y := y) hown (mvT hZ w1) (mvT hZ w2) (mvT hZ w3) (mvT hZ w4) hy (backOf (W := W) hM hZ w4 w3 hf hl) hg hsize (argsL := argsL) (rest := rest) hlen hstack hW hdg (fun _ _ => ⟨rfl, eT, hc, hsl⟩)
  dsimp only [Pt.U, Pt.locs, Pt.cells, Pt.slots] at X' l1 y1 z1 st hQ
  subst l1 y1 z1
  exact ⟨v, U, Lc, X', hQ, st⟩
/-- a constructor's call by its contract -/
theorem own_callN (X : Stand p l e R s m args below meth c T locs cells slots) (hx : p.tables.exec = Jvm.exec) (hZ : Z.Warmed39 s.vm) {own : String} {index : Nat} {y : MethodName} {bytes : ByteArray} {maxL : Nat} (hy1 : y.name = "<init>") (hown : s.vm.findClass own = some m.cls)
    (w1 : (Cond.methodLink own index y).before a0 Z = true) (w2 : (Cond.instanceMethod y).before a0 Z = true) (w3 : (Cond.initialized y.cls).before a0 Z = true) (w4 : (Cond.code y bytes maxL none).before a0 Z = true) (hy : y.cls ≠ "java/lang/invoke/MethodHandle" ∧ y.cls ≠ "java/lang/invoke/VarHandle")
    {rm : Room} {a : Addr} {argsL : List Value} {Q : Option Value → Heap → List Loc → Prop}
    (hM : MetFree l y (head1 [Cond.code y bytes maxL none] rm) (fun b U => b = (.ref a :: argsL).toArray ∧ Z.Warmed39 U.vm ∧ U.heap = h) (fun _ _ _ _ _ => True) (fun _ U o U' => ∃ v L, o = .returned v ∧ Q v U'.heap L ∧ FrameEnd U o U' L rm.cells rm.slots))
    (eT : T.heap = h) {W : Nat} (hf : rm.frames + 1 ≤ R.frames) (hl : W + (maxL + 11) + rm.locals ≤ R.locals) (hc : cells + rm.cells ≤ R.cells) (hsl : slots + rm.slots ≤ R.slots)
    {g : JFrame} (hg : g.method = m) (hsize : g.locals.size = c.maxLocals) {rest : List Value} (hlen : ∀ sig, parseMethodDescriptor y.desc = some sig → argsL.length = sig.parameters.length)
    (hstack : g.stack = argsL.reverse ++ .ref a :: rest) (hW : 2 * g.monitorRoom + (rest.map fun v => v.category).sum ≤ W) (hdg : decode c.code g.pc = .ok (.invokespecial index, 3)) :
    ∃ (v : Option Value) (T' : State) (L : List Loc), Stand p l e R s m args below meth c T' (locs ++ L) (cells + rm.cells) (slots + rm.slots) ∧ Q v T'.heap L ∧
      ∀ t, Steps p.tables e below (T'.setTop { g with pc := g.pc + 3, stack := v.toList ++ rest }) t → Steps p.tables e below (T.setTop g) t := by
  obtain ⟨v, _, ⟨U, Ls, k, n⟩, -, X', ⟨Lc, hQ, l1, y1, z1⟩, st⟩ := X.specialBack hx (y := y) hy1 hown (mvT hZ w1) (mvT hZ w2) (mvT hZ w4) hy (backOf (W := W) hM hZ w4 w3 hf hl) hg hsize (Steps.refl _) (a := a) (argsL := argsL) (rest := rest) hlen hstack hW hdg (fun _ _ => ⟨rfl, eT, hc, hsl⟩)
  dsimp only [Pt.U, Pt.locs, Pt.cells, Pt.slots] at X' l1 y1 z1 st hQ
  subst l1 y1 z1
  exact ⟨v, U, Lc, X', hQ, fun t k => st.trans k⟩
/-- an instance method's call by its contract -/
theorem own_callV (X : Stand p l e R s m args below meth c T locs cells slots) (hx : p.tables.exec = Jvm.exec) (hZ : Z.Warmed39 s.vm) {own C : String} {index : Nat} {y : MethodName} {bytes : ByteArray} {maxL : Nat} {ret : Option FieldType} (hown : s.vm.findClass own = some m.cls)
    (w1 : (Cond.methodLink own index y).before a0 Z = true) (w2 : (Cond.declares y).before a0 Z = true) (w5 : (Cond.selects C y y).before a0 Z = true) (w6 : (Cond.instanceMethod y).before a0 Z = true) (w3 : (Cond.initialized y.cls).before a0 Z = true) (w4 : (Cond.code y bytes maxL ret).before a0 Z = true) (hy : y.cls ≠ "java/lang/invoke/MethodHandle" ∧ y.cls ≠ "java/lang/invoke/VarHandle")
    {rm : Room} {a : Addr} {argsL : List Value} {Q : Option Value → Heap → List Loc → Prop}
    (hM : MetFree l y (head1 [Cond.code y bytes maxL ret] rm) (fun b U => b = (.ref a :: argsL).toArray ∧ Z.Warmed39 U.vm ∧ U.heap = h) (fun _ _ _ _ _ => True) (fun _ U o U' => ∃ v L, o = .returned v ∧ Q v U'.heap L ∧ FrameEnd U o U' L rm.cells rm.slots))
    (eT : T.heap = h) (E : Exa Z h a C) {W : Nat} (hf : rm.frames + 1 ≤ R.frames) (hl : W + (maxL + 11) + rm.locals ≤ R.locals) (hc : cells + rm.cells ≤ R.cells) (hsl : slots + rm.slots ≤ R.slots)
    {g : JFrame} (hg : g.method = m) (hsize : g.locals.size = c.maxLocals) {rest : List Value} (hlen : ∀ sig, parseMethodDescriptor y.desc = some sig → argsL.length = sig.parameters.length)
    (hstack : g.stack = argsL.reverse ++ .ref a :: rest) (hW : 2 * g.monitorRoom + (rest.map fun v => v.category).sum ≤ W) (hdg : decode c.code g.pc = .ok (.invokevirtual index, 3)) :
    ∃ (v : Option Value) (T' : State) (L : List Loc), Stand p l e R s m args below meth c T' (locs ++ L) (cells + rm.cells) (slots + rm.slots) ∧ Q v T'.heap L ∧
      ∀ t, Steps p.tables e below (T'.setTop { g with pc := g.pc + 3, stack := v.toList ++ rest }) t → Steps p.tables e below (T.setTop g) t := by
  obtain ⟨cB, kB, qa, qb, qc⟩ := isOf hZ eT E
  obtain ⟨v, _, ⟨U, Ls, k, n⟩, -, X', ⟨Lc, hQ, l1, y1, z1⟩, st⟩ := X.virtualBack hx (y := y) (z := y) hown (mvT hZ w1) (mvT hZ w2) (notFace_of_selects (args := #[]) (mvT hZ w5)) (mvT hZ w5) (mvT hZ w6) hy (backOf (W := W) hM hZ w4 w3 hf hl) qa qc hg hsize (Steps.refl _) (argsL := argsL) (rest := rest) hlen hstack hW hdg (fun _ _ => ⟨rfl, eT, hc, hsl⟩)
  dsimp only [Pt.U, Pt.locs, Pt.cells, Pt.slots] at X' l1 y1 z1 st hQ
  subst l1 y1 z1
  exact ⟨v, U, Lc, X', hQ, fun t k => st.trans k⟩
/-- an interface method's call by its contract -/
theorem own_callI (X : Stand p l e R s m args below meth c T locs cells slots) (hx : p.tables.exec = Jvm.exec) (hZ : Z.Warmed39 s.vm) {own C : String} {index count : Nat} {xi z : MethodName} {bytes : ByteArray} {maxL : Nat} {ret : Option FieldType} (hown : s.vm.findClass own = some m.cls)
    (w1 : (Cond.methodLink own index xi).before a0 Z = true) (w2 : (Cond.declares xi).before a0 Z = true) (w7 : (Cond.interfaceMethod xi.cls xi.cls xi.name xi.desc).before a0 Z = true) (w5 : (Cond.selects C xi z).before a0 Z = true) (w6 : (Cond.instanceMethod z).before a0 Z = true) (w8 : (Cond.publicMethod z).before a0 Z = true) (w9 : (Cond.unhidden C xi.name xi.desc).before a0 Z = true) (w10 : (Cond.castable C xi.cls).before a0 Z = true)
    (hfa : ((Cond.interfaceMethod xi.cls xi.cls xi.name xi.desc).onTables && (Cond.interfaceMethod xi.cls xi.cls xi.name xi.desc).keepsFace) = true) (w3 : (Cond.initialized z.cls).before a0 Z = true) (w4 : (Cond.code z bytes maxL ret).before a0 Z = true) (hy : xi.cls ≠ "java/lang/invoke/MethodHandle" ∧ xi.cls ≠ "java/lang/invoke/VarHandle")
    {rm : Room} {a : Addr} {argsL : List Value} {Q : Option Value → Heap → List Loc → Prop}
    (hM : MetFree l z (head1 [Cond.code z bytes maxL ret] rm) (fun b U => b = (.ref a :: argsL).toArray ∧ Z.Warmed39 U.vm ∧ U.heap = h) (fun _ _ _ _ _ => True) (fun _ U o U' => ∃ v L, o = .returned v ∧ Q v U'.heap L ∧ FrameEnd U o U' L rm.cells rm.slots))
    (eT : T.heap = h) (E : Exa Z h a C) {W : Nat} (hf : rm.frames + 1 ≤ R.frames) (hl : W + (maxL + 11) + rm.locals ≤ R.locals) (hc : cells + rm.cells ≤ R.cells) (hsl : slots + rm.slots ≤ R.slots)
    {g : JFrame} (hg : g.method = m) (hsize : g.locals.size = c.maxLocals) {rest : List Value} (hlen : ∀ sig, parseMethodDescriptor xi.desc = some sig → argsL.length = sig.parameters.length)
    (hstack : g.stack = argsL.reverse ++ .ref a :: rest) (hW : 2 * g.monitorRoom + (rest.map fun v => v.category).sum ≤ W) (hdg : decode c.code g.pc = .ok (.invokeinterface index count, 5)) :
    ∃ (v : Option Value) (T' : State) (L : List Loc), Stand p l e R s m args below meth c T' (locs ++ L) (cells + rm.cells) (slots + rm.slots) ∧ Q v T'.heap L ∧
      ∀ t, Steps p.tables e below (T'.setTop { g with pc := g.pc + 5, stack := v.toList ++ rest }) t → Steps p.tables e below (T.setTop g) t := by
  obtain ⟨cB, kB, qa, qb, qc⟩ := isOf hZ eT E
  obtain ⟨v, _, ⟨U, Ls, k, n⟩, -, X', ⟨Lc, hQ, l1, y1, z1⟩, st⟩ := X.interfaceBack hx (xi := xi) (y := z) hown (mvT hZ w1) (mvT hZ w2) (mvT hZ w7 hfa) (mvT hZ w5) (mvT hZ w6) (mvT hZ w8) (mvT hZ w9) (mvT hZ w10) hy (backOf (W := W) hM hZ w4 w3 hf hl) qa qb qc hg hsize (Steps.refl _) (argsL := argsL) (rest := rest) hlen hstack hW hdg (fun _ _ => ⟨rfl, eT, hc, hsl⟩)
  dsimp only [Pt.U, Pt.locs, Pt.cells, Pt.slots] at X' l1 y1 z1 st hQ
  subst l1 y1 z1
  exact ⟨v, U, Lc, X', hQ, fun t k => st.trans k⟩
/-- an array: of n places, place j holds f j -/
def OA (Z : State) (h : Heap) (a : Addr) (ty : FieldType) (n : Nat) (f : Nat → Value) : Prop :=
  ∃ c : Cell, Arr Z h a c ty ∧ c.slots.size = n ∧ n < 2 ^ 31 ∧ ∀ j, j < n → c.slots[j]? = some (f j) ∧ fits ty (f j) = true
variable {a b : Addr} {ty : FieldType} {n k sl : Nat} {f f' : Nat → Value} {v w : Value} {j : Int32} {ws : List Addr}
theorem OA.ext (A : OA Z h a ty n f) (E : Ext h h') : OA Z h' a ty n f := by obtain ⟨c, A, r⟩ := A; exact ⟨c, A.ext E, r⟩
theorem OA.other (A : OA Z h b ty n f) (W : Wr h h' a sl v) (q : b ≠ a) : OA Z h' b ty n f := by obtain ⟨c, A, r⟩ := A; exact ⟨c, A.other W q, r⟩
theorem OA.keep (A : OA Z h a ty n f) (K : Keep h h' ws) (q : a ∉ ws) : OA Z h' a ty n f := by obtain ⟨c, A, r⟩ := A; exact ⟨c, ⟨K.2.1 a c A.1 q, A.2⟩, r⟩
theorem OA.lt (A : OA Z h a ty n f) : a < h.size := by obtain ⟨c, A, -⟩ := A; exact A.lt
theorem OA.congr (A : OA Z h a ty n f) (q : ∀ j, j < n → f j = f' j) : OA Z h a ty n f' := by
  obtain ⟨c, A, r1, r2, H⟩ := A
  exact ⟨c, A, r1, r2, fun j hj => by rw [← q j hj]; exact H j hj⟩
theorem OA.new {cA : ClassId} {z : Int32} (A : Arr Z h a (newA cA ty z) ty) (hf : fits ty (defaultValue ty) = true) (e : z.toNatClampNeg = n) : OA Z h a ty n (fun _ => defaultValue ty) := by
  refine ⟨_, A, by rw [sz_new]; exact e, ?_, fun j hj => ⟨?_, hf⟩⟩
  · have := z.toInt_lt
    have h2 : z.toNatClampNeg = z.toInt.toNat := rfl
    omega
  · simp [newA, e, hj]
theorem OA.set (A : OA Z h a ty n f) (W : Wr h h' a j.toNatClampNeg v) (e : j.toNatClampNeg = k) (hv : fits ty v = true) : OA Z h' a ty n (fun i => if i = k then v else f i) := by
  obtain ⟨c, A, r1, r2, H⟩ := A
  refine ⟨_, A.same W, by rw [sz_set]; exact r1, r2, fun i hi => ?_⟩
  obtain ⟨H1, H2⟩ := H i hi
  subst e
  by_cases q : i = j.toNatClampNeg
  · subst q
    dsimp only
    rw [if_pos rfl]
    exact ⟨by simp [Cell.setSlot, r1, hi], hv⟩
  · dsimp only
    rw [if_neg q]
    refine ⟨?_, H2⟩
    rw [← H1]
    simp [Cell.setSlot, Array.getElem?_setIfInBounds, Ne.symm q]
theorem OA.at (A : OA Z h a ty n f) (hj : ¬ j < 0) (e : j.toNatClampNeg = k) (hk : k < n) : ∃ c : Cell, Arr Z h a c ty ∧ ¬ (j < 0 ∨ c.slots.size ≤ j.toNatClampNeg) ∧ c.slots[j.toNatClampNeg]? = some (f k) ∧ fits ty (f k) = true := by
  obtain ⟨c, A, r1, r2, H⟩ := A
  obtain ⟨H1, H2⟩ := H k hk
  refine ⟨c, A, ?_, by rw [e]; exact H1, H2⟩
  rintro (q | q)
  · exact hj q
  · omega
theorem OA.fits (A : OA Z h a ty n f) (hk : k < n) : fits ty (f k) = true := by
  obtain ⟨c, A, r1, r2, H⟩ := A
  exact (H k hk).2
theorem own_alen (X : Stand p l e R s m args below meth c T locs cells slots) (hx : p.tables.exec = Jvm.exec) (hZ : Z.Warmed39 s.vm) (eT : T.heap = h) (A : OA Z h a ty n f) {z : Int32} (hz : z = n.toInt32)
    {g : JFrame} (hg : g.method = m) {rest : List Value} (hs : g.stack = .ref a :: rest) (hd : decode c.code g.pc = .ok (.arraylength, 1)) :
    ∀ t, Steps p.tables e below (T.setTop { g with pc := g.pc + 1, stack := .int z :: rest }) t → Steps p.tables e below (T.setTop g) t := by
  obtain ⟨cl, A, r1, r2, H⟩ := A
  intro t k
  refine X.arraylength hx (by rw [eT]; exact A.1) (State.isArrayOf_alike hZ.alike A.2.1) hg hs hd t ?_
  rw [r1, ← hz]
  exact k
theorem own_iaload (X : Stand p l e R s m args below meth c T locs cells slots) (hx : p.tables.exec = Jvm.exec) (hZ : Z.Warmed39 s.vm) (eT : T.heap = h) (A : OA Z h a .int n f) (hj : ¬ j < 0) (ek : j.toNatClampNeg = k) (hk : k < n) (hv : f k = v)
    {g : JFrame} (hg : g.method = m) {rest : List Value} (hs : g.stack = .int j :: .ref a :: rest) (hd : decode c.code g.pc = .ok (.iaload, 1)) :
    ∀ t, Steps p.tables e below (T.setTop { g with pc := g.pc + 1, stack := v :: rest }) t → Steps p.tables e below (T.setTop g) t := by
  obtain ⟨cl, A, q1, q2, q3⟩ := A.at hj ek hk
  subst hv
  exact fun t k => X.iaload hx (by rw [eT]; exact A.1) (State.isArrayOf_alike hZ.alike A.2.1) A.2.2 q1 q2 hg hs hd t k
theorem own_laload (X : Stand p l e R s m args below meth c T locs cells slots) (hx : p.tables.exec = Jvm.exec) (hZ : Z.Warmed39 s.vm) (eT : T.heap = h) (A : OA Z h a .long n f) (hj : ¬ j < 0) (ek : j.toNatClampNeg = k) (hk : k < n) (hv : f k = v)
    {g : JFrame} (hg : g.method = m) {rest : List Value} (hs : g.stack = .int j :: .ref a :: rest) (hd : decode c.code g.pc = .ok (.laload, 1)) :
    ∀ t, Steps p.tables e below (T.setTop { g with pc := g.pc + 1, stack := v :: rest }) t → Steps p.tables e below (T.setTop g) t := by
  obtain ⟨cl, A, q1, q2, q3⟩ := A.at hj ek hk
  subst hv
  exact fun t k => X.laload hx (by rw [eT]; exact A.1) (State.isArrayOf_alike hZ.alike A.2.1) A.2.2 q1 q2 hg hs hd t k
theorem own_caload (X : Stand p l e R s m args below meth c T locs cells slots) (hx : p.tables.exec = Jvm.exec) (hZ : Z.Warmed39 s.vm) (eT : T.heap = h) (A : OA Z h a .char n f) (hj : ¬ j < 0) (ek : j.toNatClampNeg = k) (hk : k < n) (hv : f k = v)
    {g : JFrame} (hg : g.method = m) {rest : List Value} (hs : g.stack = .int j :: .ref a :: rest) (hd : decode c.code g.pc = .ok (.caload, 1)) :
    ∀ t, Steps p.tables e below (T.setTop { g with pc := g.pc + 1, stack := v :: rest }) t → Steps p.tables e below (T.setTop g) t := by
  obtain ⟨cl, A, q1, q2, q3⟩ := A.at hj ek hk
  subst hv
  exact fun t k => X.caload hx (by rw [eT]; exact A.1) (State.isArrayOf_alike hZ.alike A.2.1) A.2.2 q1 q2 hg hs hd t k
theorem own_baload (X : Stand p l e R s m args below meth c T locs cells slots) (hx : p.tables.exec = Jvm.exec) (hZ : Z.Warmed39 s.vm) (eT : T.heap = h) (A : OA Z h a .byte n f) (hj : ¬ j < 0) (ek : j.toNatClampNeg = k) (hk : k < n) (hv : f k = v)
    {g : JFrame} (hg : g.method = m) {rest : List Value} (hs : g.stack = .int j :: .ref a :: rest) (hd : decode c.code g.pc = .ok (.baload, 1)) :
    ∀ t, Steps p.tables e below (T.setTop { g with pc := g.pc + 1, stack := v :: rest }) t → Steps p.tables e below (T.setTop g) t := by
  obtain ⟨cl, A, q1, q2, q3⟩ := A.at hj ek hk
  subst hv
  exact fun t k => X.baloadBytes hx (by rw [eT]; exact A.1) (State.isArrayOf_alike hZ.alike A.2.1) A.2.2 q1 q2 hg hs hd t k
theorem own_aaload (X : Stand p l e R s m args below meth c T locs cells slots) (hx : p.tables.exec = Jvm.exec) (hZ : Z.Warmed39 s.vm) (eT : T.heap = h) (A : OA Z h a ty n f) (hty : ty.isReference = true) (hj : ¬ j < 0) (ek : j.toNatClampNeg = k) (hk : k < n) (hv : f k = v)
    {g : JFrame} (hg : g.method = m) {rest : List Value} (hs : g.stack = .int j :: .ref a :: rest) (hd : decode c.code g.pc = .ok (.aaload, 1)) :
    ∀ t, Steps p.tables e below (T.setTop { g with pc := g.pc + 1, stack := v :: rest }) t → Steps p.tables e below (T.setTop g) t := by
  obtain ⟨cl, A, q1, q2, q3⟩ := A.at hj ek hk
  subst hv
  exact fun t k => X.aaload hx (by rw [eT]; exact A.1) (State.isArrayOf_alike hZ.alike A.2.1) hty A.2.2 q1 q2 hg hs hd t k
/-- stores: the new heap, the array's new values -/
theorem own_stI (X : Stand p l e R s m args below meth c T locs cells slots) (hx : p.tables.exec = Jvm.exec) (hZ : Z.Warmed39 s.vm) (eT : T.heap = h) (A : OA Z h a .int n f) {x : Int32} (hj : ¬ j < 0) (ek : j.toNatClampNeg = k) (hk : k < n)
    {g : JFrame} (hg : g.method = m) {rest : List Value} (hs : g.stack = .int x :: .int j :: .ref a :: rest) (hd : decode c.code g.pc = .ok (.iastore, 1)) :
    ∃ T' h', Stand p l e R s m args below meth c T' (locs ++ [⟨a, j.toNatClampNeg⟩]) cells slots ∧ T'.heap = h' ∧ Wr h h' a j.toNatClampNeg (.int x) ∧ OA Z h' a .int n (fun i => if i = k then .int x else f i) ∧
      ∀ t, Steps p.tables e below (T'.setTop { g with pc := g.pc + 1, stack := rest }) t → Steps p.tables e below (T.setTop g) t := by
  obtain ⟨cl, A', q1, q2, q3⟩ := A.at hj ek hk
  obtain ⟨T', h', X', e', W', st⟩ := stI X hx hZ eT A' q1 hg hs hd
  exact ⟨T', h', X', e', W', A.set W' ek rfl, st⟩
theorem own_stJ (X : Stand p l e R s m args below meth c T locs cells slots) (hx : p.tables.exec = Jvm.exec) (hZ : Z.Warmed39 s.vm) (eT : T.heap = h) (A : OA Z h a .long n f) {x : Int64} (hj : ¬ j < 0) (ek : j.toNatClampNeg = k) (hk : k < n)
    {g : JFrame} (hg : g.method = m) {rest : List Value} (hs : g.stack = .long x :: .int j :: .ref a :: rest) (hd : decode c.code g.pc = .ok (.lastore, 1)) :
    ∃ T' h', Stand p l e R s m args below meth c T' (locs ++ [⟨a, j.toNatClampNeg⟩]) cells slots ∧ T'.heap = h' ∧ Wr h h' a j.toNatClampNeg (.long x) ∧ OA Z h' a .long n (fun i => if i = k then .long x else f i) ∧
      ∀ t, Steps p.tables e below (T'.setTop { g with pc := g.pc + 1, stack := rest }) t → Steps p.tables e below (T.setTop g) t := by
  obtain ⟨cl, A', q1, q2, q3⟩ := A.at hj ek hk
  obtain ⟨T', h', X', e', W', st⟩ := stJ X hx hZ eT A' q1 hg hs hd
  exact ⟨T', h', X', e', W', A.set W' ek rfl, st⟩
theorem own_stB (X : Stand p l e R s m args below meth c T locs cells slots) (hx : p.tables.exec = Jvm.exec) (hZ : Z.Warmed39 s.vm) (eT : T.heap = h) (A : OA Z h a .byte n f) {x : Int32} (hj : ¬ j < 0) (ek : j.toNatClampNeg = k) (hk : k < n)
    {g : JFrame} (hg : g.method = m) {rest : List Value} (hs : g.stack = .int x :: .int j :: .ref a :: rest) (hd : decode c.code g.pc = .ok (.bastore, 1)) :
    ∃ T' h', Stand p l e R s m args below meth c T' (locs ++ [⟨a, j.toNatClampNeg⟩]) cells slots ∧ T'.heap = h' ∧ Wr h h' a j.toNatClampNeg (.int (nar .byte x)) ∧ OA Z h' a .byte n (fun i => if i = k then .int (nar .byte x) else f i) ∧
      ∀ t, Steps p.tables e below (T'.setTop { g with pc := g.pc + 1, stack := rest }) t → Steps p.tables e below (T.setTop g) t := by
  obtain ⟨cl, A', q1, q2, q3⟩ := A.at hj ek hk
  obtain ⟨T', h', X', e', W', st⟩ := stB X hx hZ eT A' q1 hg hs hd
  exact ⟨T', h', X', e', W', A.set W' ek (fits_nar_byte _), st⟩
theorem own_stC (X : Stand p l e R s m args below meth c T locs cells slots) (hx : p.tables.exec = Jvm.exec) (hZ : Z.Warmed39 s.vm) (eT : T.heap = h) (A : OA Z h a .char n f) {x : Int32} (hj : ¬ j < 0) (ek : j.toNatClampNeg = k) (hk : k < n)
    {g : JFrame} (hg : g.method = m) {rest : List Value} (hs : g.stack = .int x :: .int j :: .ref a :: rest) (hd : decode c.code g.pc = .ok (.castore, 1)) :
    ∃ T' h', Stand p l e R s m args below meth c T' (locs ++ [⟨a, j.toNatClampNeg⟩]) cells slots ∧ T'.heap = h' ∧ Wr h h' a j.toNatClampNeg (.int (nar .char x)) ∧ OA Z h' a .char n (fun i => if i = k then .int (nar .char x) else f i) ∧
      ∀ t, Steps p.tables e below (T'.setTop { g with pc := g.pc + 1, stack := rest }) t → Steps p.tables e below (T.setTop g) t := by
  obtain ⟨cl, A', q1, q2, q3⟩ := A.at hj ek hk
  obtain ⟨T', h', X', e', W', st⟩ := stC X hx hZ eT A' q1 hg hs hd
  exact ⟨T', h', X', e', W', A.set W' ek (fits_nar_char _), st⟩
theorem own_newP (X : Stand p l e R s m args below meth c T locs cells slots) (hx : p.tables.exec = Jvm.exec) (hZ : Z.Warmed39 s.vm) {aty : ArrayType} (w : (Cond.arrayClass (newarray.typeOf aty)).before a0 Z = true) (eT : T.heap = h) {z : Int32} (hz : ¬ z < 0) (en : z.toNatClampNeg = n) {cap : Nat} (hcap : n ≤ cap) (hb : cap * 8 ≤ 536870912) (hc : cells + 1 ≤ R.cells) (hl : slots + cap ≤ R.slots)
    {g : JFrame} (hg : g.method = m) {rest : List Value} (hs : g.stack = .int z :: rest) (hd : decode c.code g.pc = .ok (.newarray aty, 2)) :
    ∃ T' h', Stand p l e R s m args below meth c T' locs (cells + 1) (slots + cap) ∧ T'.heap = h' ∧ Ext h h' ∧ OA Z h' h.size (newarray.typeOf aty) n (fun _ => defaultValue (newarray.typeOf aty)) ∧
      ∀ t, Steps p.tables e below (T'.setTop { g with pc := g.pc + 2, stack := .ref h.size :: rest }) t → Steps p.tables e below (T.setTop g) t := by
  obtain ⟨T', h', cA, X', e', E', A', st⟩ := newP X hx hZ w eT hg hd hs hz (cap := cap) (en ▸ hcap) hb hc hl
  exact ⟨T', h', X', e', E', OA.new A' (by cases aty <;> rfl) en, st⟩
theorem OA.arv (A : OA Z h a ty n f) (d : Value) : ∃ k, Arv Z h a k ty (Int32.ofNat n) ((List.range n).map f) d := by
  obtain ⟨c, A, r1, r2, H⟩ := A
  have q : ∀ i, i < n → ((List.range n).map f).getD i d = f i := fun i hi => by simp [hi]
  exact ⟨c.cls, c, A, rfl, by rw [own_clamp n r2]; exact r1, own_nneg n r2, fun i hi => by rw [q i (by omega)]; exact (H i (by omega)).1, fun i hi => by rw [q i (by omega)]; exact (H i (by omega)).2⟩
theorem OA.of_arv {k : ClassId} {vs : List Value} {d : Value} {z : Int32} (A : Arv Z h a k ty z vs d) (e : z.toNatClampNeg = n) (q : ∀ i, i < n → vs.getD i d = f i) : OA Z h a ty n f := by
  obtain ⟨c, A, r1, r2, r3, H, G⟩ := A
  refine ⟨c, A, by omega, ?_, fun i hi => ?_⟩
  · have := z.toInt_lt
    have h2 : z.toNatClampNeg = z.toInt.toNat := rfl
    omega
  · rw [← q i hi]
    exact ⟨H i (by omega), G i (by omega)⟩
theorem own_spliced (vd us : List Value) (d : Value) (dp m : Nat) (hu : us.length = m) (hl : dp + m ≤ vd.length) (i : Nat) : (vd.take dp ++ us ++ vd.drop (dp + m)).getD i d = if dp ≤ i ∧ i < dp + m then us.getD (i - dp) d else vd.getD i d := by
  have h1 : (vd.take dp).length = dp := by rw [List.length_take]; omega
  by_cases c1 : i < dp
  · rw [if_neg (by omega)]
    simp only [List.getD_eq_getElem?_getD]
    rw [List.append_assoc, List.getElem?_append_left (by omega), List.getElem?_take_of_lt c1]
  · by_cases c2 : i < dp + m
    · rw [if_pos ⟨by omega, c2⟩]
      simp only [List.getD_eq_getElem?_getD]
      rw [List.append_assoc, List.getElem?_append_right (by omega), h1, List.getElem?_append_left (by omega)]
    · rw [if_neg (by omega)]
      simp only [List.getD_eq_getElem?_getD]
      rw [List.getElem?_append_right (by rw [List.length_append]; omega), List.getElem?_drop, List.length_append, h1, hu]
      have e : dp + m + (i - (dp + m)) = i := by omega
      rw [e]
/-- System.arraycopy between arrays of one primitive kind -/
theorem own_copy (X : Stand p l e R s m args below meth c T locs cells slots) (hx : p.tables.exec = Jvm.exec) (hZ : Z.Warmed39 s.vm) {own : String} {index : Nat} (hown : s.vm.findClass own = some m.cls)
    (w1 : (Cond.methodLink own index Jvm.Stand.acN).before a0 Z = true) (w2 : (Cond.native Jvm.Stand.acN).before a0 Z = true) (w3 : (Cond.static Jvm.Stand.acN).before a0 Z = true) (w4 : (Cond.initialized "java/lang/System").before a0 Z = true) (eT : T.heap = h)
    {n' sp dp nn : Nat} (A : OA Z h a ty n f) (B : OA Z h b ty n' f') (hty : refKind ty = false) (h1 : sp + nn ≤ n) (h2 : dp + nn ≤ n') {n0 : Nat} (N : Fr n0 locs) (ge : n0 ≤ b)
    {g : JFrame} (hg : g.method = m) (hsize : g.locals.size = c.maxLocals) {rest : List Value} (hs : g.stack = .int (Int32.ofNat nn) :: .int (Int32.ofNat dp) :: .ref b :: .int (Int32.ofNat sp) :: .ref a :: rest) (hd : decode c.code g.pc = .ok (.invokestatic index, 3))
    (hf : 1 ≤ R.frames) {W : Nat} (hW : 2 * g.monitorRoom + (rest.map fun v => v.category).sum ≤ W) (hlo : W + 18 ≤ R.locals) :
    ∃ T' h' L, Stand p l e R s m args below meth c T' L cells slots ∧ T'.heap = h' ∧ Fr n0 L ∧ Keep h h' [b] ∧ OA Z h' b ty n' (fun i => if dp ≤ i ∧ i < dp + nn then f (sp + (i - dp)) else f' i) ∧
      ∀ t, Steps p.tables e below (T'.setTop { g with pc := g.pc + 3, stack := rest }) t → Steps p.tables e below (T.setTop g) t := by
  have hn : n < 2 ^ 31 := by obtain ⟨c, A, r1, r2, H⟩ := A; exact r2
  have hn' : n' < 2 ^ 31 := by obtain ⟨c, A, r1, r2, H⟩ := B; exact r2
  obtain ⟨k, A'⟩ := A.arv (.int 0)
  obtain ⟨k', B'⟩ := B.arv (.int 0)
  have c1 := own_clamp sp (by omega)
  have c2 := own_clamp dp (by omega)
  have c3 := own_clamp nn (by omega)
  obtain ⟨T', h', L, X', e', N', K', A2, st⟩ := cpA X hx hZ hown w1 w2 w3 w4 eT A' B' (Or.inl ⟨rfl, hty⟩) (own_nneg sp (by omega)) (own_nneg dp (by omega)) (own_nneg nn (by omega)) (by rw [c1, c3, own_clamp n hn]; exact h1) (by rw [c2, c3, own_clamp n' hn']; exact h2) rfl (by rw [c2, c3]; simpa using h2) N ge hg hsize hs hd hf hW hlo
  refine ⟨T', h', L, X', e', N', K', OA.of_arv A2 (own_clamp n' hn') (fun i hi => ?_), st⟩
  rw [c1, c2, c3, own_spliced _ _ _ _ _ (by simp) (by simpa using h2)]
  by_cases q : dp ≤ i ∧ i < dp + nn
  · rw [if_pos q, if_pos q]
    have q3 : i - dp < nn := by omega
    have q4 : sp + (i - dp) < n := by omega
    simp [q3, q4]
  · rw [if_neg q, if_neg q]
    simp [hi]
/-- an array of references of class C: of n places, place j holds f j -/
def OR (Z : State) (h : Heap) (a : Addr) (C : String) (n : Nat) (f : Nat → Value) : Prop :=
  ∃ c : Cell, Arr Z h a c (.object C) ∧ Ovr Z c.cls C ∧ c.slots.size = n ∧ n < 2 ^ 31 ∧ ∀ j, j < n → c.slots[j]? = some (f j) ∧ (f j).isRef = true
variable {C : String}
theorem OR.ext (A : OR Z h a C n f) (E : Ext h h') : OR Z h' a C n f := by obtain ⟨c, A, r⟩ := A; exact ⟨c, A.ext E, r⟩
theorem OR.other (A : OR Z h b C n f) (W : Wr h h' a sl v) (q : b ≠ a) : OR Z h' b C n f := by obtain ⟨c, A, r⟩ := A; exact ⟨c, A.other W q, r⟩
theorem OR.keep (A : OR Z h a C n f) (K : Keep h h' ws) (q : a ∉ ws) : OR Z h' a C n f := by obtain ⟨c, A, r⟩ := A; exact ⟨c, ⟨K.2.1 a c A.1 q, A.2⟩, r⟩
theorem OR.lt (A : OR Z h a C n f) : a < h.size := by obtain ⟨c, A, -⟩ := A; exact A.lt
theorem OR.congr (A : OR Z h a C n f) (q : ∀ j, j < n → f j = f' j) : OR Z h a C n f' := by
  obtain ⟨c, A, o, r1, r2, H⟩ := A
  exact ⟨c, A, o, r1, r2, fun j hj => by rw [← q j hj]; exact H j hj⟩
theorem own_newR (X : Stand p l e R s m args below meth c T locs cells slots) (hx : p.tables.exec = Jvm.exec) (hZ : Z.Warmed39 s.vm) {own : String} {index : Nat} (hown : s.vm.findClass own = some m.cls) (w1 : (Cond.classLink own index C).before a0 Z = true) (w2 : (Cond.arrayOver (.object C)).before a0 Z = true) (eT : T.heap = h) {z : Int32} (hz : ¬ z < 0) (en : z.toNatClampNeg = n) {cap : Nat} (hcap : n ≤ cap) (hb : cap * 8 ≤ 536870912) (hc : cells + 1 ≤ R.cells) (hl : slots + cap ≤ R.slots)
    {g : JFrame} (hg : g.method = m) {rest : List Value} (hs : g.stack = .int z :: rest) (hd : decode c.code g.pc = .ok (.anewarray index, 3)) :
    ∃ T' h', Stand p l e R s m args below meth c T' locs (cells + 1) (slots + cap) ∧ T'.heap = h' ∧ Ext h h' ∧ OR Z h' h.size C n (fun _ => .null) ∧
      ∀ t, Steps p.tables e below (T'.setTop { g with pc := g.pc + 3, stack := .ref h.size :: rest }) t → Steps p.tables e below (T.setTop g) t := by
  obtain ⟨T', h', cA, X', e', E', A', O', st⟩ := newR X hx hZ hown w1 w2 eT hg hd hs hz (cap := cap) (en ▸ hcap) hb hc hl
  refine ⟨T', h', X', e', E', ⟨_, A', O', by rw [sz_new]; exact en, ?_, fun j hj => ⟨?_, rfl⟩⟩, st⟩
  · have := z.toInt_lt
    have h2 : z.toNatClampNeg = z.toInt.toNat := rfl
    omega
  · simp [newA, en, hj, defaultValue]
theorem own_stR (X : Stand p l e R s m args below meth c T locs cells slots) (hx : p.tables.exec = Jvm.exec) (hZ : Z.Warmed39 s.vm) (eT : T.heap = h) (A : OR Z h a C n f) {y : Addr} (I : Ins Z h y C true) (hj : ¬ j < 0) (ek : j.toNatClampNeg = k) (hk : k < n)
    {g : JFrame} (hg : g.method = m) {rest : List Value} (hs : g.stack = .ref y :: .int j :: .ref a :: rest) (hd : decode c.code g.pc = .ok (.aastore, 1)) :
    ∃ T' h', Stand p l e R s m args below meth c T' (locs ++ [⟨a, j.toNatClampNeg⟩]) cells slots ∧ T'.heap = h' ∧ Wr h h' a j.toNatClampNeg (.ref y) ∧ OR Z h' a C n (fun i => if i = k then .ref y else f i) ∧
      ∀ t, Steps p.tables e below (T'.setTop { g with pc := g.pc + 1, stack := rest }) t → Steps p.tables e below (T.setTop g) t := by
  obtain ⟨cl, A', O', r1, r2, H⟩ := A
  have q1 : ¬ (j < 0 ∨ cl.slots.size ≤ j.toNatClampNeg) := by
    rintro (q | q)
    · exact hj q
    · omega
  obtain ⟨T', h', X', e', W', st⟩ := stR X hx hZ eT A' q1 rfl (Sto.of A' O' I) hg hs hd
  refine ⟨T', h', X', e', W', ⟨_, A'.same W', O', by rw [sz_set]; exact r1, r2, fun i hi => ?_⟩, st⟩
  obtain ⟨H1, H2⟩ := H i hi
  subst ek
  by_cases q : i = j.toNatClampNeg
  · subst q
    dsimp only
    rw [if_pos rfl]
    exact ⟨by simp [Cell.setSlot, r1, hi], rfl⟩
  · dsimp only
    rw [if_neg q]
    refine ⟨?_, H2⟩
    rw [← H1]
    simp [Cell.setSlot, Array.getElem?_setIfInBounds, Ne.symm q]
theorem own_raload (X : Stand p l e R s m args below meth c T locs cells slots) (hx : p.tables.exec = Jvm.exec) (hZ : Z.Warmed39 s.vm) (eT : T.heap = h) (A : OR Z h a C n f) (hj : ¬ j < 0) (ek : j.toNatClampNeg = k) (hk : k < n) (hv : f k = v)
    {g : JFrame} (hg : g.method = m) {rest : List Value} (hs : g.stack = .int j :: .ref a :: rest) (hd : decode c.code g.pc = .ok (.aaload, 1)) :
    ∀ t, Steps p.tables e below (T.setTop { g with pc := g.pc + 1, stack := v :: rest }) t → Steps p.tables e below (T.setTop g) t := by
  obtain ⟨cl, A', O', r1, r2, H⟩ := A
  have q1 : ¬ (j < 0 ∨ cl.slots.size ≤ j.toNatClampNeg) := by
    rintro (q | q)
    · exact hj q
    · omega
  subst hv
  exact fun t k' => X.aaload hx (by rw [eT]; exact A'.1) (State.isArrayOf_alike hZ.alike A'.2.1) rfl A'.2.2 q1 (by rw [ek]; exact (H k hk).1) hg hs hd t k'
theorem own_fits_ref {t : FieldType} {w : Value} (ht : t.isReference = true) (hw : w.isRef = true) : fits t w = true := by
  cases w <;> simp [Value.isRef] at hw <;> cases t <;> first | rfl | (simp [FieldType.isReference] at ht)
end OwnLayer
def own_bt (k : Nat) : Int32 := (Int32.ofNat k).toInt8.toInt32
def own_by (u : Bool) (c : Nat → Nat) : Nat → Value := fun j => if u then (if j % 2 = 0 then .int (own_bt (c (j / 2))) else .int (own_bt (c (j / 2) / 256))) else .int (own_bt (c j))
def own_len (u : Bool) (n : Nat) : Nat := if u then 2 * n else n
def own_cd (u : Bool) : Int32 := if u then 1 else 0
theorem own_bt_nar (x : Int32) : nar .byte x.toInt8.toInt32 = x.toInt8.toInt32 := by
  show x.toInt8.toInt32.toInt8.toInt32 = _
  simp
theorem own_bt255 (k : Nat) (h : k < 2 ^ 31) : own_bt k &&& 255 = Int32.ofNat (k % 256) := by
  have h1 := c_mask (own_bt k) 255 8 (by decide) rfl
  have h2 := (c_i2b (Int32.ofNat k)).1
  rw [own_toInt k h] at h2
  refine own_eq (by omega) ?_
  rw [h1]
  show (Int32.ofNat k).toInt8.toInt32.toInt % ((2 ^ 8 : Nat) : Int) = _
  omega
theorem own_i2c (k : Nat) (h : k < 65536) : (Int32.ofNat k).toUInt32.toUInt16.toUInt32.toInt32 = Int32.ofNat k := by
  obtain ⟨h1, h2, h3⟩ := c_i2c (Int32.ofNat k)
  rw [own_toInt k (by omega)] at h1
  exact own_eq (by omega) (by omega)
theorem own_nchar (k : Nat) (h : k < 65536) : narrow .char (.int (Int32.ofNat k)) = .int (Int32.ofNat k) := congrArg Value.int (own_i2c k h)
theorem own_charnar (k : Nat) (h : k < 65536) : nar .char (Int32.ofNat k) = Int32.ofNat k := own_i2c k h
theorem own_char (x : Int32) : ∃ k : Nat, k < 65536 ∧ x.toUInt32.toUInt16.toUInt32.toInt32 = Int32.ofNat k := by
  obtain ⟨h1, h2, h3⟩ := c_i2c x
  exact ⟨x.toUInt32.toUInt16.toUInt32.toInt32.toInt.toNat, by omega, own_eq (by omega) (by omega)⟩
theorem own_shr8 (k : Nat) (h : k < 2 ^ 31) : Int32.ofNat k >>> ((8 : Int32) &&& 31) = Int32.ofNat (k / 256) := by
  have h1 := c_ishr (Int32.ofNat k) 8 8 rfl
  rw [own_toInt k h] at h1
  exact own_eq (by omega) (by rw [h1]; omega)
theorem own_shr0 (k : Nat) (h : k < 2 ^ 31) : Int32.ofNat k >>> ((0 : Int32) &&& 31) = Int32.ofNat k := by
  have h1 := c_ishr (Int32.ofNat k) 0 0 rfl
  rw [own_toInt k h] at h1
  exact own_eq h (by rw [h1]; omega)
theorem own_shr1 (k : Nat) (h : k < 2 ^ 30) : Int32.ofNat (2 * k) >>> ((1 : Int32) &&& 31) = Int32.ofNat k := by
  have h1 := c_ishr (Int32.ofNat (2 * k)) 1 1 rfl
  rw [own_toInt (2 * k) (by omega)] at h1
  exact own_eq (by omega) (by rw [h1]; omega)
theorem own_shl1 (k : Nat) (h : k < 2 ^ 30) : Int32.ofNat k <<< ((1 : Int32) &&& 31) = Int32.ofNat (2 * k) := by
  have h1 := c_ishl (Int32.ofNat k) 1 1 rfl
  have h2 := rng32 (Int32.ofNat k <<< ((1 : Int32) &&& 31))
  rw [own_toInt k (by omega)] at h1
  exact own_eq (by omega) (by omega)
theorem own_shl0 (k : Nat) (h : k < 2 ^ 30) : Int32.ofNat k <<< ((0 : Int32) &&& 31) = Int32.ofNat k := by
  have h1 := c_ishl (Int32.ofNat k) 0 0 rfl
  have h2 := rng32 (Int32.ofNat k <<< ((0 : Int32) &&& 31))
  rw [own_toInt k (by omega)] at h1
  exact own_eq (by omega) (by omega)
theorem own_shl8 (k : Nat) (h : k < 65536) : Int32.ofNat k <<< ((8 : Int32) &&& 31) = Int32.ofNat (256 * k) := by
  have h1 := c_ishl (Int32.ofNat k) 8 8 rfl
  have h2 := rng32 (Int32.ofNat k <<< ((8 : Int32) &&& 31))
  rw [own_toInt k (by omega)] at h1
  exact own_eq (by omega) (by omega)
theorem own_join (c : Nat) (h : c < 65536) : (Int32.ofNat (c % 256) <<< ((0 : Int32) &&& 31)) ||| (Int32.ofNat (c / 256 % 256) <<< ((8 : Int32) &&& 31)) = Int32.ofNat c := by
  rw [own_shl0 _ (by omega), own_shl8 _ (by omega)]
  have h1 := own_toInt (c % 256) (by omega)
  have h2 := own_toInt (256 * (c / 256 % 256)) (by omega)
  have h3 := c_or' (Int32.ofNat (c % 256)) (Int32.ofNat (256 * (c / 256 % 256))) 8 (by decide) 256 rfl (by omega) (by omega) (by omega)
  have h4 := rng32 (Int32.ofNat (c % 256) ||| Int32.ofNat (256 * (c / 256 % 256)))
  exact own_eq (by omega) (by omega)
theorem own_by_lo (c : Nat → Nat) (i : Nat) : own_by true c (2 * i) = .int (own_bt (c i)) := by
  have h1 : 2 * i % 2 = 0 := by omega
  have h2 : 2 * i / 2 = i := by omega
  simp [own_by, h1, h2]
theorem own_by_hi (c : Nat → Nat) (i : Nat) : own_by true c (2 * i + 1) = .int (own_bt (c i / 256)) := by
  have h1 : ¬ (2 * i + 1) % 2 = 0 := by omega
  have h2 : (2 * i + 1) / 2 = i := by omega
  simp [own_by, h1, h2]
theorem own_cd_byte (u : Bool) : narrow .byte (.int (own_cd u)) = .int (own_cd u) ∧ fits .byte (.int (own_cd u)) = true := by cases u <;> exact ⟨rfl, rfl⟩
theorem own_cd0 (n : Nat) : (XT.ushr (Int32.ofNat n - Int32.ofNat n) (31 : Int32)).toInt8.toInt32 = (0 : Int32) := by
  rw [Int32.sub_self]; rfl
theorem own_cd1 (n : Nat) (h0 : 0 < n) (h : n < 2 ^ 30) : (XT.ushr (Int32.ofNat n - Int32.ofNat (2 * n)) (31 : Int32)).toInt8.toInt32 = (1 : Int32) := by
  have h1 := c_iushr (Int32.ofNat n - Int32.ofNat (2 * n)) 31 31 rfl (by decide)
  rw [own_subI n (2 * n) (by omega) (by omega)] at h1
  have h2 : XT.ushr (Int32.ofNat n - Int32.ofNat (2 * n)) (31 : Int32) = Int32.ofNat 1 := by
    refine own_eq (by decide) ?_
    show ((Int32.ofNat n - Int32.ofNat (2 * n)).toUInt32 >>> ((31 : Int32) &&& 31).toUInt32).toInt32.toInt = _
    rw [h1]
    omega
  rw [h2]
  rfl
theorem own_part_next {Z : State} {h : Heap} {b : Addr} {n i : Nat} {c : Nat → Nat} (A : OA Z h b .byte (2 * n) (fun j => if j = 2 * i + 1 then .int (own_bt (c i / 256)) else if j = 2 * i then .int (own_bt (c i)) else if j < 2 * i then own_by true c j else .int 0)) :
    OA Z h b .byte (2 * n) (fun j => if j < 2 * (i + 1) then own_by true c j else .int 0) := A.congr fun j hj => by
  by_cases h1 : j = 2 * i + 1
  · rw [if_pos h1, if_pos (by omega), h1, own_by_hi]
  · by_cases h2 : j = 2 * i
    · rw [if_neg h1, if_pos h2, if_pos (by omega), h2, own_by_lo]
    · by_cases h3 : j < 2 * i
      · rw [if_neg h1, if_neg h2, if_pos h3, if_pos (by omega)]
      · rw [if_neg h1, if_neg h2, if_neg h3, if_neg (by omega)]
theorem own_lat_next {Z : State} {h : Heap} {b : Addr} {n i : Nat} {c : Nat → Nat} {f : Nat → Value} (A : OA Z h b .byte n (fun j => if j = i then .int (own_bt (c i)) else if j < i then own_by false c j else f j)) :
    OA Z h b .byte n (fun j => if j < i + 1 then own_by false c j else f j) := A.congr fun j hj => by
  by_cases h2 : j = i
  · rw [if_pos h2, if_pos (by omega), h2]; rfl
  · by_cases h3 : j < i
    · rw [if_neg h2, if_pos h3, if_pos (by omega)]
    · rw [if_neg h2, if_neg h3, if_neg (by omega)]
def own_ST (Z : State) (cs : Int32) (fm : Value) : Prop := Sta Z Z.heap "java/lang/String" "COMPACT_STRINGS" "Z" (.int cs) ∧ cs ≠ 0 ∧ Sta Z Z.heap "jdk/internal/util/Preconditions" "SIOOBE_FORMATTER" "Ljava/util/function/BiFunction;" fm ∧ fm.isRef = true ∧ True
section OwnCold
variable {p : Program} {l : Launch} {e : Env} {R : Room} {s : State} {m : MethodId} {args : Array Value} {below : List Frame} {meth : Method} {c : Code} {T : State} {locs : List Loc} {cells slots : Nat} {Z : State} {a0 : Array Value} {h h' : Heap} {EL : List (String × Nat)} {vm0 : Vm}
/-- as Goes, for a walk that may load String constants -/
def GoesW (p : Program) (e : Env) (below : List Frame) (s : State) (rc rs : Nat) (Z : State) (EL : List (String × Nat)) (Q : Option Value → Heap → List Loc → Prop) (U : State) : Prop :=
  ∃ t o, Steps p.tables e below U t ∧ t.status = .running ∧ Ended t below o ∧ ∃ v L, o = .returned v ∧ Q v t.heap L ∧ CHr Z EL s.vm s.heap t.vm t.heap ∧ ReturnedEndW s o t L rc rs
theorem GoesW.step {rc rs : Nat} {Q : Option Value → Heap → List Loc → Prop} {U V : State} (st : ∀ t, Steps p.tables e below V t → Steps p.tables e below U t) (k : GoesW p e below s rc rs Z EL Q V) : GoesW p e below s rc rs Z EL Q U := by
  obtain ⟨t, o, k1, k2⟩ := k
  exact ⟨t, o, st t k1, k2⟩
/-- what such a walk keeps beside its Stand over s.setVm vm0 -/
def Cold (Z : State) (EL : List (String × Nat)) (s : State) (vm0 : Vm) (h : Heap) : Prop := (∃ k0, s.Since vm0 k0 ∧ k0 ≤ h.size) ∧ CHr Z EL s.vm s.heap vm0 h
theorem Cold.start (H : CHv Z EL s.vm s.heap) : Cold Z EL s s.vm s.heap := ⟨⟨0, (State.WarmedH.refl s).since 0, Nat.zero_le _⟩, CHr.refl H⟩
theorem Cold.ext (C : Cold Z EL s vm0 h) (E : Ext h h') : Cold Z EL s vm0 h' := by
  obtain ⟨⟨k0, hS, hk⟩, C⟩ := C
  exact ⟨⟨k0, hS, Nat.le_trans hk E.1⟩, C.trans (CHr.ext E C.1)⟩
theorem Cold.wr {a : Addr} {sl : Nat} {v : Value} (C : Cold Z EL s vm0 h) (W : Wr h h' a sl v) (S : Safe Z EL vm0 h a) : Cold Z EL s vm0 h' := by
  obtain ⟨⟨k0, hS, hk⟩, C⟩ := C
  exact ⟨⟨k0, hS, Nat.le_trans hk (Keep.of_wr W).1⟩, C.trans (CHr.wr W S C.1)⟩
theorem Cold.keep {ws : List Addr} (C : Cold Z EL s vm0 h) (K : Keep h h' ws) (hs : ∀ x ∈ ws, Safe Z EL vm0 h x) : Cold Z EL s vm0 h' := by
  obtain ⟨⟨k0, hS, hk⟩, C⟩ := C
  exact ⟨⟨k0, hS, Nat.le_trans hk K.1⟩, C.trans (CHr.keep K hs C.1)⟩
theorem Cold.chv (C : Cold Z EL s vm0 h) : CHv Z EL vm0 h := C.2.1
theorem own_endW {rc rs : Nat} {o : Outcome} {U : State} (C : Cold Z EL s vm0 h) (eU : U.heap = h) (ho : ∃ v, o = .returned v) (hW : (s.setVm vm0).WarmedH U.vm) (hs : (s.setVm vm0).sameButNew ({ U with vm := vm0 } : State) locs cells slots) (hc : cells ≤ rc) (hsl : slots ≤ rs) : ReturnedEndW s o U locs rc rs := by
  obtain ⟨⟨k0, hS, hk⟩, -⟩ := C
  obtain ⟨h1, h2, h3⟩ := hS.ended hW (by rw [eU]; exact hk) hs
  exact ⟨ho, h1, h2, h3.mono hc hsl⟩
theorem GoesW.ret {rc rs : Nat} {Q : Option Value → Heap → List Loc → Prop} (X : Stand p l e R (s.setVm vm0) m args below meth c T locs cells slots) (hx : p.tables.exec = Jvm.exec) (hZ : Z.Warmed39 (s.setVm vm0).vm) (hEL : EW Z a0 EL) (C : Cold Z EL s vm0 h) (eT : T.heap = h) (hlk : meth.locks = false) {pc : Nat} {Ls : Array Slot} {w : Value} {t : FieldType} {i : Instr} {rest : List Value} (hret : meth.sig.returnType = some t) (hn : narrow t w = w)
    (hi : (i = .ireturn ∧ (t = .int ∨ t = .boolean ∨ t = .byte ∨ t = .char ∨ t = .short) ∧ ∃ z, w = .int z) ∨ (i = .lreturn ∧ t = .long ∧ ∃ z, w = .long z) ∨ (i = .dreturn ∧ t = .double ∧ ∃ z, w = .double z) ∨ (i = .freturn ∧ t = .float ∧ ∃ z, w = .float z) ∨ (i = .areturn ∧ t.isReference = true ∧ w.isRef = true))
    (hd : decode c.code pc = .ok (i, 1)) (hc : cells ≤ rc) (hs : slots ≤ rs) (hQ : Q (some w) T.heap locs) : GoesW p e below s rc rs Z EL Q (T.setTop (mkF m pc Ls (w :: rest))) := by
  obtain ⟨fs, hr, hrun, hended, hW, hsame⟩ := X.leave (v := some w) (fun h => by rw [hret] at h; cases h) hlk
  refine ⟨_, _, retOut X hx hret hn hi hd hr, hrun, hended, _, _, rfl, hQ, ?_, own_endW C eT ⟨_, rfl⟩ hW hsame hc hs⟩
  show CHr Z EL s.vm s.heap T.vm T.heap
  rw [eT]
  exact C.2.trans (CHv.at X hZ hEL C.2.1)
theorem GoesW.retI {rc rs : Nat} {Q : Option Value → Heap → List Loc → Prop} (X : Stand p l e R (s.setVm vm0) m args below meth c T locs cells slots) (hx : p.tables.exec = Jvm.exec) (hZ : Z.Warmed39 (s.setVm vm0).vm) (hEL : EW Z a0 EL) (C : Cold Z EL s vm0 h) (eT : T.heap = h) (hlk : meth.locks = false) {pc : Nat} {Ls : Array Slot} {z : Int32} {rest : List Value} (hret : meth.sig.returnType = some .int)
    (hd : decode c.code pc = .ok (.ireturn, 1)) (hc : cells ≤ rc) (hs : slots ≤ rs) (hQ : Q (some (.int z)) T.heap locs) : GoesW p e below s rc rs Z EL Q (T.setTop (mkF m pc Ls (.int z :: rest))) :=
  GoesW.ret X hx hZ hEL C eT hlk hret rfl (Or.inl ⟨rfl, Or.inl rfl, _, rfl⟩) hd hc hs hQ
theorem GoesW.retZ {rc rs : Nat} {Q : Option Value → Heap → List Loc → Prop} (X : Stand p l e R (s.setVm vm0) m args below meth c T locs cells slots) (hx : p.tables.exec = Jvm.exec) (hZ : Z.Warmed39 (s.setVm vm0).vm) (hEL : EW Z a0 EL) (C : Cold Z EL s vm0 h) (eT : T.heap = h) (hlk : meth.locks = false) {pc : Nat} {Ls : Array Slot} {z : Int32} {t : FieldType} {rest : List Value} (hret : meth.sig.returnType = some t)
    (ht : t = .boolean ∨ t = .byte ∨ t = .char ∨ t = .short) (hn : narrow t (.int z) = .int z)
    (hd : decode c.code pc = .ok (.ireturn, 1)) (hc : cells ≤ rc) (hs : slots ≤ rs) (hQ : Q (some (.int z)) T.heap locs) : GoesW p e below s rc rs Z EL Q (T.setTop (mkF m pc Ls (.int z :: rest))) :=
  GoesW.ret X hx hZ hEL C eT hlk hret hn (Or.inl ⟨rfl, Or.inr ht, _, rfl⟩) hd hc hs hQ
theorem GoesW.retA {rc rs : Nat} {Q : Option Value → Heap → List Loc → Prop} (X : Stand p l e R (s.setVm vm0) m args below meth c T locs cells slots) (hx : p.tables.exec = Jvm.exec) (hZ : Z.Warmed39 (s.setVm vm0).vm) (hEL : EW Z a0 EL) (C : Cold Z EL s vm0 h) (eT : T.heap = h) (hlk : meth.locks = false) {pc : Nat} {Ls : Array Slot} {w : Value} {t : FieldType} {rest : List Value} (hret : meth.sig.returnType = some t)
    (ht : t.isReference = true) (hw : w.isRef = true)
    (hd : decode c.code pc = .ok (.areturn, 1)) (hc : cells ≤ rc) (hs : slots ≤ rs) (hQ : Q (some w) T.heap locs) : GoesW p e below s rc rs Z EL Q (T.setTop (mkF m pc Ls (w :: rest))) :=
  GoesW.ret X hx hZ hEL C eT hlk hret (own_narrow_ref hw) (Or.inr (Or.inr (Or.inr (Or.inr ⟨rfl, ht, hw⟩)))) hd hc hs hQ
theorem GoesW.retV {rc rs : Nat} {Q : Option Value → Heap → List Loc → Prop} (X : Stand p l e R (s.setVm vm0) m args below meth c T locs cells slots) (hx : p.tables.exec = Jvm.exec) (hZ : Z.Warmed39 (s.setVm vm0).vm) (hEL : EW Z a0 EL) (C : Cold Z EL s vm0 h) (eT : T.heap = h) (hlk : meth.locks = false) {pc : Nat} {Ls : Array Slot} (hret : meth.sig.returnType = none)
    (hd : decode c.code pc = .ok (.return_, 1)) (hc : cells ≤ rc) (hs : slots ≤ rs) (hQ : Q none T.heap locs) : GoesW p e below s rc rs Z EL Q (T.setTop (mkF m pc Ls [])) := by
  obtain ⟨fs, hr, hrun, hended, hW, hsame⟩ := X.leave (v := none) (fun _ => rfl) hlk
  refine ⟨_, _, X.returnOut hx hret hd hr, hrun, hended, _, _, rfl, hQ, ?_, own_endW C eT ⟨_, rfl⟩ hW hsame hc hs⟩
  show CHr Z EL s.vm s.heap T.vm T.heap
  rw [eT]
  exact C.2.trans (CHv.at X hZ hEL C.2.1)
/-- a callee that may load constants and writes old places ws that no constant is at -/
theorem own_backW {y : MethodName} {bytes : ByteArray} {maxL : Nat} {ret : Option FieldType} {rm : Room} {len W : Nat} {as' : Array Value} {ws : List Addr} {Q : Option Value → Heap → List Loc → Prop}
    (hM : MetFree l y (head1 [Cond.code y bytes maxL ret] rm) (fun a U => a = as' ∧ Z.Warmed39 U.vm ∧ U.heap = h ∧ CHv Z EL U.vm h ∧ ∀ x ∈ ws, Safe Z EL U.vm h x) (fun _ _ _ _ _ => True) (fun _ U o U' => ∃ v L, o = .returned v ∧ Q v U'.heap L ∧ CHr Z EL U.vm U.heap U'.vm U'.heap ∧ ReturnedEndW U o U' L rm.cells rm.slots))
    (hZ : Z.Warmed39 vm0) (wc : (Cond.code y bytes maxL ret).before a0 Z = true) (wz : (Cond.initialized y.cls).before a0 Z = true) (hf : rm.frames + 1 ≤ R.frames) (hl : W + (maxL + 11) + rm.locals ≤ R.locals) (hEL : EW Z a0 EL) (H : CHv Z EL vm0 h) (hws : ∀ x ∈ ws, x < h.size ∧ Safe Z EL vm0 h x) :
    BackS l R p e below (s.setVm vm0) args y len W (fun A a => a = as' ∧ A.U.heap = h ∧ A.cells + rm.cells ≤ R.cells ∧ A.slots + rm.slots ≤ R.slots)
      (fun A _ v B => ∃ L, Q v B.U.heap L ∧ B.locs = A.locs ++ L ∧ B.cells = A.cells + rm.cells ∧ B.slots = A.slots + rm.slots ∧ CHr Z EL vm0 h B.U.vm B.U.heap) := by
  refine BackS.of_freeW (bytes := bytes) (maxL := maxL) (ret := ret) (E := fun _ first o t L k n => (k = rm.cells ∧ n = rm.slots) ∧ CHr Z EL first.vm first.heap t.vm t.heap ∧ ∃ v, o = .returned v ∧ Q v t.heap L) hM hf hl ?_ ?_ (fun _ _ _ _ _ _ _ _ _ => trivial) ?_ ?_
  · intro m meth c A a Y hp
    have hU : Z.Warmed39 A.U.vm := wtrans (s := s.setVm vm0) hZ Y.warmed
    refine ⟨?_, mv hU wc, mv hU wz, hp.2.2⟩
    show (Cond.and _ .tt).before a A.U = true
    rw [Cond.before_and, mv hU wc]
    rfl
  · intro m meth c A a g mk Y hp
    have hc := CHv.at Y hZ hEL H
    exact ⟨hp.1, wtrans (s := s.setVm vm0) hZ Y.warmed, hp.2.1, hc.1, fun x hx => hc.safe (hws x hx).1 (hws x hx).2⟩
  · rintro a f o t ⟨v, L, h1, h2, h3, h4⟩
    exact ⟨L, _, _, h4, ⟨rfl, rfl⟩, h3, v, h1, h2⟩
  · rintro m meth c A a g mk v t L k n Y hp - - ⟨⟨rfl, rfl⟩, e5, v', e3, e4⟩
    cases e3
    refine ⟨L, e4, rfl, rfl, rfl, (CHv.at Y hZ hEL H).trans ?_⟩
    rw [← hp.2.1]
    exact e5
/-- what stands behind a call or a load that may have interned -/
def After (p : Program) (l : Launch) (e : Env) (R : Room) (s : State) (m : MethodId) (args : Array Value) (below : List Frame) (meth : Method) (c : Code) (own : String) (Z : State) (EL : List (String × Nat)) (vm0 : Vm) (h : Heap) (vm1 : Vm) (T' : State) (locs : List Loc) (cells slots : Nat) : Prop :=
  Stand p l e R (s.setVm vm1) m args below meth c T' locs cells slots ∧ Cold Z EL s vm1 T'.heap ∧ Z.Warmed39 (s.setVm vm1).vm ∧ (s.setVm vm1).vm.findClass own = some m.cls ∧ ∀ x, x < h.size → Safe Z EL vm0 h x → Safe Z EL vm1 T'.heap x
theorem own_callSW (X : Stand p l e R (s.setVm vm0) m args below meth c T locs cells slots) (hx : p.tables.exec = Jvm.exec) (hZ : Z.Warmed39 (s.setVm vm0).vm) (hEL : EW Z a0 EL) (C : Cold Z EL s vm0 h) {own : String} {index : Nat} {y : MethodName} {bytes : ByteArray} {maxL : Nat} {ret : Option FieldType} (hown : (s.setVm vm0).vm.findClass own = some m.cls)
    (w1 : (Cond.methodLink own index y).before a0 Z = true) (w2 : (Cond.static y).before a0 Z = true) (w3 : (Cond.initialized y.cls).before a0 Z = true) (w4 : (Cond.code y bytes maxL ret).before a0 Z = true) (hy : y.cls ≠ "java/lang/invoke/MethodHandle" ∧ y.cls ≠ "java/lang/invoke/VarHandle")
    {rm : Room} {argsL : List Value} {ws : List Addr} {Q : Option Value → Heap → List Loc → Prop} (hws : ∀ x ∈ ws, x < h.size ∧ Safe Z EL vm0 h x)
    (hM : MetFree l y (head1 [Cond.code y bytes maxL ret] rm) (fun a U => a = argsL.toArray ∧ Z.Warmed39 U.vm ∧ U.heap = h ∧ CHv Z EL U.vm h ∧ ∀ x ∈ ws, Safe Z EL U.vm h x) (fun _ _ _ _ _ => True) (fun _ U o U' => ∃ v L, o = .returned v ∧ Q v U'.heap L ∧ CHr Z EL U.vm U.heap U'.vm U'.heap ∧ ReturnedEndW U o U' L rm.cells rm.slots))
    (eT : T.heap = h) {W : Nat} (hf : rm.frames + 1 ≤ R.frames) (hl : W + (maxL + 11) + rm.locals ≤ R.locals) (hc : cells + rm.cells ≤ R.cells) (hsl : slots + rm.slots ≤ R.slots)
    {g : JFrame} (hg : g.method = m) (hsize : g.locals.size = c.maxLocals) {rest : List Value} (hlen : ∀ sig, parseMethodDescriptor y.desc = some sig → argsL.length = sig.parameters.length)
    (hstack : g.stack = argsL.reverse ++ rest) (hW : 2 * g.monitorRoom + (rest.map fun v => v.category).sum ≤ W) (hdg : decode c.code g.pc = .ok (.invokestatic index, 3)) :
    ∃ (v : Option Value) (vm1 : Vm) (T' : State) (L : List Loc), After p l e R s m args below meth c own Z EL vm0 h vm1 T' (locs ++ L) (cells + rm.cells) (slots + rm.slots) ∧ Q v T'.heap L ∧
      ∀ t, Steps p.tables e below (T'.setTop { g with pc := g.pc + 3, stack := v.toList ++ rest }) t → Steps p.tables e below (T.setTop g) t := by
  obtain ⟨⟨k0, hS, hk⟩, CC⟩ := C
  obtain ⟨v, _, ⟨U, Ls, k, n⟩, -, X', hS', hgr, ⟨Lc, hQ, l1, y1, z1, cr⟩, st⟩ := callSS X hx (y := y) hown (mvT hZ w1) (mvT hZ w2) (mvT hZ w3) (mvT hZ w4) hy (own_backW (W := W) hM hZ w4 w3 hf hl hEL CC.1 hws) hg hsize (argsL := argsL) (rest := rest) hlen hstack hW hdg (fun _ _ => ⟨rfl, eT, hc, hsl⟩)
  dsimp only [Pt.U, Pt.locs, Pt.cells, Pt.slots] at X' hS' hgr l1 y1 z1 cr st hQ
  subst l1 y1 z1
  obtain ⟨X2, S2, Z2, O2⟩ := rebS hS (eT ▸ hk) X' hS' hgr hZ hown
  exact ⟨v, U.vm, U, Lc, ⟨X2, ⟨⟨_, S2, Nat.le_refl _⟩, CC.trans cr⟩, Z2, O2, fun x hx hs => cr.safe hx hs⟩, hQ, fun t k => st.trans k⟩
theorem own_callNW (X : Stand p l e R (s.setVm vm0) m args below meth c T locs cells slots) (hx : p.tables.exec = Jvm.exec) (hZ : Z.Warmed39 (s.setVm vm0).vm) (hEL : EW Z a0 EL) (C : Cold Z EL s vm0 h) {own : String} {index : Nat} {y : MethodName} {bytes : ByteArray} {maxL : Nat} (hy1 : y.name = "<init>") (hown : (s.setVm vm0).vm.findClass own = some m.cls)
    (w1 : (Cond.methodLink own index y).before a0 Z = true) (w2 : (Cond.instanceMethod y).before a0 Z = true) (w3 : (Cond.initialized y.cls).before a0 Z = true) (w4 : (Cond.code y bytes maxL none).before a0 Z = true) (hy : y.cls ≠ "java/lang/invoke/MethodHandle" ∧ y.cls ≠ "java/lang/invoke/VarHandle")
    {rm : Room} {a : Addr} {argsL : List Value} {ws : List Addr} {Q : Option Value → Heap → List Loc → Prop} (hws : ∀ x ∈ ws, x < h.size ∧ Safe Z EL vm0 h x)
    (hM : MetFree l y (head1 [Cond.code y bytes maxL none] rm) (fun b U => b = (.ref a :: argsL).toArray ∧ Z.Warmed39 U.vm ∧ U.heap = h ∧ CHv Z EL U.vm h ∧ ∀ x ∈ ws, Safe Z EL U.vm h x) (fun _ _ _ _ _ => True) (fun _ U o U' => ∃ v L, o = .returned v ∧ Q v U'.heap L ∧ CHr Z EL U.vm U.heap U'.vm U'.heap ∧ ReturnedEndW U o U' L rm.cells rm.slots))
    (eT : T.heap = h) {W : Nat} (hf : rm.frames + 1 ≤ R.frames) (hl : W + (maxL + 11) + rm.locals ≤ R.locals) (hc : cells + rm.cells ≤ R.cells) (hsl : slots + rm.slots ≤ R.slots)
    {g : JFrame} (hg : g.method = m) (hsize : g.locals.size = c.maxLocals) {rest : List Value} (hlen : ∀ sig, parseMethodDescriptor y.desc = some sig → argsL.length = sig.parameters.length)
    (hstack : g.stack = argsL.reverse ++ .ref a :: rest) (hW : 2 * g.monitorRoom + (rest.map fun v => v.category).sum ≤ W) (hdg : decode c.code g.pc = .ok (.invokespecial index, 3)) :
    ∃ (v : Option Value) (vm1 : Vm) (T' : State) (L : List Loc), After p l e R s m args below meth c own Z EL vm0 h vm1 T' (locs ++ L) (cells + rm.cells) (slots + rm.slots) ∧ Q v T'.heap L ∧
      ∀ t, Steps p.tables e below (T'.setTop { g with pc := g.pc + 3, stack := v.toList ++ rest }) t → Steps p.tables e below (T.setTop g) t := by
  obtain ⟨⟨k0, hS, hk⟩, CC⟩ := C
  obtain ⟨v, _, ⟨U, Ls, k, n⟩, -, X', hS', hgr, ⟨Lc, hQ, l1, y1, z1, cr⟩, st⟩ := X.specialBackS hx (y := y) hy1 hown (mvT hZ w1) (mvT hZ w2) (mvT hZ w4) hy (own_backW (W := W) hM hZ w4 w3 hf hl hEL CC.1 hws) hg hsize (Steps.refl _) (a := a) (argsL := argsL) (rest := rest) hlen hstack hW hdg (fun _ _ => ⟨rfl, eT, hc, hsl⟩)
  dsimp only [Pt.U, Pt.locs, Pt.cells, Pt.slots] at X' hS' hgr l1 y1 z1 cr st hQ
  subst l1 y1 z1
  obtain ⟨X2, S2, Z2, O2⟩ := rebS hS (eT ▸ hk) X' hS' hgr hZ hown
  exact ⟨v, U.vm, U, Lc, ⟨X2, ⟨⟨_, S2, Nat.le_refl _⟩, CC.trans cr⟩, Z2, O2, fun x hx hs => cr.safe hx hs⟩, hQ, fun t k => st.trans k⟩
theorem own_callVW (X : Stand p l e R (s.setVm vm0) m args below meth c T locs cells slots) (hx : p.tables.exec = Jvm.exec) (hZ : Z.Warmed39 (s.setVm vm0).vm) (hEL : EW Z a0 EL) (C : Cold Z EL s vm0 h) {own C0 : String} {index : Nat} {y : MethodName} {bytes : ByteArray} {maxL : Nat} {ret : Option FieldType} (hown : (s.setVm vm0).vm.findClass own = some m.cls)
    (w1 : (Cond.methodLink own index y).before a0 Z = true) (w2 : (Cond.declares y).before a0 Z = true) (w5 : (Cond.selects C0 y y).before a0 Z = true) (w6 : (Cond.instanceMethod y).before a0 Z = true) (w3 : (Cond.initialized y.cls).before a0 Z = true) (w4 : (Cond.code y bytes maxL ret).before a0 Z = true) (hy : y.cls ≠ "java/lang/invoke/MethodHandle" ∧ y.cls ≠ "java/lang/invoke/VarHandle")
    {rm : Room} {a : Addr} {argsL : List Value} {ws : List Addr} {Q : Option Value → Heap → List Loc → Prop} (hws : ∀ x ∈ ws, x < h.size ∧ Safe Z EL vm0 h x)
    (hM : MetFree l y (head1 [Cond.code y bytes maxL ret] rm) (fun b U => b = (.ref a :: argsL).toArray ∧ Z.Warmed39 U.vm ∧ U.heap = h ∧ CHv Z EL U.vm h ∧ ∀ x ∈ ws, Safe Z EL U.vm h x) (fun _ _ _ _ _ => True) (fun _ U o U' => ∃ v L, o = .returned v ∧ Q v U'.heap L ∧ CHr Z EL U.vm U.heap U'.vm U'.heap ∧ ReturnedEndW U o U' L rm.cells rm.slots))
    (eT : T.heap = h) (E : Exa Z h a C0) {W : Nat} (hf : rm.frames + 1 ≤ R.frames) (hl : W + (maxL + 11) + rm.locals ≤ R.locals) (hc : cells + rm.cells ≤ R.cells) (hsl : slots + rm.slots ≤ R.slots)
    {g : JFrame} (hg : g.method = m) (hsize : g.locals.size = c.maxLocals) {rest : List Value} (hlen : ∀ sig, parseMethodDescriptor y.desc = some sig → argsL.length = sig.parameters.length)
    (hstack : g.stack = argsL.reverse ++ .ref a :: rest) (hW : 2 * g.monitorRoom + (rest.map fun v => v.category).sum ≤ W) (hdg : decode c.code g.pc = .ok (.invokevirtual index, 3)) :
    ∃ (v : Option Value) (vm1 : Vm) (T' : State) (L : List Loc), After p l e R s m args below meth c own Z EL vm0 h vm1 T' (locs ++ L) (cells + rm.cells) (slots + rm.slots) ∧ Q v T'.heap L ∧
      ∀ t, Steps p.tables e below (T'.setTop { g with pc := g.pc + 3, stack := v.toList ++ rest }) t → Steps p.tables e below (T.setTop g) t := by
  obtain ⟨⟨k0, hS, hk⟩, CC⟩ := C
  obtain ⟨cB, kB, qa, qb, qc⟩ := isOf hZ eT E
  obtain ⟨v, _, ⟨U, Ls, k, n⟩, -, X', hS', hgr, ⟨Lc, hQ, l1, y1, z1, cr⟩, st⟩ := X.virtualBackS hx (y := y) (z := y) hown (mvT hZ w1) (mvT hZ w2) (notFace_of_selects (args := #[]) (mvT hZ w5)) (mvT hZ w5) (mvT hZ w6) hy (own_backW (W := W) hM hZ w4 w3 hf hl hEL CC.1 hws) qa qc hg hsize (Steps.refl _) (argsL := argsL) (rest := rest) hlen hstack hW hdg (fun _ _ => ⟨rfl, eT, hc, hsl⟩)
  dsimp only [Pt.U, Pt.locs, Pt.cells, Pt.slots] at X' hS' hgr l1 y1 z1 cr st hQ
  subst l1 y1 z1
  obtain ⟨X2, S2, Z2, O2⟩ := rebS hS (eT ▸ hk) X' hS' hgr hZ hown
  exact ⟨v, U.vm, U, Lc, ⟨X2, ⟨⟨_, S2, Nat.le_refl _⟩, CC.trans cr⟩, Z2, O2, fun x hx hs => cr.safe hx hs⟩, hQ, fun t k => st.trans k⟩
/-- ldc of a String constant of EL: it is read -/
theorem own_ldcW (X : Stand p l e R (s.setVm vm0) m args below meth c T locs cells slots) (hx : p.tables.exec = Jvm.exec) (hZ : Z.Warmed39 (s.setVm vm0).vm) (hEL : EW Z a0 EL) (C : Cold Z EL s vm0 h) {own text : String} {index : Nat} (hown : (s.setVm vm0).vm.findClass own = some m.cls)
    (w : (Cond.stringLink own index text).before a0 Z = true) (wS : ∀ a ∈ Bundle.stringAtoms, a.before a0 Z = true) (eT : T.heap = h) (hmem : (own, index) ∈ EL)
    {vs : List Value} {k : Nat} (ht : (∀ c ∈ text.toList, c.toNat < 256) ∧ text.toList.map (fun c => Value.int (Jvm.Lit.byteI c.toNat.toUInt16)) = vs) (hk : k = vs.length) (hk31 : k < 2 ^ 31)
    {g : JFrame} (hg : g.method = m) (hd : decode c.code g.pc = .ok (.ldc index, 2)) {n : Nat} (hn : 4 * text.toList.length ≤ n) (hbig : n ≤ 536870912) (hc : cells + 2 ≤ R.cells) (hl' : slots + (n + 4) ≤ R.slots) :
    ∃ (a b : Addr) (vm1 : Vm) (T' : State) (h' : Heap), After p l e R s m args below meth c own Z EL vm0 h vm1 T' locs (cells + 2) (slots + (n + 4)) ∧ T'.heap = h' ∧ Ext h h' ∧
      Exa Z h' a "java/lang/String" ∧ Fld Z h' a "java/lang/String" "value" "[B" (.ref b) ∧ Fld Z h' a "java/lang/String" "coder" "B" (.int 0) ∧ OA Z h' b .byte k (fun i => vs.getD i (.int 0)) ∧ Lit (s.setVm vm1) own index a ∧ (∀ x, Safe Z EL vm1 h' x → x ≠ a ∧ x ≠ b) ∧
      ∀ t, Steps p.tables e below (T'.setTop { g with pc := g.pc + 2, stack := .ref a :: g.stack }) t → Steps p.tables e below (T.setTop g) t := by
  obtain ⟨⟨k0, hS, hk0⟩, CC⟩ := C
  obtain ⟨a, T', h', k1, b, kc, X', e', E', hS', hk', Z', O', Ex, Fc, Fv, Av, la, lb, cr, L, sf, st⟩ := ldcCH X hx hZ hown w wS eT hS hk0 hEL hmem CC.1 (vs := vs) (z := Int32.ofNat k) ht (own_nneg k hk31) (by rw [own_clamp k hk31]; exact hk) hg hd hn hbig hc hl'
  subst e'
  exact ⟨a, b, T'.vm, T', _, ⟨X', ⟨⟨k1, hS', hk'⟩, CC.trans cr⟩, Z', O', fun x hx hs => cr.safe hx hs⟩, rfl, E', Ex, Fv, Fc, OA.of_arv Av (own_clamp k hk31) (fun i hi => rfl), L, sf, st⟩
theorem own_ldcAgainW (X : Stand p l e R (s.setVm vm0) m args below meth c T locs cells slots) (hx : p.tables.exec = Jvm.exec) (hZ : Z.Warmed39 (s.setVm vm0).vm) {own text : String} {index : Nat} (hown : (s.setVm vm0).vm.findClass own = some m.cls)
    (w : (Cond.stringLink own index text).before a0 Z = true) {a : Addr} (L : Lit (s.setVm vm0) own index a) {g : JFrame} (hg : g.method = m) (hd : decode c.code g.pc = .ok (.ldc index, 2)) :
    ∀ t, Steps p.tables e below (T.setTop { g with pc := g.pc + 2, stack := .ref a :: g.stack }) t → Steps p.tables e below (T.setTop g) t := ldcAgain X hx hZ hown w L hg hd
end OwnCold

theorem own_EW {Z : State} {a0 : Array Value} (hw : ∀ d ∈ tables_1, d.before a0 Z = true) : EW Z a0 consts_1 := (EW.cons (hw _ (List.mem_of_getElem? (i := 4) rfl)) (by decide) (EW.cons (hw _ (List.mem_of_getElem? (i := 50) rfl)) (by decide) EW.nil))
theorem own_wS {Z : State} {a0 : Array Value} (hw : ∀ d ∈ tables_1, d.before a0 Z = true) : ∀ a ∈ Bundle.stringAtoms, a.before a0 Z = true := by
  intro a ha
  simp only [Bundle.stringAtoms, List.mem_cons, List.not_mem_nil, or_false] at ha
  rcases ha with rfl | rfl | rfl | rfl | rfl | rfl | rfl
  · exact (hw _ (List.mem_of_getElem? (i := 5) rfl))
  · exact (hw _ (List.mem_of_getElem? (i := 6) rfl))
  · exact (hw _ (List.mem_of_getElem? (i := 7) rfl))
  · exact (hw _ (List.mem_of_getElem? (i := 8) rfl))
  · exact (hw _ (List.mem_of_getElem? (i := 9) rfl))
  · exact (hw _ (List.mem_of_getElem? (i := 10) rfl))
  · exact (hw _ (List.mem_of_getElem? (i := 11) rfl))
theorem own_allS {P : Addr → Prop} {y : Addr} {L : List Addr} (q : P y) (r : ∀ x ∈ L, P x) : ∀ x ∈ y :: L, P x := allS q r
def own_idc (k : Nat) : Prop := (65 ≤ k ∧ k ≤ 90) ∨ (97 ≤ k ∧ k ≤ 122) ∨ (48 ≤ k ∧ k ≤ 57) ∨ k = 46 ∨ k = 95 ∨ k = 58 ∨ k = 45
instance (k : Nat) : Decidable (own_idc k) := by unfold own_idc; infer_instance
theorem own_if0 {P : Prop} [Decidable P] : (if P then (1 : Int32) else 0) = 0 ↔ ¬ P := by
  by_cases h : P
  · rw [if_pos h]; exact ⟨fun q => absurd q (by decide), fun q => absurd h q⟩
  · rw [if_neg h]; exact ⟨fun _ => h, fun _ => rfl⟩
theorem own_ifb {P : Prop} [Decidable P] : narrow .boolean (.int (if P then (1 : Int32) else 0)) = .int (if P then (1 : Int32) else 0) := by
  by_cases h : P
  · rw [if_pos h]; rfl
  · rw [if_neg h]; rfl
theorem own_t {P : Prop} [Decidable P] (h : P) : some (Value.int (1 : Int32)) = some (Value.int (if P then (1 : Int32) else 0)) := by rw [if_pos h]
theorem own_f {P : Prop} [Decidable P] (h : ¬ P) : some (Value.int (0 : Int32)) = some (Value.int (if P then (1 : Int32) else 0)) := by rw [if_neg h]
theorem ef_pci (m : MethodId) (x0 : Int32) (x1 : Int32) (x2 : Value) (hx2 : x2.isRef = true) : entryFrame m #[(.int x0), (.int x1), x2] 3 = mkF m 0 #[.val (.int x0), .val (.int x1), .val x2] [] := by cases x2 <;> simp [Value.isRef] at hx2 <;> first | (simp [entryFrame, mkF, argsToLocals, Value.category]; done) | rfl
theorem pn_jdk_internal_util_Preconditions : plainName "jdk/internal/util/Preconditions" = true := by first | (simp [plainName, overriddenIn]; done) | decide +kernel
theorem d_jdk_41_method_11_code_0 : decode jdk_41_method_11_code 0 = .ok (.iload_n 0, 1) := by decide +kernel
theorem d_jdk_41_method_11_code_1 : decode jdk_41_method_11_code 1 = .ok (.ifCond .lt 8, 3) := by decide +kernel
theorem d_jdk_41_method_11_code_4 : decode jdk_41_method_11_code 4 = .ok (.iload_n 0, 1) := by decide +kernel
theorem d_jdk_41_method_11_code_5 : decode jdk_41_method_11_code 5 = .ok (.iload_n 1, 1) := by decide +kernel
theorem d_jdk_41_method_11_code_6 : decode jdk_41_method_11_code 6 = .ok (.if_icmp .lt 10, 3) := by decide +kernel
theorem d_jdk_41_method_11_code_16 : decode jdk_41_method_11_code 16 = .ok (.iload_n 0, 1) := by decide +kernel
theorem d_jdk_41_method_11_code_17 : decode jdk_41_method_11_code 17 = .ok (.ireturn, 1) := by decide +kernel
def Q_pci (Z : State) (cs : Int32) (fm : Value) (i n : Nat) (h0 : Heap) (n0 : Nat) (v : Option Value) (h : Heap) (L : List Loc) : Prop := v = some (.int (Int32.ofNat i)) ∧ Fr n0 L ∧ h = h0
set_option maxRecDepth 65536 in
set_option maxHeartbeats 40000000 in
theorem rm_pci (l : Launch) (Z : State) (a0 : Array Value) (hw : ∀ d ∈ tables_1, d.before a0 Z = true) (ws : List Jvm.Cond) (cs : Int32) (fm : Value) (i n : Nat) (h0 : Heap) (n0 : Nat) (Z0 : n0 ≤ h0.size) (ST : own_ST Z cs fm) (OO : Old Z n0 h0) (hfm : fm.isRef = true) (hi : i < n) (hn : n < 2 ^ 31) :
    MetFree l (⟨"jdk/internal/util/Preconditions", "checkIndex", "(IILjava/util/function/BiFunction;)I"⟩ : MethodName) (head1 (Jvm.Cond.code (⟨"jdk/internal/util/Preconditions", "checkIndex", "(IILjava/util/function/BiFunction;)I"⟩ : MethodName) jdk_41_method_11_code 3 (some .int) :: ws) ({ frames := 0, cells := 0, slots := 0, locals := 0 } : Room)) (fun a U => a = #[(.int (Int32.ofNat i)), (.int (Int32.ofNat n)), fm] ∧ Z.Warmed39 U.vm ∧ U.heap = h0) (fun _ _ _ _ _ => True) (fun _ U o U' => ∃ v L, o = .returned v ∧ Q_pci Z cs fm i n h0 n0 v U'.heap L ∧ FrameEnd U o U' L ({ frames := 0, cells := 0, slots := 0, locals := 0 } : Room).cells ({ frames := 0, cells := 0, slots := 0, locals := 0 } : Room).slots) := by
  refine MetFree.of_bodySF (plainFor_of_name pn_jdk_internal_util_Preconditions) hisR ?_
  intro p ee s m args below meth cc s₁ Bd hml0 hP hK
  obtain ⟨rfl, hZ, hh⟩ := hP
  have hx := Bd.exec
  have hby := Bd.bytes
  have hml : cc.maxLocals = 3 := hml0
  have hown : s.vm.findClass "jdk/internal/util/Preconditions" = some m.cls := findClass_of_methodNamed Bd.named
  have hnm := (name_of_methodNamed Bd.named Bd.method).1
  have X0 : Stand p l ee ({ frames := 0, cells := 0, slots := 0, locals := 0 } : Room) s m #[(.int (Int32.ofNat i)), (.int (Int32.ofNat n)), fm] below meth cc s₁ [] 0 0 := Stand.of_body Bd
  have e0 : s₁.heap = h0 := by rw [← hh, Bd.state]; rfl
  have N0 := Fr.nil n0
  show Goes p ee below s ({ frames := 0, cells := 0, slots := 0, locals := 0 } : Room).cells ({ frames := 0, cells := 0, slots := 0, locals := 0 } : Room).slots (Q_pci Z cs fm i n h0 n0) (s₁.setTop (entryFrame m #[(.int (Int32.ofNat i)), (.int (Int32.ofNat n)), fm] 3))
  refine Goes.step (fun _ hr_ => castTop (ef_pci m (Int32.ofNat i) (Int32.ofNat n) fm hfm) hr_) ?_
  show Goes p ee below s _ _ _ (s₁.setTop (mkF m 0 #[.val (.int (Int32.ofNat i)), .val (.int (Int32.ofNat n)), .val fm] []))
  refine Goes.step (fun _ hr_ => XS.iloadN X0.here hx rfl (hb hby d_jdk_41_method_11_code_0) rfl  hr_) ?_
  show Goes p ee below s _ _ _ (s₁.setTop (mkF m 1 #[.val (.int (Int32.ofNat i)), .val (.int (Int32.ofNat n)), .val fm] [(.int (Int32.ofNat i))]))
  refine Goes.step (fun _ hr_ => XS.ifNo X0.here hx rfl (hb hby d_jdk_41_method_11_code_1) rfl ((if0 _ _).trans (flt (own_nneg i (by omega))).1) hr_) ?_
  show Goes p ee below s _ _ _ (s₁.setTop (mkF m 4 #[.val (.int (Int32.ofNat i)), .val (.int (Int32.ofNat n)), .val fm] []))
  refine Goes.step (fun _ hr_ => XS.iloadN X0.here hx rfl (hb hby d_jdk_41_method_11_code_4) rfl  hr_) ?_
  show Goes p ee below s _ _ _ (s₁.setTop (mkF m 5 #[.val (.int (Int32.ofNat i)), .val (.int (Int32.ofNat n)), .val fm] [(.int (Int32.ofNat i))]))
  refine Goes.step (fun _ hr_ => XS.iloadN X0.here hx rfl (hb hby d_jdk_41_method_11_code_5) rfl  hr_) ?_
  show Goes p ee below s _ _ _ (s₁.setTop (mkF m 6 #[.val (.int (Int32.ofNat i)), .val (.int (Int32.ofNat n)), .val fm] [(.int (Int32.ofNat n)), (.int (Int32.ofNat i))]))
  refine Goes.step (fun _ hr_ => XS.icmpYes X0.here hx rfl (pc0 := 6) (pc' := 16) rfl (hb hby d_jdk_41_method_11_code_6) rfl (tlt ((own_ltN i n (by omega) hn).mpr hi)).1 (by decide) (by decide) hr_) ?_
  show Goes p ee below s _ _ _ (s₁.setTop (mkF m 16 #[.val (.int (Int32.ofNat i)), .val (.int (Int32.ofNat n)), .val fm] []))
  refine Goes.step (fun _ hr_ => XS.iloadN X0.here hx rfl (hb hby d_jdk_41_method_11_code_16) rfl  hr_) ?_
  show Goes p ee below s _ _ _ (s₁.setTop (mkF m 17 #[.val (.int (Int32.ofNat i)), .val (.int (Int32.ofNat n)), .val fm] [(.int (Int32.ofNat i))]))
  refine Goes.retI X0 hx Bd.notSynchronized Bd.returns (hb hby d_jdk_41_method_11_code_17) (by decide) (by decide) ?_
  exact ⟨rfl, N0, e0⟩
theorem ef_sci (m : MethodId) (x0 : Int32) (x1 : Int32) : entryFrame m #[(.int x0), (.int x1)] 2 = mkF m 0 #[.val (.int x0), .val (.int x1)] [] := by first | (simp [entryFrame, mkF, argsToLocals, Value.category]; done) | rfl
theorem pn_java_lang_String : plainName "java/lang/String" = true := by first | (simp [plainName, overriddenIn]; done) | decide +kernel
theorem d_jdk_42_method_155_code_0 : decode jdk_42_method_155_code 0 = .ok (.iload_n 0, 1) := by decide +kernel
theorem d_jdk_42_method_155_code_1 : decode jdk_42_method_155_code 1 = .ok (.iload_n 1, 1) := by decide +kernel
theorem d_jdk_42_method_155_code_2 : decode jdk_42_method_155_code 2 = .ok (.getstatic 1053, 3) := by decide +kernel
theorem pd_0 : parseMethodDescriptor "(IILjava/util/function/BiFunction;)I" = some ⟨[.int, .int, (.object "java/util/function/BiFunction")], some .int⟩ := by decide +kernel
theorem d_jdk_42_method_155_code_5 : decode jdk_42_method_155_code 5 = .ok (.invokestatic 1059, 3) := by decide +kernel
theorem d_jdk_42_method_155_code_8 : decode jdk_42_method_155_code 8 = .ok (.pop, 1) := by decide +kernel
theorem d_jdk_42_method_155_code_9 : decode jdk_42_method_155_code 9 = .ok (.return_, 1) := by decide +kernel
def Q_sci (Z : State) (cs : Int32) (fm : Value) (i n : Nat) (h0 : Heap) (n0 : Nat) (v : Option Value) (h : Heap) (L : List Loc) : Prop := v = none ∧ Fr n0 L ∧ h = h0
set_option maxRecDepth 65536 in
set_option maxHeartbeats 40000000 in
theorem rm_sci (l : Launch) (Z : State) (a0 : Array Value) (hw : ∀ d ∈ tables_1, d.before a0 Z = true) (ws : List Jvm.Cond) (cs : Int32) (fm : Value) (i n : Nat) (h0 : Heap) (n0 : Nat) (Z0 : n0 ≤ h0.size) (ST : own_ST Z cs fm) (OO : Old Z n0 h0) (hi : i < n) (hn : n < 2 ^ 31) :
    MetFree l (⟨"java/lang/String", "checkIndex", "(II)V"⟩ : MethodName) (head1 (Jvm.Cond.code (⟨"java/lang/String", "checkIndex", "(II)V"⟩ : MethodName) jdk_42_method_155_code 2 none :: ws) ({ frames := 1, cells := 0, slots := 0, locals := 14 } : Room)) (fun a U => a = #[(.int (Int32.ofNat i)), (.int (Int32.ofNat n))] ∧ Z.Warmed39 U.vm ∧ U.heap = h0) (fun _ _ _ _ _ => True) (fun _ U o U' => ∃ v L, o = .returned v ∧ Q_sci Z cs fm i n h0 n0 v U'.heap L ∧ FrameEnd U o U' L ({ frames := 1, cells := 0, slots := 0, locals := 14 } : Room).cells ({ frames := 1, cells := 0, slots := 0, locals := 14 } : Room).slots) := by
  refine MetFree.of_bodySF (plainFor_of_name pn_java_lang_String) hisR ?_
  intro p ee s m args below meth cc s₁ Bd hml0 hP hK
  obtain ⟨rfl, hZ, hh⟩ := hP
  have hx := Bd.exec
  have hby := Bd.bytes
  have hml : cc.maxLocals = 2 := hml0
  have hown : s.vm.findClass "java/lang/String" = some m.cls := findClass_of_methodNamed Bd.named
  have hnm := (name_of_methodNamed Bd.named Bd.method).1
  have X0 : Stand p l ee ({ frames := 1, cells := 0, slots := 0, locals := 14 } : Room) s m #[(.int (Int32.ofNat i)), (.int (Int32.ofNat n))] below meth cc s₁ [] 0 0 := Stand.of_body Bd
  have e0 : s₁.heap = h0 := by rw [← hh, Bd.state]; rfl
  have N0 := Fr.nil n0
  show Goes p ee below s ({ frames := 1, cells := 0, slots := 0, locals := 14 } : Room).cells ({ frames := 1, cells := 0, slots := 0, locals := 14 } : Room).slots (Q_sci Z cs fm i n h0 n0) (s₁.setTop (entryFrame m #[(.int (Int32.ofNat i)), (.int (Int32.ofNat n))] 2))
  refine Goes.step (fun _ hr_ => castTop (ef_sci m (Int32.ofNat i) (Int32.ofNat n)) hr_) ?_
  show Goes p ee below s _ _ _ (s₁.setTop (mkF m 0 #[.val (.int (Int32.ofNat i)), .val (.int (Int32.ofNat n))] []))
  refine Goes.step (fun _ hr_ => XS.iloadN X0.here hx rfl (hb hby d_jdk_42_method_155_code_0) rfl  hr_) ?_
  show Goes p ee below s _ _ _ (s₁.setTop (mkF m 1 #[.val (.int (Int32.ofNat i)), .val (.int (Int32.ofNat n))] [(.int (Int32.ofNat i))]))
  refine Goes.step (fun _ hr_ => XS.iloadN X0.here hx rfl (hb hby d_jdk_42_method_155_code_1) rfl  hr_) ?_
  show Goes p ee below s _ _ _ (s₁.setTop (mkF m 2 #[.val (.int (Int32.ofNat i)), .val (.int (Int32.ofNat n))] [(.int (Int32.ofNat n)), (.int (Int32.ofNat i))]))
  obtain ⟨T1, X1, e1, st1⟩ := getS X0 hx hZ (host := "") hown (hw _ (List.mem_of_getElem? (i := 33) rfl)) Via.refl e0 ((ST.2.2.1).ext OO.2) (g := (mkF m 2 #[.val (.int (Int32.ofNat i)), .val (.int (Int32.ofNat n))] [(.int (Int32.ofNat n)), (.int (Int32.ofNat i))])) rfl (hb hby d_jdk_42_method_155_code_2)
  refine Goes.step st1 ?_
  show Goes p ee below s _ _ _ (T1.setTop (mkF m 5 #[.val (.int (Int32.ofNat i)), .val (.int (Int32.ofNat n))] [fm, (.int (Int32.ofNat n)), (.int (Int32.ofNat i))]))
  obtain ⟨v2, T2, L2, X2, hQ2, st2⟩ := own_callS X1 hx hZ (y := (⟨"jdk/internal/util/Preconditions", "checkIndex", "(IILjava/util/function/BiFunction;)I"⟩ : MethodName)) hown (hw _ (List.mem_of_getElem? (i := 35) rfl)) (hw _ (List.mem_of_getElem? (i := 36) rfl)) (hw _ (List.mem_of_getElem? (i := 34) rfl)) (hw _ (List.mem_of_getElem? (i := 37) rfl)) (by decide) (argsL := [(.int (Int32.ofNat i)), (.int (Int32.ofNat n)), fm]) (rm_pci l Z a0 hw [] cs fm i n h0 n0 Z0 ST OO (ST.2.2.2.1) hi hn) e1 (W := 0) (by decide) (by decide) (by decide) (by decide) (g := (mkF m 5 #[.val (.int (Int32.ofNat i)), .val (.int (Int32.ofNat n))] [fm, (.int (Int32.ofNat n)), (.int (Int32.ofNat i))])) rfl (by rw [hml]; rfl) (rest := []) (lenOf pd_0 rfl) rfl (by show 2 * 0 + _ ≤ _; exact Nat.le_of_eq rfl) (hb hby d_jdk_42_method_155_code_5)
  refine Goes.step st2 ?_
  obtain ⟨rfl, N2, e2⟩ := hQ2
  have N3 := Fr.app N0 N2
  show Goes p ee below s _ _ _ (T2.setTop (mkF m 8 #[.val (.int (Int32.ofNat i)), .val (.int (Int32.ofNat n))] [(.int (Int32.ofNat i))]))
  refine Goes.step (fun _ hr_ => XT.pop X2.here hx rfl (hb hby d_jdk_42_method_155_code_8) rfl rfl hr_) ?_
  show Goes p ee below s _ _ _ (T2.setTop (mkF m 9 #[.val (.int (Int32.ofNat i)), .val (.int (Int32.ofNat n))] []))
  refine Goes.retV X2 hx Bd.notSynchronized Bd.returns (hb hby d_jdk_42_method_155_code_9) (by decide) (by decide) ?_
  exact ⟨rfl, N3, e2⟩
theorem ef_l1c (m : MethodId) (x0 : Addr) (x1 : Int32) : entryFrame m #[(.ref x0), (.int x1)] 2 = mkF m 0 #[.val (.ref x0), .val (.int x1)] [] := by first | (simp [entryFrame, mkF, argsToLocals, Value.category]; done) | rfl
theorem pn_java_lang_StringLatin1 : plainName "java/lang/StringLatin1" = true := by first | (simp [plainName, overriddenIn]; done) | decide +kernel
theorem d_jdk_43_method_2_code_0 : decode jdk_43_method_2_code 0 = .ok (.iload_n 1, 1) := by decide +kernel
theorem d_jdk_43_method_2_code_1 : decode jdk_43_method_2_code 1 = .ok (.aload_n 0, 1) := by decide +kernel
theorem d_jdk_43_method_2_code_2 : decode jdk_43_method_2_code 2 = .ok (.arraylength, 1) := by decide +kernel
theorem pd_1 : parseMethodDescriptor "(II)V" = some ⟨[.int, .int], none⟩ := by decide +kernel
theorem d_jdk_43_method_2_code_3 : decode jdk_43_method_2_code 3 = .ok (.invokestatic 9, 3) := by decide +kernel
theorem d_jdk_43_method_2_code_6 : decode jdk_43_method_2_code 6 = .ok (.aload_n 0, 1) := by decide +kernel
theorem d_jdk_43_method_2_code_7 : decode jdk_43_method_2_code 7 = .ok (.iload_n 1, 1) := by decide +kernel
theorem d_jdk_43_method_2_code_8 : decode jdk_43_method_2_code 8 = .ok (.baload, 1) := by decide +kernel
theorem d_jdk_43_method_2_code_9 : decode jdk_43_method_2_code 9 = .ok (.sipush 255, 3) := by decide +kernel
theorem d_jdk_43_method_2_code_12 : decode jdk_43_method_2_code 12 = .ok (.iand, 1) := by decide +kernel
theorem d_jdk_43_method_2_code_13 : decode jdk_43_method_2_code 13 = .ok (.i2c, 1) := by decide +kernel
theorem d_jdk_43_method_2_code_14 : decode jdk_43_method_2_code 14 = .ok (.ireturn, 1) := by decide +kernel
def Q_l1c (Z : State) (cs : Int32) (fm : Value) (a1 : Addr) (i n : Nat) (c : Nat → Nat) (h0 : Heap) (n0 : Nat) (v : Option Value) (h : Heap) (L : List Loc) : Prop := v = some (.int (Int32.ofNat (c i))) ∧ Fr n0 L ∧ h = h0
set_option maxRecDepth 65536 in
set_option maxHeartbeats 40000000 in
theorem rm_l1c (l : Launch) (Z : State) (a0 : Array Value) (hw : ∀ d ∈ tables_1, d.before a0 Z = true) (ws : List Jvm.Cond) (cs : Int32) (fm : Value) (a1 : Addr) (i n : Nat) (c : Nat → Nat) (h0 : Heap) (n0 : Nat) (Z0 : n0 ≤ h0.size) (ST : own_ST Z cs fm) (OO : Old Z n0 h0) (hi : i < n) (hn : n < 2 ^ 31) (hc : c i < 256) (A : OA Z h0 a1 .byte n (own_by false c)) :
    MetFree l (⟨"java/lang/StringLatin1", "charAt", "([BI)C"⟩ : MethodName) (head1 (Jvm.Cond.code (⟨"java/lang/StringLatin1", "charAt", "([BI)C"⟩ : MethodName) jdk_43_method_2_code 2 (some .char) :: ws) ({ frames := 2, cells := 0, slots := 0, locals := 27 } : Room)) (fun a U => a = #[(.ref a1), (.int (Int32.ofNat i))] ∧ Z.Warmed39 U.vm ∧ U.heap = h0) (fun _ _ _ _ _ => True) (fun _ U o U' => ∃ v L, o = .returned v ∧ Q_l1c Z cs fm a1 i n c h0 n0 v U'.heap L ∧ FrameEnd U o U' L ({ frames := 2, cells := 0, slots := 0, locals := 27 } : Room).cells ({ frames := 2, cells := 0, slots := 0, locals := 27 } : Room).slots) := by
  refine MetFree.of_bodySF (plainFor_of_name pn_java_lang_StringLatin1) hisR ?_
  intro p ee s m args below meth cc s₁ Bd hml0 hP hK
  obtain ⟨rfl, hZ, hh⟩ := hP
  have hx := Bd.exec
  have hby := Bd.bytes
  have hml : cc.maxLocals = 2 := hml0
  have hown : s.vm.findClass "java/lang/StringLatin1" = some m.cls := findClass_of_methodNamed Bd.named
  have hnm := (name_of_methodNamed Bd.named Bd.method).1
  have X0 : Stand p l ee ({ frames := 2, cells := 0, slots := 0, locals := 27 } : Room) s m #[(.ref a1), (.int (Int32.ofNat i))] below meth cc s₁ [] 0 0 := Stand.of_body Bd
  have e0 : s₁.heap = h0 := by rw [← hh, Bd.state]; rfl
  have N0 := Fr.nil n0
  show Goes p ee below s ({ frames := 2, cells := 0, slots := 0, locals := 27 } : Room).cells ({ frames := 2, cells := 0, slots := 0, locals := 27 } : Room).slots (Q_l1c Z cs fm a1 i n c h0 n0) (s₁.setTop (entryFrame m #[(.ref a1), (.int (Int32.ofNat i))] 2))
  refine Goes.step (fun _ hr_ => castTop (ef_l1c m a1 (Int32.ofNat i)) hr_) ?_
  show Goes p ee below s _ _ _ (s₁.setTop (mkF m 0 #[.val (.ref a1), .val (.int (Int32.ofNat i))] []))
  refine Goes.step (fun _ hr_ => XS.iloadN X0.here hx rfl (hb hby d_jdk_43_method_2_code_0) rfl  hr_) ?_
  show Goes p ee below s _ _ _ (s₁.setTop (mkF m 1 #[.val (.ref a1), .val (.int (Int32.ofNat i))] [(.int (Int32.ofNat i))]))
  refine Goes.step (fun _ hr_ => XS.aloadN X0.here hx rfl (hb hby d_jdk_43_method_2_code_1) rfl rfl hr_) ?_
  show Goes p ee below s _ _ _ (s₁.setTop (mkF m 2 #[.val (.ref a1), .val (.int (Int32.ofNat i))] [(.ref a1), (.int (Int32.ofNat i))]))
  refine Goes.step (own_alen X0 hx hZ e0 A (z := (Int32.ofNat n)) rfl (g := (mkF m 2 #[.val (.ref a1), .val (.int (Int32.ofNat i))] [(.ref a1), (.int (Int32.ofNat i))])) rfl rfl (hb hby d_jdk_43_method_2_code_2)) ?_
  show Goes p ee below s _ _ _ (s₁.setTop (mkF m 3 #[.val (.ref a1), .val (.int (Int32.ofNat i))] [(.int (Int32.ofNat n)), (.int (Int32.ofNat i))]))
  have lt_a1 := A.lt
  obtain ⟨v1, T1, L1, X1, hQ1, st1⟩ := own_callS X0 hx hZ (y := (⟨"java/lang/String", "checkIndex", "(II)V"⟩ : MethodName)) hown (hw _ (List.mem_of_getElem? (i := 30) rfl)) (hw _ (List.mem_of_getElem? (i := 31) rfl)) (hw _ (List.mem_of_getElem? (i := 5) rfl)) (hw _ (List.mem_of_getElem? (i := 32) rfl)) (by decide) (argsL := [(.int (Int32.ofNat i)), (.int (Int32.ofNat n))]) (rm_sci l Z a0 hw [] cs fm i n h0 n0 Z0 ST OO hi hn) e0 (W := 0) (by decide) (by decide) (by decide) (by decide) (g := (mkF m 3 #[.val (.ref a1), .val (.int (Int32.ofNat i))] [(.int (Int32.ofNat n)), (.int (Int32.ofNat i))])) rfl (by rw [hml]; rfl) (rest := []) (lenOf pd_1 rfl) rfl (by show 2 * 0 + _ ≤ _; exact Nat.le_of_eq rfl) (hb hby d_jdk_43_method_2_code_3)
  refine Goes.step st1 ?_
  obtain ⟨rfl, N1, e1⟩ := hQ1
  have N2 := Fr.app N0 N1
  show Goes p ee below s _ _ _ (T1.setTop (mkF m 6 #[.val (.ref a1), .val (.int (Int32.ofNat i))] []))
  refine Goes.step (fun _ hr_ => XS.aloadN X1.here hx rfl (hb hby d_jdk_43_method_2_code_6) rfl rfl hr_) ?_
  show Goes p ee below s _ _ _ (T1.setTop (mkF m 7 #[.val (.ref a1), .val (.int (Int32.ofNat i))] [(.ref a1)]))
  refine Goes.step (fun _ hr_ => XS.iloadN X1.here hx rfl (hb hby d_jdk_43_method_2_code_7) rfl  hr_) ?_
  show Goes p ee below s _ _ _ (T1.setTop (mkF m 8 #[.val (.ref a1), .val (.int (Int32.ofNat i))] [(.int (Int32.ofNat i)), (.ref a1)]))
  refine Goes.step (own_baload X1 hx hZ e1 A (j := (Int32.ofNat i)) (own_nneg i (by omega)) (k := i) (own_clamp i (by omega)) hi (v := (.int (own_bt (c i)))) rfl (g := (mkF m 8 #[.val (.ref a1), .val (.int (Int32.ofNat i))] [(.int (Int32.ofNat i)), (.ref a1)])) rfl rfl (hb hby d_jdk_43_method_2_code_8)) ?_
  show Goes p ee below s _ _ _ (T1.setTop (mkF m 9 #[.val (.ref a1), .val (.int (Int32.ofNat i))] [(.int (own_bt (c i)))]))
  refine Goes.step (fun _ hr_ => XS.sipush X1.here hx rfl (hb hby d_jdk_43_method_2_code_9) hr_) ?_
  show Goes p ee below s _ _ _ (T1.setTop (mkF m 12 #[.val (.ref a1), .val (.int (Int32.ofNat i))] [(.int (255 : Int32)), (.int (own_bt (c i)))]))
  refine Goes.step (fun _ hr_ => XS.iand X1.here hx rfl (hb hby d_jdk_43_method_2_code_12) rfl hr_) ?_
  show Goes p ee below s _ _ _ (T1.setTop (mkF m 13 #[.val (.ref a1), .val (.int (Int32.ofNat i))] [(.int ((own_bt (c i)) &&& (255 : Int32)))]))
  rw [own_bt255 (c i) (by omega), Nat.mod_eq_of_lt hc]
  show Goes p ee below s _ _ _ (T1.setTop (mkF m 13 #[.val (.ref a1), .val (.int (Int32.ofNat i))] [(.int (Int32.ofNat (c i)))]))
  refine Goes.step (fun _ hr_ => XT.i2c X1.here hx rfl (hb hby d_jdk_43_method_2_code_13) rfl hr_) ?_
  show Goes p ee below s _ _ _ (T1.setTop (mkF m 14 #[.val (.ref a1), .val (.int (Int32.ofNat i))] [(.int (Int32.ofNat (c i)).toUInt32.toUInt16.toUInt32.toInt32)]))
  rw [own_i2c (c i) (by omega)]
  show Goes p ee below s _ _ _ (T1.setTop (mkF m 14 #[.val (.ref a1), .val (.int (Int32.ofNat i))] [(.int (Int32.ofNat (c i)))]))
  refine Goes.retZ X1 hx Bd.notSynchronized Bd.returns (by simp) (own_nchar (c i) (by omega)) (hb hby d_jdk_43_method_2_code_14) (by decide) (by decide) ?_
  exact ⟨rfl, N2, e1⟩
theorem ef_coder (m : MethodId) (x0 : Addr) : entryFrame m #[(.ref x0)] 1 = mkF m 0 #[.val (.ref x0)] [] := by first | (simp [entryFrame, mkF, argsToLocals, Value.category]; done) | rfl
theorem d_jdk_42_method_152_code_0 : decode jdk_42_method_152_code 0 = .ok (.getstatic 38, 3) := by decide +kernel
theorem d_jdk_42_method_152_code_3 : decode jdk_42_method_152_code 3 = .ok (.ifCond .eq 10, 3) := by decide +kernel
theorem d_jdk_42_method_152_code_6 : decode jdk_42_method_152_code 6 = .ok (.aload_n 0, 1) := by decide +kernel
theorem d_jdk_42_method_152_code_7 : decode jdk_42_method_152_code 7 = .ok (.getfield 15, 3) := by decide +kernel
theorem d_jdk_42_method_152_code_10 : decode jdk_42_method_152_code 10 = .ok (.goto 4, 3) := by decide +kernel
theorem d_jdk_42_method_152_code_14 : decode jdk_42_method_152_code 14 = .ok (.ireturn, 1) := by decide +kernel
def Q_coder (Z : State) (cs : Int32) (fm : Value) (a1 : Addr) (h0 : Heap) (n0 : Nat) (v : Option Value) (h : Heap) (L : List Loc) : Prop := v = some (.int (own_cd false)) ∧ Fr n0 L ∧ h = h0
set_option maxRecDepth 65536 in
set_option maxHeartbeats 40000000 in
theorem rm_coder (l : Launch) (Z : State) (a0 : Array Value) (hw : ∀ d ∈ tables_1, d.before a0 Z = true) (ws : List Jvm.Cond) (cs : Int32) (fm : Value) (a1 : Addr) (h0 : Heap) (n0 : Nat) (Z0 : n0 ≤ h0.size) (ST : own_ST Z cs fm) (OO : Old Z n0 h0) (FC : Fld Z h0 a1 "java/lang/String" "coder" "B" (.int (own_cd false))) :
    MetFree l (⟨"java/lang/String", "coder", "()B"⟩ : MethodName) (head1 (Jvm.Cond.code (⟨"java/lang/String", "coder", "()B"⟩ : MethodName) jdk_42_method_152_code 1 (some .byte) :: ws) ({ frames := 0, cells := 0, slots := 0, locals := 0 } : Room)) (fun a U => a = #[(.ref a1)] ∧ Z.Warmed39 U.vm ∧ U.heap = h0) (fun _ _ _ _ _ => True) (fun _ U o U' => ∃ v L, o = .returned v ∧ Q_coder Z cs fm a1 h0 n0 v U'.heap L ∧ FrameEnd U o U' L ({ frames := 0, cells := 0, slots := 0, locals := 0 } : Room).cells ({ frames := 0, cells := 0, slots := 0, locals := 0 } : Room).slots) := by
  refine MetFree.of_bodySF (plainFor_of_name pn_java_lang_String) hisR ?_
  intro p ee s m args below meth cc s₁ Bd hml0 hP hK
  obtain ⟨rfl, hZ, hh⟩ := hP
  have hx := Bd.exec
  have hby := Bd.bytes
  have hml : cc.maxLocals = 1 := hml0
  have hown : s.vm.findClass "java/lang/String" = some m.cls := findClass_of_methodNamed Bd.named
  have hnm := (name_of_methodNamed Bd.named Bd.method).1
  have X0 : Stand p l ee ({ frames := 0, cells := 0, slots := 0, locals := 0 } : Room) s m #[(.ref a1)] below meth cc s₁ [] 0 0 := Stand.of_body Bd
  have e0 : s₁.heap = h0 := by rw [← hh, Bd.state]; rfl
  have N0 := Fr.nil n0
  show Goes p ee below s ({ frames := 0, cells := 0, slots := 0, locals := 0 } : Room).cells ({ frames := 0, cells := 0, slots := 0, locals := 0 } : Room).slots (Q_coder Z cs fm a1 h0 n0) (s₁.setTop (entryFrame m #[(.ref a1)] 1))
  refine Goes.step (fun _ hr_ => castTop (ef_coder m a1) hr_) ?_
  show Goes p ee below s _ _ _ (s₁.setTop (mkF m 0 #[.val (.ref a1)] []))
  obtain ⟨T1, X1, e1, st1⟩ := getS X0 hx hZ (host := "") hown (hw _ (List.mem_of_getElem? (i := 23) rfl)) Via.refl e0 ((ST.1).ext OO.2) (g := (mkF m 0 #[.val (.ref a1)] [])) rfl (hb hby d_jdk_42_method_152_code_0)
  refine Goes.step st1 ?_
  show Goes p ee below s _ _ _ (T1.setTop (mkF m 3 #[.val (.ref a1)] [(.int cs)]))
  refine Goes.step (fun _ hr_ => XS.ifNo X1.here hx rfl (hb hby d_jdk_42_method_152_code_3) rfl ((if0 _ _).trans (feq (ST.2.1)).1) hr_) ?_
  show Goes p ee below s _ _ _ (T1.setTop (mkF m 6 #[.val (.ref a1)] []))
  refine Goes.step (fun _ hr_ => XS.aloadN X1.here hx rfl (hb hby d_jdk_42_method_152_code_6) rfl rfl hr_) ?_
  show Goes p ee below s _ _ _ (T1.setTop (mkF m 7 #[.val (.ref a1)] [(.ref a1)]))
  obtain ⟨T2, X2, e2, st2⟩ := getF X1 hx hZ hown (host := "") (Or.inl (hw _ (List.mem_of_getElem? (i := 24) rfl))) Via.refl e1 FC (g := (mkF m 7 #[.val (.ref a1)] [(.ref a1)])) rfl rfl (hb hby d_jdk_42_method_152_code_7)
  refine Goes.step st2 ?_
  show Goes p ee below s _ _ _ (T2.setTop (mkF m 10 #[.val (.ref a1)] [(.int (own_cd false))]))
  refine Goes.step (fun _ hr_ => XS.goto X2.here hx rfl (pc0 := 10) (pc' := 14) rfl (hb hby d_jdk_42_method_152_code_10) (by decide) (by decide) hr_) ?_
  show Goes p ee below s _ _ _ (T2.setTop (mkF m 14 #[.val (.ref a1)] [(.int (own_cd false))]))
  refine Goes.retZ X2 hx Bd.notSynchronized Bd.returns (by simp) (own_cd_byte false).1 (hb hby d_jdk_42_method_152_code_14) (by decide) (by decide) ?_
  exact ⟨rfl, N0, e2⟩
theorem ef_isL (m : MethodId) (x0 : Addr) : entryFrame m #[(.ref x0)] 1 = mkF m 0 #[.val (.ref x0)] [] := by first | (simp [entryFrame, mkF, argsToLocals, Value.category]; done) | rfl
theorem d_jdk_42_method_154_code_0 : decode jdk_42_method_154_code 0 = .ok (.getstatic 38, 3) := by decide +kernel
theorem d_jdk_42_method_154_code_3 : decode jdk_42_method_154_code 3 = .ok (.ifCond .eq 14, 3) := by decide +kernel
theorem d_jdk_42_method_154_code_6 : decode jdk_42_method_154_code 6 = .ok (.aload_n 0, 1) := by decide +kernel
theorem d_jdk_42_method_154_code_7 : decode jdk_42_method_154_code 7 = .ok (.getfield 15, 3) := by decide +kernel
theorem d_jdk_42_method_154_code_10 : decode jdk_42_method_154_code 10 = .ok (.ifCond .ne 7, 3) := by decide +kernel
theorem d_jdk_42_method_154_code_13 : decode jdk_42_method_154_code 13 = .ok (.iconst 1, 1) := by decide +kernel
theorem d_jdk_42_method_154_code_14 : decode jdk_42_method_154_code 14 = .ok (.goto 4, 3) := by decide +kernel
theorem d_jdk_42_method_154_code_18 : decode jdk_42_method_154_code 18 = .ok (.ireturn, 1) := by decide +kernel
def Q_isL (Z : State) (cs : Int32) (fm : Value) (a1 : Addr) (h0 : Heap) (n0 : Nat) (v : Option Value) (h : Heap) (L : List Loc) : Prop := v = some (.int (if False then 0 else 1)) ∧ Fr n0 L ∧ h = h0
set_option maxRecDepth 65536 in
set_option maxHeartbeats 40000000 in
theorem rm_isL (l : Launch) (Z : State) (a0 : Array Value) (hw : ∀ d ∈ tables_1, d.before a0 Z = true) (ws : List Jvm.Cond) (cs : Int32) (fm : Value) (a1 : Addr) (h0 : Heap) (n0 : Nat) (Z0 : n0 ≤ h0.size) (ST : own_ST Z cs fm) (OO : Old Z n0 h0) (FC : Fld Z h0 a1 "java/lang/String" "coder" "B" (.int (own_cd false))) :
    MetFree l (⟨"java/lang/String", "isLatin1", "()Z"⟩ : MethodName) (head1 (Jvm.Cond.code (⟨"java/lang/String", "isLatin1", "()Z"⟩ : MethodName) jdk_42_method_154_code 1 (some .boolean) :: ws) ({ frames := 0, cells := 0, slots := 0, locals := 0 } : Room)) (fun a U => a = #[(.ref a1)] ∧ Z.Warmed39 U.vm ∧ U.heap = h0) (fun _ _ _ _ _ => True) (fun _ U o U' => ∃ v L, o = .returned v ∧ Q_isL Z cs fm a1 h0 n0 v U'.heap L ∧ FrameEnd U o U' L ({ frames := 0, cells := 0, slots := 0, locals := 0 } : Room).cells ({ frames := 0, cells := 0, slots := 0, locals := 0 } : Room).slots) := by
  refine MetFree.of_bodySF (plainFor_of_name pn_java_lang_String) hisR ?_
  intro p ee s m args below meth cc s₁ Bd hml0 hP hK
  obtain ⟨rfl, hZ, hh⟩ := hP
  have hx := Bd.exec
  have hby := Bd.bytes
  have hml : cc.maxLocals = 1 := hml0
  have hown : s.vm.findClass "java/lang/String" = some m.cls := findClass_of_methodNamed Bd.named
  have hnm := (name_of_methodNamed Bd.named Bd.method).1
  have X0 : Stand p l ee ({ frames := 0, cells := 0, slots := 0, locals := 0 } : Room) s m #[(.ref a1)] below meth cc s₁ [] 0 0 := Stand.of_body Bd
  have e0 : s₁.heap = h0 := by rw [← hh, Bd.state]; rfl
  have N0 := Fr.nil n0
  show Goes p ee below s ({ frames := 0, cells := 0, slots := 0, locals := 0 } : Room).cells ({ frames := 0, cells := 0, slots := 0, locals := 0 } : Room).slots (Q_isL Z cs fm a1 h0 n0) (s₁.setTop (entryFrame m #[(.ref a1)] 1))
  refine Goes.step (fun _ hr_ => castTop (ef_isL m a1) hr_) ?_
  show Goes p ee below s _ _ _ (s₁.setTop (mkF m 0 #[.val (.ref a1)] []))
  have FC : Fld Z h0 a1 "java/lang/String" "coder" "B" (.int 0) := FC
  show Goes p ee below s _ _ _ (s₁.setTop (mkF m 0 #[.val (.ref a1)] []))
  obtain ⟨T1, X1, e1, st1⟩ := getS X0 hx hZ (host := "") hown (hw _ (List.mem_of_getElem? (i := 23) rfl)) Via.refl e0 ((ST.1).ext OO.2) (g := (mkF m 0 #[.val (.ref a1)] [])) rfl (hb hby d_jdk_42_method_154_code_0)
  refine Goes.step st1 ?_
  show Goes p ee below s _ _ _ (T1.setTop (mkF m 3 #[.val (.ref a1)] [(.int cs)]))
  refine Goes.step (fun _ hr_ => XS.ifNo X1.here hx rfl (hb hby d_jdk_42_method_154_code_3) rfl ((if0 _ _).trans (feq (ST.2.1)).1) hr_) ?_
  show Goes p ee below s _ _ _ (T1.setTop (mkF m 6 #[.val (.ref a1)] []))
  refine Goes.step (fun _ hr_ => XS.aloadN X1.here hx rfl (hb hby d_jdk_42_method_154_code_6) rfl rfl hr_) ?_
  show Goes p ee below s _ _ _ (T1.setTop (mkF m 7 #[.val (.ref a1)] [(.ref a1)]))
  obtain ⟨T2, X2, e2, st2⟩ := getF X1 hx hZ hown (host := "") (Or.inl (hw _ (List.mem_of_getElem? (i := 24) rfl))) Via.refl e1 FC (g := (mkF m 7 #[.val (.ref a1)] [(.ref a1)])) rfl rfl (hb hby d_jdk_42_method_154_code_7)
  refine Goes.step st2 ?_
  show Goes p ee below s _ _ _ (T2.setTop (mkF m 10 #[.val (.ref a1)] [(.int (0 : Int32))]))
  refine Goes.step (fun _ hr_ => XS.ifNo X2.here hx rfl (hb hby d_jdk_42_method_154_code_10) rfl ((if0 _ _).trans (teq rfl).2) hr_) ?_
  show Goes p ee below s _ _ _ (T2.setTop (mkF m 13 #[.val (.ref a1)] []))
  refine Goes.step (fun _ hr_ => XS.iconst X2.here hx rfl (hb hby d_jdk_42_method_154_code_13) hr_) ?_
  show Goes p ee below s _ _ _ (T2.setTop (mkF m 14 #[.val (.ref a1)] [(.int (1 : Int32))]))
  refine Goes.step (fun _ hr_ => XS.goto X2.here hx rfl (pc0 := 14) (pc' := 18) rfl (hb hby d_jdk_42_method_154_code_14) (by decide) (by decide) hr_) ?_
  show Goes p ee below s _ _ _ (T2.setTop (mkF m 18 #[.val (.ref a1)] [(.int (1 : Int32))]))
  refine Goes.retZ X2 hx Bd.notSynchronized Bd.returns (by simp) rfl (hb hby d_jdk_42_method_154_code_18) (by decide) (by decide) ?_
  exact ⟨rfl, N0, e2⟩
theorem ef_slen (m : MethodId) (x0 : Addr) : entryFrame m #[(.ref x0)] 1 = mkF m 0 #[.val (.ref x0)] [] := by first | (simp [entryFrame, mkF, argsToLocals, Value.category]; done) | rfl
theorem d_jdk_42_method_54_code_0 : decode jdk_42_method_54_code 0 = .ok (.aload_n 0, 1) := by decide +kernel
theorem d_jdk_42_method_54_code_1 : decode jdk_42_method_54_code 1 = .ok (.getfield 9, 3) := by decide +kernel
theorem d_jdk_42_method_54_code_4 : decode jdk_42_method_54_code 4 = .ok (.arraylength, 1) := by decide +kernel
theorem d_jdk_42_method_54_code_5 : decode jdk_42_method_54_code 5 = .ok (.aload_n 0, 1) := by decide +kernel
theorem pd_2 : parseMethodDescriptor "()B" = some ⟨[], some .byte⟩ := by decide +kernel
theorem d_jdk_42_method_54_code_6 : decode jdk_42_method_54_code 6 = .ok (.invokevirtual 335, 3) := by decide +kernel
theorem d_jdk_42_method_54_code_9 : decode jdk_42_method_54_code 9 = .ok (.ishr, 1) := by decide +kernel
theorem d_jdk_42_method_54_code_10 : decode jdk_42_method_54_code 10 = .ok (.ireturn, 1) := by decide +kernel
def Q_slen (Z : State) (cs : Int32) (fm : Value) (a1 b : Addr) (n : Nat) (c : Nat → Nat) (h0 : Heap) (n0 : Nat) (v : Option Value) (h : Heap) (L : List Loc) : Prop := v = some (.int (Int32.ofNat n)) ∧ Fr n0 L ∧ h = h0
set_option maxRecDepth 65536 in
set_option maxHeartbeats 40000000 in
theorem rm_slen (l : Launch) (Z : State) (a0 : Array Value) (hw : ∀ d ∈ tables_1, d.before a0 Z = true) (ws : List Jvm.Cond) (cs : Int32) (fm : Value) (a1 b : Addr) (n : Nat) (c : Nat → Nat) (h0 : Heap) (n0 : Nat) (Z0 : n0 ≤ h0.size) (ST : own_ST Z cs fm) (OO : Old Z n0 h0) (hn : n < 2 ^ 29) (E : Exa Z h0 a1 "java/lang/String") (FV : Fld Z h0 a1 "java/lang/String" "value" "[B" (.ref b)) (FC : Fld Z h0 a1 "java/lang/String" "coder" "B" (.int (own_cd false))) (A : OA Z h0 b .byte (own_len false n) (own_by false c)) :
    MetFree l (⟨"java/lang/String", "length", "()I"⟩ : MethodName) (head1 (Jvm.Cond.code (⟨"java/lang/String", "length", "()I"⟩ : MethodName) jdk_42_method_54_code 1 (some .int) :: ws) ({ frames := 1, cells := 0, slots := 0, locals := 13 } : Room)) (fun a U => a = #[(.ref a1)] ∧ Z.Warmed39 U.vm ∧ U.heap = h0) (fun _ _ _ _ _ => True) (fun _ U o U' => ∃ v L, o = .returned v ∧ Q_slen Z cs fm a1 b n c h0 n0 v U'.heap L ∧ FrameEnd U o U' L ({ frames := 1, cells := 0, slots := 0, locals := 13 } : Room).cells ({ frames := 1, cells := 0, slots := 0, locals := 13 } : Room).slots) := by
  refine MetFree.of_bodySF (plainFor_of_name pn_java_lang_String) hisR ?_
  intro p ee s m args below meth cc s₁ Bd hml0 hP hK
  obtain ⟨rfl, hZ, hh⟩ := hP
  have hx := Bd.exec
  have hby := Bd.bytes
  have hml : cc.maxLocals = 1 := hml0
  have hown : s.vm.findClass "java/lang/String" = some m.cls := findClass_of_methodNamed Bd.named
  have hnm := (name_of_methodNamed Bd.named Bd.method).1
  have X0 : Stand p l ee ({ frames := 1, cells := 0, slots := 0, locals := 13 } : Room) s m #[(.ref a1)] below meth cc s₁ [] 0 0 := Stand.of_body Bd
  have e0 : s₁.heap = h0 := by rw [← hh, Bd.state]; rfl
  have N0 := Fr.nil n0
  show Goes p ee below s ({ frames := 1, cells := 0, slots := 0, locals := 13 } : Room).cells ({ frames := 1, cells := 0, slots := 0, locals := 13 } : Room).slots (Q_slen Z cs fm a1 b n c h0 n0) (s₁.setTop (entryFrame m #[(.ref a1)] 1))
  refine Goes.step (fun _ hr_ => castTop (ef_slen m a1) hr_) ?_
  show Goes p ee below s _ _ _ (s₁.setTop (mkF m 0 #[.val (.ref a1)] []))
  have FC : Fld Z h0 a1 "java/lang/String" "coder" "B" (.int 0) := FC
  have A : OA Z h0 b .byte n (own_by false c) := A
  show Goes p ee below s _ _ _ (s₁.setTop (mkF m 0 #[.val (.ref a1)] []))
  refine Goes.step (fun _ hr_ => XS.aloadN X0.here hx rfl (hb hby d_jdk_42_method_54_code_0) rfl rfl hr_) ?_
  show Goes p ee below s _ _ _ (s₁.setTop (mkF m 1 #[.val (.ref a1)] [(.ref a1)]))
  obtain ⟨T1, X1, e1, st1⟩ := getF X0 hx hZ hown (host := "") (Or.inl (hw _ (List.mem_of_getElem? (i := 25) rfl))) Via.refl e0 FV (g := (mkF m 1 #[.val (.ref a1)] [(.ref a1)])) rfl rfl (hb hby d_jdk_42_method_54_code_1)
  refine Goes.step st1 ?_
  show Goes p ee below s _ _ _ (T1.setTop (mkF m 4 #[.val (.ref a1)] [(.ref b)]))
  refine Goes.step (own_alen X1 hx hZ e1 A (z := (Int32.ofNat n)) rfl (g := (mkF m 4 #[.val (.ref a1)] [(.ref b)])) rfl rfl (hb hby d_jdk_42_method_54_code_4)) ?_
  show Goes p ee below s _ _ _ (T1.setTop (mkF m 5 #[.val (.ref a1)] [(.int (Int32.ofNat n))]))
  refine Goes.step (fun _ hr_ => XS.aloadN X1.here hx rfl (hb hby d_jdk_42_method_54_code_5) rfl rfl hr_) ?_
  show Goes p ee below s _ _ _ (T1.setTop (mkF m 6 #[.val (.ref a1)] [(.ref a1), (.int (Int32.ofNat n))]))
  have lt_a1 := E.lt
  have lt_b := A.lt
  obtain ⟨v2, T2, L2, X2, hQ2, st2⟩ := own_callV X1 hx hZ (y := (⟨"java/lang/String", "coder", "()B"⟩ : MethodName)) hown (hw _ (List.mem_of_getElem? (i := 81) rfl)) (hw _ (List.mem_of_getElem? (i := 82) rfl)) (hw _ (List.mem_of_getElem? (i := 84) rfl)) (hw _ (List.mem_of_getElem? (i := 83) rfl)) (hw _ (List.mem_of_getElem? (i := 5) rfl)) (hw _ (List.mem_of_getElem? (i := 85) rfl)) (by decide) (a := a1) (argsL := []) (rm_coder l Z a0 hw [] cs fm a1 h0 n0 Z0 ST OO FC) e1 E (W := 1) (by decide) (by decide) (by decide) (by decide) (g := (mkF m 6 #[.val (.ref a1)] [(.ref a1), (.int (Int32.ofNat n))])) rfl (by rw [hml]; rfl) (rest := [(.int (Int32.ofNat n))]) (lenOf pd_2 rfl) rfl (by show 2 * 0 + _ ≤ _; exact Nat.le_of_eq rfl) (hb hby d_jdk_42_method_54_code_6)
  refine Goes.step st2 ?_
  obtain ⟨rfl, N2, e2⟩ := hQ2
  have N3 := Fr.app N0 N2
  show Goes p ee below s _ _ _ (T2.setTop (mkF m 9 #[.val (.ref a1)] [(.int (0 : Int32)), (.int (Int32.ofNat n))]))
  refine Goes.step (fun _ hr_ => XT.ishr X2.here hx rfl (hb hby d_jdk_42_method_54_code_9) rfl hr_) ?_
  show Goes p ee below s _ _ _ (T2.setTop (mkF m 10 #[.val (.ref a1)] [(.int ((Int32.ofNat n) >>> ((0 : Int32) &&& 31)))]))
  rw [own_shr0 n (by omega)]
  show Goes p ee below s _ _ _ (T2.setTop (mkF m 10 #[.val (.ref a1)] [(.int (Int32.ofNat n))]))
  refine Goes.retI X2 hx Bd.notSynchronized Bd.returns (hb hby d_jdk_42_method_54_code_10) (by decide) (by decide) ?_
  exact ⟨rfl, N3, e2⟩
theorem ef_schar (m : MethodId) (x0 : Addr) (x1 : Int32) : entryFrame m #[(.ref x0), (.int x1)] 2 = mkF m 0 #[.val (.ref x0), .val (.int x1)] [] := by first | (simp [entryFrame, mkF, argsToLocals, Value.category]; done) | rfl
theorem d_jdk_42_method_56_code_0 : decode jdk_42_method_56_code 0 = .ok (.aload_n 0, 1) := by decide +kernel
theorem pd_3 : parseMethodDescriptor "()Z" = some ⟨[], some .boolean⟩ := by decide +kernel
theorem d_jdk_42_method_56_code_1 : decode jdk_42_method_56_code 1 = .ok (.invokevirtual 492, 3) := by decide +kernel
theorem d_jdk_42_method_56_code_4 : decode jdk_42_method_56_code 4 = .ok (.ifCond .eq 12, 3) := by decide +kernel
theorem d_jdk_42_method_56_code_7 : decode jdk_42_method_56_code 7 = .ok (.aload_n 0, 1) := by decide +kernel
theorem d_jdk_42_method_56_code_8 : decode jdk_42_method_56_code 8 = .ok (.getfield 9, 3) := by decide +kernel
theorem d_jdk_42_method_56_code_11 : decode jdk_42_method_56_code 11 = .ok (.iload_n 1, 1) := by decide +kernel
theorem pd_4 : parseMethodDescriptor "([BI)C" = some ⟨[(.array .byte), .int], some .char⟩ := by decide +kernel
theorem d_jdk_42_method_56_code_12 : decode jdk_42_method_56_code 12 = .ok (.invokestatic 495, 3) := by decide +kernel
theorem d_jdk_42_method_56_code_15 : decode jdk_42_method_56_code 15 = .ok (.ireturn, 1) := by decide +kernel
def Q_schar (Z : State) (cs : Int32) (fm : Value) (a1 b : Addr) (n : Nat) (c : Nat → Nat) (i : Nat) (h0 : Heap) (n0 : Nat) (v : Option Value) (h : Heap) (L : List Loc) : Prop := v = some (.int (Int32.ofNat (c i))) ∧ Fr n0 L ∧ h = h0
set_option maxRecDepth 65536 in
set_option maxHeartbeats 40000000 in
theorem rm_schar (l : Launch) (Z : State) (a0 : Array Value) (hw : ∀ d ∈ tables_1, d.before a0 Z = true) (ws : List Jvm.Cond) (cs : Int32) (fm : Value) (a1 b : Addr) (n : Nat) (c : Nat → Nat) (i : Nat) (h0 : Heap) (n0 : Nat) (Z0 : n0 ≤ h0.size) (ST : own_ST Z cs fm) (OO : Old Z n0 h0) (hn : n < 2 ^ 29) (E : Exa Z h0 a1 "java/lang/String") (FV : Fld Z h0 a1 "java/lang/String" "value" "[B" (.ref b)) (FC : Fld Z h0 a1 "java/lang/String" "coder" "B" (.int (own_cd false))) (A : OA Z h0 b .byte (own_len false n) (own_by false c)) (hc : ∀ j, j < n → c j < 65536) (hl : false = false → ∀ j, j < n → c j < 256) (hi : i < n) :
    MetFree l (⟨"java/lang/String", "charAt", "(I)C"⟩ : MethodName) (head1 (Jvm.Cond.code (⟨"java/lang/String", "charAt", "(I)C"⟩ : MethodName) jdk_42_method_56_code 2 (some .char) :: ws) ({ frames := 3, cells := 0, slots := 0, locals := 40 } : Room)) (fun a U => a = #[(.ref a1), (.int (Int32.ofNat i))] ∧ Z.Warmed39 U.vm ∧ U.heap = h0) (fun _ _ _ _ _ => True) (fun _ U o U' => ∃ v L, o = .returned v ∧ Q_schar Z cs fm a1 b n c i h0 n0 v U'.heap L ∧ FrameEnd U o U' L ({ frames := 3, cells := 0, slots := 0, locals := 40 } : Room).cells ({ frames := 3, cells := 0, slots := 0, locals := 40 } : Room).slots) := by
  refine MetFree.of_bodySF (plainFor_of_name pn_java_lang_String) hisR ?_
  intro p ee s m args below meth cc s₁ Bd hml0 hP hK
  obtain ⟨rfl, hZ, hh⟩ := hP
  have hx := Bd.exec
  have hby := Bd.bytes
  have hml : cc.maxLocals = 2 := hml0
  have hown : s.vm.findClass "java/lang/String" = some m.cls := findClass_of_methodNamed Bd.named
  have hnm := (name_of_methodNamed Bd.named Bd.method).1
  have X0 : Stand p l ee ({ frames := 3, cells := 0, slots := 0, locals := 40 } : Room) s m #[(.ref a1), (.int (Int32.ofNat i))] below meth cc s₁ [] 0 0 := Stand.of_body Bd
  have e0 : s₁.heap = h0 := by rw [← hh, Bd.state]; rfl
  have N0 := Fr.nil n0
  show Goes p ee below s ({ frames := 3, cells := 0, slots := 0, locals := 40 } : Room).cells ({ frames := 3, cells := 0, slots := 0, locals := 40 } : Room).slots (Q_schar Z cs fm a1 b n c i h0 n0) (s₁.setTop (entryFrame m #[(.ref a1), (.int (Int32.ofNat i))] 2))
  refine Goes.step (fun _ hr_ => castTop (ef_schar m a1 (Int32.ofNat i)) hr_) ?_
  show Goes p ee below s _ _ _ (s₁.setTop (mkF m 0 #[.val (.ref a1), .val (.int (Int32.ofNat i))] []))
  have FC : Fld Z h0 a1 "java/lang/String" "coder" "B" (.int 0) := FC
  have A : OA Z h0 b .byte n (own_by false c) := A
  show Goes p ee below s _ _ _ (s₁.setTop (mkF m 0 #[.val (.ref a1), .val (.int (Int32.ofNat i))] []))
  refine Goes.step (fun _ hr_ => XS.aloadN X0.here hx rfl (hb hby d_jdk_42_method_56_code_0) rfl rfl hr_) ?_
  show Goes p ee below s _ _ _ (s₁.setTop (mkF m 1 #[.val (.ref a1), .val (.int (Int32.ofNat i))] [(.ref a1)]))
  have lt_a1 := E.lt
  have lt_b := A.lt
  obtain ⟨v1, T1, L1, X1, hQ1, st1⟩ := own_callV X0 hx hZ (y := (⟨"java/lang/String", "isLatin1", "()Z"⟩ : MethodName)) hown (hw _ (List.mem_of_getElem? (i := 18) rfl)) (hw _ (List.mem_of_getElem? (i := 19) rfl)) (hw _ (List.mem_of_getElem? (i := 21) rfl)) (hw _ (List.mem_of_getElem? (i := 20) rfl)) (hw _ (List.mem_of_getElem? (i := 5) rfl)) (hw _ (List.mem_of_getElem? (i := 22) rfl)) (by decide) (a := a1) (argsL := []) (rm_isL l Z a0 hw [] cs fm a1 h0 n0 Z0 ST OO FC) e0 E (W := 0) (by decide) (by decide) (by decide) (by decide) (g := (mkF m 1 #[.val (.ref a1), .val (.int (Int32.ofNat i))] [(.ref a1)])) rfl (by rw [hml]; rfl) (rest := []) (lenOf pd_3 rfl) rfl (by show 2 * 0 + _ ≤ _; exact Nat.le_of_eq rfl) (hb hby d_jdk_42_method_56_code_1)
  refine Goes.step st1 ?_
  obtain ⟨rfl, N1, e1⟩ := hQ1
  have N2 := Fr.app N0 N1
  show Goes p ee below s _ _ _ (T1.setTop (mkF m 4 #[.val (.ref a1), .val (.int (Int32.ofNat i))] [(.int (1 : Int32))]))
  refine Goes.step (fun _ hr_ => XS.ifNo X1.here hx rfl (hb hby d_jdk_42_method_56_code_4) rfl ((if0 _ _).trans (feq (by decide)).1) hr_) ?_
  show Goes p ee below s _ _ _ (T1.setTop (mkF m 7 #[.val (.ref a1), .val (.int (Int32.ofNat i))] []))
  refine Goes.step (fun _ hr_ => XS.aloadN X1.here hx rfl (hb hby d_jdk_42_method_56_code_7) rfl rfl hr_) ?_
  show Goes p ee below s _ _ _ (T1.setTop (mkF m 8 #[.val (.ref a1), .val (.int (Int32.ofNat i))] [(.ref a1)]))
  obtain ⟨T3, X3, e3, st3⟩ := getF X1 hx hZ hown (host := "") (Or.inl (hw _ (List.mem_of_getElem? (i := 25) rfl))) Via.refl e1 FV (g := (mkF m 8 #[.val (.ref a1), .val (.int (Int32.ofNat i))] [(.ref a1)])) rfl rfl (hb hby d_jdk_42_method_56_code_8)
  refine Goes.step st3 ?_
  show Goes p ee below s _ _ _ (T3.setTop (mkF m 11 #[.val (.ref a1), .val (.int (Int32.ofNat i))] [(.ref b)]))
  refine Goes.step (fun _ hr_ => XS.iloadN X3.here hx rfl (hb hby d_jdk_42_method_56_code_11) rfl  hr_) ?_
  show Goes p ee below s _ _ _ (T3.setTop (mkF m 12 #[.val (.ref a1), .val (.int (Int32.ofNat i))] [(.int (Int32.ofNat i)), (.ref b)]))
  have lt_a1 := E.lt
  have lt_b := A.lt
  obtain ⟨v4, T4, L4, X4, hQ4, st4⟩ := own_callS X3 hx hZ (y := (⟨"java/lang/StringLatin1", "charAt", "([BI)C"⟩ : MethodName)) hown (hw _ (List.mem_of_getElem? (i := 26) rfl)) (hw _ (List.mem_of_getElem? (i := 27) rfl)) (hw _ (List.mem_of_getElem? (i := 28) rfl)) (hw _ (List.mem_of_getElem? (i := 29) rfl)) (by decide) (argsL := [(.ref b), (.int (Int32.ofNat i))]) (rm_l1c l Z a0 hw [] cs fm b i n c h0 n0 Z0 ST OO hi (by omega) (hl rfl i hi) A) e3 (W := 0) (by decide) (by decide) (by decide) (by decide) (g := (mkF m 12 #[.val (.ref a1), .val (.int (Int32.ofNat i))] [(.int (Int32.ofNat i)), (.ref b)])) rfl (by rw [hml]; rfl) (rest := []) (lenOf pd_4 rfl) rfl (by show 2 * 0 + _ ≤ _; exact Nat.le_of_eq rfl) (hb hby d_jdk_42_method_56_code_12)
  refine Goes.step st4 ?_
  obtain ⟨rfl, N4, e4⟩ := hQ4
  have N5 := Fr.app N2 N4
  show Goes p ee below s _ _ _ (T4.setTop (mkF m 15 #[.val (.ref a1), .val (.int (Int32.ofNat i))] [(.int (Int32.ofNat (c i)))]))
  refine Goes.retZ X4 hx Bd.notSynchronized Bd.returns (by simp) (own_nchar (c i) (hc i hi)) (hb hby d_jdk_42_method_56_code_15) (by decide) (by decide) ?_
  exact ⟨rfl, N5, e4⟩
theorem ef_cmp5 (m : MethodId) (x0 : Addr) (x1 : Int32) (x2 : Addr) (x3 : Int32) (x4 : Int32) : entryFrame m #[(.ref x0), (.int x1), (.ref x2), (.int x3), (.int x4)] 7 = mkF m 0 #[.val (.ref x0), .val (.int x1), .val (.ref x2), .val (.int x3), .val (.int x4), .unset, .unset] [] := by first | (simp [entryFrame, mkF, argsToLocals, Value.category]; done) | rfl
theorem pn_java_lang_StringUTF16 : plainName "java/lang/StringUTF16" = true := by first | (simp [plainName, overriddenIn]; done) | decide +kernel
theorem own_os6 {a1 a2 : Addr} {i1 i3 i4 i5 v : Int32} {s6 : Slot} (h : One s6) : storeLocals #[.val (.ref a1), .val (.int i1), .val (.ref a2), .val (.int i3), .val (.int i4), .val (.int i5), s6] 6 (.int v) = some #[.val (.ref a1), .val (.int i1), .val (.ref a2), .val (.int i3), .val (.int i4), .val (.int i5), .val (.int v)] := by
  rcases h with rfl | ⟨w, rfl, hw⟩
  · rfl
  · cases w <;> first | rfl | (simp [Value.category] at hw)
theorem d_jdk_52_method_21_code_0 : decode jdk_52_method_21_code 0 = .ok (.iconst 0, 1) := by decide +kernel
theorem d_jdk_52_method_21_code_1 : decode jdk_52_method_21_code 1 = .ok (.istore 5, 2) := by decide +kernel
theorem d_jdk_52_method_21_code_3 : decode jdk_52_method_21_code 3 = .ok (.iload 5, 2) := by decide +kernel
theorem d_jdk_52_method_21_code_5 : decode jdk_52_method_21_code 5 = .ok (.iload 4, 2) := by decide +kernel
theorem d_jdk_52_method_21_code_7 : decode jdk_52_method_21_code 7 = .ok (.if_icmp .ge 37, 3) := by decide +kernel
theorem d_jdk_52_method_21_code_10 : decode jdk_52_method_21_code 10 = .ok (.aload_n 0, 1) := by decide +kernel
theorem d_jdk_52_method_21_code_11 : decode jdk_52_method_21_code 11 = .ok (.iload_n 1, 1) := by decide +kernel
theorem d_jdk_52_method_21_code_12 : decode jdk_52_method_21_code 12 = .ok (.caload, 1) := by decide +kernel
theorem d_jdk_52_method_21_code_13 : decode jdk_52_method_21_code 13 = .ok (.istore 6, 2) := by decide +kernel
theorem d_jdk_52_method_21_code_15 : decode jdk_52_method_21_code 15 = .ok (.iload 6, 2) := by decide +kernel
theorem d_jdk_52_method_21_code_17 : decode jdk_52_method_21_code 17 = .ok (.sipush 255, 3) := by decide +kernel
theorem d_jdk_52_method_21_code_20 : decode jdk_52_method_21_code 20 = .ok (.if_icmp .le 6, 3) := by decide +kernel
theorem d_jdk_52_method_21_code_23 : decode jdk_52_method_21_code 23 = .ok (.iload 5, 2) := by decide +kernel
theorem d_jdk_52_method_21_code_25 : decode jdk_52_method_21_code 25 = .ok (.ireturn, 1) := by decide +kernel
theorem d_jdk_52_method_21_code_26 : decode jdk_52_method_21_code 26 = .ok (.aload_n 2, 1) := by decide +kernel
theorem d_jdk_52_method_21_code_27 : decode jdk_52_method_21_code 27 = .ok (.iload_n 3, 1) := by decide +kernel
theorem d_jdk_52_method_21_code_28 : decode jdk_52_method_21_code 28 = .ok (.iload 6, 2) := by decide +kernel
theorem d_jdk_52_method_21_code_30 : decode jdk_52_method_21_code 30 = .ok (.i2b, 1) := by decide +kernel
theorem d_jdk_52_method_21_code_31 : decode jdk_52_method_21_code 31 = .ok (.bastore, 1) := by decide +kernel
theorem d_jdk_52_method_21_code_32 : decode jdk_52_method_21_code 32 = .ok (.iinc 1 1, 3) := by decide +kernel
theorem d_jdk_52_method_21_code_35 : decode jdk_52_method_21_code 35 = .ok (.iinc 3 1, 3) := by decide +kernel
theorem d_jdk_52_method_21_code_38 : decode jdk_52_method_21_code 38 = .ok (.iinc 5 1, 3) := by decide +kernel
theorem d_jdk_52_method_21_code_41 : decode jdk_52_method_21_code 41 = .ok (.goto (-38), 3) := by decide +kernel
theorem d_jdk_52_method_21_code_44 : decode jdk_52_method_21_code 44 = .ok (.iload 4, 2) := by decide +kernel
theorem d_jdk_52_method_21_code_46 : decode jdk_52_method_21_code 46 = .ok (.ireturn, 1) := by decide +kernel
def Q_cmp5 (Z : State) (cs : Int32) (fm : Value) (a1 a2 : Addr) (n : Nat) (c : Nat → Nat) (f : Nat → Value) (h0 : Heap) (n0 : Nat) (v : Option Value) (h : Heap) (L : List Loc) : Prop := Fr n0 L ∧ Keep h0 h [a2] ∧ ((v = some (.int (Int32.ofNat n)) ∧ (∀ j, j < n → c j < 256) ∧ OA Z h a2 .byte n (own_by false c)) ∨ ∃ k, k < n ∧ v = some (.int (Int32.ofNat k)) ∧ 255 < c k)
set_option maxRecDepth 65536 in
set_option maxHeartbeats 40000000 in
theorem rm_cmp5 (l : Launch) (Z : State) (a0 : Array Value) (hw : ∀ d ∈ tables_1, d.before a0 Z = true) (ws : List Jvm.Cond) (cs : Int32) (fm : Value) (a1 a2 : Addr) (n : Nat) (c : Nat → Nat) (f : Nat → Value) (h0 : Heap) (n0 : Nat) (Z0 : n0 ≤ h0.size) (ST : own_ST Z cs fm) (OO : Old Z n0 h0) (hn : n ≤ 3) (hc : ∀ j, j < n → c j < 65536) (ne12 : a1 ≠ a2) (ge_a2 : n0 ≤ a2) (A : OA Z h0 a1 .char n (fun i => .int (Int32.ofNat (c i)))) (B : OA Z h0 a2 .byte n f) :
    MetFree l (⟨"java/lang/StringUTF16", "compress", "([CI[BII)I"⟩ : MethodName) (head1 (Jvm.Cond.code (⟨"java/lang/StringUTF16", "compress", "([CI[BII)I"⟩ : MethodName) jdk_52_method_21_code 7 (some .int) :: ws) ({ frames := 0, cells := 0, slots := 0, locals := 0 } : Room)) (fun a U => a = #[(.ref a1), (.int (0 : Int32)), (.ref a2), (.int (0 : Int32)), (.int (Int32.ofNat n))] ∧ Z.Warmed39 U.vm ∧ U.heap = h0) (fun _ _ _ _ _ => True) (fun _ U o U' => ∃ v L, o = .returned v ∧ Q_cmp5 Z cs fm a1 a2 n c f h0 n0 v U'.heap L ∧ FrameEnd U o U' L ({ frames := 0, cells := 0, slots := 0, locals := 0 } : Room).cells ({ frames := 0, cells := 0, slots := 0, locals := 0 } : Room).slots) := by
  refine MetFree.of_bodySF (plainFor_of_name pn_java_lang_StringUTF16) hisR ?_
  intro p ee s m args below meth cc s₁ Bd hml0 hP hK
  obtain ⟨rfl, hZ, hh⟩ := hP
  have hx := Bd.exec
  have hby := Bd.bytes
  have hml : cc.maxLocals = 7 := hml0
  have hown : s.vm.findClass "java/lang/StringUTF16" = some m.cls := findClass_of_methodNamed Bd.named
  have hnm := (name_of_methodNamed Bd.named Bd.method).1
  have X0 : Stand p l ee ({ frames := 0, cells := 0, slots := 0, locals := 0 } : Room) s m #[(.ref a1), (.int (0 : Int32)), (.ref a2), (.int (0 : Int32)), (.int (Int32.ofNat n))] below meth cc s₁ [] 0 0 := Stand.of_body Bd
  have e0 : s₁.heap = h0 := by rw [← hh, Bd.state]; rfl
  have N0 := Fr.nil n0
  show Goes p ee below s ({ frames := 0, cells := 0, slots := 0, locals := 0 } : Room).cells ({ frames := 0, cells := 0, slots := 0, locals := 0 } : Room).slots (Q_cmp5 Z cs fm a1 a2 n c f h0 n0) (s₁.setTop (entryFrame m #[(.ref a1), (.int (0 : Int32)), (.ref a2), (.int (0 : Int32)), (.int (Int32.ofNat n))] 7))
  refine Goes.step (fun _ hr_ => castTop (ef_cmp5 m a1 (0 : Int32) a2 (0 : Int32) (Int32.ofNat n)) hr_) ?_
  show Goes p ee below s _ _ _ (s₁.setTop (mkF m 0 #[.val (.ref a1), .val (.int (0 : Int32)), .val (.ref a2), .val (.int (0 : Int32)), .val (.int (Int32.ofNat n)), .unset, .unset] []))
  have K0 := Keep.refl h0 ([a2] : List Addr)
  refine Goes.step (fun _ hr_ => XS.iconst X0.here hx rfl (hb hby d_jdk_52_method_21_code_0) hr_) ?_
  show Goes p ee below s _ _ _ (s₁.setTop (mkF m 1 #[.val (.ref a1), .val (.int (0 : Int32)), .val (.ref a2), .val (.int (0 : Int32)), .val (.int (Int32.ofNat n)), .unset, .unset] [(.int (0 : Int32))]))
  refine Goes.step (fun _ hr_ => XS.istore X0.here hx rfl (hb hby d_jdk_52_method_21_code_1) rfl  (l' := #[.val (.ref a1), .val (.int (0 : Int32)), .val (.ref a2), .val (.int (0 : Int32)), .val (.int (Int32.ofNat n)), .val (.int (0 : Int32)), .unset]) rfl hr_) ?_
  show Goes p ee below s _ _ _ (s₁.setTop (mkF m 3 #[.val (.ref a1), .val (.int (0 : Int32)), .val (.ref a2), .val (.int (0 : Int32)), .val (.int (Int32.ofNat n)), .val (.int (0 : Int32)), .unset] []))
  have loop : ∀ (d i : Nat) (s6 : Slot) (T : State) (locs : List Loc) (hh : Heap), One s6 → Stand p l ee ({ frames := 0, cells := 0, slots := 0, locals := 0 } : Room) s m #[(.ref a1), (.int (0 : Int32)), (.ref a2), (.int (0 : Int32)), (.int (Int32.ofNat n))] below meth cc T locs 0 0 → T.heap = hh → Fr n0 locs → n0 ≤ hh.size → Keep h0 hh [a2] → Old Z n0 hh → OA Z hh a1 .char n (fun i => .int (Int32.ofNat (c i))) → OA Z hh a2 .byte n (fun j => if j < i then own_by false c j else f j) → (∀ j, j < i → c j < 256) → 0 < d → n < i + d → i ≤ n → Goes p ee below s ({ frames := 0, cells := 0, slots := 0, locals := 0 } : Room).cells ({ frames := 0, cells := 0, slots := 0, locals := 0 } : Room).slots (Q_cmp5 Z cs fm a1 a2 n c f h0 n0) (T.setTop (mkF m 3 #[.val (.ref a1), .val (.int (Int32.ofNat i)), .val (.ref a2), .val (.int (Int32.ofNat i)), .val (.int (Int32.ofNat n)), .val (.int (Int32.ofNat i)), s6] [])) := by
    intro d
    induction d with
    | zero => intro i s6 T locs hh o6 X eT N Zp K OO A B hall q1; omega
    | succ d ih =>
      intro i s6 T locs hh o6 X eT N Zp K OO A B hall q1 q2 q3
      show Goes p ee below s _ _ _ (T.setTop (mkF m 3 #[.val (.ref a1), .val (.int (Int32.ofNat i)), .val (.ref a2), .val (.int (Int32.ofNat i)), .val (.int (Int32.ofNat n)), .val (.int (Int32.ofNat i)), s6] []))
      refine Goes.step (fun _ hr_ => XS.iload X.here hx rfl (hb hby d_jdk_52_method_21_code_3) rfl  hr_) ?_
      show Goes p ee below s _ _ _ (T.setTop (mkF m 5 #[.val (.ref a1), .val (.int (Int32.ofNat i)), .val (.ref a2), .val (.int (Int32.ofNat i)), .val (.int (Int32.ofNat n)), .val (.int (Int32.ofNat i)), s6] [(.int (Int32.ofNat i))]))
      refine Goes.step (fun _ hr_ => XS.iload X.here hx rfl (hb hby d_jdk_52_method_21_code_5) rfl  hr_) ?_
      show Goes p ee below s _ _ _ (T.setTop (mkF m 7 #[.val (.ref a1), .val (.int (Int32.ofNat i)), .val (.ref a2), .val (.int (Int32.ofNat i)), .val (.int (Int32.ofNat n)), .val (.int (Int32.ofNat i)), s6] [(.int (Int32.ofNat n)), (.int (Int32.ofNat i))]))
      by_cases hn7_1 : i < n
      · refine Goes.step (fun _ hr_ => XS.icmpNo X.here hx rfl (hb hby d_jdk_52_method_21_code_7) rfl (tlt ((own_ltN i n (by omega) (by omega)).mpr hn7_1)).2.1 hr_) ?_
        show Goes p ee below s _ _ _ (T.setTop (mkF m 10 #[.val (.ref a1), .val (.int (Int32.ofNat i)), .val (.ref a2), .val (.int (Int32.ofNat i)), .val (.int (Int32.ofNat n)), .val (.int (Int32.ofNat i)), s6] []))
        refine Goes.step (fun _ hr_ => XS.aloadN X.here hx rfl (hb hby d_jdk_52_method_21_code_10) rfl rfl hr_) ?_
        show Goes p ee below s _ _ _ (T.setTop (mkF m 11 #[.val (.ref a1), .val (.int (Int32.ofNat i)), .val (.ref a2), .val (.int (Int32.ofNat i)), .val (.int (Int32.ofNat n)), .val (.int (Int32.ofNat i)), s6] [(.ref a1)]))
        refine Goes.step (fun _ hr_ => XS.iloadN X.here hx rfl (hb hby d_jdk_52_method_21_code_11) rfl  hr_) ?_
        show Goes p ee below s _ _ _ (T.setTop (mkF m 12 #[.val (.ref a1), .val (.int (Int32.ofNat i)), .val (.ref a2), .val (.int (Int32.ofNat i)), .val (.int (Int32.ofNat n)), .val (.int (Int32.ofNat i)), s6] [(.int (Int32.ofNat i)), (.ref a1)]))
        refine Goes.step (own_caload X hx hZ eT A (j := (Int32.ofNat i)) (own_nneg i (by omega)) (k := i) (own_clamp i (by omega)) hn7_1 (v := (.int (Int32.ofNat (c i)))) rfl (g := (mkF m 12 #[.val (.ref a1), .val (.int (Int32.ofNat i)), .val (.ref a2), .val (.int (Int32.ofNat i)), .val (.int (Int32.ofNat n)), .val (.int (Int32.ofNat i)), s6] [(.int (Int32.ofNat i)), (.ref a1)])) rfl rfl (hb hby d_jdk_52_method_21_code_12)) ?_
        show Goes p ee below s _ _ _ (T.setTop (mkF m 13 #[.val (.ref a1), .val (.int (Int32.ofNat i)), .val (.ref a2), .val (.int (Int32.ofNat i)), .val (.int (Int32.ofNat n)), .val (.int (Int32.ofNat i)), s6] [(.int (Int32.ofNat (c i)))]))
        refine Goes.step (fun _ hr_ => XS.istore X.here hx rfl (hb hby d_jdk_52_method_21_code_13) rfl  (l' := #[.val (.ref a1), .val (.int (Int32.ofNat i)), .val (.ref a2), .val (.int (Int32.ofNat i)), .val (.int (Int32.ofNat n)), .val (.int (Int32.ofNat i)), .val (.int (Int32.ofNat (c i)))]) (own_os6 o6) hr_) ?_
        show Goes p ee below s _ _ _ (T.setTop (mkF m 15 #[.val (.ref a1), .val (.int (Int32.ofNat i)), .val (.ref a2), .val (.int (Int32.ofNat i)), .val (.int (Int32.ofNat n)), .val (.int (Int32.ofNat i)), .val (.int (Int32.ofNat (c i)))] []))
        refine Goes.step (fun _ hr_ => XS.iload X.here hx rfl (hb hby d_jdk_52_method_21_code_15) rfl  hr_) ?_
        show Goes p ee below s _ _ _ (T.setTop (mkF m 17 #[.val (.ref a1), .val (.int (Int32.ofNat i)), .val (.ref a2), .val (.int (Int32.ofNat i)), .val (.int (Int32.ofNat n)), .val (.int (Int32.ofNat i)), .val (.int (Int32.ofNat (c i)))] [(.int (Int32.ofNat (c i)))]))
        refine Goes.step (fun _ hr_ => XS.sipush X.here hx rfl (hb hby d_jdk_52_method_21_code_17) hr_) ?_
        show Goes p ee below s _ _ _ (T.setTop (mkF m 20 #[.val (.ref a1), .val (.int (Int32.ofNat i)), .val (.ref a2), .val (.int (Int32.ofNat i)), .val (.int (Int32.ofNat n)), .val (.int (Int32.ofNat i)), .val (.int (Int32.ofNat (c i)))] [(.int (255 : Int32)), (.int (Int32.ofNat (c i)))]))
        by_cases hn20_2 : 255 < c i
        · refine Goes.step (fun _ hr_ => XS.icmpNo X.here hx rfl (hb hby d_jdk_52_method_21_code_20) rfl (tlt ((own_ltN 255 (c i) (by decide) (Nat.lt_trans (hc i hn7_1) (by decide))).mpr hn20_2)).2.2.2 hr_) ?_
          show Goes p ee below s _ _ _ (T.setTop (mkF m 23 #[.val (.ref a1), .val (.int (Int32.ofNat i)), .val (.ref a2), .val (.int (Int32.ofNat i)), .val (.int (Int32.ofNat n)), .val (.int (Int32.ofNat i)), .val (.int (Int32.ofNat (c i)))] []))
          refine Goes.step (fun _ hr_ => XS.iload X.here hx rfl (hb hby d_jdk_52_method_21_code_23) rfl  hr_) ?_
          show Goes p ee below s _ _ _ (T.setTop (mkF m 25 #[.val (.ref a1), .val (.int (Int32.ofNat i)), .val (.ref a2), .val (.int (Int32.ofNat i)), .val (.int (Int32.ofNat n)), .val (.int (Int32.ofNat i)), .val (.int (Int32.ofNat (c i)))] [(.int (Int32.ofNat i))]))
          refine Goes.retI X hx Bd.notSynchronized Bd.returns (hb hby d_jdk_52_method_21_code_25) (by decide) (by decide) ?_
          rw [eT]
          exact ⟨N, K, Or.inr ⟨i, hn7_1, rfl, hn20_2⟩⟩
        · refine Goes.step (fun _ hr_ => XS.icmpYes X.here hx rfl (pc0 := 20) (pc' := 26) rfl (hb hby d_jdk_52_method_21_code_20) rfl (flt (fun z => hn20_2 ((own_ltN 255 (c i) (by decide) (Nat.lt_trans (hc i hn7_1) (by decide))).mp z))).2.2.2 (by decide) (by decide) hr_) ?_
          show Goes p ee below s _ _ _ (T.setTop (mkF m 26 #[.val (.ref a1), .val (.int (Int32.ofNat i)), .val (.ref a2), .val (.int (Int32.ofNat i)), .val (.int (Int32.ofNat n)), .val (.int (Int32.ofNat i)), .val (.int (Int32.ofNat (c i)))] []))
          refine Goes.step (fun _ hr_ => XS.aloadN X.here hx rfl (hb hby d_jdk_52_method_21_code_26) rfl rfl hr_) ?_
          show Goes p ee below s _ _ _ (T.setTop (mkF m 27 #[.val (.ref a1), .val (.int (Int32.ofNat i)), .val (.ref a2), .val (.int (Int32.ofNat i)), .val (.int (Int32.ofNat n)), .val (.int (Int32.ofNat i)), .val (.int (Int32.ofNat (c i)))] [(.ref a2)]))
          refine Goes.step (fun _ hr_ => XS.iloadN X.here hx rfl (hb hby d_jdk_52_method_21_code_27) rfl  hr_) ?_
          show Goes p ee below s _ _ _ (T.setTop (mkF m 28 #[.val (.ref a1), .val (.int (Int32.ofNat i)), .val (.ref a2), .val (.int (Int32.ofNat i)), .val (.int (Int32.ofNat n)), .val (.int (Int32.ofNat i)), .val (.int (Int32.ofNat (c i)))] [(.int (Int32.ofNat i)), (.ref a2)]))
          refine Goes.step (fun _ hr_ => XS.iload X.here hx rfl (hb hby d_jdk_52_method_21_code_28) rfl  hr_) ?_
          show Goes p ee below s _ _ _ (T.setTop (mkF m 30 #[.val (.ref a1), .val (.int (Int32.ofNat i)), .val (.ref a2), .val (.int (Int32.ofNat i)), .val (.int (Int32.ofNat n)), .val (.int (Int32.ofNat i)), .val (.int (Int32.ofNat (c i)))] [(.int (Int32.ofNat (c i))), (.int (Int32.ofNat i)), (.ref a2)]))
          refine Goes.step (fun _ hr_ => XT.i2b X.here hx rfl (hb hby d_jdk_52_method_21_code_30) rfl hr_) ?_
          show Goes p ee below s _ _ _ (T.setTop (mkF m 31 #[.val (.ref a1), .val (.int (Int32.ofNat i)), .val (.ref a2), .val (.int (Int32.ofNat i)), .val (.int (Int32.ofNat n)), .val (.int (Int32.ofNat i)), .val (.int (Int32.ofNat (c i)))] [(.int (Int32.ofNat (c i)).toInt8.toInt32), (.int (Int32.ofNat i)), (.ref a2)]))
          obtain ⟨T3, h3, X3, e3, W3, A3, st3⟩ := own_stB X hx hZ eT B (x := (Int32.ofNat (c i)).toInt8.toInt32) (j := (Int32.ofNat i)) (own_nneg i (by omega)) (k := i) (own_clamp i (by omega)) hn7_1 (g := (mkF m 31 #[.val (.ref a1), .val (.int (Int32.ofNat i)), .val (.ref a2), .val (.int (Int32.ofNat i)), .val (.int (Int32.ofNat n)), .val (.int (Int32.ofNat i)), .val (.int (Int32.ofNat (c i)))] [(.int (Int32.ofNat (c i)).toInt8.toInt32), (.int (Int32.ofNat i)), (.ref a2)])) rfl rfl (hb hby d_jdk_52_method_21_code_31)
          refine Goes.step st3 ?_
          have A := A.other W3 ne12
          have Zp4 := Nat.le_trans Zp (Keep.of_wr W3).1
          have N5 := Fr.snoc X3 N ge_a2
          have OO := OO.wr W3 ge_a2
          have K6 := K.wr W3 (Or.inl (List.mem_of_getElem? (i := 0) rfl))
          have B : OA Z h3 a2 .byte n (fun j => if j = i then .int (own_bt (c i)) else if j < i then own_by false c j else f j) := A3.congr (fun j hj => by rw [own_bt_nar]; rfl)
          show Goes p ee below s _ _ _ (T3.setTop (mkF m 32 #[.val (.ref a1), .val (.int (Int32.ofNat i)), .val (.ref a2), .val (.int (Int32.ofNat i)), .val (.int (Int32.ofNat n)), .val (.int (Int32.ofNat i)), .val (.int (Int32.ofNat (c i)))] []))
          refine Goes.step (fun _ hr_ => XS.iinc X3.here hx rfl (hb hby d_jdk_52_method_21_code_32) rfl (l' := #[.val (.ref a1), .val (.int ((Int32.ofNat i) + (1 : Int32))), .val (.ref a2), .val (.int (Int32.ofNat i)), .val (.int (Int32.ofNat n)), .val (.int (Int32.ofNat i)), .val (.int (Int32.ofNat (c i)))]) rfl hr_) ?_
          show Goes p ee below s _ _ _ (T3.setTop (mkF m 35 #[.val (.ref a1), .val (.int ((Int32.ofNat i) + (1 : Int32))), .val (.ref a2), .val (.int (Int32.ofNat i)), .val (.int (Int32.ofNat n)), .val (.int (Int32.ofNat i)), .val (.int (Int32.ofNat (c i)))] []))
          refine Goes.step (fun _ hr_ => XS.iinc X3.here hx rfl (hb hby d_jdk_52_method_21_code_35) rfl (l' := #[.val (.ref a1), .val (.int ((Int32.ofNat i) + (1 : Int32))), .val (.ref a2), .val (.int ((Int32.ofNat i) + (1 : Int32))), .val (.int (Int32.ofNat n)), .val (.int (Int32.ofNat i)), .val (.int (Int32.ofNat (c i)))]) rfl hr_) ?_
          show Goes p ee below s _ _ _ (T3.setTop (mkF m 38 #[.val (.ref a1), .val (.int ((Int32.ofNat i) + (1 : Int32))), .val (.ref a2), .val (.int ((Int32.ofNat i) + (1 : Int32))), .val (.int (Int32.ofNat n)), .val (.int (Int32.ofNat i)), .val (.int (Int32.ofNat (c i)))] []))
          refine Goes.step (fun _ hr_ => XS.iinc X3.here hx rfl (hb hby d_jdk_52_method_21_code_38) rfl (l' := #[.val (.ref a1), .val (.int ((Int32.ofNat i) + (1 : Int32))), .val (.ref a2), .val (.int ((Int32.ofNat i) + (1 : Int32))), .val (.int (Int32.ofNat n)), .val (.int ((Int32.ofNat i) + (1 : Int32))), .val (.int (Int32.ofNat (c i)))]) rfl hr_) ?_
          show Goes p ee below s _ _ _ (T3.setTop (mkF m 41 #[.val (.ref a1), .val (.int ((Int32.ofNat i) + (1 : Int32))), .val (.ref a2), .val (.int ((Int32.ofNat i) + (1 : Int32))), .val (.int (Int32.ofNat n)), .val (.int ((Int32.ofNat i) + (1 : Int32))), .val (.int (Int32.ofNat (c i)))] []))
          rw [show Int32.ofNat i + (1 : Int32) = Int32.ofNat (i + 1) from own_addN i 1]
          show Goes p ee below s _ _ _ (T3.setTop (mkF m 41 #[.val (.ref a1), .val (.int (Int32.ofNat (i + 1))), .val (.ref a2), .val (.int (Int32.ofNat (i + 1))), .val (.int (Int32.ofNat n)), .val (.int (Int32.ofNat (i + 1))), .val (.int (Int32.ofNat (c i)))] []))
          refine Goes.step (fun _ hr_ => XS.goto X3.here hx rfl (pc0 := 41) (pc' := 3) rfl (hb hby d_jdk_52_method_21_code_41) (by decide) (by decide) hr_) ?_
          show Goes p ee below s _ _ _ (T3.setTop (mkF m 3 #[.val (.ref a1), .val (.int (Int32.ofNat (i + 1))), .val (.ref a2), .val (.int (Int32.ofNat (i + 1))), .val (.int (Int32.ofNat n)), .val (.int (Int32.ofNat (i + 1))), .val (.int (Int32.ofNat (c i)))] []))
          exact ih (i + 1) _ _ _ _ (One.val rfl) X3 e3 N5 Zp4 K6 OO A (own_lat_next B) (fun j hj => by
            by_cases q : j = i
            · rw [q]; omega
            · exact hall j (by omega)) (by omega) (by omega) (by omega)
      · refine Goes.step (fun _ hr_ => XS.icmpYes X.here hx rfl (pc0 := 7) (pc' := 44) rfl (hb hby d_jdk_52_method_21_code_7) rfl (flt (fun z => hn7_1 ((own_ltN i n (by omega) (by omega)).mp z))).2.1 (by decide) (by decide) hr_) ?_
        show Goes p ee below s _ _ _ (T.setTop (mkF m 44 #[.val (.ref a1), .val (.int (Int32.ofNat i)), .val (.ref a2), .val (.int (Int32.ofNat i)), .val (.int (Int32.ofNat n)), .val (.int (Int32.ofNat i)), s6] []))
        refine Goes.step (fun _ hr_ => XS.iload X.here hx rfl (hb hby d_jdk_52_method_21_code_44) rfl  hr_) ?_
        show Goes p ee below s _ _ _ (T.setTop (mkF m 46 #[.val (.ref a1), .val (.int (Int32.ofNat i)), .val (.ref a2), .val (.int (Int32.ofNat i)), .val (.int (Int32.ofNat n)), .val (.int (Int32.ofNat i)), s6] [(.int (Int32.ofNat n))]))
        refine Goes.retI X hx Bd.notSynchronized Bd.returns (hb hby d_jdk_52_method_21_code_46) (by decide) (by decide) ?_
        rw [eT]
        exact ⟨N, K, Or.inl ⟨rfl, fun j hj => hall j (by omega), B.congr (fun j hj => if_pos (by omega))⟩⟩
  exact loop (n + 1) 0 _ _ _ _ One.u X0 e0 N0 Z0 K0 OO A (B.congr (fun j hj => (if_neg (by omega)).symm)) (fun j hj => by omega) (by omega) (by omega) (by omega)
theorem ef_cmp3 (m : MethodId) (x0 : Addr) (x1 : Int32) (x2 : Int32) : entryFrame m #[(.ref x0), (.int x1), (.int x2)] 6 = mkF m 0 #[.val (.ref x0), .val (.int x1), .val (.int x2), .unset, .unset, .unset] [] := by first | (simp [entryFrame, mkF, argsToLocals, Value.category]; done) | rfl
theorem d_jdk_52_method_16_code_0 : decode jdk_52_method_16_code 0 = .ok (.iload_n 2, 1) := by decide +kernel
theorem d_jdk_52_method_16_code_1 : decode jdk_52_method_16_code 1 = .ok (.newarray .byte, 2) := by decide +kernel
theorem d_jdk_52_method_16_code_3 : decode jdk_52_method_16_code 3 = .ok (.astore_n 3, 1) := by decide +kernel
theorem d_jdk_52_method_16_code_4 : decode jdk_52_method_16_code 4 = .ok (.aload_n 0, 1) := by decide +kernel
theorem d_jdk_52_method_16_code_5 : decode jdk_52_method_16_code 5 = .ok (.iload_n 1, 1) := by decide +kernel
theorem d_jdk_52_method_16_code_6 : decode jdk_52_method_16_code 6 = .ok (.aload_n 3, 1) := by decide +kernel
theorem d_jdk_52_method_16_code_7 : decode jdk_52_method_16_code 7 = .ok (.iconst 0, 1) := by decide +kernel
theorem d_jdk_52_method_16_code_8 : decode jdk_52_method_16_code 8 = .ok (.iload_n 2, 1) := by decide +kernel
theorem pd_5 : parseMethodDescriptor "([CI[BII)I" = some ⟨[(.array .char), .int, (.array .byte), .int, .int], some .int⟩ := by decide +kernel
theorem d_jdk_52_method_16_code_9 : decode jdk_52_method_16_code 9 = .ok (.invokestatic 115, 3) := by decide +kernel
theorem d_jdk_52_method_16_code_12 : decode jdk_52_method_16_code 12 = .ok (.istore 4, 2) := by decide +kernel
theorem d_jdk_52_method_16_code_14 : decode jdk_52_method_16_code 14 = .ok (.iload 4, 2) := by decide +kernel
theorem d_jdk_52_method_16_code_16 : decode jdk_52_method_16_code 16 = .ok (.iload_n 2, 1) := by decide +kernel
theorem d_jdk_52_method_16_code_17 : decode jdk_52_method_16_code 17 = .ok (.if_icmp .eq 40, 3) := by decide +kernel
theorem d_jdk_52_method_16_code_57 : decode jdk_52_method_16_code 57 = .ok (.aload_n 3, 1) := by decide +kernel
theorem d_jdk_52_method_16_code_58 : decode jdk_52_method_16_code 58 = .ok (.areturn, 1) := by decide +kernel
def Q_cmp3 (Z : State) (cs : Int32) (fm : Value) (a1 : Addr) (n : Nat) (c : Nat → Nat) (h0 : Heap) (n0 : Nat) (v : Option Value) (h : Heap) (L : List Loc) : Prop := ∃ (b : Addr) (u : Bool), v = some (.ref b) ∧ Fr n0 L ∧ h0.size ≤ b ∧ Keep h0 h [] ∧ OA Z h b .byte (own_len u n) (own_by u c) ∧ (u = false → ∀ j, j < n → c j < 256) ∧ (u = true → ∃ j, j < n ∧ 255 < c j)
set_option maxRecDepth 65536 in
set_option maxHeartbeats 40000000 in
theorem rm_cmp3 (l : Launch) (Z : State) (a0 : Array Value) (hw : ∀ d ∈ tables_1, d.before a0 Z = true) (ws : List Jvm.Cond) (cs : Int32) (fm : Value) (a1 : Addr) (n : Nat) (c : Nat → Nat) (h0 : Heap) (n0 : Nat) (Z0 : n0 ≤ h0.size) (ST : own_ST Z cs fm) (OO : Old Z n0 h0) (hn0 : 0 < n) (hn : n ≤ 3) (hc : ∀ j, j < n → c j < 65536) (hlat : ∀ j, j < n → c j < 256) (A : OA Z h0 a1 .char n (fun i => .int (Int32.ofNat (c i)))) :
    MetFree l (⟨"java/lang/StringUTF16", "compress", "([CII)[B"⟩ : MethodName) (head1 (Jvm.Cond.code (⟨"java/lang/StringUTF16", "compress", "([CII)[B"⟩ : MethodName) jdk_52_method_16_code 6 (some (.array .byte)) :: ws) ({ frames := 1, cells := 1, slots := 3, locals := 18 } : Room)) (fun a U => a = #[(.ref a1), (.int (0 : Int32)), (.int (Int32.ofNat n))] ∧ Z.Warmed39 U.vm ∧ U.heap = h0) (fun _ _ _ _ _ => True) (fun _ U o U' => ∃ v L, o = .returned v ∧ Q_cmp3 Z cs fm a1 n c h0 n0 v U'.heap L ∧ FrameEnd U o U' L ({ frames := 1, cells := 1, slots := 3, locals := 18 } : Room).cells ({ frames := 1, cells := 1, slots := 3, locals := 18 } : Room).slots) := by
  refine MetFree.of_bodySF (plainFor_of_name pn_java_lang_StringUTF16) hisR ?_
  intro p ee s m args below meth cc s₁ Bd hml0 hP hK
  obtain ⟨rfl, hZ, hh⟩ := hP
  have hx := Bd.exec
  have hby := Bd.bytes
  have hml : cc.maxLocals = 6 := hml0
  have hown : s.vm.findClass "java/lang/StringUTF16" = some m.cls := findClass_of_methodNamed Bd.named
  have hnm := (name_of_methodNamed Bd.named Bd.method).1
  have X0 : Stand p l ee ({ frames := 1, cells := 1, slots := 3, locals := 18 } : Room) s m #[(.ref a1), (.int (0 : Int32)), (.int (Int32.ofNat n))] below meth cc s₁ [] 0 0 := Stand.of_body Bd
  have e0 : s₁.heap = h0 := by rw [← hh, Bd.state]; rfl
  have N0 := Fr.nil n0
  show Goes p ee below s ({ frames := 1, cells := 1, slots := 3, locals := 18 } : Room).cells ({ frames := 1, cells := 1, slots := 3, locals := 18 } : Room).slots (Q_cmp3 Z cs fm a1 n c h0 n0) (s₁.setTop (entryFrame m #[(.ref a1), (.int (0 : Int32)), (.int (Int32.ofNat n))] 6))
  refine Goes.step (fun _ hr_ => castTop (ef_cmp3 m a1 (0 : Int32) (Int32.ofNat n)) hr_) ?_
  show Goes p ee below s _ _ _ (s₁.setTop (mkF m 0 #[.val (.ref a1), .val (.int (0 : Int32)), .val (.int (Int32.ofNat n)), .unset, .unset, .unset] []))
  have K0 := Keep.refl h0 ([] : List Addr)
  refine Goes.step (fun _ hr_ => XS.iloadN X0.here hx rfl (hb hby d_jdk_52_method_16_code_0) rfl  hr_) ?_
  show Goes p ee below s _ _ _ (s₁.setTop (mkF m 1 #[.val (.ref a1), .val (.int (0 : Int32)), .val (.int (Int32.ofNat n)), .unset, .unset, .unset] [(.int (Int32.ofNat n))]))
  obtain ⟨T1, h1, X1, e1, E1, A1, st1⟩ := own_newP X0 hx hZ (aty := .byte) (hw _ (List.mem_of_getElem? (i := 7) rfl)) e0 (z := (Int32.ofNat n)) (own_nneg n (by omega)) (n := n) (own_clamp n (by omega)) (cap := 3) hn (by decide) (by decide) (by decide) (g := (mkF m 1 #[.val (.ref a1), .val (.int (0 : Int32)), .val (.int (Int32.ofNat n)), .unset, .unset, .unset] [(.int (Int32.ofNat n))])) rfl rfl (hb hby d_jdk_52_method_16_code_1)
  obtain ⟨b1, g_b1⟩ : ∃ z, z = h0.size := ⟨_, rfl⟩
  have ne_a1_b1 : a1 ≠ b1 := Nat.ne_of_lt (Nat.lt_of_lt_of_le A.lt (Nat.le_of_eq g_b1.symm))
  have ge_b1 : n0 ≤ b1 := Nat.le_trans Z0 (Nat.le_of_eq g_b1.symm)
  have sz_b1 : h0.size ≤ b1 := Nat.le_trans K0.1 (Nat.le_of_eq g_b1.symm)
  rw [← g_b1] at A1 st1
  have A := A.ext E1
  have Zp2 := Nat.le_trans Z0 E1.1
  have OO := OO.ext E1
  have K3 := K0.ext E1
  refine Goes.step st1 ?_
  have A_b1 : OA Z h1 b1 .byte n (fun _ => (.int 0)) := A1
  show Goes p ee below s _ _ _ (T1.setTop (mkF m 3 #[.val (.ref a1), .val (.int (0 : Int32)), .val (.int (Int32.ofNat n)), .unset, .unset, .unset] [(.ref b1)]))
  refine Goes.step (fun _ hr_ => XS.astoreN X1.here hx rfl (hb hby d_jdk_52_method_16_code_3) rfl rfl (l' := #[.val (.ref a1), .val (.int (0 : Int32)), .val (.int (Int32.ofNat n)), .val (.ref b1), .unset, .unset]) rfl hr_) ?_
  show Goes p ee below s _ _ _ (T1.setTop (mkF m 4 #[.val (.ref a1), .val (.int (0 : Int32)), .val (.int (Int32.ofNat n)), .val (.ref b1), .unset, .unset] []))
  refine Goes.step (fun _ hr_ => XS.aloadN X1.here hx rfl (hb hby d_jdk_52_method_16_code_4) rfl rfl hr_) ?_
  show Goes p ee below s _ _ _ (T1.setTop (mkF m 5 #[.val (.ref a1), .val (.int (0 : Int32)), .val (.int (Int32.ofNat n)), .val (.ref b1), .unset, .unset] [(.ref a1)]))
  refine Goes.step (fun _ hr_ => XS.iloadN X1.here hx rfl (hb hby d_jdk_52_method_16_code_5) rfl  hr_) ?_
  show Goes p ee below s _ _ _ (T1.setTop (mkF m 6 #[.val (.ref a1), .val (.int (0 : Int32)), .val (.int (Int32.ofNat n)), .val (.ref b1), .unset, .unset] [(.int (0 : Int32)), (.ref a1)]))
  refine Goes.step (fun _ hr_ => XS.aloadN X1.here hx rfl (hb hby d_jdk_52_method_16_code_6) rfl rfl hr_) ?_
  show Goes p ee below s _ _ _ (T1.setTop (mkF m 7 #[.val (.ref a1), .val (.int (0 : Int32)), .val (.int (Int32.ofNat n)), .val (.ref b1), .unset, .unset] [(.ref b1), (.int (0 : Int32)), (.ref a1)]))
  refine Goes.step (fun _ hr_ => XS.iconst X1.here hx rfl (hb hby d_jdk_52_method_16_code_7) hr_) ?_
  show Goes p ee below s _ _ _ (T1.setTop (mkF m 8 #[.val (.ref a1), .val (.int (0 : Int32)), .val (.int (Int32.ofNat n)), .val (.ref b1), .unset, .unset] [(.int (0 : Int32)), (.ref b1), (.int (0 : Int32)), (.ref a1)]))
  refine Goes.step (fun _ hr_ => XS.iloadN X1.here hx rfl (hb hby d_jdk_52_method_16_code_8) rfl  hr_) ?_
  show Goes p ee below s _ _ _ (T1.setTop (mkF m 9 #[.val (.ref a1), .val (.int (0 : Int32)), .val (.int (Int32.ofNat n)), .val (.ref b1), .unset, .unset] [(.int (Int32.ofNat n)), (.int (0 : Int32)), (.ref b1), (.int (0 : Int32)), (.ref a1)]))
  have lt_a1 := A.lt
  have lt_b1 := A_b1.lt
  obtain ⟨v4, T4, L4, X4, hQ4, st4⟩ := own_callS X1 hx hZ (y := (⟨"java/lang/StringUTF16", "compress", "([CI[BII)I"⟩ : MethodName)) hown (hw _ (List.mem_of_getElem? (i := 70) rfl)) (hw _ (List.mem_of_getElem? (i := 71) rfl)) (hw _ (List.mem_of_getElem? (i := 68) rfl)) (hw _ (List.mem_of_getElem? (i := 72) rfl)) (by decide) (argsL := [(.ref a1), (.int (0 : Int32)), (.ref b1), (.int (0 : Int32)), (.int (Int32.ofNat n))]) (rm_cmp5 l Z a0 hw [] cs fm a1 b1 n c _ h1 n0 Zp2 ST OO hn hc ne_a1_b1 ge_b1 A A_b1) e1 (W := 0) (by decide) (by decide) (by decide) (by decide) (g := (mkF m 9 #[.val (.ref a1), .val (.int (0 : Int32)), .val (.int (Int32.ofNat n)), .val (.ref b1), .unset, .unset] [(.int (Int32.ofNat n)), (.int (0 : Int32)), (.ref b1), (.int (0 : Int32)), (.ref a1)])) rfl (by rw [hml]; rfl) (rest := []) (lenOf pd_5 rfl) rfl (by show 2 * 0 + _ ≤ _; exact Nat.le_of_eq rfl) (hb hby d_jdk_52_method_16_code_9)
  refine Goes.step st4 ?_
  obtain ⟨N4, Kc4, hv4⟩ := hQ4
  have N5 := Fr.app N0 N4
  obtain ⟨h4, e4⟩ : ∃ h', T4.heap = h' := ⟨_, rfl⟩
  rw [e4] at Kc4 hv4
  have A := A.keep Kc4 (ninS ne_a1_b1 nin0)
  have OO := OO.keep Kc4 (allS ge_b1 all0)
  have K6 := K3.trans Kc4 (allS (Or.inr sz_b1) all0)
  have Zp7 := Nat.le_trans Zp2 Kc4.1
  rcases hv4 with ⟨rfl, hall, A_b1⟩ | ⟨k, hk, rfl, hk255⟩
  · show Goes p ee below s _ _ _ (T4.setTop (mkF m 12 #[.val (.ref a1), .val (.int (0 : Int32)), .val (.int (Int32.ofNat n)), .val (.ref b1), .unset, .unset] [(.int (Int32.ofNat n))]))
    refine Goes.step (fun _ hr_ => XS.istore X4.here hx rfl (hb hby d_jdk_52_method_16_code_12) rfl  (l' := #[.val (.ref a1), .val (.int (0 : Int32)), .val (.int (Int32.ofNat n)), .val (.ref b1), .val (.int (Int32.ofNat n)), .unset]) rfl hr_) ?_
    show Goes p ee below s _ _ _ (T4.setTop (mkF m 14 #[.val (.ref a1), .val (.int (0 : Int32)), .val (.int (Int32.ofNat n)), .val (.ref b1), .val (.int (Int32.ofNat n)), .unset] []))
    refine Goes.step (fun _ hr_ => XS.iload X4.here hx rfl (hb hby d_jdk_52_method_16_code_14) rfl  hr_) ?_
    show Goes p ee below s _ _ _ (T4.setTop (mkF m 16 #[.val (.ref a1), .val (.int (0 : Int32)), .val (.int (Int32.ofNat n)), .val (.ref b1), .val (.int (Int32.ofNat n)), .unset] [(.int (Int32.ofNat n))]))
    refine Goes.step (fun _ hr_ => XS.iloadN X4.here hx rfl (hb hby d_jdk_52_method_16_code_16) rfl  hr_) ?_
    show Goes p ee below s _ _ _ (T4.setTop (mkF m 17 #[.val (.ref a1), .val (.int (0 : Int32)), .val (.int (Int32.ofNat n)), .val (.ref b1), .val (.int (Int32.ofNat n)), .unset] [(.int (Int32.ofNat n)), (.int (Int32.ofNat n))]))
    refine Goes.step (fun _ hr_ => XS.icmpYes X4.here hx rfl (pc0 := 17) (pc' := 57) rfl (hb hby d_jdk_52_method_16_code_17) rfl (teq rfl).1 (by decide) (by decide) hr_) ?_
    show Goes p ee below s _ _ _ (T4.setTop (mkF m 57 #[.val (.ref a1), .val (.int (0 : Int32)), .val (.int (Int32.ofNat n)), .val (.ref b1), .val (.int (Int32.ofNat n)), .unset] []))
    refine Goes.step (fun _ hr_ => XS.aloadN X4.here hx rfl (hb hby d_jdk_52_method_16_code_57) rfl rfl hr_) ?_
    show Goes p ee below s _ _ _ (T4.setTop (mkF m 58 #[.val (.ref a1), .val (.int (0 : Int32)), .val (.int (Int32.ofNat n)), .val (.ref b1), .val (.int (Int32.ofNat n)), .unset] [(.ref b1)]))
    refine Goes.retA X4 hx Bd.notSynchronized Bd.returns rfl rfl (hb hby d_jdk_52_method_16_code_58) (by decide) (by decide) ?_
    rw [e4]
    exact ⟨_, false, rfl, N5, sz_b1, K6, A_b1, fun _ => hall, nofun⟩
  · show Goes p ee below s _ _ _ (T4.setTop (mkF m 12 #[.val (.ref a1), .val (.int (0 : Int32)), .val (.int (Int32.ofNat n)), .val (.ref b1), .unset, .unset] [(.int (Int32.ofNat k))]))
    refine Goes.step (fun _ hr_ => XS.istore X4.here hx rfl (hb hby d_jdk_52_method_16_code_12) rfl  (l' := #[.val (.ref a1), .val (.int (0 : Int32)), .val (.int (Int32.ofNat n)), .val (.ref b1), .val (.int (Int32.ofNat k)), .unset]) rfl hr_) ?_
    show Goes p ee below s _ _ _ (T4.setTop (mkF m 14 #[.val (.ref a1), .val (.int (0 : Int32)), .val (.int (Int32.ofNat n)), .val (.ref b1), .val (.int (Int32.ofNat k)), .unset] []))
    refine Goes.step (fun _ hr_ => XS.iload X4.here hx rfl (hb hby d_jdk_52_method_16_code_14) rfl  hr_) ?_
    show Goes p ee below s _ _ _ (T4.setTop (mkF m 16 #[.val (.ref a1), .val (.int (0 : Int32)), .val (.int (Int32.ofNat n)), .val (.ref b1), .val (.int (Int32.ofNat k)), .unset] [(.int (Int32.ofNat k))]))
    refine Goes.step (fun _ hr_ => XS.iloadN X4.here hx rfl (hb hby d_jdk_52_method_16_code_16) rfl  hr_) ?_
    show Goes p ee below s _ _ _ (T4.setTop (mkF m 17 #[.val (.ref a1), .val (.int (0 : Int32)), .val (.int (Int32.ofNat n)), .val (.ref b1), .val (.int (Int32.ofNat k)), .unset] [(.int (Int32.ofNat n)), (.int (Int32.ofNat k))]))
    refine Goes.step (fun _ hr_ => XS.icmpNo X4.here hx rfl (hb hby d_jdk_52_method_16_code_17) rfl (feq (fun z => absurd ((own_eqN k n (by omega) (by omega)).mp z) (by omega))).1 hr_) ?_
    show Goes p ee below s _ _ _ (T4.setTop (mkF m 20 #[.val (.ref a1), .val (.int (0 : Int32)), .val (.int (Int32.ofNat n)), .val (.ref b1), .val (.int (Int32.ofNat k)), .unset] []))
    exact absurd (hlat k hk) (by omega)
theorem ef_cfa (m : MethodId) (x0 : Addr) (x1 : Int32) : entryFrame m #[(.ref x0), (.int x1)] 2 = mkF m 0 #[.val (.ref x0), .val (.int x1)] [] := by first | (simp [entryFrame, mkF, argsToLocals, Value.category]; done) | rfl
theorem d_jdk_52_method_15_code_0 : decode jdk_52_method_15_code 0 = .ok (.iload_n 1, 1) := by decide +kernel
theorem d_jdk_52_method_15_code_1 : decode jdk_52_method_15_code 1 = .ok (.aload_n 0, 1) := by decide +kernel
theorem d_jdk_52_method_15_code_2 : decode jdk_52_method_15_code 2 = .ok (.arraylength, 1) := by decide +kernel
theorem d_jdk_52_method_15_code_3 : decode jdk_52_method_15_code 3 = .ok (.isub, 1) := by decide +kernel
theorem d_jdk_52_method_15_code_4 : decode jdk_52_method_15_code 4 = .ok (.bipush 31, 2) := by decide +kernel
theorem d_jdk_52_method_15_code_6 : decode jdk_52_method_15_code 6 = .ok (.iushr, 1) := by decide +kernel
theorem d_jdk_52_method_15_code_7 : decode jdk_52_method_15_code 7 = .ok (.i2b, 1) := by decide +kernel
theorem d_jdk_52_method_15_code_8 : decode jdk_52_method_15_code 8 = .ok (.ireturn, 1) := by decide +kernel
def Q_cfa (Z : State) (cs : Int32) (fm : Value) (a1 : Addr) (n : Nat) (u : Bool) (f : Nat → Value) (h0 : Heap) (n0 : Nat) (v : Option Value) (h : Heap) (L : List Loc) : Prop := v = some (.int (own_cd u)) ∧ Fr n0 L ∧ h = h0
set_option maxRecDepth 65536 in
set_option maxHeartbeats 40000000 in
theorem rm_cfa (l : Launch) (Z : State) (a0 : Array Value) (hw : ∀ d ∈ tables_1, d.before a0 Z = true) (ws : List Jvm.Cond) (cs : Int32) (fm : Value) (a1 : Addr) (n : Nat) (u : Bool) (f : Nat → Value) (h0 : Heap) (n0 : Nat) (Z0 : n0 ≤ h0.size) (ST : own_ST Z cs fm) (OO : Old Z n0 h0) (hn0 : 0 < n) (hn : n < 2 ^ 30) (A : OA Z h0 a1 .byte (own_len u n) f) :
    MetFree l (⟨"java/lang/StringUTF16", "coderFromArrayLen", "([BI)B"⟩ : MethodName) (head1 (Jvm.Cond.code (⟨"java/lang/StringUTF16", "coderFromArrayLen", "([BI)B"⟩ : MethodName) jdk_52_method_15_code 2 (some .byte) :: ws) ({ frames := 0, cells := 0, slots := 0, locals := 0 } : Room)) (fun a U => a = #[(.ref a1), (.int (Int32.ofNat n))] ∧ Z.Warmed39 U.vm ∧ U.heap = h0) (fun _ _ _ _ _ => True) (fun _ U o U' => ∃ v L, o = .returned v ∧ Q_cfa Z cs fm a1 n u f h0 n0 v U'.heap L ∧ FrameEnd U o U' L ({ frames := 0, cells := 0, slots := 0, locals := 0 } : Room).cells ({ frames := 0, cells := 0, slots := 0, locals := 0 } : Room).slots) := by
  refine MetFree.of_bodySF (plainFor_of_name pn_java_lang_StringUTF16) hisR ?_
  intro p ee s m args below meth cc s₁ Bd hml0 hP hK
  obtain ⟨rfl, hZ, hh⟩ := hP
  have hx := Bd.exec
  have hby := Bd.bytes
  have hml : cc.maxLocals = 2 := hml0
  have hown : s.vm.findClass "java/lang/StringUTF16" = some m.cls := findClass_of_methodNamed Bd.named
  have hnm := (name_of_methodNamed Bd.named Bd.method).1
  have X0 : Stand p l ee ({ frames := 0, cells := 0, slots := 0, locals := 0 } : Room) s m #[(.ref a1), (.int (Int32.ofNat n))] below meth cc s₁ [] 0 0 := Stand.of_body Bd
  have e0 : s₁.heap = h0 := by rw [← hh, Bd.state]; rfl
  have N0 := Fr.nil n0
  show Goes p ee below s ({ frames := 0, cells := 0, slots := 0, locals := 0 } : Room).cells ({ frames := 0, cells := 0, slots := 0, locals := 0 } : Room).slots (Q_cfa Z cs fm a1 n u f h0 n0) (s₁.setTop (entryFrame m #[(.ref a1), (.int (Int32.ofNat n))] 2))
  refine Goes.step (fun _ hr_ => castTop (ef_cfa m a1 (Int32.ofNat n)) hr_) ?_
  show Goes p ee below s _ _ _ (s₁.setTop (mkF m 0 #[.val (.ref a1), .val (.int (Int32.ofNat n))] []))
  cases u
  · have A : OA Z h0 a1 .byte n f := A
    show Goes p ee below s _ _ _ (s₁.setTop (mkF m 0 #[.val (.ref a1), .val (.int (Int32.ofNat n))] []))
    refine Goes.step (fun _ hr_ => XS.iloadN X0.here hx rfl (hb hby d_jdk_52_method_15_code_0) rfl  hr_) ?_
    show Goes p ee below s _ _ _ (s₁.setTop (mkF m 1 #[.val (.ref a1), .val (.int (Int32.ofNat n))] [(.int (Int32.ofNat n))]))
    refine Goes.step (fun _ hr_ => XS.aloadN X0.here hx rfl (hb hby d_jdk_52_method_15_code_1) rfl rfl hr_) ?_
    show Goes p ee below s _ _ _ (s₁.setTop (mkF m 2 #[.val (.ref a1), .val (.int (Int32.ofNat n))] [(.ref a1), (.int (Int32.ofNat n))]))
    refine Goes.step (own_alen X0 hx hZ e0 A (z := (Int32.ofNat n)) rfl (g := (mkF m 2 #[.val (.ref a1), .val (.int (Int32.ofNat n))] [(.ref a1), (.int (Int32.ofNat n))])) rfl rfl (hb hby d_jdk_52_method_15_code_2)) ?_
    show Goes p ee below s _ _ _ (s₁.setTop (mkF m 3 #[.val (.ref a1), .val (.int (Int32.ofNat n))] [(.int (Int32.ofNat n)), (.int (Int32.ofNat n))]))
    refine Goes.step (fun _ hr_ => XS.isub X0.here hx rfl (hb hby d_jdk_52_method_15_code_3) rfl hr_) ?_
    show Goes p ee below s _ _ _ (s₁.setTop (mkF m 4 #[.val (.ref a1), .val (.int (Int32.ofNat n))] [(.int ((Int32.ofNat n) - (Int32.ofNat n)))]))
    refine Goes.step (fun _ hr_ => XS.bipush X0.here hx rfl (hb hby d_jdk_52_method_15_code_4) hr_) ?_
    show Goes p ee below s _ _ _ (s₁.setTop (mkF m 6 #[.val (.ref a1), .val (.int (Int32.ofNat n))] [(.int (31 : Int32)), (.int ((Int32.ofNat n) - (Int32.ofNat n)))]))
    refine Goes.step (fun _ hr_ => XT.iushr X0.here hx rfl (hb hby d_jdk_52_method_15_code_6) rfl hr_) ?_
    show Goes p ee below s _ _ _ (s₁.setTop (mkF m 7 #[.val (.ref a1), .val (.int (Int32.ofNat n))] [(.int (XT.ushr ((Int32.ofNat n) - (Int32.ofNat n)) (31 : Int32)))]))
    refine Goes.step (fun _ hr_ => XT.i2b X0.here hx rfl (hb hby d_jdk_52_method_15_code_7) rfl hr_) ?_
    show Goes p ee below s _ _ _ (s₁.setTop (mkF m 8 #[.val (.ref a1), .val (.int (Int32.ofNat n))] [(.int (XT.ushr ((Int32.ofNat n) - (Int32.ofNat n)) (31 : Int32)).toInt8.toInt32)]))
    rw [own_cd0 n]
    show Goes p ee below s _ _ _ (s₁.setTop (mkF m 8 #[.val (.ref a1), .val (.int (Int32.ofNat n))] [(.int (0 : Int32))]))
    refine Goes.retZ X0 hx Bd.notSynchronized Bd.returns (by simp) rfl (hb hby d_jdk_52_method_15_code_8) (by decide) (by decide) ?_
    exact ⟨rfl, N0, e0⟩
  · have A : OA Z h0 a1 .byte (2 * n) f := A
    show Goes p ee below s _ _ _ (s₁.setTop (mkF m 0 #[.val (.ref a1), .val (.int (Int32.ofNat n))] []))
    refine Goes.step (fun _ hr_ => XS.iloadN X0.here hx rfl (hb hby d_jdk_52_method_15_code_0) rfl  hr_) ?_
    show Goes p ee below s _ _ _ (s₁.setTop (mkF m 1 #[.val (.ref a1), .val (.int (Int32.ofNat n))] [(.int (Int32.ofNat n))]))
    refine Goes.step (fun _ hr_ => XS.aloadN X0.here hx rfl (hb hby d_jdk_52_method_15_code_1) rfl rfl hr_) ?_
    show Goes p ee below s _ _ _ (s₁.setTop (mkF m 2 #[.val (.ref a1), .val (.int (Int32.ofNat n))] [(.ref a1), (.int (Int32.ofNat n))]))
    refine Goes.step (own_alen X0 hx hZ e0 A (z := (Int32.ofNat (2 * n))) rfl (g := (mkF m 2 #[.val (.ref a1), .val (.int (Int32.ofNat n))] [(.ref a1), (.int (Int32.ofNat n))])) rfl rfl (hb hby d_jdk_52_method_15_code_2)) ?_
    show Goes p ee below s _ _ _ (s₁.setTop (mkF m 3 #[.val (.ref a1), .val (.int (Int32.ofNat n))] [(.int (Int32.ofNat (2 * n))), (.int (Int32.ofNat n))]))
    refine Goes.step (fun _ hr_ => XS.isub X0.here hx rfl (hb hby d_jdk_52_method_15_code_3) rfl hr_) ?_
    show Goes p ee below s _ _ _ (s₁.setTop (mkF m 4 #[.val (.ref a1), .val (.int (Int32.ofNat n))] [(.int ((Int32.ofNat n) - (Int32.ofNat (2 * n))))]))
    refine Goes.step (fun _ hr_ => XS.bipush X0.here hx rfl (hb hby d_jdk_52_method_15_code_4) hr_) ?_
    show Goes p ee below s _ _ _ (s₁.setTop (mkF m 6 #[.val (.ref a1), .val (.int (Int32.ofNat n))] [(.int (31 : Int32)), (.int ((Int32.ofNat n) - (Int32.ofNat (2 * n))))]))
    refine Goes.step (fun _ hr_ => XT.iushr X0.here hx rfl (hb hby d_jdk_52_method_15_code_6) rfl hr_) ?_
    show Goes p ee below s _ _ _ (s₁.setTop (mkF m 7 #[.val (.ref a1), .val (.int (Int32.ofNat n))] [(.int (XT.ushr ((Int32.ofNat n) - (Int32.ofNat (2 * n))) (31 : Int32)))]))
    refine Goes.step (fun _ hr_ => XT.i2b X0.here hx rfl (hb hby d_jdk_52_method_15_code_7) rfl hr_) ?_
    show Goes p ee below s _ _ _ (s₁.setTop (mkF m 8 #[.val (.ref a1), .val (.int (Int32.ofNat n))] [(.int (XT.ushr ((Int32.ofNat n) - (Int32.ofNat (2 * n))) (31 : Int32)).toInt8.toInt32)]))
    rw [own_cd1 n hn0 hn]
    show Goes p ee below s _ _ _ (s₁.setTop (mkF m 8 #[.val (.ref a1), .val (.int (Int32.ofNat n))] [(.int (1 : Int32))]))
    refine Goes.retZ X0 hx Bd.notSynchronized Bd.returns (by simp) rfl (hb hby d_jdk_52_method_15_code_8) (by decide) (by decide) ?_
    exact ⟨rfl, N0, e0⟩
theorem ef_sin5 (m : MethodId) (x0 : Addr) (x1 : Addr) (x2 : Int32) (x3 : Int32) : entryFrame m #[(.ref x0), (.ref x1), (.int x2), (.int x3), .null] 6 = mkF m 0 #[.val (.ref x0), .val (.ref x1), .val (.int x2), .val (.int x3), .val .null, .unset] [] := by first | (simp [entryFrame, mkF, argsToLocals, Value.category]; done) | rfl
theorem d_jdk_42_method_149_code_0 : decode jdk_42_method_149_code 0 = .ok (.aload_n 0, 1) := by decide +kernel
theorem d_jdk_42_method_149_code_1 : decode jdk_42_method_149_code 1 = .ok (.invokespecial 1, 3) := by decide +kernel
theorem d_jdk_42_method_149_code_4 : decode jdk_42_method_149_code 4 = .ok (.iload_n 3, 1) := by decide +kernel
theorem d_jdk_42_method_149_code_5 : decode jdk_42_method_149_code 5 = .ok (.ifCond .ne 22, 3) := by decide +kernel
theorem d_jdk_42_method_149_code_27 : decode jdk_42_method_149_code 27 = .ok (.getstatic 38, 3) := by decide +kernel
theorem d_jdk_42_method_149_code_30 : decode jdk_42_method_149_code 30 = .ok (.ifCond .eq 28, 3) := by decide +kernel
theorem d_jdk_42_method_149_code_33 : decode jdk_42_method_149_code 33 = .ok (.aload_n 1, 1) := by decide +kernel
theorem d_jdk_42_method_149_code_34 : decode jdk_42_method_149_code 34 = .ok (.iload_n 2, 1) := by decide +kernel
theorem d_jdk_42_method_149_code_35 : decode jdk_42_method_149_code 35 = .ok (.iload_n 3, 1) := by decide +kernel
theorem pd_6 : parseMethodDescriptor "([CII)[B" = some ⟨[(.array .char), .int, .int], some (.array .byte)⟩ := by decide +kernel
theorem d_jdk_42_method_149_code_36 : decode jdk_42_method_149_code 36 = .ok (.invokestatic 177, 3) := by decide +kernel
theorem d_jdk_42_method_149_code_39 : decode jdk_42_method_149_code 39 = .ok (.astore 5, 2) := by decide +kernel
theorem d_jdk_42_method_149_code_41 : decode jdk_42_method_149_code 41 = .ok (.aload_n 0, 1) := by decide +kernel
theorem d_jdk_42_method_149_code_42 : decode jdk_42_method_149_code 42 = .ok (.aload 5, 2) := by decide +kernel
theorem d_jdk_42_method_149_code_44 : decode jdk_42_method_149_code 44 = .ok (.iload_n 3, 1) := by decide +kernel
theorem pd_7 : parseMethodDescriptor "([BI)B" = some ⟨[(.array .byte), .int], some .byte⟩ := by decide +kernel
theorem d_jdk_42_method_149_code_45 : decode jdk_42_method_149_code 45 = .ok (.invokestatic 47, 3) := by decide +kernel
theorem d_jdk_42_method_149_code_48 : decode jdk_42_method_149_code 48 = .ok (.putfield 15, 3) := by decide +kernel
theorem d_jdk_42_method_149_code_51 : decode jdk_42_method_149_code 51 = .ok (.aload_n 0, 1) := by decide +kernel
theorem d_jdk_42_method_149_code_52 : decode jdk_42_method_149_code 52 = .ok (.aload 5, 2) := by decide +kernel
theorem d_jdk_42_method_149_code_54 : decode jdk_42_method_149_code 54 = .ok (.putfield 9, 3) := by decide +kernel
theorem d_jdk_42_method_149_code_57 : decode jdk_42_method_149_code 57 = .ok (.return_, 1) := by decide +kernel
def Q_sin5 (Z : State) (cs : Int32) (fm : Value) (a1 a2 : Addr) (n : Nat) (c : Nat → Nat) (uv uc : Value) (h0 : Heap) (n0 : Nat) (v : Option Value) (h : Heap) (L : List Loc) : Prop := v = none ∧ Fr n0 L ∧ Keep h0 h [a1] ∧ ∃ (b : Addr) (u : Bool), h0.size ≤ b ∧ Exa Z h a1 "java/lang/String" ∧ Fld Z h a1 "java/lang/String" "value" "[B" (.ref b) ∧ Fld Z h a1 "java/lang/String" "coder" "B" (.int (own_cd u)) ∧ OA Z h b .byte (own_len u n) (own_by u c) ∧ (u = false → ∀ j, j < n → c j < 256) ∧ (u = true → ∃ j, j < n ∧ 255 < c j)
set_option maxRecDepth 65536 in
set_option maxHeartbeats 40000000 in
theorem rm_sin5 (l : Launch) (Z : State) (a0 : Array Value) (hw : ∀ d ∈ tables_1, d.before a0 Z = true) (ws : List Jvm.Cond) (cs : Int32) (fm : Value) (a1 a2 : Addr) (n : Nat) (c : Nat → Nat) (uv uc : Value) (h0 : Heap) (n0 : Nat) (Z0 : n0 ≤ h0.size) (ST : own_ST Z cs fm) (OO : Old Z n0 h0) (hn0 : 0 < n) (hn : n ≤ 3) (hc : ∀ j, j < n → c j < 65536) (hlat : ∀ j, j < n → c j < 256) (ge_a1 : n0 ≤ a1) (ne12 : a1 ≠ a2) (E : Exa Z h0 a1 "java/lang/String") (FV : Fld Z h0 a1 "java/lang/String" "value" "[B" uv) (FC : Fld Z h0 a1 "java/lang/String" "coder" "B" uc) (A : OA Z h0 a2 .char n (fun i => .int (Int32.ofNat (c i)))) :
    MetFree l (⟨"java/lang/String", "<init>", "([CIILjava/lang/Void;)V"⟩ : MethodName) (head1 (Jvm.Cond.code (⟨"java/lang/String", "<init>", "([CIILjava/lang/Void;)V"⟩ : MethodName) jdk_42_method_149_code 6 none :: ws) ({ frames := 2, cells := 1, slots := 3, locals := 35 } : Room)) (fun a U => a = #[(.ref a1), (.ref a2), (.int (0 : Int32)), (.int (Int32.ofNat n)), .null] ∧ Z.Warmed39 U.vm ∧ U.heap = h0) (fun _ _ _ _ _ => True) (fun _ U o U' => ∃ v L, o = .returned v ∧ Q_sin5 Z cs fm a1 a2 n c uv uc h0 n0 v U'.heap L ∧ FrameEnd U o U' L ({ frames := 2, cells := 1, slots := 3, locals := 35 } : Room).cells ({ frames := 2, cells := 1, slots := 3, locals := 35 } : Room).slots) := by
  refine MetFree.of_bodySF (plainFor_of_name pn_java_lang_String) hisR ?_
  intro p ee s m args below meth cc s₁ Bd hml0 hP hK
  obtain ⟨rfl, hZ, hh⟩ := hP
  have hx := Bd.exec
  have hby := Bd.bytes
  have hml : cc.maxLocals = 6 := hml0
  have hown : s.vm.findClass "java/lang/String" = some m.cls := findClass_of_methodNamed Bd.named
  have hnm := (name_of_methodNamed Bd.named Bd.method).1
  have X0 : Stand p l ee ({ frames := 2, cells := 1, slots := 3, locals := 35 } : Room) s m #[(.ref a1), (.ref a2), (.int (0 : Int32)), (.int (Int32.ofNat n)), .null] below meth cc s₁ [] 0 0 := Stand.of_body Bd
  have e0 : s₁.heap = h0 := by rw [← hh, Bd.state]; rfl
  have N0 := Fr.nil n0
  show Goes p ee below s ({ frames := 2, cells := 1, slots := 3, locals := 35 } : Room).cells ({ frames := 2, cells := 1, slots := 3, locals := 35 } : Room).slots (Q_sin5 Z cs fm a1 a2 n c uv uc h0 n0) (s₁.setTop (entryFrame m #[(.ref a1), (.ref a2), (.int (0 : Int32)), (.int (Int32.ofNat n)), .null] 6))
  refine Goes.step (fun _ hr_ => castTop (ef_sin5 m a1 a2 (0 : Int32) (Int32.ofNat n)) hr_) ?_
  show Goes p ee below s _ _ _ (s₁.setTop (mkF m 0 #[.val (.ref a1), .val (.ref a2), .val (.int (0 : Int32)), .val (.int (Int32.ofNat n)), .val .null, .unset] []))
  have K0 := Keep.refl h0 ([a1] : List Addr)
  refine Goes.step (fun _ hr_ => XS.aloadN X0.here hx rfl (hb hby d_jdk_42_method_149_code_0) rfl rfl hr_) ?_
  show Goes p ee below s _ _ _ (s₁.setTop (mkF m 1 #[.val (.ref a1), .val (.ref a2), .val (.int (0 : Int32)), .val (.int (Int32.ofNat n)), .val .null, .unset] [(.ref a1)]))
  obtain ⟨T1, X1, e1, st1⟩ := initO X0 hx hZ hown (hw _ (List.mem_of_getElem? (i := 47) rfl)) (hw _ (List.mem_of_getElem? (i := 48) rfl)) (hw _ (List.mem_of_getElem? (i := 49) rfl)) e0 (g := (mkF m 1 #[.val (.ref a1), .val (.ref a2), .val (.int (0 : Int32)), .val (.int (Int32.ofNat n)), .val .null, .unset] [(.ref a1)])) rfl (by rw [hml]; rfl) rfl (hb hby d_jdk_42_method_149_code_1) (by decide) (W := 0) (by show 2 * 0 + _ ≤ _; exact Nat.le_of_eq rfl) (by decide)
  refine Goes.step st1 ?_
  show Goes p ee below s _ _ _ (T1.setTop (mkF m 4 #[.val (.ref a1), .val (.ref a2), .val (.int (0 : Int32)), .val (.int (Int32.ofNat n)), .val .null, .unset] []))
  refine Goes.step (fun _ hr_ => XS.iloadN X1.here hx rfl (hb hby d_jdk_42_method_149_code_4) rfl  hr_) ?_
  show Goes p ee below s _ _ _ (T1.setTop (mkF m 5 #[.val (.ref a1), .val (.ref a2), .val (.int (0 : Int32)), .val (.int (Int32.ofNat n)), .val .null, .unset] [(.int (Int32.ofNat n))]))
  refine Goes.step (fun _ hr_ => XS.ifYes X1.here hx rfl (pc0 := 5) (pc' := 27) rfl (hb hby d_jdk_42_method_149_code_5) rfl ((if0 _ _).trans (feq (fun z => absurd ((own_eqN n 0 (by omega) (by decide)).mp z) (by omega))).2) (by decide) (by decide) hr_) ?_
  show Goes p ee below s _ _ _ (T1.setTop (mkF m 27 #[.val (.ref a1), .val (.ref a2), .val (.int (0 : Int32)), .val (.int (Int32.ofNat n)), .val .null, .unset] []))
  obtain ⟨T2, X2, e2, st2⟩ := getS X1 hx hZ (host := "") hown (hw _ (List.mem_of_getElem? (i := 23) rfl)) Via.refl e1 ((ST.1).ext OO.2) (g := (mkF m 27 #[.val (.ref a1), .val (.ref a2), .val (.int (0 : Int32)), .val (.int (Int32.ofNat n)), .val .null, .unset] [])) rfl (hb hby d_jdk_42_method_149_code_27)
  refine Goes.step st2 ?_
  show Goes p ee below s _ _ _ (T2.setTop (mkF m 30 #[.val (.ref a1), .val (.ref a2), .val (.int (0 : Int32)), .val (.int (Int32.ofNat n)), .val .null, .unset] [(.int cs)]))
  refine Goes.step (fun _ hr_ => XS.ifNo X2.here hx rfl (hb hby d_jdk_42_method_149_code_30) rfl ((if0 _ _).trans (feq (ST.2.1)).1) hr_) ?_
  show Goes p ee below s _ _ _ (T2.setTop (mkF m 33 #[.val (.ref a1), .val (.ref a2), .val (.int (0 : Int32)), .val (.int (Int32.ofNat n)), .val .null, .unset] []))
  refine Goes.step (fun _ hr_ => XS.aloadN X2.here hx rfl (hb hby d_jdk_42_method_149_code_33) rfl rfl hr_) ?_
  show Goes p ee below s _ _ _ (T2.setTop (mkF m 34 #[.val (.ref a1), .val (.ref a2), .val (.int (0 : Int32)), .val (.int (Int32.ofNat n)), .val .null, .unset] [(.ref a2)]))
  refine Goes.step (fun _ hr_ => XS.iloadN X2.here hx rfl (hb hby d_jdk_42_method_149_code_34) rfl  hr_) ?_
  show Goes p ee below s _ _ _ (T2.setTop (mkF m 35 #[.val (.ref a1), .val (.ref a2), .val (.int (0 : Int32)), .val (.int (Int32.ofNat n)), .val .null, .unset] [(.int (0 : Int32)), (.ref a2)]))
  refine Goes.step (fun _ hr_ => XS.iloadN X2.here hx rfl (hb hby d_jdk_42_method_149_code_35) rfl  hr_) ?_
  show Goes p ee below s _ _ _ (T2.setTop (mkF m 36 #[.val (.ref a1), .val (.ref a2), .val (.int (0 : Int32)), .val (.int (Int32.ofNat n)), .val .null, .unset] [(.int (Int32.ofNat n)), (.int (0 : Int32)), (.ref a2)]))
  have lt_a1 := E.lt
  have lt_a2 := A.lt
  obtain ⟨v3, T3, L3, X3, hQ3, st3⟩ := own_callS X2 hx hZ (y := (⟨"java/lang/StringUTF16", "compress", "([CII)[B"⟩ : MethodName)) hown (hw _ (List.mem_of_getElem? (i := 66) rfl)) (hw _ (List.mem_of_getElem? (i := 67) rfl)) (hw _ (List.mem_of_getElem? (i := 68) rfl)) (hw _ (List.mem_of_getElem? (i := 69) rfl)) (by decide) (argsL := [(.ref a2), (.int (0 : Int32)), (.int (Int32.ofNat n))]) (rm_cmp3 l Z a0 hw [] cs fm a2 n c h0 n0 Z0 ST OO hn0 hn hc hlat A) e2 (W := 0) (by decide) (by decide) (by decide) (by decide) (g := (mkF m 36 #[.val (.ref a1), .val (.ref a2), .val (.int (0 : Int32)), .val (.int (Int32.ofNat n)), .val .null, .unset] [(.int (Int32.ofNat n)), (.int (0 : Int32)), (.ref a2)])) rfl (by rw [hml]; rfl) (rest := []) (lenOf pd_6 rfl) rfl (by show 2 * 0 + _ ≤ _; exact Nat.le_of_eq rfl) (hb hby d_jdk_42_method_149_code_36)
  refine Goes.step st3 ?_
  obtain ⟨b3, u, rfl, N3, sz3, Kc3, A_b3, hlu, hlu2⟩ := hQ3
  have N4 := Fr.app N0 N3
  obtain ⟨h3, e3⟩ : ∃ h', T3.heap = h' := ⟨_, rfl⟩
  rw [e3] at Kc3 A_b3
  have E := E.keep Kc3
  have FV := FV.keep Kc3 nin0
  have FC := FC.keep Kc3 nin0
  have A := A.keep Kc3 nin0
  have OO := OO.keep Kc3 all0
  have K5 := K0.trans Kc3 all0
  have Zp6 := Nat.le_trans Z0 Kc3.1
  have ge_b3 : n0 ≤ b3 := Nat.le_trans Z0 sz3
  have sz_b3 : h0.size ≤ b3 := Nat.le_trans K0.1 sz3
  have ne_a1_b3 : a1 ≠ b3 := Nat.ne_of_lt (Nat.lt_of_lt_of_le lt_a1 sz3)
  have ne_a2_b3 : a2 ≠ b3 := Nat.ne_of_lt (Nat.lt_of_lt_of_le lt_a2 sz3)
  show Goes p ee below s _ _ _ (T3.setTop (mkF m 39 #[.val (.ref a1), .val (.ref a2), .val (.int (0 : Int32)), .val (.int (Int32.ofNat n)), .val .null, .unset] [(.ref b3)]))
  refine Goes.step (fun _ hr_ => XS.astore X3.here hx rfl (hb hby d_jdk_42_method_149_code_39) rfl rfl (l' := #[.val (.ref a1), .val (.ref a2), .val (.int (0 : Int32)), .val (.int (Int32.ofNat n)), .val .null, .val (.ref b3)]) rfl hr_) ?_
  show Goes p ee below s _ _ _ (T3.setTop (mkF m 41 #[.val (.ref a1), .val (.ref a2), .val (.int (0 : Int32)), .val (.int (Int32.ofNat n)), .val .null, .val (.ref b3)] []))
  refine Goes.step (fun _ hr_ => XS.aloadN X3.here hx rfl (hb hby d_jdk_42_method_149_code_41) rfl rfl hr_) ?_
  show Goes p ee below s _ _ _ (T3.setTop (mkF m 42 #[.val (.ref a1), .val (.ref a2), .val (.int (0 : Int32)), .val (.int (Int32.ofNat n)), .val .null, .val (.ref b3)] [(.ref a1)]))
  refine Goes.step (fun _ hr_ => XS.aload X3.here hx rfl (hb hby d_jdk_42_method_149_code_42) rfl rfl hr_) ?_
  show Goes p ee below s _ _ _ (T3.setTop (mkF m 44 #[.val (.ref a1), .val (.ref a2), .val (.int (0 : Int32)), .val (.int (Int32.ofNat n)), .val .null, .val (.ref b3)] [(.ref b3), (.ref a1)]))
  refine Goes.step (fun _ hr_ => XS.iloadN X3.here hx rfl (hb hby d_jdk_42_method_149_code_44) rfl  hr_) ?_
  show Goes p ee below s _ _ _ (T3.setTop (mkF m 45 #[.val (.ref a1), .val (.ref a2), .val (.int (0 : Int32)), .val (.int (Int32.ofNat n)), .val .null, .val (.ref b3)] [(.int (Int32.ofNat n)), (.ref b3), (.ref a1)]))
  have lt_a1 := E.lt
  have lt_a2 := A.lt
  have lt_b3 := A_b3.lt
  obtain ⟨v7, T7, L7, X7, hQ7, st7⟩ := own_callS X3 hx hZ (y := (⟨"java/lang/StringUTF16", "coderFromArrayLen", "([BI)B"⟩ : MethodName)) hown (hw _ (List.mem_of_getElem? (i := 73) rfl)) (hw _ (List.mem_of_getElem? (i := 74) rfl)) (hw _ (List.mem_of_getElem? (i := 68) rfl)) (hw _ (List.mem_of_getElem? (i := 75) rfl)) (by decide) (argsL := [(.ref b3), (.int (Int32.ofNat n))]) (rm_cfa l Z a0 hw [] cs fm b3 n u _ h3 n0 Zp6 ST OO hn0 (by omega) A_b3) e3 (W := 1) (by decide) (by decide) (by decide) (by decide) (g := (mkF m 45 #[.val (.ref a1), .val (.ref a2), .val (.int (0 : Int32)), .val (.int (Int32.ofNat n)), .val .null, .val (.ref b3)] [(.int (Int32.ofNat n)), (.ref b3), (.ref a1)])) rfl (by rw [hml]; rfl) (rest := [(.ref a1)]) (lenOf pd_7 rfl) rfl (by show 2 * 0 + _ ≤ _; exact Nat.le_of_eq rfl) (hb hby d_jdk_42_method_149_code_45)
  refine Goes.step st7 ?_
  obtain ⟨rfl, N7, e7⟩ := hQ7
  have N8 := Fr.app N4 N7
  show Goes p ee below s _ _ _ (T7.setTop (mkF m 48 #[.val (.ref a1), .val (.ref a2), .val (.int (0 : Int32)), .val (.int (Int32.ofNat n)), .val .null, .val (.ref b3)] [(.int (own_cd u)), (.ref a1)]))
  obtain ⟨T9, h9, X9, e9, W9, st9⟩ := putFN X7 hx hZ hown (hw _ (List.mem_of_getElem? (i := 24) rfl)) Via.refl e7 FC E (Or.inr ⟨(hw _ (List.mem_of_getElem? (i := 9) rfl)), rfl, hnm⟩) (hw _ (List.mem_of_getElem? (i := 6) rfl)) (ty := .byte) (v' := (.int (own_cd u))) (by decide) (own_cd_byte u).1 (own_cd_byte u).2 (g := (mkF m 48 #[.val (.ref a1), .val (.ref a2), .val (.int (0 : Int32)), .val (.int (Int32.ofNat n)), .val .null, .val (.ref b3)] [(.int (own_cd u)), (.ref a1)])) rfl rfl (hb hby d_jdk_42_method_149_code_48)
  refine Goes.step st9 ?_
  have E := E.wr W9
  have FV := FV.other W9 (Or.inr (slot_ne (Or.inr (hw _ (List.mem_of_getElem? (i := 8) rfl))) (Or.inr (hw _ (List.mem_of_getElem? (i := 9) rfl))) (by decide) (t := (.array .byte)) (t' := .byte) (by decide) (by decide)))
  have A := A.other W9 (Ne.symm ne12)
  have A_b3 := A_b3.other W9 (Ne.symm ne_a1_b3)
  have Zp10 := Nat.le_trans Zp6 (Keep.of_wr W9).1
  have FC := FC.same W9
  have N11 := Fr.snoc X9 N8 ge_a1
  have OO := OO.wr W9 ge_a1
  have K12 := K5.wr W9 (Or.inl (List.mem_of_getElem? (i := 0) rfl))
  show Goes p ee below s _ _ _ (T9.setTop (mkF m 51 #[.val (.ref a1), .val (.ref a2), .val (.int (0 : Int32)), .val (.int (Int32.ofNat n)), .val .null, .val (.ref b3)] []))
  refine Goes.step (fun _ hr_ => XS.aloadN X9.here hx rfl (hb hby d_jdk_42_method_149_code_51) rfl rfl hr_) ?_
  show Goes p ee below s _ _ _ (T9.setTop (mkF m 52 #[.val (.ref a1), .val (.ref a2), .val (.int (0 : Int32)), .val (.int (Int32.ofNat n)), .val .null, .val (.ref b3)] [(.ref a1)]))
  refine Goes.step (fun _ hr_ => XS.aload X9.here hx rfl (hb hby d_jdk_42_method_149_code_52) rfl rfl hr_) ?_
  show Goes p ee below s _ _ _ (T9.setTop (mkF m 54 #[.val (.ref a1), .val (.ref a2), .val (.int (0 : Int32)), .val (.int (Int32.ofNat n)), .val .null, .val (.ref b3)] [(.ref b3), (.ref a1)]))
  obtain ⟨T13, h13, X13, e13, W13, st13⟩ := putF X9 hx hZ hown (host := "") (Or.inl (hw _ (List.mem_of_getElem? (i := 25) rfl))) Via.refl e9 FV E (Or.inr ⟨(hw _ (List.mem_of_getElem? (i := 8) rfl)), rfl, hnm⟩) (hw _ (List.mem_of_getElem? (i := 6) rfl)) (ty := (.array .byte)) (by decide) rfl rfl (g := (mkF m 54 #[.val (.ref a1), .val (.ref a2), .val (.int (0 : Int32)), .val (.int (Int32.ofNat n)), .val .null, .val (.ref b3)] [(.ref b3), (.ref a1)])) rfl rfl (hb hby d_jdk_42_method_149_code_54)
  refine Goes.step st13 ?_
  have E := E.wr W13
  have FC := FC.other W13 (Or.inr (slot_ne (Or.inr (hw _ (List.mem_of_getElem? (i := 9) rfl))) (Or.inr (hw _ (List.mem_of_getElem? (i := 8) rfl))) (by decide) (t := .byte) (t' := (.array .byte)) (by decide) (by decide)))
  have A := A.other W13 (Ne.symm ne12)
  have A_b3 := A_b3.other W13 (Ne.symm ne_a1_b3)
  have Zp14 := Nat.le_trans Zp10 (Keep.of_wr W13).1
  have FV := FV.same W13
  have N15 := Fr.snoc X13 N11 ge_a1
  have OO := OO.wr W13 ge_a1
  have K16 := K12.wr W13 (Or.inl (List.mem_of_getElem? (i := 0) rfl))
  show Goes p ee below s _ _ _ (T13.setTop (mkF m 57 #[.val (.ref a1), .val (.ref a2), .val (.int (0 : Int32)), .val (.int (Int32.ofNat n)), .val .null, .val (.ref b3)] []))
  refine Goes.retV X13 hx Bd.notSynchronized Bd.returns (hb hby d_jdk_42_method_149_code_57) (by decide) (by decide) ?_
  rw [e13]
  exact ⟨rfl, N15, K16, b3, u, sz_b3, E, FV, FC, A_b3, hlu, hlu2⟩
theorem ef_sin1 (m : MethodId) (x0 : Addr) (x1 : Addr) : entryFrame m #[(.ref x0), (.ref x1)] 2 = mkF m 0 #[.val (.ref x0), .val (.ref x1)] [] := by first | (simp [entryFrame, mkF, argsToLocals, Value.category]; done) | rfl
theorem d_jdk_42_method_3_code_0 : decode jdk_42_method_3_code 0 = .ok (.aload_n 0, 1) := by decide +kernel
theorem d_jdk_42_method_3_code_1 : decode jdk_42_method_3_code 1 = .ok (.aload_n 1, 1) := by decide +kernel
theorem d_jdk_42_method_3_code_2 : decode jdk_42_method_3_code 2 = .ok (.iconst 0, 1) := by decide +kernel
theorem d_jdk_42_method_3_code_3 : decode jdk_42_method_3_code 3 = .ok (.aload_n 1, 1) := by decide +kernel
theorem d_jdk_42_method_3_code_4 : decode jdk_42_method_3_code 4 = .ok (.arraylength, 1) := by decide +kernel
theorem d_jdk_42_method_3_code_5 : decode jdk_42_method_3_code 5 = .ok (.aconst_null, 1) := by decide +kernel
theorem pd_8 : parseMethodDescriptor "([CIILjava/lang/Void;)V" = some ⟨[(.array .char), .int, .int, (.object "java/lang/Void")], none⟩ := by decide +kernel
theorem d_jdk_42_method_3_code_6 : decode jdk_42_method_3_code 6 = .ok (.invokespecial 27, 3) := by decide +kernel
theorem d_jdk_42_method_3_code_9 : decode jdk_42_method_3_code 9 = .ok (.return_, 1) := by decide +kernel
def Q_sin1 (Z : State) (cs : Int32) (fm : Value) (a1 a2 : Addr) (n : Nat) (c : Nat → Nat) (uv uc : Value) (h0 : Heap) (n0 : Nat) (v : Option Value) (h : Heap) (L : List Loc) : Prop := v = none ∧ Fr n0 L ∧ Keep h0 h [a1] ∧ ∃ (b : Addr) (u : Bool), h0.size ≤ b ∧ Exa Z h a1 "java/lang/String" ∧ Fld Z h a1 "java/lang/String" "value" "[B" (.ref b) ∧ Fld Z h a1 "java/lang/String" "coder" "B" (.int (own_cd u)) ∧ OA Z h b .byte (own_len u n) (own_by u c) ∧ (u = false → ∀ j, j < n → c j < 256) ∧ (u = true → ∃ j, j < n ∧ 255 < c j)
set_option maxRecDepth 65536 in
set_option maxHeartbeats 40000000 in
theorem rm_sin1 (l : Launch) (Z : State) (a0 : Array Value) (hw : ∀ d ∈ tables_1, d.before a0 Z = true) (ws : List Jvm.Cond) (cs : Int32) (fm : Value) (a1 a2 : Addr) (n : Nat) (c : Nat → Nat) (uv uc : Value) (h0 : Heap) (n0 : Nat) (Z0 : n0 ≤ h0.size) (ST : own_ST Z cs fm) (OO : Old Z n0 h0) (hn0 : 0 < n) (hn : n ≤ 3) (hc : ∀ j, j < n → c j < 65536) (hlat : ∀ j, j < n → c j < 256) (ge_a1 : n0 ≤ a1) (ne12 : a1 ≠ a2) (E : Exa Z h0 a1 "java/lang/String") (FV : Fld Z h0 a1 "java/lang/String" "value" "[B" uv) (FC : Fld Z h0 a1 "java/lang/String" "coder" "B" uc) (A : OA Z h0 a2 .char n (fun i => .int (Int32.ofNat (c i)))) :
    MetFree l (⟨"java/lang/String", "<init>", "([C)V"⟩ : MethodName) (head1 (Jvm.Cond.code (⟨"java/lang/String", "<init>", "([C)V"⟩ : MethodName) jdk_42_method_3_code 2 none :: ws) ({ frames := 3, cells := 1, slots := 3, locals := 52 } : Room)) (fun a U => a = #[(.ref a1), (.ref a2)] ∧ Z.Warmed39 U.vm ∧ U.heap = h0) (fun _ _ _ _ _ => True) (fun _ U o U' => ∃ v L, o = .returned v ∧ Q_sin1 Z cs fm a1 a2 n c uv uc h0 n0 v U'.heap L ∧ FrameEnd U o U' L ({ frames := 3, cells := 1, slots := 3, locals := 52 } : Room).cells ({ frames := 3, cells := 1, slots := 3, locals := 52 } : Room).slots) := by
  refine MetFree.of_bodySF (plainFor_of_name pn_java_lang_String) hisR ?_
  intro p ee s m args below meth cc s₁ Bd hml0 hP hK
  obtain ⟨rfl, hZ, hh⟩ := hP
  have hx := Bd.exec
  have hby := Bd.bytes
  have hml : cc.maxLocals = 2 := hml0
  have hown : s.vm.findClass "java/lang/String" = some m.cls := findClass_of_methodNamed Bd.named
  have hnm := (name_of_methodNamed Bd.named Bd.method).1
  have X0 : Stand p l ee ({ frames := 3, cells := 1, slots := 3, locals := 52 } : Room) s m #[(.ref a1), (.ref a2)] below meth cc s₁ [] 0 0 := Stand.of_body Bd
  have e0 : s₁.heap = h0 := by rw [← hh, Bd.state]; rfl
  have N0 := Fr.nil n0
  show Goes p ee below s ({ frames := 3, cells := 1, slots := 3, locals := 52 } : Room).cells ({ frames := 3, cells := 1, slots := 3, locals := 52 } : Room).slots (Q_sin1 Z cs fm a1 a2 n c uv uc h0 n0) (s₁.setTop (entryFrame m #[(.ref a1), (.ref a2)] 2))
  refine Goes.step (fun _ hr_ => castTop (ef_sin1 m a1 a2) hr_) ?_
  show Goes p ee below s _ _ _ (s₁.setTop (mkF m 0 #[.val (.ref a1), .val (.ref a2)] []))
  have K0 := Keep.refl h0 ([a1] : List Addr)
  refine Goes.step (fun _ hr_ => XS.aloadN X0.here hx rfl (hb hby d_jdk_42_method_3_code_0) rfl rfl hr_) ?_
  show Goes p ee below s _ _ _ (s₁.setTop (mkF m 1 #[.val (.ref a1), .val (.ref a2)] [(.ref a1)]))
  refine Goes.step (fun _ hr_ => XS.aloadN X0.here hx rfl (hb hby d_jdk_42_method_3_code_1) rfl rfl hr_) ?_
  show Goes p ee below s _ _ _ (s₁.setTop (mkF m 2 #[.val (.ref a1), .val (.ref a2)] [(.ref a2), (.ref a1)]))
  refine Goes.step (fun _ hr_ => XS.iconst X0.here hx rfl (hb hby d_jdk_42_method_3_code_2) hr_) ?_
  show Goes p ee below s _ _ _ (s₁.setTop (mkF m 3 #[.val (.ref a1), .val (.ref a2)] [(.int (0 : Int32)), (.ref a2), (.ref a1)]))
  refine Goes.step (fun _ hr_ => XS.aloadN X0.here hx rfl (hb hby d_jdk_42_method_3_code_3) rfl rfl hr_) ?_
  show Goes p ee below s _ _ _ (s₁.setTop (mkF m 4 #[.val (.ref a1), .val (.ref a2)] [(.ref a2), (.int (0 : Int32)), (.ref a2), (.ref a1)]))
  refine Goes.step (own_alen X0 hx hZ e0 A (z := (Int32.ofNat n)) rfl (g := (mkF m 4 #[.val (.ref a1), .val (.ref a2)] [(.ref a2), (.int (0 : Int32)), (.ref a2), (.ref a1)])) rfl rfl (hb hby d_jdk_42_method_3_code_4)) ?_
  show Goes p ee below s _ _ _ (s₁.setTop (mkF m 5 #[.val (.ref a1), .val (.ref a2)] [(.int (Int32.ofNat n)), (.int (0 : Int32)), (.ref a2), (.ref a1)]))
  refine Goes.step (fun _ hr_ => XS.aconstNull X0.here hx rfl (hb hby d_jdk_42_method_3_code_5) hr_) ?_
  show Goes p ee below s _ _ _ (s₁.setTop (mkF m 6 #[.val (.ref a1), .val (.ref a2)] [.null, (.int (Int32.ofNat n)), (.int (0 : Int32)), (.ref a2), (.ref a1)]))
  have lt_a1 := E.lt
  have lt_a2 := A.lt
  obtain ⟨v1, T1, L1, X1, hQ1, st1⟩ := own_callN X0 hx hZ (y := (⟨"java/lang/String", "<init>", "([CIILjava/lang/Void;)V"⟩ : MethodName)) rfl hown (hw _ (List.mem_of_getElem? (i := 43) rfl)) (hw _ (List.mem_of_getElem? (i := 44) rfl)) (hw _ (List.mem_of_getElem? (i := 5) rfl)) (hw _ (List.mem_of_getElem? (i := 46) rfl)) (by decide) (a := a1) (argsL := [(.ref a2), (.int (0 : Int32)), (.int (Int32.ofNat n)), .null]) (rm_sin5 l Z a0 hw [] cs fm a1 a2 n c uv uc h0 n0 Z0 ST OO hn0 hn hc hlat ge_a1 ne12 E FV FC A) e0 (W := 0) (by decide) (by decide) (by decide) (by decide) (g := (mkF m 6 #[.val (.ref a1), .val (.ref a2)] [.null, (.int (Int32.ofNat n)), (.int (0 : Int32)), (.ref a2), (.ref a1)])) rfl (by rw [hml]; rfl) (rest := []) (lenOf pd_8 rfl) rfl (by show 2 * 0 + _ ≤ _; exact Nat.le_of_eq rfl) (hb hby d_jdk_42_method_3_code_6)
  refine Goes.step st1 ?_
  obtain ⟨rfl, N1, Kc1, b1, u, sz1, Ei1, Fv1, Fc1, A_b1, hlu, hlu2⟩ := hQ1
  have N2 := Fr.app N0 N1
  obtain ⟨h1, e1⟩ : ∃ h', T1.heap = h' := ⟨_, rfl⟩
  rw [e1] at Kc1 Ei1 Fv1 Fc1 A_b1
  have A := A.keep Kc1 (ninS (Ne.symm ne12) nin0)
  have OO := OO.keep Kc1 (allS ge_a1 all0)
  have K3 := K0.trans Kc1 (allS (Or.inl (List.mem_of_getElem? (i := 0) rfl)) all0)
  have Zp4 := Nat.le_trans Z0 Kc1.1
  have ge_b1 : n0 ≤ b1 := Nat.le_trans Z0 sz1
  have sz_b1 : h0.size ≤ b1 := Nat.le_trans K0.1 sz1
  have ne_a1_b1 : a1 ≠ b1 := Nat.ne_of_lt (Nat.lt_of_lt_of_le lt_a1 sz1)
  have ne_a2_b1 : a2 ≠ b1 := Nat.ne_of_lt (Nat.lt_of_lt_of_le lt_a2 sz1)
  show Goes p ee below s _ _ _ (T1.setTop (mkF m 9 #[.val (.ref a1), .val (.ref a2)] []))
  refine Goes.retV X1 hx Bd.notSynchronized Bd.returns (hb hby d_jdk_42_method_3_code_9) (by decide) (by decide) ?_
  rw [e1]
  exact ⟨rfl, N2, K3, b1, u, sz_b1, Ei1, Fv1, Fc1, A_b1, hlu, hlu2⟩
theorem ef_sin5w (m : MethodId) (x0 : Addr) (x1 : Addr) (x2 : Int32) (x3 : Int32) : entryFrame m #[(.ref x0), (.ref x1), (.int x2), (.int x3), .null] 6 = mkF m 0 #[.val (.ref x0), .val (.ref x1), .val (.int x2), .val (.int x3), .val .null, .unset] [] := by first | (simp [entryFrame, mkF, argsToLocals, Value.category]; done) | rfl
theorem d_jdk_42_method_149_code_8 : decode jdk_42_method_149_code 8 = .ok (.aload_n 0, 1) := by decide +kernel
theorem d_jdk_42_method_149_code_9 : decode jdk_42_method_149_code 9 = .ok (.ldc 7, 2) := by decide +kernel
theorem d_jdk_42_method_149_code_11 : decode jdk_42_method_149_code 11 = .ok (.getfield 9, 3) := by decide +kernel
theorem d_jdk_42_method_149_code_14 : decode jdk_42_method_149_code 14 = .ok (.putfield 9, 3) := by decide +kernel
theorem d_jdk_42_method_149_code_17 : decode jdk_42_method_149_code 17 = .ok (.aload_n 0, 1) := by decide +kernel
theorem d_jdk_42_method_149_code_18 : decode jdk_42_method_149_code 18 = .ok (.ldc 7, 2) := by decide +kernel
theorem d_jdk_42_method_149_code_20 : decode jdk_42_method_149_code 20 = .ok (.getfield 15, 3) := by decide +kernel
theorem d_jdk_42_method_149_code_23 : decode jdk_42_method_149_code 23 = .ok (.putfield 15, 3) := by decide +kernel
theorem d_jdk_42_method_149_code_26 : decode jdk_42_method_149_code 26 = .ok (.return_, 1) := by decide +kernel
def Q_sin5w (Z : State) (cs : Int32) (fm : Value) (a1 a2 : Addr) (uv uc : Value) (h0 : Heap) (n0 : Nat) (v : Option Value) (h : Heap) (L : List Loc) : Prop := v = none ∧ Fr n0 L ∧ Keep h0 h [a1] ∧ ∃ b : Addr, Exa Z h a1 "java/lang/String" ∧ Fld Z h a1 "java/lang/String" "value" "[B" (.ref b) ∧ Fld Z h a1 "java/lang/String" "coder" "B" (.int (own_cd false)) ∧ ∀ c, OA Z h b .byte (own_len false 0) (own_by false c)
set_option maxRecDepth 65536 in
set_option maxHeartbeats 40000000 in
theorem rm_sin5w (l : Launch) (Z : State) (a0 : Array Value) (hw : ∀ d ∈ tables_1, d.before a0 Z = true) (ws : List Jvm.Cond) (cs : Int32) (fm : Value) (a1 a2 : Addr) (uv uc : Value) (h0 : Heap) (n0 : Nat) (Z0 : n0 ≤ h0.size) (ST : own_ST Z cs fm) (OO : Old Z n0 h0) (ge_a1 : n0 ≤ a1) (E : Exa Z h0 a1 "java/lang/String") (FV : Fld Z h0 a1 "java/lang/String" "value" "[B" uv) (FC : Fld Z h0 a1 "java/lang/String" "coder" "B" uc) :
    MetFree l (⟨"java/lang/String", "<init>", "([CIILjava/lang/Void;)V"⟩ : MethodName) (head1 (Jvm.Cond.code (⟨"java/lang/String", "<init>", "([CIILjava/lang/Void;)V"⟩ : MethodName) jdk_42_method_149_code 6 none :: ws) ({ frames := 1, cells := 2, slots := 4, locals := 12 } : Room)) (fun a U => a = #[(.ref a1), (.ref a2), (.int (0 : Int32)), (.int (0 : Int32)), .null] ∧ Z.Warmed39 U.vm ∧ U.heap = h0 ∧ CHv Z consts_1 U.vm h0 ∧ ∀ x ∈ ([a1] : List Addr), Safe Z consts_1 U.vm h0 x) (fun _ _ _ _ _ => True) (fun _ U o U' => ∃ v L, o = .returned v ∧ Q_sin5w Z cs fm a1 a2 uv uc h0 n0 v U'.heap L ∧ CHr Z consts_1 U.vm U.heap U'.vm U'.heap ∧ ReturnedEndW U o U' L ({ frames := 1, cells := 2, slots := 4, locals := 12 } : Room).cells ({ frames := 1, cells := 2, slots := 4, locals := 12 } : Room).slots) := by
  refine MetFree.of_bodySF (plainFor_of_name pn_java_lang_String) hisR ?_
  intro p ee s m args below meth cc s₁ Bd hml0 hP hK
  obtain ⟨rfl, hZ, hh, H, hsf⟩ := hP
  have hx := Bd.exec
  have hby := Bd.bytes
  have hml : cc.maxLocals = 6 := hml0
  have hown : (s.setVm s.vm).vm.findClass "java/lang/String" = some m.cls := findClass_of_methodNamed Bd.named
  have hnm := (name_of_methodNamed Bd.named Bd.method).1
  have X0 : Stand p l ee ({ frames := 1, cells := 2, slots := 4, locals := 12 } : Room) (s.setVm s.vm) m #[(.ref a1), (.ref a2), (.int (0 : Int32)), (.int (0 : Int32)), .null] below meth cc s₁ [] 0 0 := Stand.of_body Bd
  have e0 : s₁.heap = h0 := by rw [← hh, Bd.state]; rfl
  have N0 := Fr.nil n0
  have hEL := own_EW hw
  have hZ : Z.Warmed39 (s.setVm s.vm).vm := hZ
  have C : Cold Z consts_1 s s.vm h0 := by rw [← hh]; exact Cold.start (by rw [hh]; exact H)
  have sf_a1 := hsf a1 (List.mem_of_getElem? (i := 0) rfl)
  show GoesW p ee below s ({ frames := 1, cells := 2, slots := 4, locals := 12 } : Room).cells ({ frames := 1, cells := 2, slots := 4, locals := 12 } : Room).slots Z consts_1 (Q_sin5w Z cs fm a1 a2 uv uc h0 n0) (s₁.setTop (entryFrame m #[(.ref a1), (.ref a2), (.int (0 : Int32)), (.int (0 : Int32)), .null] 6))
  refine GoesW.step (fun _ hr_ => castTop (ef_sin5w m a1 a2 (0 : Int32) (0 : Int32)) hr_) ?_
  show GoesW p ee below s _ _ _ _ _ (s₁.setTop (mkF m 0 #[.val (.ref a1), .val (.ref a2), .val (.int (0 : Int32)), .val (.int (0 : Int32)), .val .null, .unset] []))
  have K0 := Keep.refl h0 ([a1] : List Addr)
  refine GoesW.step (fun _ hr_ => XS.aloadN X0.here hx rfl (hb hby d_jdk_42_method_149_code_0) rfl rfl hr_) ?_
  show GoesW p ee below s _ _ _ _ _ (s₁.setTop (mkF m 1 #[.val (.ref a1), .val (.ref a2), .val (.int (0 : Int32)), .val (.int (0 : Int32)), .val .null, .unset] [(.ref a1)]))
  obtain ⟨T1, X1, e1, st1⟩ := initO X0 hx hZ hown (hw _ (List.mem_of_getElem? (i := 47) rfl)) (hw _ (List.mem_of_getElem? (i := 48) rfl)) (hw _ (List.mem_of_getElem? (i := 49) rfl)) e0 (g := (mkF m 1 #[.val (.ref a1), .val (.ref a2), .val (.int (0 : Int32)), .val (.int (0 : Int32)), .val .null, .unset] [(.ref a1)])) rfl (by rw [hml]; rfl) rfl (hb hby d_jdk_42_method_149_code_1) (by decide) (W := 0) (by show 2 * 0 + _ ≤ _; exact Nat.le_of_eq rfl) (by decide)
  refine GoesW.step st1 ?_
  show GoesW p ee below s _ _ _ _ _ (T1.setTop (mkF m 4 #[.val (.ref a1), .val (.ref a2), .val (.int (0 : Int32)), .val (.int (0 : Int32)), .val .null, .unset] []))
  refine GoesW.step (fun _ hr_ => XS.iloadN X1.here hx rfl (hb hby d_jdk_42_method_149_code_4) rfl  hr_) ?_
  show GoesW p ee below s _ _ _ _ _ (T1.setTop (mkF m 5 #[.val (.ref a1), .val (.ref a2), .val (.int (0 : Int32)), .val (.int (0 : Int32)), .val .null, .unset] [(.int (0 : Int32))]))
  refine GoesW.step (fun _ hr_ => XS.ifNo X1.here hx rfl (hb hby d_jdk_42_method_149_code_5) rfl ((if0 _ _).trans (teq rfl).2) hr_) ?_
  show GoesW p ee below s _ _ _ _ _ (T1.setTop (mkF m 8 #[.val (.ref a1), .val (.ref a2), .val (.int (0 : Int32)), .val (.int (0 : Int32)), .val .null, .unset] []))
  refine GoesW.step (fun _ hr_ => XS.aloadN X1.here hx rfl (hb hby d_jdk_42_method_149_code_8) rfl rfl hr_) ?_
  show GoesW p ee below s _ _ _ _ _ (T1.setTop (mkF m 9 #[.val (.ref a1), .val (.ref a2), .val (.int (0 : Int32)), .val (.int (0 : Int32)), .val .null, .unset] [(.ref a1)]))
  have lt_a1 := E.lt
  obtain ⟨la2, lb2, vm2, T2, h2, ⟨X2, Cn2, hZ, hown, hsaf2⟩, e2, E2, Ei2, Fv2, Fc2, A_lb2, Lit2, hlit2, st2⟩ := own_ldcW X1 hx hZ hEL C hown (hw _ (List.mem_of_getElem? (i := 50) rfl)) (own_wS hw) e1 (List.mem_of_getElem? (i := 1) rfl) (vs := []) (k := 0) ⟨by decide, by decide⟩ rfl (by decide) (g := (mkF m 9 #[.val (.ref a1), .val (.ref a2), .val (.int (0 : Int32)), .val (.int (0 : Int32)), .val .null, .unset] [(.ref a1)])) rfl (hb hby d_jdk_42_method_149_code_9) (n := 0) (by decide) (by decide) (by decide) (by decide)
  refine GoesW.step st2 ?_
  rw [e2] at Cn2 hsaf2
  have sf_a1 := hsaf2 a1 lt_a1 sf_a1
  have C := Cn2
  have E := E.ext E2
  have FV := FV.ext E2
  have FC := FC.ext E2
  have Zp3 := Nat.le_trans Z0 E2.1
  have OO := OO.ext E2
  have K4 := K0.ext E2
  have ne_a1_la2 := (hlit2 a1 sf_a1).1
  have ne_a1_lb2 := (hlit2 a1 sf_a1).2
  show GoesW p ee below s _ _ _ _ _ (T2.setTop (mkF m 11 #[.val (.ref a1), .val (.ref a2), .val (.int (0 : Int32)), .val (.int (0 : Int32)), .val .null, .unset] [(.ref la2), (.ref a1)]))
  obtain ⟨T5, X5, e5, st5⟩ := getF X2 hx hZ hown (host := "") (Or.inl (hw _ (List.mem_of_getElem? (i := 25) rfl))) Via.refl e2 Fv2 (g := (mkF m 11 #[.val (.ref a1), .val (.ref a2), .val (.int (0 : Int32)), .val (.int (0 : Int32)), .val .null, .unset] [(.ref la2), (.ref a1)])) rfl rfl (hb hby d_jdk_42_method_149_code_11)
  refine GoesW.step st5 ?_
  show GoesW p ee below s _ _ _ _ _ (T5.setTop (mkF m 14 #[.val (.ref a1), .val (.ref a2), .val (.int (0 : Int32)), .val (.int (0 : Int32)), .val .null, .unset] [(.ref lb2), (.ref a1)]))
  obtain ⟨T6, h6, X6, e6, W6, st6⟩ := putF X5 hx hZ hown (host := "") (Or.inl (hw _ (List.mem_of_getElem? (i := 25) rfl))) Via.refl e5 FV E (Or.inr ⟨(hw _ (List.mem_of_getElem? (i := 8) rfl)), rfl, hnm⟩) (hw _ (List.mem_of_getElem? (i := 6) rfl)) (ty := (.array .byte)) (by decide) rfl rfl (g := (mkF m 14 #[.val (.ref a1), .val (.ref a2), .val (.int (0 : Int32)), .val (.int (0 : Int32)), .val .null, .unset] [(.ref lb2), (.ref a1)])) rfl rfl (hb hby d_jdk_42_method_149_code_14)
  refine GoesW.step st6 ?_
  have E := E.wr W6
  have FC := FC.other W6 (Or.inr (slot_ne (Or.inr (hw _ (List.mem_of_getElem? (i := 9) rfl))) (Or.inr (hw _ (List.mem_of_getElem? (i := 8) rfl))) (by decide) (t := .byte) (t' := (.array .byte)) (by decide) (by decide)))
  have Ei2 := Ei2.wr W6
  have Fv2 := Fv2.other W6 (Or.inl (Ne.symm ne_a1_la2))
  have Fc2 := Fc2.other W6 (Or.inl (Ne.symm ne_a1_la2))
  have A_lb2 := A_lb2.other W6 (Ne.symm ne_a1_lb2)
  have Zp7 := Nat.le_trans Zp3 (Keep.of_wr W6).1
  have FV := FV.same W6
  have N8 := Fr.snoc X6 N0 ge_a1
  have sfw := sf_a1
  have sf_a1 := Safe.wr W6 sfw C.chv sf_a1
  have C := C.wr W6 sfw
  have OO := OO.wr W6 ge_a1
  have K9 := K4.wr W6 (Or.inl (List.mem_of_getElem? (i := 0) rfl))
  show GoesW p ee below s _ _ _ _ _ (T6.setTop (mkF m 17 #[.val (.ref a1), .val (.ref a2), .val (.int (0 : Int32)), .val (.int (0 : Int32)), .val .null, .unset] []))
  refine GoesW.step (fun _ hr_ => XS.aloadN X6.here hx rfl (hb hby d_jdk_42_method_149_code_17) rfl rfl hr_) ?_
  show GoesW p ee below s _ _ _ _ _ (T6.setTop (mkF m 18 #[.val (.ref a1), .val (.ref a2), .val (.int (0 : Int32)), .val (.int (0 : Int32)), .val .null, .unset] [(.ref a1)]))
  refine GoesW.step (own_ldcAgainW X6 hx hZ hown (hw _ (List.mem_of_getElem? (i := 50) rfl)) Lit2 (g := (mkF m 18 #[.val (.ref a1), .val (.ref a2), .val (.int (0 : Int32)), .val (.int (0 : Int32)), .val .null, .unset] [(.ref a1)])) rfl (hb hby d_jdk_42_method_149_code_18)) ?_
  show GoesW p ee below s _ _ _ _ _ (T6.setTop (mkF m 20 #[.val (.ref a1), .val (.ref a2), .val (.int (0 : Int32)), .val (.int (0 : Int32)), .val .null, .unset] [(.ref la2), (.ref a1)]))
  obtain ⟨T11, X11, e11, st11⟩ := getF X6 hx hZ hown (host := "") (Or.inl (hw _ (List.mem_of_getElem? (i := 24) rfl))) Via.refl e6 Fc2 (g := (mkF m 20 #[.val (.ref a1), .val (.ref a2), .val (.int (0 : Int32)), .val (.int (0 : Int32)), .val .null, .unset] [(.ref la2), (.ref a1)])) rfl rfl (hb hby d_jdk_42_method_149_code_20)
  refine GoesW.step st11 ?_
  show GoesW p ee below s _ _ _ _ _ (T11.setTop (mkF m 23 #[.val (.ref a1), .val (.ref a2), .val (.int (0 : Int32)), .val (.int (0 : Int32)), .val .null, .unset] [(.int (0 : Int32)), (.ref a1)]))
  obtain ⟨T12, h12, X12, e12, W12, st12⟩ := putFN X11 hx hZ hown (hw _ (List.mem_of_getElem? (i := 24) rfl)) Via.refl e11 FC E (Or.inr ⟨(hw _ (List.mem_of_getElem? (i := 9) rfl)), rfl, hnm⟩) (hw _ (List.mem_of_getElem? (i := 6) rfl)) (ty := .byte) (v' := (.int (0 : Int32))) (by decide) rfl rfl (g := (mkF m 23 #[.val (.ref a1), .val (.ref a2), .val (.int (0 : Int32)), .val (.int (0 : Int32)), .val .null, .unset] [(.int (0 : Int32)), (.ref a1)])) rfl rfl (hb hby d_jdk_42_method_149_code_23)
  refine GoesW.step st12 ?_
  have E := E.wr W12
  have FV := FV.other W12 (Or.inr (slot_ne (Or.inr (hw _ (List.mem_of_getElem? (i := 8) rfl))) (Or.inr (hw _ (List.mem_of_getElem? (i := 9) rfl))) (by decide) (t := (.array .byte)) (t' := .byte) (by decide) (by decide)))
  have Ei2 := Ei2.wr W12
  have Fv2 := Fv2.other W12 (Or.inl (Ne.symm ne_a1_la2))
  have Fc2 := Fc2.other W12 (Or.inl (Ne.symm ne_a1_la2))
  have A_lb2 := A_lb2.other W12 (Ne.symm ne_a1_lb2)
  have Zp13 := Nat.le_trans Zp7 (Keep.of_wr W12).1
  have FC := FC.same W12
  have N14 := Fr.snoc X12 N8 ge_a1
  have sfw := sf_a1
  have sf_a1 := Safe.wr W12 sfw C.chv sf_a1
  have C := C.wr W12 sfw
  have OO := OO.wr W12 ge_a1
  have K15 := K9.wr W12 (Or.inl (List.mem_of_getElem? (i := 0) rfl))
  show GoesW p ee below s _ _ _ _ _ (T12.setTop (mkF m 26 #[.val (.ref a1), .val (.ref a2), .val (.int (0 : Int32)), .val (.int (0 : Int32)), .val .null, .unset] []))
  refine GoesW.retV X12 hx hZ hEL C e12 Bd.notSynchronized Bd.returns (hb hby d_jdk_42_method_149_code_26) (by decide) (by decide) ?_
  rw [e12]
  exact ⟨rfl, N14, K15, lb2, E, FV, FC, fun c => A_lb2.congr (fun j hj => absurd hj (Nat.not_lt_zero j))⟩
theorem ef_sin1w (m : MethodId) (x0 : Addr) (x1 : Addr) : entryFrame m #[(.ref x0), (.ref x1)] 2 = mkF m 0 #[.val (.ref x0), .val (.ref x1)] [] := by first | (simp [entryFrame, mkF, argsToLocals, Value.category]; done) | rfl
def Q_sin1w (Z : State) (cs : Int32) (fm : Value) (a1 a2 : Addr) (uv uc : Value) (f : Nat → Value) (h0 : Heap) (n0 : Nat) (v : Option Value) (h : Heap) (L : List Loc) : Prop := v = none ∧ Fr n0 L ∧ Keep h0 h [a1] ∧ ∃ b : Addr, Exa Z h a1 "java/lang/String" ∧ Fld Z h a1 "java/lang/String" "value" "[B" (.ref b) ∧ Fld Z h a1 "java/lang/String" "coder" "B" (.int (own_cd false)) ∧ ∀ c, OA Z h b .byte (own_len false 0) (own_by false c)
set_option maxRecDepth 65536 in
set_option maxHeartbeats 40000000 in
theorem rm_sin1w (l : Launch) (Z : State) (a0 : Array Value) (hw : ∀ d ∈ tables_1, d.before a0 Z = true) (ws : List Jvm.Cond) (cs : Int32) (fm : Value) (a1 a2 : Addr) (uv uc : Value) (f : Nat → Value) (h0 : Heap) (n0 : Nat) (Z0 : n0 ≤ h0.size) (ST : own_ST Z cs fm) (OO : Old Z n0 h0) (ge_a1 : n0 ≤ a1) (ne12 : a1 ≠ a2) (E : Exa Z h0 a1 "java/lang/String") (FV : Fld Z h0 a1 "java/lang/String" "value" "[B" uv) (FC : Fld Z h0 a1 "java/lang/String" "coder" "B" uc) (A : OA Z h0 a2 .char 0 f) :
    MetFree l (⟨"java/lang/String", "<init>", "([C)V"⟩ : MethodName) (head1 (Jvm.Cond.code (⟨"java/lang/String", "<init>", "([C)V"⟩ : MethodName) jdk_42_method_3_code 2 none :: ws) ({ frames := 2, cells := 2, slots := 4, locals := 29 } : Room)) (fun a U => a = #[(.ref a1), (.ref a2)] ∧ Z.Warmed39 U.vm ∧ U.heap = h0 ∧ CHv Z consts_1 U.vm h0 ∧ ∀ x ∈ ([a1] : List Addr), Safe Z consts_1 U.vm h0 x) (fun _ _ _ _ _ => True) (fun _ U o U' => ∃ v L, o = .returned v ∧ Q_sin1w Z cs fm a1 a2 uv uc f h0 n0 v U'.heap L ∧ CHr Z consts_1 U.vm U.heap U'.vm U'.heap ∧ ReturnedEndW U o U' L ({ frames := 2, cells := 2, slots := 4, locals := 29 } : Room).cells ({ frames := 2, cells := 2, slots := 4, locals := 29 } : Room).slots) := by
  refine MetFree.of_bodySF (plainFor_of_name pn_java_lang_String) hisR ?_
  intro p ee s m args below meth cc s₁ Bd hml0 hP hK
  obtain ⟨rfl, hZ, hh, H, hsf⟩ := hP
  have hx := Bd.exec
  have hby := Bd.bytes
  have hml : cc.maxLocals = 2 := hml0
  have hown : (s.setVm s.vm).vm.findClass "java/lang/String" = some m.cls := findClass_of_methodNamed Bd.named
  have hnm := (name_of_methodNamed Bd.named Bd.method).1
  have X0 : Stand p l ee ({ frames := 2, cells := 2, slots := 4, locals := 29 } : Room) (s.setVm s.vm) m #[(.ref a1), (.ref a2)] below meth cc s₁ [] 0 0 := Stand.of_body Bd
  have e0 : s₁.heap = h0 := by rw [← hh, Bd.state]; rfl
  have N0 := Fr.nil n0
  have hEL := own_EW hw
  have hZ : Z.Warmed39 (s.setVm s.vm).vm := hZ
  have C : Cold Z consts_1 s s.vm h0 := by rw [← hh]; exact Cold.start (by rw [hh]; exact H)
  have sf_a1 := hsf a1 (List.mem_of_getElem? (i := 0) rfl)
  show GoesW p ee below s ({ frames := 2, cells := 2, slots := 4, locals := 29 } : Room).cells ({ frames := 2, cells := 2, slots := 4, locals := 29 } : Room).slots Z consts_1 (Q_sin1w Z cs fm a1 a2 uv uc f h0 n0) (s₁.setTop (entryFrame m #[(.ref a1), (.ref a2)] 2))
  refine GoesW.step (fun _ hr_ => castTop (ef_sin1w m a1 a2) hr_) ?_
  show GoesW p ee below s _ _ _ _ _ (s₁.setTop (mkF m 0 #[.val (.ref a1), .val (.ref a2)] []))
  have K0 := Keep.refl h0 ([a1] : List Addr)
  refine GoesW.step (fun _ hr_ => XS.aloadN X0.here hx rfl (hb hby d_jdk_42_method_3_code_0) rfl rfl hr_) ?_
  show GoesW p ee below s _ _ _ _ _ (s₁.setTop (mkF m 1 #[.val (.ref a1), .val (.ref a2)] [(.ref a1)]))
  refine GoesW.step (fun _ hr_ => XS.aloadN X0.here hx rfl (hb hby d_jdk_42_method_3_code_1) rfl rfl hr_) ?_
  show GoesW p ee below s _ _ _ _ _ (s₁.setTop (mkF m 2 #[.val (.ref a1), .val (.ref a2)] [(.ref a2), (.ref a1)]))
  refine GoesW.step (fun _ hr_ => XS.iconst X0.here hx rfl (hb hby d_jdk_42_method_3_code_2) hr_) ?_
  show GoesW p ee below s _ _ _ _ _ (s₁.setTop (mkF m 3 #[.val (.ref a1), .val (.ref a2)] [(.int (0 : Int32)), (.ref a2), (.ref a1)]))
  refine GoesW.step (fun _ hr_ => XS.aloadN X0.here hx rfl (hb hby d_jdk_42_method_3_code_3) rfl rfl hr_) ?_
  show GoesW p ee below s _ _ _ _ _ (s₁.setTop (mkF m 4 #[.val (.ref a1), .val (.ref a2)] [(.ref a2), (.int (0 : Int32)), (.ref a2), (.ref a1)]))
  refine GoesW.step (own_alen X0 hx hZ e0 A (z := (0 : Int32)) rfl (g := (mkF m 4 #[.val (.ref a1), .val (.ref a2)] [(.ref a2), (.int (0 : Int32)), (.ref a2), (.ref a1)])) rfl rfl (hb hby d_jdk_42_method_3_code_4)) ?_
  show GoesW p ee below s _ _ _ _ _ (s₁.setTop (mkF m 5 #[.val (.ref a1), .val (.ref a2)] [(.int (0 : Int32)), (.int (0 : Int32)), (.ref a2), (.ref a1)]))
  refine GoesW.step (fun _ hr_ => XS.aconstNull X0.here hx rfl (hb hby d_jdk_42_method_3_code_5) hr_) ?_
  show GoesW p ee below s _ _ _ _ _ (s₁.setTop (mkF m 6 #[.val (.ref a1), .val (.ref a2)] [.null, (.int (0 : Int32)), (.int (0 : Int32)), (.ref a2), (.ref a1)]))
  have lt_a1 := E.lt
  have lt_a2 := A.lt
  obtain ⟨v1, vm1, T1, L1, ⟨X1, Cn1, hZ, hown, hsaf1⟩, hQ1, st1⟩ := own_callNW X0 hx hZ hEL C (y := (⟨"java/lang/String", "<init>", "([CIILjava/lang/Void;)V"⟩ : MethodName)) rfl hown (hw _ (List.mem_of_getElem? (i := 43) rfl)) (hw _ (List.mem_of_getElem? (i := 44) rfl)) (hw _ (List.mem_of_getElem? (i := 5) rfl)) (hw _ (List.mem_of_getElem? (i := 46) rfl)) (by decide) (a := a1) (argsL := [(.ref a2), (.int (0 : Int32)), (.int (0 : Int32)), .null]) (ws := [a1]) (own_allS ⟨lt_a1, sf_a1⟩ (fun _ q => nomatch q)) (rm_sin5w l Z a0 hw [] cs fm a1 a2 _ _ h0 n0 Z0 ST OO ge_a1 E FV FC) e0 (W := 0) (by decide) (by decide) (by decide) (by decide) (g := (mkF m 6 #[.val (.ref a1), .val (.ref a2)] [.null, (.int (0 : Int32)), (.int (0 : Int32)), (.ref a2), (.ref a1)])) rfl (by rw [hml]; rfl) (rest := []) (lenOf pd_8 rfl) rfl (by show 2 * 0 + _ ≤ _; exact Nat.le_of_eq rfl) (hb hby d_jdk_42_method_3_code_6)
  refine GoesW.step st1 ?_
  obtain ⟨rfl, N1, Kc1, b1, Ei1, Fv1, Fc1, AE_b1⟩ := hQ1
  have N2 := Fr.app N0 N1
  obtain ⟨h1, e1⟩ : ∃ h', T1.heap = h' := ⟨_, rfl⟩
  rw [e1] at Kc1 Cn1 hsaf1 Ei1 Fv1 Fc1 AE_b1
  have sf_a1 := hsaf1 a1 lt_a1 sf_a1
  have C := Cn1
  have A := A.keep Kc1 (ninS (Ne.symm ne12) nin0)
  have OO := OO.keep Kc1 (allS ge_a1 all0)
  have K3 := K0.trans Kc1 (allS (Or.inl (List.mem_of_getElem? (i := 0) rfl)) all0)
  have Zp4 := Nat.le_trans Z0 Kc1.1
  have A_b1 := AE_b1 (fun _ => 0)
  show GoesW p ee below s _ _ _ _ _ (T1.setTop (mkF m 9 #[.val (.ref a1), .val (.ref a2)] []))
  refine GoesW.retV X1 hx hZ hEL C e1 Bd.notSynchronized Bd.returns (hb hby d_jdk_42_method_3_code_9) (by decide) (by decide) ?_
  rw [e1]
  exact ⟨rfl, N2, K3, b1, Ei1, Fv1, Fc1, AE_b1⟩
theorem ef_emp (m : MethodId) (x0 : Addr) : entryFrame m #[(.ref x0)] 1 = mkF m 0 #[.val (.ref x0)] [] := by first | (simp [entryFrame, mkF, argsToLocals, Value.category]; done) | rfl
theorem own_two0 (n : Nat) (h : 2 * n < 2 ^ 31) : Int32.ofNat (2 * n) = 0 ↔ n = 0 := by
  have := own_eqN (2 * n) 0 h (by decide)
  constructor
  · intro q
    have := this.mp q
    omega
  · intro q
    subst q
    rfl
theorem d_jdk_42_method_55_code_0 : decode jdk_42_method_55_code 0 = .ok (.aload_n 0, 1) := by decide +kernel
theorem d_jdk_42_method_55_code_1 : decode jdk_42_method_55_code 1 = .ok (.getfield 9, 3) := by decide +kernel
theorem d_jdk_42_method_55_code_4 : decode jdk_42_method_55_code 4 = .ok (.arraylength, 1) := by decide +kernel
theorem d_jdk_42_method_55_code_5 : decode jdk_42_method_55_code 5 = .ok (.ifCond .ne 7, 3) := by decide +kernel
theorem d_jdk_42_method_55_code_8 : decode jdk_42_method_55_code 8 = .ok (.iconst 1, 1) := by decide +kernel
theorem d_jdk_42_method_55_code_9 : decode jdk_42_method_55_code 9 = .ok (.goto 4, 3) := by decide +kernel
theorem d_jdk_42_method_55_code_13 : decode jdk_42_method_55_code 13 = .ok (.ireturn, 1) := by decide +kernel
theorem d_jdk_42_method_55_code_12 : decode jdk_42_method_55_code 12 = .ok (.iconst 0, 1) := by decide +kernel
def Q_emp (Z : State) (cs : Int32) (fm : Value) (a1 b : Addr) (n : Nat) (c : Nat → Nat) (h0 : Heap) (n0 : Nat) (v : Option Value) (h : Heap) (L : List Loc) : Prop := v = some (.int (if n = 0 then 1 else 0)) ∧ Fr n0 L ∧ h = h0
set_option maxRecDepth 65536 in
set_option maxHeartbeats 40000000 in
theorem rm_emp (l : Launch) (Z : State) (a0 : Array Value) (hw : ∀ d ∈ tables_1, d.before a0 Z = true) (ws : List Jvm.Cond) (cs : Int32) (fm : Value) (a1 b : Addr) (n : Nat) (c : Nat → Nat) (h0 : Heap) (n0 : Nat) (Z0 : n0 ≤ h0.size) (ST : own_ST Z cs fm) (OO : Old Z n0 h0) (hn : n < 2 ^ 29) (E : Exa Z h0 a1 "java/lang/String") (FV : Fld Z h0 a1 "java/lang/String" "value" "[B" (.ref b)) (FC : Fld Z h0 a1 "java/lang/String" "coder" "B" (.int (own_cd false))) (A : OA Z h0 b .byte (own_len false n) (own_by false c)) :
    MetFree l (⟨"java/lang/String", "isEmpty", "()Z"⟩ : MethodName) (head1 (Jvm.Cond.code (⟨"java/lang/String", "isEmpty", "()Z"⟩ : MethodName) jdk_42_method_55_code 1 (some .boolean) :: ws) ({ frames := 0, cells := 0, slots := 0, locals := 0 } : Room)) (fun a U => a = #[(.ref a1)] ∧ Z.Warmed39 U.vm ∧ U.heap = h0) (fun _ _ _ _ _ => True) (fun _ U o U' => ∃ v L, o = .returned v ∧ Q_emp Z cs fm a1 b n c h0 n0 v U'.heap L ∧ FrameEnd U o U' L ({ frames := 0, cells := 0, slots := 0, locals := 0 } : Room).cells ({ frames := 0, cells := 0, slots := 0, locals := 0 } : Room).slots) := by
  refine MetFree.of_bodySF (plainFor_of_name pn_java_lang_String) hisR ?_
  intro p ee s m args below meth cc s₁ Bd hml0 hP hK
  obtain ⟨rfl, hZ, hh⟩ := hP
  have hx := Bd.exec
  have hby := Bd.bytes
  have hml : cc.maxLocals = 1 := hml0
  have hown : s.vm.findClass "java/lang/String" = some m.cls := findClass_of_methodNamed Bd.named
  have hnm := (name_of_methodNamed Bd.named Bd.method).1
  have X0 : Stand p l ee ({ frames := 0, cells := 0, slots := 0, locals := 0 } : Room) s m #[(.ref a1)] below meth cc s₁ [] 0 0 := Stand.of_body Bd
  have e0 : s₁.heap = h0 := by rw [← hh, Bd.state]; rfl
  have N0 := Fr.nil n0
  show Goes p ee below s ({ frames := 0, cells := 0, slots := 0, locals := 0 } : Room).cells ({ frames := 0, cells := 0, slots := 0, locals := 0 } : Room).slots (Q_emp Z cs fm a1 b n c h0 n0) (s₁.setTop (entryFrame m #[(.ref a1)] 1))
  refine Goes.step (fun _ hr_ => castTop (ef_emp m a1) hr_) ?_
  show Goes p ee below s _ _ _ (s₁.setTop (mkF m 0 #[.val (.ref a1)] []))
  have FC : Fld Z h0 a1 "java/lang/String" "coder" "B" (.int 0) := FC
  have A : OA Z h0 b .byte n (own_by false c) := A
  show Goes p ee below s _ _ _ (s₁.setTop (mkF m 0 #[.val (.ref a1)] []))
  refine Goes.step (fun _ hr_ => XS.aloadN X0.here hx rfl (hb hby d_jdk_42_method_55_code_0) rfl rfl hr_) ?_
  show Goes p ee below s _ _ _ (s₁.setTop (mkF m 1 #[.val (.ref a1)] [(.ref a1)]))
  obtain ⟨T1, X1, e1, st1⟩ := getF X0 hx hZ hown (host := "") (Or.inl (hw _ (List.mem_of_getElem? (i := 25) rfl))) Via.refl e0 FV (g := (mkF m 1 #[.val (.ref a1)] [(.ref a1)])) rfl rfl (hb hby d_jdk_42_method_55_code_1)
  refine Goes.step st1 ?_
  show Goes p ee below s _ _ _ (T1.setTop (mkF m 4 #[.val (.ref a1)] [(.ref b)]))
  refine Goes.step (own_alen X1 hx hZ e1 A (z := (Int32.ofNat n)) rfl (g := (mkF m 4 #[.val (.ref a1)] [(.ref b)])) rfl rfl (hb hby d_jdk_42_method_55_code_4)) ?_
  show Goes p ee below s _ _ _ (T1.setTop (mkF m 5 #[.val (.ref a1)] [(.int (Int32.ofNat n))]))
  by_cases hn5_2 : n = 0
  · refine Goes.step (fun _ hr_ => XS.ifNo X1.here hx rfl (hb hby d_jdk_42_method_55_code_5) rfl ((if0 _ _).trans (teq ((own_eqN n 0 (by omega) (by decide)).mpr hn5_2)).2) hr_) ?_
    show Goes p ee below s _ _ _ (T1.setTop (mkF m 8 #[.val (.ref a1)] []))
    refine Goes.step (fun _ hr_ => XS.iconst X1.here hx rfl (hb hby d_jdk_42_method_55_code_8) hr_) ?_
    show Goes p ee below s _ _ _ (T1.setTop (mkF m 9 #[.val (.ref a1)] [(.int (1 : Int32))]))
    refine Goes.step (fun _ hr_ => XS.goto X1.here hx rfl (pc0 := 9) (pc' := 13) rfl (hb hby d_jdk_42_method_55_code_9) (by decide) (by decide) hr_) ?_
    show Goes p ee below s _ _ _ (T1.setTop (mkF m 13 #[.val (.ref a1)] [(.int (1 : Int32))]))
    refine Goes.retZ X1 hx Bd.notSynchronized Bd.returns (by simp) rfl (hb hby d_jdk_42_method_55_code_13) (by decide) (by decide) ?_
    exact ⟨own_t (by omega), N0, e1⟩
  · refine Goes.step (fun _ hr_ => XS.ifYes X1.here hx rfl (pc0 := 5) (pc' := 12) rfl (hb hby d_jdk_42_method_55_code_5) rfl ((if0 _ _).trans (feq (fun z => hn5_2 ((own_eqN n 0 (by omega) (by decide)).mp z))).2) (by decide) (by decide) hr_) ?_
    show Goes p ee below s _ _ _ (T1.setTop (mkF m 12 #[.val (.ref a1)] []))
    refine Goes.step (fun _ hr_ => XS.iconst X1.here hx rfl (hb hby d_jdk_42_method_55_code_12) hr_) ?_
    show Goes p ee below s _ _ _ (T1.setTop (mkF m 13 #[.val (.ref a1)] [(.int (0 : Int32))]))
    refine Goes.retZ X1 hx Bd.notSynchronized Bd.returns (by simp) rfl (hb hby d_jdk_42_method_55_code_13) (by decide) (by decide) ?_
    exact ⟨own_f (by omega), N0, e1⟩
theorem ef_idch (m : MethodId) (x0 : Int32) : entryFrame m #[(.int x0)] 1 = mkF m 0 #[.val (.int x0)] [] := by first | (simp [entryFrame, mkF, argsToLocals, Value.category]; done) | rfl
theorem pn_com_example_landshut_landshut_NodeIds : plainName "com/example/landshut/landshut/NodeIds" = true := by first | (simp [plainName, overriddenIn]; done) | decide +kernel
theorem d_prog_3_method_6_code_0 : decode prog_3_method_6_code 0 = .ok (.iload_n 0, 1) := by decide +kernel
theorem d_prog_3_method_6_code_1 : decode prog_3_method_6_code 1 = .ok (.bipush 65, 2) := by decide +kernel
theorem d_prog_3_method_6_code_3 : decode prog_3_method_6_code 3 = .ok (.if_icmp .lt 9, 3) := by decide +kernel
theorem d_prog_3_method_6_code_12 : decode prog_3_method_6_code 12 = .ok (.iload_n 0, 1) := by decide +kernel
theorem d_prog_3_method_6_code_13 : decode prog_3_method_6_code 13 = .ok (.bipush 97, 2) := by decide +kernel
theorem d_prog_3_method_6_code_15 : decode prog_3_method_6_code 15 = .ok (.if_icmp .lt 9, 3) := by decide +kernel
theorem d_prog_3_method_6_code_24 : decode prog_3_method_6_code 24 = .ok (.iload_n 0, 1) := by decide +kernel
theorem d_prog_3_method_6_code_25 : decode prog_3_method_6_code 25 = .ok (.bipush 48, 2) := by decide +kernel
theorem d_prog_3_method_6_code_27 : decode prog_3_method_6_code 27 = .ok (.if_icmp .lt 9, 3) := by decide +kernel
theorem d_prog_3_method_6_code_36 : decode prog_3_method_6_code 36 = .ok (.iload_n 0, 1) := by decide +kernel
theorem d_prog_3_method_6_code_37 : decode prog_3_method_6_code 37 = .ok (.bipush 46, 2) := by decide +kernel
theorem d_prog_3_method_6_code_39 : decode prog_3_method_6_code 39 = .ok (.if_icmp .eq 21, 3) := by decide +kernel
theorem d_prog_3_method_6_code_60 : decode prog_3_method_6_code 60 = .ok (.iconst 1, 1) := by decide +kernel
theorem d_prog_3_method_6_code_61 : decode prog_3_method_6_code 61 = .ok (.goto 4, 3) := by decide +kernel
theorem d_prog_3_method_6_code_65 : decode prog_3_method_6_code 65 = .ok (.ireturn, 1) := by decide +kernel
theorem d_prog_3_method_6_code_42 : decode prog_3_method_6_code 42 = .ok (.iload_n 0, 1) := by decide +kernel
theorem d_prog_3_method_6_code_43 : decode prog_3_method_6_code 43 = .ok (.bipush 95, 2) := by decide +kernel
theorem d_prog_3_method_6_code_45 : decode prog_3_method_6_code 45 = .ok (.if_icmp .eq 15, 3) := by decide +kernel
theorem d_prog_3_method_6_code_48 : decode prog_3_method_6_code 48 = .ok (.iload_n 0, 1) := by decide +kernel
theorem d_prog_3_method_6_code_49 : decode prog_3_method_6_code 49 = .ok (.bipush 58, 2) := by decide +kernel
theorem d_prog_3_method_6_code_51 : decode prog_3_method_6_code 51 = .ok (.if_icmp .eq 9, 3) := by decide +kernel
theorem d_prog_3_method_6_code_54 : decode prog_3_method_6_code 54 = .ok (.iload_n 0, 1) := by decide +kernel
theorem d_prog_3_method_6_code_55 : decode prog_3_method_6_code 55 = .ok (.bipush 45, 2) := by decide +kernel
theorem d_prog_3_method_6_code_57 : decode prog_3_method_6_code 57 = .ok (.if_icmp .ne 7, 3) := by decide +kernel
theorem d_prog_3_method_6_code_64 : decode prog_3_method_6_code 64 = .ok (.iconst 0, 1) := by decide +kernel
theorem d_prog_3_method_6_code_30 : decode prog_3_method_6_code 30 = .ok (.iload_n 0, 1) := by decide +kernel
theorem d_prog_3_method_6_code_31 : decode prog_3_method_6_code 31 = .ok (.bipush 57, 2) := by decide +kernel
theorem d_prog_3_method_6_code_33 : decode prog_3_method_6_code 33 = .ok (.if_icmp .le 27, 3) := by decide +kernel
theorem d_prog_3_method_6_code_18 : decode prog_3_method_6_code 18 = .ok (.iload_n 0, 1) := by decide +kernel
theorem d_prog_3_method_6_code_19 : decode prog_3_method_6_code 19 = .ok (.bipush 122, 2) := by decide +kernel
theorem d_prog_3_method_6_code_21 : decode prog_3_method_6_code 21 = .ok (.if_icmp .le 39, 3) := by decide +kernel
theorem d_prog_3_method_6_code_6 : decode prog_3_method_6_code 6 = .ok (.iload_n 0, 1) := by decide +kernel
theorem d_prog_3_method_6_code_7 : decode prog_3_method_6_code 7 = .ok (.bipush 90, 2) := by decide +kernel
theorem d_prog_3_method_6_code_9 : decode prog_3_method_6_code 9 = .ok (.if_icmp .le 51, 3) := by decide +kernel
def Q_idch (Z : State) (k : Nat) (h0 : Heap) (n0 : Nat) (v : Option Value) (h : Heap) (L : List Loc) : Prop := v = some (.int (if own_idc k then 1 else 0)) ∧ Fr n0 L ∧ h = h0
set_option maxRecDepth 65536 in
set_option maxHeartbeats 40000000 in
theorem rm_idch (l : Launch) (Z : State) (a0 : Array Value) (hw : ∀ d ∈ tables_1, d.before a0 Z = true) (ws : List Jvm.Cond) (k : Nat) (h0 : Heap) (n0 : Nat) (Z0 : n0 ≤ h0.size) (hk : k < 65536) :
    MetFree l (⟨"com/example/landshut/landshut/NodeIds", "isIdChar", "(C)Z"⟩ : MethodName) (head1 (Jvm.Cond.code (⟨"com/example/landshut/landshut/NodeIds", "isIdChar", "(C)Z"⟩ : MethodName) prog_3_method_6_code 1 (some .boolean) :: ws) ({ frames := 0, cells := 0, slots := 0, locals := 0 } : Room)) (fun a U => a = #[(.int (Int32.ofNat k))] ∧ Z.Warmed39 U.vm ∧ U.heap = h0) (fun _ _ _ _ _ => True) (fun _ U o U' => ∃ v L, o = .returned v ∧ Q_idch Z k h0 n0 v U'.heap L ∧ FrameEnd U o U' L ({ frames := 0, cells := 0, slots := 0, locals := 0 } : Room).cells ({ frames := 0, cells := 0, slots := 0, locals := 0 } : Room).slots) := by
  refine MetFree.of_bodySF (plainFor_of_name pn_com_example_landshut_landshut_NodeIds) hisR ?_
  intro p ee s m args below meth cc s₁ Bd hml0 hP hK
  obtain ⟨rfl, hZ, hh⟩ := hP
  have hx := Bd.exec
  have hby := Bd.bytes
  have hml : cc.maxLocals = 1 := hml0
  have hown : s.vm.findClass "com/example/landshut/landshut/NodeIds" = some m.cls := findClass_of_methodNamed Bd.named
  have hnm := (name_of_methodNamed Bd.named Bd.method).1
  have X0 : Stand p l ee ({ frames := 0, cells := 0, slots := 0, locals := 0 } : Room) s m #[(.int (Int32.ofNat k))] below meth cc s₁ [] 0 0 := Stand.of_body Bd
  have e0 : s₁.heap = h0 := by rw [← hh, Bd.state]; rfl
  have N0 := Fr.nil n0
  show Goes p ee below s ({ frames := 0, cells := 0, slots := 0, locals := 0 } : Room).cells ({ frames := 0, cells := 0, slots := 0, locals := 0 } : Room).slots (Q_idch Z k h0 n0) (s₁.setTop (entryFrame m #[(.int (Int32.ofNat k))] 1))
  refine Goes.step (fun _ hr_ => castTop (ef_idch m (Int32.ofNat k)) hr_) ?_
  show Goes p ee below s _ _ _ (s₁.setTop (mkF m 0 #[.val (.int (Int32.ofNat k))] []))
  refine Goes.step (fun _ hr_ => XS.iloadN X0.here hx rfl (hb hby d_prog_3_method_6_code_0) rfl  hr_) ?_
  show Goes p ee below s _ _ _ (s₁.setTop (mkF m 1 #[.val (.int (Int32.ofNat k))] [(.int (Int32.ofNat k))]))
  refine Goes.step (fun _ hr_ => XS.bipush X0.here hx rfl (hb hby d_prog_3_method_6_code_1) hr_) ?_
  show Goes p ee below s _ _ _ (s₁.setTop (mkF m 3 #[.val (.int (Int32.ofNat k))] [(.int (65 : Int32)), (.int (Int32.ofNat k))]))
  by_cases hn3_1 : k < 65
  · refine Goes.step (fun _ hr_ => XS.icmpYes X0.here hx rfl (pc0 := 3) (pc' := 12) rfl (hb hby d_prog_3_method_6_code_3) rfl (tlt ((own_ltN k 65 (by omega) (by decide)).mpr hn3_1)).1 (by decide) (by decide) hr_) ?_
    show Goes p ee below s _ _ _ (s₁.setTop (mkF m 12 #[.val (.int (Int32.ofNat k))] []))
    refine Goes.step (fun _ hr_ => XS.iloadN X0.here hx rfl (hb hby d_prog_3_method_6_code_12) rfl  hr_) ?_
    show Goes p ee below s _ _ _ (s₁.setTop (mkF m 13 #[.val (.int (Int32.ofNat k))] [(.int (Int32.ofNat k))]))
    refine Goes.step (fun _ hr_ => XS.bipush X0.here hx rfl (hb hby d_prog_3_method_6_code_13) hr_) ?_
    show Goes p ee below s _ _ _ (s₁.setTop (mkF m 15 #[.val (.int (Int32.ofNat k))] [(.int (97 : Int32)), (.int (Int32.ofNat k))]))
    by_cases hn15_2 : k < 97
    · refine Goes.step (fun _ hr_ => XS.icmpYes X0.here hx rfl (pc0 := 15) (pc' := 24) rfl (hb hby d_prog_3_method_6_code_15) rfl (tlt ((own_ltN k 97 (by omega) (by decide)).mpr hn15_2)).1 (by decide) (by decide) hr_) ?_
      show Goes p ee below s _ _ _ (s₁.setTop (mkF m 24 #[.val (.int (Int32.ofNat k))] []))
      refine Goes.step (fun _ hr_ => XS.iloadN X0.here hx rfl (hb hby d_prog_3_method_6_code_24) rfl  hr_) ?_
      show Goes p ee below s _ _ _ (s₁.setTop (mkF m 25 #[.val (.int (Int32.ofNat k))] [(.int (Int32.ofNat k))]))
      refine Goes.step (fun _ hr_ => XS.bipush X0.here hx rfl (hb hby d_prog_3_method_6_code_25) hr_) ?_
      show Goes p ee below s _ _ _ (s₁.setTop (mkF m 27 #[.val (.int (Int32.ofNat k))] [(.int (48 : Int32)), (.int (Int32.ofNat k))]))
      by_cases hn27_3 : k < 48
      · refine Goes.step (fun _ hr_ => XS.icmpYes X0.here hx rfl (pc0 := 27) (pc' := 36) rfl (hb hby d_prog_3_method_6_code_27) rfl (tlt ((own_ltN k 48 (by omega) (by decide)).mpr hn27_3)).1 (by decide) (by decide) hr_) ?_
        show Goes p ee below s _ _ _ (s₁.setTop (mkF m 36 #[.val (.int (Int32.ofNat k))] []))
        refine Goes.step (fun _ hr_ => XS.iloadN X0.here hx rfl (hb hby d_prog_3_method_6_code_36) rfl  hr_) ?_
        show Goes p ee below s _ _ _ (s₁.setTop (mkF m 37 #[.val (.int (Int32.ofNat k))] [(.int (Int32.ofNat k))]))
        refine Goes.step (fun _ hr_ => XS.bipush X0.here hx rfl (hb hby d_prog_3_method_6_code_37) hr_) ?_
        show Goes p ee below s _ _ _ (s₁.setTop (mkF m 39 #[.val (.int (Int32.ofNat k))] [(.int (46 : Int32)), (.int (Int32.ofNat k))]))
        by_cases hn39_4 : k = 46
        · refine Goes.step (fun _ hr_ => XS.icmpYes X0.here hx rfl (pc0 := 39) (pc' := 60) rfl (hb hby d_prog_3_method_6_code_39) rfl (teq ((own_eqN k 46 (by omega) (by decide)).mpr hn39_4)).1 (by decide) (by decide) hr_) ?_
          show Goes p ee below s _ _ _ (s₁.setTop (mkF m 60 #[.val (.int (Int32.ofNat k))] []))
          refine Goes.step (fun _ hr_ => XS.iconst X0.here hx rfl (hb hby d_prog_3_method_6_code_60) hr_) ?_
          show Goes p ee below s _ _ _ (s₁.setTop (mkF m 61 #[.val (.int (Int32.ofNat k))] [(.int (1 : Int32))]))
          refine Goes.step (fun _ hr_ => XS.goto X0.here hx rfl (pc0 := 61) (pc' := 65) rfl (hb hby d_prog_3_method_6_code_61) (by decide) (by decide) hr_) ?_
          show Goes p ee below s _ _ _ (s₁.setTop (mkF m 65 #[.val (.int (Int32.ofNat k))] [(.int (1 : Int32))]))
          refine Goes.retZ X0 hx Bd.notSynchronized Bd.returns (by simp) rfl (hb hby d_prog_3_method_6_code_65) (by decide) (by decide) ?_
          exact ⟨own_t (by unfold own_idc; omega), N0, e0⟩
        · refine Goes.step (fun _ hr_ => XS.icmpNo X0.here hx rfl (hb hby d_prog_3_method_6_code_39) rfl (feq (fun z => hn39_4 ((own_eqN k 46 (by omega) (by decide)).mp z))).1 hr_) ?_
          show Goes p ee below s _ _ _ (s₁.setTop (mkF m 42 #[.val (.int (Int32.ofNat k))] []))
          refine Goes.step (fun _ hr_ => XS.iloadN X0.here hx rfl (hb hby d_prog_3_method_6_code_42) rfl  hr_) ?_
          show Goes p ee below s _ _ _ (s₁.setTop (mkF m 43 #[.val (.int (Int32.ofNat k))] [(.int (Int32.ofNat k))]))
          refine Goes.step (fun _ hr_ => XS.bipush X0.here hx rfl (hb hby d_prog_3_method_6_code_43) hr_) ?_
          show Goes p ee below s _ _ _ (s₁.setTop (mkF m 45 #[.val (.int (Int32.ofNat k))] [(.int (95 : Int32)), (.int (Int32.ofNat k))]))
          by_cases hn45_5 : k = 95
          · refine Goes.step (fun _ hr_ => XS.icmpYes X0.here hx rfl (pc0 := 45) (pc' := 60) rfl (hb hby d_prog_3_method_6_code_45) rfl (teq ((own_eqN k 95 (by omega) (by decide)).mpr hn45_5)).1 (by decide) (by decide) hr_) ?_
            show Goes p ee below s _ _ _ (s₁.setTop (mkF m 60 #[.val (.int (Int32.ofNat k))] []))
            refine Goes.step (fun _ hr_ => XS.iconst X0.here hx rfl (hb hby d_prog_3_method_6_code_60) hr_) ?_
            show Goes p ee below s _ _ _ (s₁.setTop (mkF m 61 #[.val (.int (Int32.ofNat k))] [(.int (1 : Int32))]))
            refine Goes.step (fun _ hr_ => XS.goto X0.here hx rfl (pc0 := 61) (pc' := 65) rfl (hb hby d_prog_3_method_6_code_61) (by decide) (by decide) hr_) ?_
            show Goes p ee below s _ _ _ (s₁.setTop (mkF m 65 #[.val (.int (Int32.ofNat k))] [(.int (1 : Int32))]))
            refine Goes.retZ X0 hx Bd.notSynchronized Bd.returns (by simp) rfl (hb hby d_prog_3_method_6_code_65) (by decide) (by decide) ?_
            exact ⟨own_t (by unfold own_idc; omega), N0, e0⟩
          · refine Goes.step (fun _ hr_ => XS.icmpNo X0.here hx rfl (hb hby d_prog_3_method_6_code_45) rfl (feq (fun z => hn45_5 ((own_eqN k 95 (by omega) (by decide)).mp z))).1 hr_) ?_
            show Goes p ee below s _ _ _ (s₁.setTop (mkF m 48 #[.val (.int (Int32.ofNat k))] []))
            refine Goes.step (fun _ hr_ => XS.iloadN X0.here hx rfl (hb hby d_prog_3_method_6_code_48) rfl  hr_) ?_
            show Goes p ee below s _ _ _ (s₁.setTop (mkF m 49 #[.val (.int (Int32.ofNat k))] [(.int (Int32.ofNat k))]))
            refine Goes.step (fun _ hr_ => XS.bipush X0.here hx rfl (hb hby d_prog_3_method_6_code_49) hr_) ?_
            show Goes p ee below s _ _ _ (s₁.setTop (mkF m 51 #[.val (.int (Int32.ofNat k))] [(.int (58 : Int32)), (.int (Int32.ofNat k))]))
            by_cases hn51_6 : k = 58
            · refine Goes.step (fun _ hr_ => XS.icmpYes X0.here hx rfl (pc0 := 51) (pc' := 60) rfl (hb hby d_prog_3_method_6_code_51) rfl (teq ((own_eqN k 58 (by omega) (by decide)).mpr hn51_6)).1 (by decide) (by decide) hr_) ?_
              show Goes p ee below s _ _ _ (s₁.setTop (mkF m 60 #[.val (.int (Int32.ofNat k))] []))
              refine Goes.step (fun _ hr_ => XS.iconst X0.here hx rfl (hb hby d_prog_3_method_6_code_60) hr_) ?_
              show Goes p ee below s _ _ _ (s₁.setTop (mkF m 61 #[.val (.int (Int32.ofNat k))] [(.int (1 : Int32))]))
              refine Goes.step (fun _ hr_ => XS.goto X0.here hx rfl (pc0 := 61) (pc' := 65) rfl (hb hby d_prog_3_method_6_code_61) (by decide) (by decide) hr_) ?_
              show Goes p ee below s _ _ _ (s₁.setTop (mkF m 65 #[.val (.int (Int32.ofNat k))] [(.int (1 : Int32))]))
              refine Goes.retZ X0 hx Bd.notSynchronized Bd.returns (by simp) rfl (hb hby d_prog_3_method_6_code_65) (by decide) (by decide) ?_
              exact ⟨own_t (by unfold own_idc; omega), N0, e0⟩
            · refine Goes.step (fun _ hr_ => XS.icmpNo X0.here hx rfl (hb hby d_prog_3_method_6_code_51) rfl (feq (fun z => hn51_6 ((own_eqN k 58 (by omega) (by decide)).mp z))).1 hr_) ?_
              show Goes p ee below s _ _ _ (s₁.setTop (mkF m 54 #[.val (.int (Int32.ofNat k))] []))
              refine Goes.step (fun _ hr_ => XS.iloadN X0.here hx rfl (hb hby d_prog_3_method_6_code_54) rfl  hr_) ?_
              show Goes p ee below s _ _ _ (s₁.setTop (mkF m 55 #[.val (.int (Int32.ofNat k))] [(.int (Int32.ofNat k))]))
              refine Goes.step (fun _ hr_ => XS.bipush X0.here hx rfl (hb hby d_prog_3_method_6_code_55) hr_) ?_
              show Goes p ee below s _ _ _ (s₁.setTop (mkF m 57 #[.val (.int (Int32.ofNat k))] [(.int (45 : Int32)), (.int (Int32.ofNat k))]))
              by_cases hn57_7 : k = 45
              · refine Goes.step (fun _ hr_ => XS.icmpNo X0.here hx rfl (hb hby d_prog_3_method_6_code_57) rfl (teq ((own_eqN k 45 (by omega) (by decide)).mpr hn57_7)).2 hr_) ?_
                show Goes p ee below s _ _ _ (s₁.setTop (mkF m 60 #[.val (.int (Int32.ofNat k))] []))
                refine Goes.step (fun _ hr_ => XS.iconst X0.here hx rfl (hb hby d_prog_3_method_6_code_60) hr_) ?_
                show Goes p ee below s _ _ _ (s₁.setTop (mkF m 61 #[.val (.int (Int32.ofNat k))] [(.int (1 : Int32))]))
                refine Goes.step (fun _ hr_ => XS.goto X0.here hx rfl (pc0 := 61) (pc' := 65) rfl (hb hby d_prog_3_method_6_code_61) (by decide) (by decide) hr_) ?_
                show Goes p ee below s _ _ _ (s₁.setTop (mkF m 65 #[.val (.int (Int32.ofNat k))] [(.int (1 : Int32))]))
                refine Goes.retZ X0 hx Bd.notSynchronized Bd.returns (by simp) rfl (hb hby d_prog_3_method_6_code_65) (by decide) (by decide) ?_
                exact ⟨own_t (by unfold own_idc; omega), N0, e0⟩
              · refine Goes.step (fun _ hr_ => XS.icmpYes X0.here hx rfl (pc0 := 57) (pc' := 64) rfl (hb hby d_prog_3_method_6_code_57) rfl (feq (fun z => hn57_7 ((own_eqN k 45 (by omega) (by decide)).mp z))).2 (by decide) (by decide) hr_) ?_
                show Goes p ee below s _ _ _ (s₁.setTop (mkF m 64 #[.val (.int (Int32.ofNat k))] []))
                refine Goes.step (fun _ hr_ => XS.iconst X0.here hx rfl (hb hby d_prog_3_method_6_code_64) hr_) ?_
                show Goes p ee below s _ _ _ (s₁.setTop (mkF m 65 #[.val (.int (Int32.ofNat k))] [(.int (0 : Int32))]))
                refine Goes.retZ X0 hx Bd.notSynchronized Bd.returns (by simp) rfl (hb hby d_prog_3_method_6_code_65) (by decide) (by decide) ?_
                exact ⟨own_f (by unfold own_idc; omega), N0, e0⟩
      · refine Goes.step (fun _ hr_ => XS.icmpNo X0.here hx rfl (hb hby d_prog_3_method_6_code_27) rfl (flt (fun z => hn27_3 ((own_ltN k 48 (by omega) (by decide)).mp z))).1 hr_) ?_
        show Goes p ee below s _ _ _ (s₁.setTop (mkF m 30 #[.val (.int (Int32.ofNat k))] []))
        refine Goes.step (fun _ hr_ => XS.iloadN X0.here hx rfl (hb hby d_prog_3_method_6_code_30) rfl  hr_) ?_
        show Goes p ee below s _ _ _ (s₁.setTop (mkF m 31 #[.val (.int (Int32.ofNat k))] [(.int (Int32.ofNat k))]))
        refine Goes.step (fun _ hr_ => XS.bipush X0.here hx rfl (hb hby d_prog_3_method_6_code_31) hr_) ?_
        show Goes p ee below s _ _ _ (s₁.setTop (mkF m 33 #[.val (.int (Int32.ofNat k))] [(.int (57 : Int32)), (.int (Int32.ofNat k))]))
        by_cases hn33_8 : 57 < k
        · refine Goes.step (fun _ hr_ => XS.icmpNo X0.here hx rfl (hb hby d_prog_3_method_6_code_33) rfl (tlt ((own_ltN 57 k (by decide) (by omega)).mpr hn33_8)).2.2.2 hr_) ?_
          show Goes p ee below s _ _ _ (s₁.setTop (mkF m 36 #[.val (.int (Int32.ofNat k))] []))
          refine Goes.step (fun _ hr_ => XS.iloadN X0.here hx rfl (hb hby d_prog_3_method_6_code_36) rfl  hr_) ?_
          show Goes p ee below s _ _ _ (s₁.setTop (mkF m 37 #[.val (.int (Int32.ofNat k))] [(.int (Int32.ofNat k))]))
          refine Goes.step (fun _ hr_ => XS.bipush X0.here hx rfl (hb hby d_prog_3_method_6_code_37) hr_) ?_
          show Goes p ee below s _ _ _ (s₁.setTop (mkF m 39 #[.val (.int (Int32.ofNat k))] [(.int (46 : Int32)), (.int (Int32.ofNat k))]))
          by_cases hn39_9 : k = 46
          · refine Goes.step (fun _ hr_ => XS.icmpYes X0.here hx rfl (pc0 := 39) (pc' := 60) rfl (hb hby d_prog_3_method_6_code_39) rfl (teq ((own_eqN k 46 (by omega) (by decide)).mpr hn39_9)).1 (by decide) (by decide) hr_) ?_
            show Goes p ee below s _ _ _ (s₁.setTop (mkF m 60 #[.val (.int (Int32.ofNat k))] []))
            refine Goes.step (fun _ hr_ => XS.iconst X0.here hx rfl (hb hby d_prog_3_method_6_code_60) hr_) ?_
            show Goes p ee below s _ _ _ (s₁.setTop (mkF m 61 #[.val (.int (Int32.ofNat k))] [(.int (1 : Int32))]))
            refine Goes.step (fun _ hr_ => XS.goto X0.here hx rfl (pc0 := 61) (pc' := 65) rfl (hb hby d_prog_3_method_6_code_61) (by decide) (by decide) hr_) ?_
            show Goes p ee below s _ _ _ (s₁.setTop (mkF m 65 #[.val (.int (Int32.ofNat k))] [(.int (1 : Int32))]))
            refine Goes.retZ X0 hx Bd.notSynchronized Bd.returns (by simp) rfl (hb hby d_prog_3_method_6_code_65) (by decide) (by decide) ?_
            exact ⟨own_t (by unfold own_idc; omega), N0, e0⟩
          · refine Goes.step (fun _ hr_ => XS.icmpNo X0.here hx rfl (hb hby d_prog_3_method_6_code_39) rfl (feq (fun z => hn39_9 ((own_eqN k 46 (by omega) (by decide)).mp z))).1 hr_) ?_
            show Goes p ee below s _ _ _ (s₁.setTop (mkF m 42 #[.val (.int (Int32.ofNat k))] []))
            refine Goes.step (fun _ hr_ => XS.iloadN X0.here hx rfl (hb hby d_prog_3_method_6_code_42) rfl  hr_) ?_
            show Goes p ee below s _ _ _ (s₁.setTop (mkF m 43 #[.val (.int (Int32.ofNat k))] [(.int (Int32.ofNat k))]))
            refine Goes.step (fun _ hr_ => XS.bipush X0.here hx rfl (hb hby d_prog_3_method_6_code_43) hr_) ?_
            show Goes p ee below s _ _ _ (s₁.setTop (mkF m 45 #[.val (.int (Int32.ofNat k))] [(.int (95 : Int32)), (.int (Int32.ofNat k))]))
            by_cases hn45_10 : k = 95
            · refine Goes.step (fun _ hr_ => XS.icmpYes X0.here hx rfl (pc0 := 45) (pc' := 60) rfl (hb hby d_prog_3_method_6_code_45) rfl (teq ((own_eqN k 95 (by omega) (by decide)).mpr hn45_10)).1 (by decide) (by decide) hr_) ?_
              show Goes p ee below s _ _ _ (s₁.setTop (mkF m 60 #[.val (.int (Int32.ofNat k))] []))
              refine Goes.step (fun _ hr_ => XS.iconst X0.here hx rfl (hb hby d_prog_3_method_6_code_60) hr_) ?_
              show Goes p ee below s _ _ _ (s₁.setTop (mkF m 61 #[.val (.int (Int32.ofNat k))] [(.int (1 : Int32))]))
              refine Goes.step (fun _ hr_ => XS.goto X0.here hx rfl (pc0 := 61) (pc' := 65) rfl (hb hby d_prog_3_method_6_code_61) (by decide) (by decide) hr_) ?_
              show Goes p ee below s _ _ _ (s₁.setTop (mkF m 65 #[.val (.int (Int32.ofNat k))] [(.int (1 : Int32))]))
              refine Goes.retZ X0 hx Bd.notSynchronized Bd.returns (by simp) rfl (hb hby d_prog_3_method_6_code_65) (by decide) (by decide) ?_
              exact ⟨own_t (by unfold own_idc; omega), N0, e0⟩
            · refine Goes.step (fun _ hr_ => XS.icmpNo X0.here hx rfl (hb hby d_prog_3_method_6_code_45) rfl (feq (fun z => hn45_10 ((own_eqN k 95 (by omega) (by decide)).mp z))).1 hr_) ?_
              show Goes p ee below s _ _ _ (s₁.setTop (mkF m 48 #[.val (.int (Int32.ofNat k))] []))
              refine Goes.step (fun _ hr_ => XS.iloadN X0.here hx rfl (hb hby d_prog_3_method_6_code_48) rfl  hr_) ?_
              show Goes p ee below s _ _ _ (s₁.setTop (mkF m 49 #[.val (.int (Int32.ofNat k))] [(.int (Int32.ofNat k))]))
              refine Goes.step (fun _ hr_ => XS.bipush X0.here hx rfl (hb hby d_prog_3_method_6_code_49) hr_) ?_
              show Goes p ee below s _ _ _ (s₁.setTop (mkF m 51 #[.val (.int (Int32.ofNat k))] [(.int (58 : Int32)), (.int (Int32.ofNat k))]))
              by_cases hn51_11 : k = 58
              · refine Goes.step (fun _ hr_ => XS.icmpYes X0.here hx rfl (pc0 := 51) (pc' := 60) rfl (hb hby d_prog_3_method_6_code_51) rfl (teq ((own_eqN k 58 (by omega) (by decide)).mpr hn51_11)).1 (by decide) (by decide) hr_) ?_
                show Goes p ee below s _ _ _ (s₁.setTop (mkF m 60 #[.val (.int (Int32.ofNat k))] []))
                refine Goes.step (fun _ hr_ => XS.iconst X0.here hx rfl (hb hby d_prog_3_method_6_code_60) hr_) ?_
                show Goes p ee below s _ _ _ (s₁.setTop (mkF m 61 #[.val (.int (Int32.ofNat k))] [(.int (1 : Int32))]))
                refine Goes.step (fun _ hr_ => XS.goto X0.here hx rfl (pc0 := 61) (pc' := 65) rfl (hb hby d_prog_3_method_6_code_61) (by decide) (by decide) hr_) ?_
                show Goes p ee below s _ _ _ (s₁.setTop (mkF m 65 #[.val (.int (Int32.ofNat k))] [(.int (1 : Int32))]))
                refine Goes.retZ X0 hx Bd.notSynchronized Bd.returns (by simp) rfl (hb hby d_prog_3_method_6_code_65) (by decide) (by decide) ?_
                exact ⟨own_t (by unfold own_idc; omega), N0, e0⟩
              · refine Goes.step (fun _ hr_ => XS.icmpNo X0.here hx rfl (hb hby d_prog_3_method_6_code_51) rfl (feq (fun z => hn51_11 ((own_eqN k 58 (by omega) (by decide)).mp z))).1 hr_) ?_
                show Goes p ee below s _ _ _ (s₁.setTop (mkF m 54 #[.val (.int (Int32.ofNat k))] []))
                refine Goes.step (fun _ hr_ => XS.iloadN X0.here hx rfl (hb hby d_prog_3_method_6_code_54) rfl  hr_) ?_
                show Goes p ee below s _ _ _ (s₁.setTop (mkF m 55 #[.val (.int (Int32.ofNat k))] [(.int (Int32.ofNat k))]))
                refine Goes.step (fun _ hr_ => XS.bipush X0.here hx rfl (hb hby d_prog_3_method_6_code_55) hr_) ?_
                show Goes p ee below s _ _ _ (s₁.setTop (mkF m 57 #[.val (.int (Int32.ofNat k))] [(.int (45 : Int32)), (.int (Int32.ofNat k))]))
                by_cases hn57_12 : k = 45
                · refine Goes.step (fun _ hr_ => XS.icmpNo X0.here hx rfl (hb hby d_prog_3_method_6_code_57) rfl (teq ((own_eqN k 45 (by omega) (by decide)).mpr hn57_12)).2 hr_) ?_
                  show Goes p ee below s _ _ _ (s₁.setTop (mkF m 60 #[.val (.int (Int32.ofNat k))] []))
                  refine Goes.step (fun _ hr_ => XS.iconst X0.here hx rfl (hb hby d_prog_3_method_6_code_60) hr_) ?_
                  show Goes p ee below s _ _ _ (s₁.setTop (mkF m 61 #[.val (.int (Int32.ofNat k))] [(.int (1 : Int32))]))
                  refine Goes.step (fun _ hr_ => XS.goto X0.here hx rfl (pc0 := 61) (pc' := 65) rfl (hb hby d_prog_3_method_6_code_61) (by decide) (by decide) hr_) ?_
                  show Goes p ee below s _ _ _ (s₁.setTop (mkF m 65 #[.val (.int (Int32.ofNat k))] [(.int (1 : Int32))]))
                  refine Goes.retZ X0 hx Bd.notSynchronized Bd.returns (by simp) rfl (hb hby d_prog_3_method_6_code_65) (by decide) (by decide) ?_
                  exact ⟨own_t (by unfold own_idc; omega), N0, e0⟩
                · refine Goes.step (fun _ hr_ => XS.icmpYes X0.here hx rfl (pc0 := 57) (pc' := 64) rfl (hb hby d_prog_3_method_6_code_57) rfl (feq (fun z => hn57_12 ((own_eqN k 45 (by omega) (by decide)).mp z))).2 (by decide) (by decide) hr_) ?_
                  show Goes p ee below s _ _ _ (s₁.setTop (mkF m 64 #[.val (.int (Int32.ofNat k))] []))
                  refine Goes.step (fun _ hr_ => XS.iconst X0.here hx rfl (hb hby d_prog_3_method_6_code_64) hr_) ?_
                  show Goes p ee below s _ _ _ (s₁.setTop (mkF m 65 #[.val (.int (Int32.ofNat k))] [(.int (0 : Int32))]))
                  refine Goes.retZ X0 hx Bd.notSynchronized Bd.returns (by simp) rfl (hb hby d_prog_3_method_6_code_65) (by decide) (by decide) ?_
                  exact ⟨own_f (by unfold own_idc; omega), N0, e0⟩
        · refine Goes.step (fun _ hr_ => XS.icmpYes X0.here hx rfl (pc0 := 33) (pc' := 60) rfl (hb hby d_prog_3_method_6_code_33) rfl (flt (fun z => hn33_8 ((own_ltN 57 k (by decide) (by omega)).mp z))).2.2.2 (by decide) (by decide) hr_) ?_
          show Goes p ee below s _ _ _ (s₁.setTop (mkF m 60 #[.val (.int (Int32.ofNat k))] []))
          refine Goes.step (fun _ hr_ => XS.iconst X0.here hx rfl (hb hby d_prog_3_method_6_code_60) hr_) ?_
          show Goes p ee below s _ _ _ (s₁.setTop (mkF m 61 #[.val (.int (Int32.ofNat k))] [(.int (1 : Int32))]))
          refine Goes.step (fun _ hr_ => XS.goto X0.here hx rfl (pc0 := 61) (pc' := 65) rfl (hb hby d_prog_3_method_6_code_61) (by decide) (by decide) hr_) ?_
          show Goes p ee below s _ _ _ (s₁.setTop (mkF m 65 #[.val (.int (Int32.ofNat k))] [(.int (1 : Int32))]))
          refine Goes.retZ X0 hx Bd.notSynchronized Bd.returns (by simp) rfl (hb hby d_prog_3_method_6_code_65) (by decide) (by decide) ?_
          exact ⟨own_t (by unfold own_idc; omega), N0, e0⟩
    · refine Goes.step (fun _ hr_ => XS.icmpNo X0.here hx rfl (hb hby d_prog_3_method_6_code_15) rfl (flt (fun z => hn15_2 ((own_ltN k 97 (by omega) (by decide)).mp z))).1 hr_) ?_
      show Goes p ee below s _ _ _ (s₁.setTop (mkF m 18 #[.val (.int (Int32.ofNat k))] []))
      refine Goes.step (fun _ hr_ => XS.iloadN X0.here hx rfl (hb hby d_prog_3_method_6_code_18) rfl  hr_) ?_
      show Goes p ee below s _ _ _ (s₁.setTop (mkF m 19 #[.val (.int (Int32.ofNat k))] [(.int (Int32.ofNat k))]))
      refine Goes.step (fun _ hr_ => XS.bipush X0.here hx rfl (hb hby d_prog_3_method_6_code_19) hr_) ?_
      show Goes p ee below s _ _ _ (s₁.setTop (mkF m 21 #[.val (.int (Int32.ofNat k))] [(.int (122 : Int32)), (.int (Int32.ofNat k))]))
      by_cases hn21_13 : 122 < k
      · refine Goes.step (fun _ hr_ => XS.icmpNo X0.here hx rfl (hb hby d_prog_3_method_6_code_21) rfl (tlt ((own_ltN 122 k (by decide) (by omega)).mpr hn21_13)).2.2.2 hr_) ?_
        show Goes p ee below s _ _ _ (s₁.setTop (mkF m 24 #[.val (.int (Int32.ofNat k))] []))
        refine Goes.step (fun _ hr_ => XS.iloadN X0.here hx rfl (hb hby d_prog_3_method_6_code_24) rfl  hr_) ?_
        show Goes p ee below s _ _ _ (s₁.setTop (mkF m 25 #[.val (.int (Int32.ofNat k))] [(.int (Int32.ofNat k))]))
        refine Goes.step (fun _ hr_ => XS.bipush X0.here hx rfl (hb hby d_prog_3_method_6_code_25) hr_) ?_
        show Goes p ee below s _ _ _ (s₁.setTop (mkF m 27 #[.val (.int (Int32.ofNat k))] [(.int (48 : Int32)), (.int (Int32.ofNat k))]))
        by_cases hn27_14 : k < 48
        · refine Goes.step (fun _ hr_ => XS.icmpYes X0.here hx rfl (pc0 := 27) (pc' := 36) rfl (hb hby d_prog_3_method_6_code_27) rfl (tlt ((own_ltN k 48 (by omega) (by decide)).mpr hn27_14)).1 (by decide) (by decide) hr_) ?_
          show Goes p ee below s _ _ _ (s₁.setTop (mkF m 36 #[.val (.int (Int32.ofNat k))] []))
          refine Goes.step (fun _ hr_ => XS.iloadN X0.here hx rfl (hb hby d_prog_3_method_6_code_36) rfl  hr_) ?_
          show Goes p ee below s _ _ _ (s₁.setTop (mkF m 37 #[.val (.int (Int32.ofNat k))] [(.int (Int32.ofNat k))]))
          refine Goes.step (fun _ hr_ => XS.bipush X0.here hx rfl (hb hby d_prog_3_method_6_code_37) hr_) ?_
          show Goes p ee below s _ _ _ (s₁.setTop (mkF m 39 #[.val (.int (Int32.ofNat k))] [(.int (46 : Int32)), (.int (Int32.ofNat k))]))
          by_cases hn39_15 : k = 46
          · refine Goes.step (fun _ hr_ => XS.icmpYes X0.here hx rfl (pc0 := 39) (pc' := 60) rfl (hb hby d_prog_3_method_6_code_39) rfl (teq ((own_eqN k 46 (by omega) (by decide)).mpr hn39_15)).1 (by decide) (by decide) hr_) ?_
            show Goes p ee below s _ _ _ (s₁.setTop (mkF m 60 #[.val (.int (Int32.ofNat k))] []))
            refine Goes.step (fun _ hr_ => XS.iconst X0.here hx rfl (hb hby d_prog_3_method_6_code_60) hr_) ?_
            show Goes p ee below s _ _ _ (s₁.setTop (mkF m 61 #[.val (.int (Int32.ofNat k))] [(.int (1 : Int32))]))
            refine Goes.step (fun _ hr_ => XS.goto X0.here hx rfl (pc0 := 61) (pc' := 65) rfl (hb hby d_prog_3_method_6_code_61) (by decide) (by decide) hr_) ?_
            show Goes p ee below s _ _ _ (s₁.setTop (mkF m 65 #[.val (.int (Int32.ofNat k))] [(.int (1 : Int32))]))
            refine Goes.retZ X0 hx Bd.notSynchronized Bd.returns (by simp) rfl (hb hby d_prog_3_method_6_code_65) (by decide) (by decide) ?_
            exact ⟨own_t (by unfold own_idc; omega), N0, e0⟩
          · refine Goes.step (fun _ hr_ => XS.icmpNo X0.here hx rfl (hb hby d_prog_3_method_6_code_39) rfl (feq (fun z => hn39_15 ((own_eqN k 46 (by omega) (by decide)).mp z))).1 hr_) ?_
            show Goes p ee below s _ _ _ (s₁.setTop (mkF m 42 #[.val (.int (Int32.ofNat k))] []))
            refine Goes.step (fun _ hr_ => XS.iloadN X0.here hx rfl (hb hby d_prog_3_method_6_code_42) rfl  hr_) ?_
            show Goes p ee below s _ _ _ (s₁.setTop (mkF m 43 #[.val (.int (Int32.ofNat k))] [(.int (Int32.ofNat k))]))
            refine Goes.step (fun _ hr_ => XS.bipush X0.here hx rfl (hb hby d_prog_3_method_6_code_43) hr_) ?_
            show Goes p ee below s _ _ _ (s₁.setTop (mkF m 45 #[.val (.int (Int32.ofNat k))] [(.int (95 : Int32)), (.int (Int32.ofNat k))]))
            by_cases hn45_16 : k = 95
            · refine Goes.step (fun _ hr_ => XS.icmpYes X0.here hx rfl (pc0 := 45) (pc' := 60) rfl (hb hby d_prog_3_method_6_code_45) rfl (teq ((own_eqN k 95 (by omega) (by decide)).mpr hn45_16)).1 (by decide) (by decide) hr_) ?_
              show Goes p ee below s _ _ _ (s₁.setTop (mkF m 60 #[.val (.int (Int32.ofNat k))] []))
              refine Goes.step (fun _ hr_ => XS.iconst X0.here hx rfl (hb hby d_prog_3_method_6_code_60) hr_) ?_
              show Goes p ee below s _ _ _ (s₁.setTop (mkF m 61 #[.val (.int (Int32.ofNat k))] [(.int (1 : Int32))]))
              refine Goes.step (fun _ hr_ => XS.goto X0.here hx rfl (pc0 := 61) (pc' := 65) rfl (hb hby d_prog_3_method_6_code_61) (by decide) (by decide) hr_) ?_
              show Goes p ee below s _ _ _ (s₁.setTop (mkF m 65 #[.val (.int (Int32.ofNat k))] [(.int (1 : Int32))]))
              refine Goes.retZ X0 hx Bd.notSynchronized Bd.returns (by simp) rfl (hb hby d_prog_3_method_6_code_65) (by decide) (by decide) ?_
              exact ⟨own_t (by unfold own_idc; omega), N0, e0⟩
            · refine Goes.step (fun _ hr_ => XS.icmpNo X0.here hx rfl (hb hby d_prog_3_method_6_code_45) rfl (feq (fun z => hn45_16 ((own_eqN k 95 (by omega) (by decide)).mp z))).1 hr_) ?_
              show Goes p ee below s _ _ _ (s₁.setTop (mkF m 48 #[.val (.int (Int32.ofNat k))] []))
              refine Goes.step (fun _ hr_ => XS.iloadN X0.here hx rfl (hb hby d_prog_3_method_6_code_48) rfl  hr_) ?_
              show Goes p ee below s _ _ _ (s₁.setTop (mkF m 49 #[.val (.int (Int32.ofNat k))] [(.int (Int32.ofNat k))]))
              refine Goes.step (fun _ hr_ => XS.bipush X0.here hx rfl (hb hby d_prog_3_method_6_code_49) hr_) ?_
              show Goes p ee below s _ _ _ (s₁.setTop (mkF m 51 #[.val (.int (Int32.ofNat k))] [(.int (58 : Int32)), (.int (Int32.ofNat k))]))
              by_cases hn51_17 : k = 58
              · refine Goes.step (fun _ hr_ => XS.icmpYes X0.here hx rfl (pc0 := 51) (pc' := 60) rfl (hb hby d_prog_3_method_6_code_51) rfl (teq ((own_eqN k 58 (by omega) (by decide)).mpr hn51_17)).1 (by decide) (by decide) hr_) ?_
                show Goes p ee below s _ _ _ (s₁.setTop (mkF m 60 #[.val (.int (Int32.ofNat k))] []))
                refine Goes.step (fun _ hr_ => XS.iconst X0.here hx rfl (hb hby d_prog_3_method_6_code_60) hr_) ?_
                show Goes p ee below s _ _ _ (s₁.setTop (mkF m 61 #[.val (.int (Int32.ofNat k))] [(.int (1 : Int32))]))
                refine Goes.step (fun _ hr_ => XS.goto X0.here hx rfl (pc0 := 61) (pc' := 65) rfl (hb hby d_prog_3_method_6_code_61) (by decide) (by decide) hr_) ?_
                show Goes p ee below s _ _ _ (s₁.setTop (mkF m 65 #[.val (.int (Int32.ofNat k))] [(.int (1 : Int32))]))
                refine Goes.retZ X0 hx Bd.notSynchronized Bd.returns (by simp) rfl (hb hby d_prog_3_method_6_code_65) (by decide) (by decide) ?_
                exact ⟨own_t (by unfold own_idc; omega), N0, e0⟩
              · refine Goes.step (fun _ hr_ => XS.icmpNo X0.here hx rfl (hb hby d_prog_3_method_6_code_51) rfl (feq (fun z => hn51_17 ((own_eqN k 58 (by omega) (by decide)).mp z))).1 hr_) ?_
                show Goes p ee below s _ _ _ (s₁.setTop (mkF m 54 #[.val (.int (Int32.ofNat k))] []))
                refine Goes.step (fun _ hr_ => XS.iloadN X0.here hx rfl (hb hby d_prog_3_method_6_code_54) rfl  hr_) ?_
                show Goes p ee below s _ _ _ (s₁.setTop (mkF m 55 #[.val (.int (Int32.ofNat k))] [(.int (Int32.ofNat k))]))
                refine Goes.step (fun _ hr_ => XS.bipush X0.here hx rfl (hb hby d_prog_3_method_6_code_55) hr_) ?_
                show Goes p ee below s _ _ _ (s₁.setTop (mkF m 57 #[.val (.int (Int32.ofNat k))] [(.int (45 : Int32)), (.int (Int32.ofNat k))]))
                by_cases hn57_18 : k = 45
                · refine Goes.step (fun _ hr_ => XS.icmpNo X0.here hx rfl (hb hby d_prog_3_method_6_code_57) rfl (teq ((own_eqN k 45 (by omega) (by decide)).mpr hn57_18)).2 hr_) ?_
                  show Goes p ee below s _ _ _ (s₁.setTop (mkF m 60 #[.val (.int (Int32.ofNat k))] []))
                  refine Goes.step (fun _ hr_ => XS.iconst X0.here hx rfl (hb hby d_prog_3_method_6_code_60) hr_) ?_
                  show Goes p ee below s _ _ _ (s₁.setTop (mkF m 61 #[.val (.int (Int32.ofNat k))] [(.int (1 : Int32))]))
                  refine Goes.step (fun _ hr_ => XS.goto X0.here hx rfl (pc0 := 61) (pc' := 65) rfl (hb hby d_prog_3_method_6_code_61) (by decide) (by decide) hr_) ?_
                  show Goes p ee below s _ _ _ (s₁.setTop (mkF m 65 #[.val (.int (Int32.ofNat k))] [(.int (1 : Int32))]))
                  refine Goes.retZ X0 hx Bd.notSynchronized Bd.returns (by simp) rfl (hb hby d_prog_3_method_6_code_65) (by decide) (by decide) ?_
                  exact ⟨own_t (by unfold own_idc; omega), N0, e0⟩
                · refine Goes.step (fun _ hr_ => XS.icmpYes X0.here hx rfl (pc0 := 57) (pc' := 64) rfl (hb hby d_prog_3_method_6_code_57) rfl (feq (fun z => hn57_18 ((own_eqN k 45 (by omega) (by decide)).mp z))).2 (by decide) (by decide) hr_) ?_
                  show Goes p ee below s _ _ _ (s₁.setTop (mkF m 64 #[.val (.int (Int32.ofNat k))] []))
                  refine Goes.step (fun _ hr_ => XS.iconst X0.here hx rfl (hb hby d_prog_3_method_6_code_64) hr_) ?_
                  show Goes p ee below s _ _ _ (s₁.setTop (mkF m 65 #[.val (.int (Int32.ofNat k))] [(.int (0 : Int32))]))
                  refine Goes.retZ X0 hx Bd.notSynchronized Bd.returns (by simp) rfl (hb hby d_prog_3_method_6_code_65) (by decide) (by decide) ?_
                  exact ⟨own_f (by unfold own_idc; omega), N0, e0⟩
        · refine Goes.step (fun _ hr_ => XS.icmpNo X0.here hx rfl (hb hby d_prog_3_method_6_code_27) rfl (flt (fun z => hn27_14 ((own_ltN k 48 (by omega) (by decide)).mp z))).1 hr_) ?_
          show Goes p ee below s _ _ _ (s₁.setTop (mkF m 30 #[.val (.int (Int32.ofNat k))] []))
          refine Goes.step (fun _ hr_ => XS.iloadN X0.here hx rfl (hb hby d_prog_3_method_6_code_30) rfl  hr_) ?_
          show Goes p ee below s _ _ _ (s₁.setTop (mkF m 31 #[.val (.int (Int32.ofNat k))] [(.int (Int32.ofNat k))]))
          refine Goes.step (fun _ hr_ => XS.bipush X0.here hx rfl (hb hby d_prog_3_method_6_code_31) hr_) ?_
          show Goes p ee below s _ _ _ (s₁.setTop (mkF m 33 #[.val (.int (Int32.ofNat k))] [(.int (57 : Int32)), (.int (Int32.ofNat k))]))
          by_cases hn33_19 : 57 < k
          · refine Goes.step (fun _ hr_ => XS.icmpNo X0.here hx rfl (hb hby d_prog_3_method_6_code_33) rfl (tlt ((own_ltN 57 k (by decide) (by omega)).mpr hn33_19)).2.2.2 hr_) ?_
            show Goes p ee below s _ _ _ (s₁.setTop (mkF m 36 #[.val (.int (Int32.ofNat k))] []))
            refine Goes.step (fun _ hr_ => XS.iloadN X0.here hx rfl (hb hby d_prog_3_method_6_code_36) rfl  hr_) ?_
            show Goes p ee below s _ _ _ (s₁.setTop (mkF m 37 #[.val (.int (Int32.ofNat k))] [(.int (Int32.ofNat k))]))
            refine Goes.step (fun _ hr_ => XS.bipush X0.here hx rfl (hb hby d_prog_3_method_6_code_37) hr_) ?_
            show Goes p ee below s _ _ _ (s₁.setTop (mkF m 39 #[.val (.int (Int32.ofNat k))] [(.int (46 : Int32)), (.int (Int32.ofNat k))]))
            by_cases hn39_20 : k = 46
            · refine Goes.step (fun _ hr_ => XS.icmpYes X0.here hx rfl (pc0 := 39) (pc' := 60) rfl (hb hby d_prog_3_method_6_code_39) rfl (teq ((own_eqN k 46 (by omega) (by decide)).mpr hn39_20)).1 (by decide) (by decide) hr_) ?_
              show Goes p ee below s _ _ _ (s₁.setTop (mkF m 60 #[.val (.int (Int32.ofNat k))] []))
              refine Goes.step (fun _ hr_ => XS.iconst X0.here hx rfl (hb hby d_prog_3_method_6_code_60) hr_) ?_
              show Goes p ee below s _ _ _ (s₁.setTop (mkF m 61 #[.val (.int (Int32.ofNat k))] [(.int (1 : Int32))]))
              refine Goes.step (fun _ hr_ => XS.goto X0.here hx rfl (pc0 := 61) (pc' := 65) rfl (hb hby d_prog_3_method_6_code_61) (by decide) (by decide) hr_) ?_
              show Goes p ee below s _ _ _ (s₁.setTop (mkF m 65 #[.val (.int (Int32.ofNat k))] [(.int (1 : Int32))]))
              refine Goes.retZ X0 hx Bd.notSynchronized Bd.returns (by simp) rfl (hb hby d_prog_3_method_6_code_65) (by decide) (by decide) ?_
              exact ⟨own_t (by unfold own_idc; omega), N0, e0⟩
            · refine Goes.step (fun _ hr_ => XS.icmpNo X0.here hx rfl (hb hby d_prog_3_method_6_code_39) rfl (feq (fun z => hn39_20 ((own_eqN k 46 (by omega) (by decide)).mp z))).1 hr_) ?_
              show Goes p ee below s _ _ _ (s₁.setTop (mkF m 42 #[.val (.int (Int32.ofNat k))] []))
              refine Goes.step (fun _ hr_ => XS.iloadN X0.here hx rfl (hb hby d_prog_3_method_6_code_42) rfl  hr_) ?_
              show Goes p ee below s _ _ _ (s₁.setTop (mkF m 43 #[.val (.int (Int32.ofNat k))] [(.int (Int32.ofNat k))]))
              refine Goes.step (fun _ hr_ => XS.bipush X0.here hx rfl (hb hby d_prog_3_method_6_code_43) hr_) ?_
              show Goes p ee below s _ _ _ (s₁.setTop (mkF m 45 #[.val (.int (Int32.ofNat k))] [(.int (95 : Int32)), (.int (Int32.ofNat k))]))
              by_cases hn45_21 : k = 95
              · refine Goes.step (fun _ hr_ => XS.icmpYes X0.here hx rfl (pc0 := 45) (pc' := 60) rfl (hb hby d_prog_3_method_6_code_45) rfl (teq ((own_eqN k 95 (by omega) (by decide)).mpr hn45_21)).1 (by decide) (by decide) hr_) ?_
                show Goes p ee below s _ _ _ (s₁.setTop (mkF m 60 #[.val (.int (Int32.ofNat k))] []))
                refine Goes.step (fun _ hr_ => XS.iconst X0.here hx rfl (hb hby d_prog_3_method_6_code_60) hr_) ?_
                show Goes p ee below s _ _ _ (s₁.setTop (mkF m 61 #[.val (.int (Int32.ofNat k))] [(.int (1 : Int32))]))
                refine Goes.step (fun _ hr_ => XS.goto X0.here hx rfl (pc0 := 61) (pc' := 65) rfl (hb hby d_prog_3_method_6_code_61) (by decide) (by decide) hr_) ?_
                show Goes p ee below s _ _ _ (s₁.setTop (mkF m 65 #[.val (.int (Int32.ofNat k))] [(.int (1 : Int32))]))
                refine Goes.retZ X0 hx Bd.notSynchronized Bd.returns (by simp) rfl (hb hby d_prog_3_method_6_code_65) (by decide) (by decide) ?_
                exact ⟨own_t (by unfold own_idc; omega), N0, e0⟩
              · refine Goes.step (fun _ hr_ => XS.icmpNo X0.here hx rfl (hb hby d_prog_3_method_6_code_45) rfl (feq (fun z => hn45_21 ((own_eqN k 95 (by omega) (by decide)).mp z))).1 hr_) ?_
                show Goes p ee below s _ _ _ (s₁.setTop (mkF m 48 #[.val (.int (Int32.ofNat k))] []))
                refine Goes.step (fun _ hr_ => XS.iloadN X0.here hx rfl (hb hby d_prog_3_method_6_code_48) rfl  hr_) ?_
                show Goes p ee below s _ _ _ (s₁.setTop (mkF m 49 #[.val (.int (Int32.ofNat k))] [(.int (Int32.ofNat k))]))
                refine Goes.step (fun _ hr_ => XS.bipush X0.here hx rfl (hb hby d_prog_3_method_6_code_49) hr_) ?_
                show Goes p ee below s _ _ _ (s₁.setTop (mkF m 51 #[.val (.int (Int32.ofNat k))] [(.int (58 : Int32)), (.int (Int32.ofNat k))]))
                by_cases hn51_22 : k = 58
                · refine Goes.step (fun _ hr_ => XS.icmpYes X0.here hx rfl (pc0 := 51) (pc' := 60) rfl (hb hby d_prog_3_method_6_code_51) rfl (teq ((own_eqN k 58 (by omega) (by decide)).mpr hn51_22)).1 (by decide) (by decide) hr_) ?_
                  show Goes p ee below s _ _ _ (s₁.setTop (mkF m 60 #[.val (.int (Int32.ofNat k))] []))
                  refine Goes.step (fun _ hr_ => XS.iconst X0.here hx rfl (hb hby d_prog_3_method_6_code_60) hr_) ?_
                  show Goes p ee below s _ _ _ (s₁.setTop (mkF m 61 #[.val (.int (Int32.ofNat k))] [(.int (1 : Int32))]))
                  refine Goes.step (fun _ hr_ => XS.goto X0.here hx rfl (pc0 := 61) (pc' := 65) rfl (hb hby d_prog_3_method_6_code_61) (by decide) (by decide) hr_) ?_
                  show Goes p ee below s _ _ _ (s₁.setTop (mkF m 65 #[.val (.int (Int32.ofNat k))] [(.int (1 : Int32))]))
                  refine Goes.retZ X0 hx Bd.notSynchronized Bd.returns (by simp) rfl (hb hby d_prog_3_method_6_code_65) (by decide) (by decide) ?_
                  exact ⟨own_t (by unfold own_idc; omega), N0, e0⟩
                · refine Goes.step (fun _ hr_ => XS.icmpNo X0.here hx rfl (hb hby d_prog_3_method_6_code_51) rfl (feq (fun z => hn51_22 ((own_eqN k 58 (by omega) (by decide)).mp z))).1 hr_) ?_
                  show Goes p ee below s _ _ _ (s₁.setTop (mkF m 54 #[.val (.int (Int32.ofNat k))] []))
                  refine Goes.step (fun _ hr_ => XS.iloadN X0.here hx rfl (hb hby d_prog_3_method_6_code_54) rfl  hr_) ?_
                  show Goes p ee below s _ _ _ (s₁.setTop (mkF m 55 #[.val (.int (Int32.ofNat k))] [(.int (Int32.ofNat k))]))
                  refine Goes.step (fun _ hr_ => XS.bipush X0.here hx rfl (hb hby d_prog_3_method_6_code_55) hr_) ?_
                  show Goes p ee below s _ _ _ (s₁.setTop (mkF m 57 #[.val (.int (Int32.ofNat k))] [(.int (45 : Int32)), (.int (Int32.ofNat k))]))
                  by_cases hn57_23 : k = 45
                  · refine Goes.step (fun _ hr_ => XS.icmpNo X0.here hx rfl (hb hby d_prog_3_method_6_code_57) rfl (teq ((own_eqN k 45 (by omega) (by decide)).mpr hn57_23)).2 hr_) ?_
                    show Goes p ee below s _ _ _ (s₁.setTop (mkF m 60 #[.val (.int (Int32.ofNat k))] []))
                    refine Goes.step (fun _ hr_ => XS.iconst X0.here hx rfl (hb hby d_prog_3_method_6_code_60) hr_) ?_
                    show Goes p ee below s _ _ _ (s₁.setTop (mkF m 61 #[.val (.int (Int32.ofNat k))] [(.int (1 : Int32))]))
                    refine Goes.step (fun _ hr_ => XS.goto X0.here hx rfl (pc0 := 61) (pc' := 65) rfl (hb hby d_prog_3_method_6_code_61) (by decide) (by decide) hr_) ?_
                    show Goes p ee below s _ _ _ (s₁.setTop (mkF m 65 #[.val (.int (Int32.ofNat k))] [(.int (1 : Int32))]))
                    refine Goes.retZ X0 hx Bd.notSynchronized Bd.returns (by simp) rfl (hb hby d_prog_3_method_6_code_65) (by decide) (by decide) ?_
                    exact ⟨own_t (by unfold own_idc; omega), N0, e0⟩
                  · refine Goes.step (fun _ hr_ => XS.icmpYes X0.here hx rfl (pc0 := 57) (pc' := 64) rfl (hb hby d_prog_3_method_6_code_57) rfl (feq (fun z => hn57_23 ((own_eqN k 45 (by omega) (by decide)).mp z))).2 (by decide) (by decide) hr_) ?_
                    show Goes p ee below s _ _ _ (s₁.setTop (mkF m 64 #[.val (.int (Int32.ofNat k))] []))
                    refine Goes.step (fun _ hr_ => XS.iconst X0.here hx rfl (hb hby d_prog_3_method_6_code_64) hr_) ?_
                    show Goes p ee below s _ _ _ (s₁.setTop (mkF m 65 #[.val (.int (Int32.ofNat k))] [(.int (0 : Int32))]))
                    refine Goes.retZ X0 hx Bd.notSynchronized Bd.returns (by simp) rfl (hb hby d_prog_3_method_6_code_65) (by decide) (by decide) ?_
                    exact ⟨own_f (by unfold own_idc; omega), N0, e0⟩
          · refine Goes.step (fun _ hr_ => XS.icmpYes X0.here hx rfl (pc0 := 33) (pc' := 60) rfl (hb hby d_prog_3_method_6_code_33) rfl (flt (fun z => hn33_19 ((own_ltN 57 k (by decide) (by omega)).mp z))).2.2.2 (by decide) (by decide) hr_) ?_
            show Goes p ee below s _ _ _ (s₁.setTop (mkF m 60 #[.val (.int (Int32.ofNat k))] []))
            refine Goes.step (fun _ hr_ => XS.iconst X0.here hx rfl (hb hby d_prog_3_method_6_code_60) hr_) ?_
            show Goes p ee below s _ _ _ (s₁.setTop (mkF m 61 #[.val (.int (Int32.ofNat k))] [(.int (1 : Int32))]))
            refine Goes.step (fun _ hr_ => XS.goto X0.here hx rfl (pc0 := 61) (pc' := 65) rfl (hb hby d_prog_3_method_6_code_61) (by decide) (by decide) hr_) ?_
            show Goes p ee below s _ _ _ (s₁.setTop (mkF m 65 #[.val (.int (Int32.ofNat k))] [(.int (1 : Int32))]))
            refine Goes.retZ X0 hx Bd.notSynchronized Bd.returns (by simp) rfl (hb hby d_prog_3_method_6_code_65) (by decide) (by decide) ?_
            exact ⟨own_t (by unfold own_idc; omega), N0, e0⟩
      · refine Goes.step (fun _ hr_ => XS.icmpYes X0.here hx rfl (pc0 := 21) (pc' := 60) rfl (hb hby d_prog_3_method_6_code_21) rfl (flt (fun z => hn21_13 ((own_ltN 122 k (by decide) (by omega)).mp z))).2.2.2 (by decide) (by decide) hr_) ?_
        show Goes p ee below s _ _ _ (s₁.setTop (mkF m 60 #[.val (.int (Int32.ofNat k))] []))
        refine Goes.step (fun _ hr_ => XS.iconst X0.here hx rfl (hb hby d_prog_3_method_6_code_60) hr_) ?_
        show Goes p ee below s _ _ _ (s₁.setTop (mkF m 61 #[.val (.int (Int32.ofNat k))] [(.int (1 : Int32))]))
        refine Goes.step (fun _ hr_ => XS.goto X0.here hx rfl (pc0 := 61) (pc' := 65) rfl (hb hby d_prog_3_method_6_code_61) (by decide) (by decide) hr_) ?_
        show Goes p ee below s _ _ _ (s₁.setTop (mkF m 65 #[.val (.int (Int32.ofNat k))] [(.int (1 : Int32))]))
        refine Goes.retZ X0 hx Bd.notSynchronized Bd.returns (by simp) rfl (hb hby d_prog_3_method_6_code_65) (by decide) (by decide) ?_
        exact ⟨own_t (by unfold own_idc; omega), N0, e0⟩
  · refine Goes.step (fun _ hr_ => XS.icmpNo X0.here hx rfl (hb hby d_prog_3_method_6_code_3) rfl (flt (fun z => hn3_1 ((own_ltN k 65 (by omega) (by decide)).mp z))).1 hr_) ?_
    show Goes p ee below s _ _ _ (s₁.setTop (mkF m 6 #[.val (.int (Int32.ofNat k))] []))
    refine Goes.step (fun _ hr_ => XS.iloadN X0.here hx rfl (hb hby d_prog_3_method_6_code_6) rfl  hr_) ?_
    show Goes p ee below s _ _ _ (s₁.setTop (mkF m 7 #[.val (.int (Int32.ofNat k))] [(.int (Int32.ofNat k))]))
    refine Goes.step (fun _ hr_ => XS.bipush X0.here hx rfl (hb hby d_prog_3_method_6_code_7) hr_) ?_
    show Goes p ee below s _ _ _ (s₁.setTop (mkF m 9 #[.val (.int (Int32.ofNat k))] [(.int (90 : Int32)), (.int (Int32.ofNat k))]))
    by_cases hn9_24 : 90 < k
    · refine Goes.step (fun _ hr_ => XS.icmpNo X0.here hx rfl (hb hby d_prog_3_method_6_code_9) rfl (tlt ((own_ltN 90 k (by decide) (by omega)).mpr hn9_24)).2.2.2 hr_) ?_
      show Goes p ee below s _ _ _ (s₁.setTop (mkF m 12 #[.val (.int (Int32.ofNat k))] []))
      refine Goes.step (fun _ hr_ => XS.iloadN X0.here hx rfl (hb hby d_prog_3_method_6_code_12) rfl  hr_) ?_
      show Goes p ee below s _ _ _ (s₁.setTop (mkF m 13 #[.val (.int (Int32.ofNat k))] [(.int (Int32.ofNat k))]))
      refine Goes.step (fun _ hr_ => XS.bipush X0.here hx rfl (hb hby d_prog_3_method_6_code_13) hr_) ?_
      show Goes p ee below s _ _ _ (s₁.setTop (mkF m 15 #[.val (.int (Int32.ofNat k))] [(.int (97 : Int32)), (.int (Int32.ofNat k))]))
      by_cases hn15_25 : k < 97
      · refine Goes.step (fun _ hr_ => XS.icmpYes X0.here hx rfl (pc0 := 15) (pc' := 24) rfl (hb hby d_prog_3_method_6_code_15) rfl (tlt ((own_ltN k 97 (by omega) (by decide)).mpr hn15_25)).1 (by decide) (by decide) hr_) ?_
        show Goes p ee below s _ _ _ (s₁.setTop (mkF m 24 #[.val (.int (Int32.ofNat k))] []))
        refine Goes.step (fun _ hr_ => XS.iloadN X0.here hx rfl (hb hby d_prog_3_method_6_code_24) rfl  hr_) ?_
        show Goes p ee below s _ _ _ (s₁.setTop (mkF m 25 #[.val (.int (Int32.ofNat k))] [(.int (Int32.ofNat k))]))
        refine Goes.step (fun _ hr_ => XS.bipush X0.here hx rfl (hb hby d_prog_3_method_6_code_25) hr_) ?_
        show Goes p ee below s _ _ _ (s₁.setTop (mkF m 27 #[.val (.int (Int32.ofNat k))] [(.int (48 : Int32)), (.int (Int32.ofNat k))]))
        by_cases hn27_26 : k < 48
        · refine Goes.step (fun _ hr_ => XS.icmpYes X0.here hx rfl (pc0 := 27) (pc' := 36) rfl (hb hby d_prog_3_method_6_code_27) rfl (tlt ((own_ltN k 48 (by omega) (by decide)).mpr hn27_26)).1 (by decide) (by decide) hr_) ?_
          show Goes p ee below s _ _ _ (s₁.setTop (mkF m 36 #[.val (.int (Int32.ofNat k))] []))
          refine Goes.step (fun _ hr_ => XS.iloadN X0.here hx rfl (hb hby d_prog_3_method_6_code_36) rfl  hr_) ?_
          show Goes p ee below s _ _ _ (s₁.setTop (mkF m 37 #[.val (.int (Int32.ofNat k))] [(.int (Int32.ofNat k))]))
          refine Goes.step (fun _ hr_ => XS.bipush X0.here hx rfl (hb hby d_prog_3_method_6_code_37) hr_) ?_
          show Goes p ee below s _ _ _ (s₁.setTop (mkF m 39 #[.val (.int (Int32.ofNat k))] [(.int (46 : Int32)), (.int (Int32.ofNat k))]))
          by_cases hn39_27 : k = 46
          · refine Goes.step (fun _ hr_ => XS.icmpYes X0.here hx rfl (pc0 := 39) (pc' := 60) rfl (hb hby d_prog_3_method_6_code_39) rfl (teq ((own_eqN k 46 (by omega) (by decide)).mpr hn39_27)).1 (by decide) (by decide) hr_) ?_
            show Goes p ee below s _ _ _ (s₁.setTop (mkF m 60 #[.val (.int (Int32.ofNat k))] []))
            refine Goes.step (fun _ hr_ => XS.iconst X0.here hx rfl (hb hby d_prog_3_method_6_code_60) hr_) ?_
            show Goes p ee below s _ _ _ (s₁.setTop (mkF m 61 #[.val (.int (Int32.ofNat k))] [(.int (1 : Int32))]))
            refine Goes.step (fun _ hr_ => XS.goto X0.here hx rfl (pc0 := 61) (pc' := 65) rfl (hb hby d_prog_3_method_6_code_61) (by decide) (by decide) hr_) ?_
            show Goes p ee below s _ _ _ (s₁.setTop (mkF m 65 #[.val (.int (Int32.ofNat k))] [(.int (1 : Int32))]))
            refine Goes.retZ X0 hx Bd.notSynchronized Bd.returns (by simp) rfl (hb hby d_prog_3_method_6_code_65) (by decide) (by decide) ?_
            exact ⟨own_t (by unfold own_idc; omega), N0, e0⟩
          · refine Goes.step (fun _ hr_ => XS.icmpNo X0.here hx rfl (hb hby d_prog_3_method_6_code_39) rfl (feq (fun z => hn39_27 ((own_eqN k 46 (by omega) (by decide)).mp z))).1 hr_) ?_
            show Goes p ee below s _ _ _ (s₁.setTop (mkF m 42 #[.val (.int (Int32.ofNat k))] []))
            refine Goes.step (fun _ hr_ => XS.iloadN X0.here hx rfl (hb hby d_prog_3_method_6_code_42) rfl  hr_) ?_
            show Goes p ee below s _ _ _ (s₁.setTop (mkF m 43 #[.val (.int (Int32.ofNat k))] [(.int (Int32.ofNat k))]))
            refine Goes.step (fun _ hr_ => XS.bipush X0.here hx rfl (hb hby d_prog_3_method_6_code_43) hr_) ?_
            show Goes p ee below s _ _ _ (s₁.setTop (mkF m 45 #[.val (.int (Int32.ofNat k))] [(.int (95 : Int32)), (.int (Int32.ofNat k))]))
            by_cases hn45_28 : k = 95
            · refine Goes.step (fun _ hr_ => XS.icmpYes X0.here hx rfl (pc0 := 45) (pc' := 60) rfl (hb hby d_prog_3_method_6_code_45) rfl (teq ((own_eqN k 95 (by omega) (by decide)).mpr hn45_28)).1 (by decide) (by decide) hr_) ?_
              show Goes p ee below s _ _ _ (s₁.setTop (mkF m 60 #[.val (.int (Int32.ofNat k))] []))
              refine Goes.step (fun _ hr_ => XS.iconst X0.here hx rfl (hb hby d_prog_3_method_6_code_60) hr_) ?_
              show Goes p ee below s _ _ _ (s₁.setTop (mkF m 61 #[.val (.int (Int32.ofNat k))] [(.int (1 : Int32))]))
              refine Goes.step (fun _ hr_ => XS.goto X0.here hx rfl (pc0 := 61) (pc' := 65) rfl (hb hby d_prog_3_method_6_code_61) (by decide) (by decide) hr_) ?_
              show Goes p ee below s _ _ _ (s₁.setTop (mkF m 65 #[.val (.int (Int32.ofNat k))] [(.int (1 : Int32))]))
              refine Goes.retZ X0 hx Bd.notSynchronized Bd.returns (by simp) rfl (hb hby d_prog_3_method_6_code_65) (by decide) (by decide) ?_
              exact ⟨own_t (by unfold own_idc; omega), N0, e0⟩
            · refine Goes.step (fun _ hr_ => XS.icmpNo X0.here hx rfl (hb hby d_prog_3_method_6_code_45) rfl (feq (fun z => hn45_28 ((own_eqN k 95 (by omega) (by decide)).mp z))).1 hr_) ?_
              show Goes p ee below s _ _ _ (s₁.setTop (mkF m 48 #[.val (.int (Int32.ofNat k))] []))
              refine Goes.step (fun _ hr_ => XS.iloadN X0.here hx rfl (hb hby d_prog_3_method_6_code_48) rfl  hr_) ?_
              show Goes p ee below s _ _ _ (s₁.setTop (mkF m 49 #[.val (.int (Int32.ofNat k))] [(.int (Int32.ofNat k))]))
              refine Goes.step (fun _ hr_ => XS.bipush X0.here hx rfl (hb hby d_prog_3_method_6_code_49) hr_) ?_
              show Goes p ee below s _ _ _ (s₁.setTop (mkF m 51 #[.val (.int (Int32.ofNat k))] [(.int (58 : Int32)), (.int (Int32.ofNat k))]))
              by_cases hn51_29 : k = 58
              · refine Goes.step (fun _ hr_ => XS.icmpYes X0.here hx rfl (pc0 := 51) (pc' := 60) rfl (hb hby d_prog_3_method_6_code_51) rfl (teq ((own_eqN k 58 (by omega) (by decide)).mpr hn51_29)).1 (by decide) (by decide) hr_) ?_
                show Goes p ee below s _ _ _ (s₁.setTop (mkF m 60 #[.val (.int (Int32.ofNat k))] []))
                refine Goes.step (fun _ hr_ => XS.iconst X0.here hx rfl (hb hby d_prog_3_method_6_code_60) hr_) ?_
                show Goes p ee below s _ _ _ (s₁.setTop (mkF m 61 #[.val (.int (Int32.ofNat k))] [(.int (1 : Int32))]))
                refine Goes.step (fun _ hr_ => XS.goto X0.here hx rfl (pc0 := 61) (pc' := 65) rfl (hb hby d_prog_3_method_6_code_61) (by decide) (by decide) hr_) ?_
                show Goes p ee below s _ _ _ (s₁.setTop (mkF m 65 #[.val (.int (Int32.ofNat k))] [(.int (1 : Int32))]))
                refine Goes.retZ X0 hx Bd.notSynchronized Bd.returns (by simp) rfl (hb hby d_prog_3_method_6_code_65) (by decide) (by decide) ?_
                exact ⟨own_t (by unfold own_idc; omega), N0, e0⟩
              · refine Goes.step (fun _ hr_ => XS.icmpNo X0.here hx rfl (hb hby d_prog_3_method_6_code_51) rfl (feq (fun z => hn51_29 ((own_eqN k 58 (by omega) (by decide)).mp z))).1 hr_) ?_
                show Goes p ee below s _ _ _ (s₁.setTop (mkF m 54 #[.val (.int (Int32.ofNat k))] []))
                refine Goes.step (fun _ hr_ => XS.iloadN X0.here hx rfl (hb hby d_prog_3_method_6_code_54) rfl  hr_) ?_
                show Goes p ee below s _ _ _ (s₁.setTop (mkF m 55 #[.val (.int (Int32.ofNat k))] [(.int (Int32.ofNat k))]))
                refine Goes.step (fun _ hr_ => XS.bipush X0.here hx rfl (hb hby d_prog_3_method_6_code_55) hr_) ?_
                show Goes p ee below s _ _ _ (s₁.setTop (mkF m 57 #[.val (.int (Int32.ofNat k))] [(.int (45 : Int32)), (.int (Int32.ofNat k))]))
                by_cases hn57_30 : k = 45
                · refine Goes.step (fun _ hr_ => XS.icmpNo X0.here hx rfl (hb hby d_prog_3_method_6_code_57) rfl (teq ((own_eqN k 45 (by omega) (by decide)).mpr hn57_30)).2 hr_) ?_
                  show Goes p ee below s _ _ _ (s₁.setTop (mkF m 60 #[.val (.int (Int32.ofNat k))] []))
                  refine Goes.step (fun _ hr_ => XS.iconst X0.here hx rfl (hb hby d_prog_3_method_6_code_60) hr_) ?_
                  show Goes p ee below s _ _ _ (s₁.setTop (mkF m 61 #[.val (.int (Int32.ofNat k))] [(.int (1 : Int32))]))
                  refine Goes.step (fun _ hr_ => XS.goto X0.here hx rfl (pc0 := 61) (pc' := 65) rfl (hb hby d_prog_3_method_6_code_61) (by decide) (by decide) hr_) ?_
                  show Goes p ee below s _ _ _ (s₁.setTop (mkF m 65 #[.val (.int (Int32.ofNat k))] [(.int (1 : Int32))]))
                  refine Goes.retZ X0 hx Bd.notSynchronized Bd.returns (by simp) rfl (hb hby d_prog_3_method_6_code_65) (by decide) (by decide) ?_
                  exact ⟨own_t (by unfold own_idc; omega), N0, e0⟩
                · refine Goes.step (fun _ hr_ => XS.icmpYes X0.here hx rfl (pc0 := 57) (pc' := 64) rfl (hb hby d_prog_3_method_6_code_57) rfl (feq (fun z => hn57_30 ((own_eqN k 45 (by omega) (by decide)).mp z))).2 (by decide) (by decide) hr_) ?_
                  show Goes p ee below s _ _ _ (s₁.setTop (mkF m 64 #[.val (.int (Int32.ofNat k))] []))
                  refine Goes.step (fun _ hr_ => XS.iconst X0.here hx rfl (hb hby d_prog_3_method_6_code_64) hr_) ?_
                  show Goes p ee below s _ _ _ (s₁.setTop (mkF m 65 #[.val (.int (Int32.ofNat k))] [(.int (0 : Int32))]))
                  refine Goes.retZ X0 hx Bd.notSynchronized Bd.returns (by simp) rfl (hb hby d_prog_3_method_6_code_65) (by decide) (by decide) ?_
                  exact ⟨own_f (by unfold own_idc; omega), N0, e0⟩
        · refine Goes.step (fun _ hr_ => XS.icmpNo X0.here hx rfl (hb hby d_prog_3_method_6_code_27) rfl (flt (fun z => hn27_26 ((own_ltN k 48 (by omega) (by decide)).mp z))).1 hr_) ?_
          show Goes p ee below s _ _ _ (s₁.setTop (mkF m 30 #[.val (.int (Int32.ofNat k))] []))
          refine Goes.step (fun _ hr_ => XS.iloadN X0.here hx rfl (hb hby d_prog_3_method_6_code_30) rfl  hr_) ?_
          show Goes p ee below s _ _ _ (s₁.setTop (mkF m 31 #[.val (.int (Int32.ofNat k))] [(.int (Int32.ofNat k))]))
          refine Goes.step (fun _ hr_ => XS.bipush X0.here hx rfl (hb hby d_prog_3_method_6_code_31) hr_) ?_
          show Goes p ee below s _ _ _ (s₁.setTop (mkF m 33 #[.val (.int (Int32.ofNat k))] [(.int (57 : Int32)), (.int (Int32.ofNat k))]))
          by_cases hn33_31 : 57 < k
          · refine Goes.step (fun _ hr_ => XS.icmpNo X0.here hx rfl (hb hby d_prog_3_method_6_code_33) rfl (tlt ((own_ltN 57 k (by decide) (by omega)).mpr hn33_31)).2.2.2 hr_) ?_
            show Goes p ee below s _ _ _ (s₁.setTop (mkF m 36 #[.val (.int (Int32.ofNat k))] []))
            refine Goes.step (fun _ hr_ => XS.iloadN X0.here hx rfl (hb hby d_prog_3_method_6_code_36) rfl  hr_) ?_
            show Goes p ee below s _ _ _ (s₁.setTop (mkF m 37 #[.val (.int (Int32.ofNat k))] [(.int (Int32.ofNat k))]))
            refine Goes.step (fun _ hr_ => XS.bipush X0.here hx rfl (hb hby d_prog_3_method_6_code_37) hr_) ?_
            show Goes p ee below s _ _ _ (s₁.setTop (mkF m 39 #[.val (.int (Int32.ofNat k))] [(.int (46 : Int32)), (.int (Int32.ofNat k))]))
            by_cases hn39_32 : k = 46
            · refine Goes.step (fun _ hr_ => XS.icmpYes X0.here hx rfl (pc0 := 39) (pc' := 60) rfl (hb hby d_prog_3_method_6_code_39) rfl (teq ((own_eqN k 46 (by omega) (by decide)).mpr hn39_32)).1 (by decide) (by decide) hr_) ?_
              show Goes p ee below s _ _ _ (s₁.setTop (mkF m 60 #[.val (.int (Int32.ofNat k))] []))
              refine Goes.step (fun _ hr_ => XS.iconst X0.here hx rfl (hb hby d_prog_3_method_6_code_60) hr_) ?_
              show Goes p ee below s _ _ _ (s₁.setTop (mkF m 61 #[.val (.int (Int32.ofNat k))] [(.int (1 : Int32))]))
              refine Goes.step (fun _ hr_ => XS.goto X0.here hx rfl (pc0 := 61) (pc' := 65) rfl (hb hby d_prog_3_method_6_code_61) (by decide) (by decide) hr_) ?_
              show Goes p ee below s _ _ _ (s₁.setTop (mkF m 65 #[.val (.int (Int32.ofNat k))] [(.int (1 : Int32))]))
              refine Goes.retZ X0 hx Bd.notSynchronized Bd.returns (by simp) rfl (hb hby d_prog_3_method_6_code_65) (by decide) (by decide) ?_
              exact ⟨own_t (by unfold own_idc; omega), N0, e0⟩
            · refine Goes.step (fun _ hr_ => XS.icmpNo X0.here hx rfl (hb hby d_prog_3_method_6_code_39) rfl (feq (fun z => hn39_32 ((own_eqN k 46 (by omega) (by decide)).mp z))).1 hr_) ?_
              show Goes p ee below s _ _ _ (s₁.setTop (mkF m 42 #[.val (.int (Int32.ofNat k))] []))
              refine Goes.step (fun _ hr_ => XS.iloadN X0.here hx rfl (hb hby d_prog_3_method_6_code_42) rfl  hr_) ?_
              show Goes p ee below s _ _ _ (s₁.setTop (mkF m 43 #[.val (.int (Int32.ofNat k))] [(.int (Int32.ofNat k))]))
              refine Goes.step (fun _ hr_ => XS.bipush X0.here hx rfl (hb hby d_prog_3_method_6_code_43) hr_) ?_
              show Goes p ee below s _ _ _ (s₁.setTop (mkF m 45 #[.val (.int (Int32.ofNat k))] [(.int (95 : Int32)), (.int (Int32.ofNat k))]))
              by_cases hn45_33 : k = 95
              · refine Goes.step (fun _ hr_ => XS.icmpYes X0.here hx rfl (pc0 := 45) (pc' := 60) rfl (hb hby d_prog_3_method_6_code_45) rfl (teq ((own_eqN k 95 (by omega) (by decide)).mpr hn45_33)).1 (by decide) (by decide) hr_) ?_
                show Goes p ee below s _ _ _ (s₁.setTop (mkF m 60 #[.val (.int (Int32.ofNat k))] []))
                refine Goes.step (fun _ hr_ => XS.iconst X0.here hx rfl (hb hby d_prog_3_method_6_code_60) hr_) ?_
                show Goes p ee below s _ _ _ (s₁.setTop (mkF m 61 #[.val (.int (Int32.ofNat k))] [(.int (1 : Int32))]))
                refine Goes.step (fun _ hr_ => XS.goto X0.here hx rfl (pc0 := 61) (pc' := 65) rfl (hb hby d_prog_3_method_6_code_61) (by decide) (by decide) hr_) ?_
                show Goes p ee below s _ _ _ (s₁.setTop (mkF m 65 #[.val (.int (Int32.ofNat k))] [(.int (1 : Int32))]))
                refine Goes.retZ X0 hx Bd.notSynchronized Bd.returns (by simp) rfl (hb hby d_prog_3_method_6_code_65) (by decide) (by decide) ?_
                exact ⟨own_t (by unfold own_idc; omega), N0, e0⟩
              · refine Goes.step (fun _ hr_ => XS.icmpNo X0.here hx rfl (hb hby d_prog_3_method_6_code_45) rfl (feq (fun z => hn45_33 ((own_eqN k 95 (by omega) (by decide)).mp z))).1 hr_) ?_
                show Goes p ee below s _ _ _ (s₁.setTop (mkF m 48 #[.val (.int (Int32.ofNat k))] []))
                refine Goes.step (fun _ hr_ => XS.iloadN X0.here hx rfl (hb hby d_prog_3_method_6_code_48) rfl  hr_) ?_
                show Goes p ee below s _ _ _ (s₁.setTop (mkF m 49 #[.val (.int (Int32.ofNat k))] [(.int (Int32.ofNat k))]))
                refine Goes.step (fun _ hr_ => XS.bipush X0.here hx rfl (hb hby d_prog_3_method_6_code_49) hr_) ?_
                show Goes p ee below s _ _ _ (s₁.setTop (mkF m 51 #[.val (.int (Int32.ofNat k))] [(.int (58 : Int32)), (.int (Int32.ofNat k))]))
                by_cases hn51_34 : k = 58
                · refine Goes.step (fun _ hr_ => XS.icmpYes X0.here hx rfl (pc0 := 51) (pc' := 60) rfl (hb hby d_prog_3_method_6_code_51) rfl (teq ((own_eqN k 58 (by omega) (by decide)).mpr hn51_34)).1 (by decide) (by decide) hr_) ?_
                  show Goes p ee below s _ _ _ (s₁.setTop (mkF m 60 #[.val (.int (Int32.ofNat k))] []))
                  refine Goes.step (fun _ hr_ => XS.iconst X0.here hx rfl (hb hby d_prog_3_method_6_code_60) hr_) ?_
                  show Goes p ee below s _ _ _ (s₁.setTop (mkF m 61 #[.val (.int (Int32.ofNat k))] [(.int (1 : Int32))]))
                  refine Goes.step (fun _ hr_ => XS.goto X0.here hx rfl (pc0 := 61) (pc' := 65) rfl (hb hby d_prog_3_method_6_code_61) (by decide) (by decide) hr_) ?_
                  show Goes p ee below s _ _ _ (s₁.setTop (mkF m 65 #[.val (.int (Int32.ofNat k))] [(.int (1 : Int32))]))
                  refine Goes.retZ X0 hx Bd.notSynchronized Bd.returns (by simp) rfl (hb hby d_prog_3_method_6_code_65) (by decide) (by decide) ?_
                  exact ⟨own_t (by unfold own_idc; omega), N0, e0⟩
                · refine Goes.step (fun _ hr_ => XS.icmpNo X0.here hx rfl (hb hby d_prog_3_method_6_code_51) rfl (feq (fun z => hn51_34 ((own_eqN k 58 (by omega) (by decide)).mp z))).1 hr_) ?_
                  show Goes p ee below s _ _ _ (s₁.setTop (mkF m 54 #[.val (.int (Int32.ofNat k))] []))
                  refine Goes.step (fun _ hr_ => XS.iloadN X0.here hx rfl (hb hby d_prog_3_method_6_code_54) rfl  hr_) ?_
                  show Goes p ee below s _ _ _ (s₁.setTop (mkF m 55 #[.val (.int (Int32.ofNat k))] [(.int (Int32.ofNat k))]))
                  refine Goes.step (fun _ hr_ => XS.bipush X0.here hx rfl (hb hby d_prog_3_method_6_code_55) hr_) ?_
                  show Goes p ee below s _ _ _ (s₁.setTop (mkF m 57 #[.val (.int (Int32.ofNat k))] [(.int (45 : Int32)), (.int (Int32.ofNat k))]))
                  by_cases hn57_35 : k = 45
                  · refine Goes.step (fun _ hr_ => XS.icmpNo X0.here hx rfl (hb hby d_prog_3_method_6_code_57) rfl (teq ((own_eqN k 45 (by omega) (by decide)).mpr hn57_35)).2 hr_) ?_
                    show Goes p ee below s _ _ _ (s₁.setTop (mkF m 60 #[.val (.int (Int32.ofNat k))] []))
                    refine Goes.step (fun _ hr_ => XS.iconst X0.here hx rfl (hb hby d_prog_3_method_6_code_60) hr_) ?_
                    show Goes p ee below s _ _ _ (s₁.setTop (mkF m 61 #[.val (.int (Int32.ofNat k))] [(.int (1 : Int32))]))
                    refine Goes.step (fun _ hr_ => XS.goto X0.here hx rfl (pc0 := 61) (pc' := 65) rfl (hb hby d_prog_3_method_6_code_61) (by decide) (by decide) hr_) ?_
                    show Goes p ee below s _ _ _ (s₁.setTop (mkF m 65 #[.val (.int (Int32.ofNat k))] [(.int (1 : Int32))]))
                    refine Goes.retZ X0 hx Bd.notSynchronized Bd.returns (by simp) rfl (hb hby d_prog_3_method_6_code_65) (by decide) (by decide) ?_
                    exact ⟨own_t (by unfold own_idc; omega), N0, e0⟩
                  · refine Goes.step (fun _ hr_ => XS.icmpYes X0.here hx rfl (pc0 := 57) (pc' := 64) rfl (hb hby d_prog_3_method_6_code_57) rfl (feq (fun z => hn57_35 ((own_eqN k 45 (by omega) (by decide)).mp z))).2 (by decide) (by decide) hr_) ?_
                    show Goes p ee below s _ _ _ (s₁.setTop (mkF m 64 #[.val (.int (Int32.ofNat k))] []))
                    refine Goes.step (fun _ hr_ => XS.iconst X0.here hx rfl (hb hby d_prog_3_method_6_code_64) hr_) ?_
                    show Goes p ee below s _ _ _ (s₁.setTop (mkF m 65 #[.val (.int (Int32.ofNat k))] [(.int (0 : Int32))]))
                    refine Goes.retZ X0 hx Bd.notSynchronized Bd.returns (by simp) rfl (hb hby d_prog_3_method_6_code_65) (by decide) (by decide) ?_
                    exact ⟨own_f (by unfold own_idc; omega), N0, e0⟩
          · refine Goes.step (fun _ hr_ => XS.icmpYes X0.here hx rfl (pc0 := 33) (pc' := 60) rfl (hb hby d_prog_3_method_6_code_33) rfl (flt (fun z => hn33_31 ((own_ltN 57 k (by decide) (by omega)).mp z))).2.2.2 (by decide) (by decide) hr_) ?_
            show Goes p ee below s _ _ _ (s₁.setTop (mkF m 60 #[.val (.int (Int32.ofNat k))] []))
            refine Goes.step (fun _ hr_ => XS.iconst X0.here hx rfl (hb hby d_prog_3_method_6_code_60) hr_) ?_
            show Goes p ee below s _ _ _ (s₁.setTop (mkF m 61 #[.val (.int (Int32.ofNat k))] [(.int (1 : Int32))]))
            refine Goes.step (fun _ hr_ => XS.goto X0.here hx rfl (pc0 := 61) (pc' := 65) rfl (hb hby d_prog_3_method_6_code_61) (by decide) (by decide) hr_) ?_
            show Goes p ee below s _ _ _ (s₁.setTop (mkF m 65 #[.val (.int (Int32.ofNat k))] [(.int (1 : Int32))]))
            refine Goes.retZ X0 hx Bd.notSynchronized Bd.returns (by simp) rfl (hb hby d_prog_3_method_6_code_65) (by decide) (by decide) ?_
            exact ⟨own_t (by unfold own_idc; omega), N0, e0⟩
      · refine Goes.step (fun _ hr_ => XS.icmpNo X0.here hx rfl (hb hby d_prog_3_method_6_code_15) rfl (flt (fun z => hn15_25 ((own_ltN k 97 (by omega) (by decide)).mp z))).1 hr_) ?_
        show Goes p ee below s _ _ _ (s₁.setTop (mkF m 18 #[.val (.int (Int32.ofNat k))] []))
        refine Goes.step (fun _ hr_ => XS.iloadN X0.here hx rfl (hb hby d_prog_3_method_6_code_18) rfl  hr_) ?_
        show Goes p ee below s _ _ _ (s₁.setTop (mkF m 19 #[.val (.int (Int32.ofNat k))] [(.int (Int32.ofNat k))]))
        refine Goes.step (fun _ hr_ => XS.bipush X0.here hx rfl (hb hby d_prog_3_method_6_code_19) hr_) ?_
        show Goes p ee below s _ _ _ (s₁.setTop (mkF m 21 #[.val (.int (Int32.ofNat k))] [(.int (122 : Int32)), (.int (Int32.ofNat k))]))
        by_cases hn21_36 : 122 < k
        · refine Goes.step (fun _ hr_ => XS.icmpNo X0.here hx rfl (hb hby d_prog_3_method_6_code_21) rfl (tlt ((own_ltN 122 k (by decide) (by omega)).mpr hn21_36)).2.2.2 hr_) ?_
          show Goes p ee below s _ _ _ (s₁.setTop (mkF m 24 #[.val (.int (Int32.ofNat k))] []))
          refine Goes.step (fun _ hr_ => XS.iloadN X0.here hx rfl (hb hby d_prog_3_method_6_code_24) rfl  hr_) ?_
          show Goes p ee below s _ _ _ (s₁.setTop (mkF m 25 #[.val (.int (Int32.ofNat k))] [(.int (Int32.ofNat k))]))
          refine Goes.step (fun _ hr_ => XS.bipush X0.here hx rfl (hb hby d_prog_3_method_6_code_25) hr_) ?_
          show Goes p ee below s _ _ _ (s₁.setTop (mkF m 27 #[.val (.int (Int32.ofNat k))] [(.int (48 : Int32)), (.int (Int32.ofNat k))]))
          by_cases hn27_37 : k < 48
          · refine Goes.step (fun _ hr_ => XS.icmpYes X0.here hx rfl (pc0 := 27) (pc' := 36) rfl (hb hby d_prog_3_method_6_code_27) rfl (tlt ((own_ltN k 48 (by omega) (by decide)).mpr hn27_37)).1 (by decide) (by decide) hr_) ?_
            show Goes p ee below s _ _ _ (s₁.setTop (mkF m 36 #[.val (.int (Int32.ofNat k))] []))
            refine Goes.step (fun _ hr_ => XS.iloadN X0.here hx rfl (hb hby d_prog_3_method_6_code_36) rfl  hr_) ?_
            show Goes p ee below s _ _ _ (s₁.setTop (mkF m 37 #[.val (.int (Int32.ofNat k))] [(.int (Int32.ofNat k))]))
            refine Goes.step (fun _ hr_ => XS.bipush X0.here hx rfl (hb hby d_prog_3_method_6_code_37) hr_) ?_
            show Goes p ee below s _ _ _ (s₁.setTop (mkF m 39 #[.val (.int (Int32.ofNat k))] [(.int (46 : Int32)), (.int (Int32.ofNat k))]))
            by_cases hn39_38 : k = 46
            · refine Goes.step (fun _ hr_ => XS.icmpYes X0.here hx rfl (pc0 := 39) (pc' := 60) rfl (hb hby d_prog_3_method_6_code_39) rfl (teq ((own_eqN k 46 (by omega) (by decide)).mpr hn39_38)).1 (by decide) (by decide) hr_) ?_
              show Goes p ee below s _ _ _ (s₁.setTop (mkF m 60 #[.val (.int (Int32.ofNat k))] []))
              refine Goes.step (fun _ hr_ => XS.iconst X0.here hx rfl (hb hby d_prog_3_method_6_code_60) hr_) ?_
              show Goes p ee below s _ _ _ (s₁.setTop (mkF m 61 #[.val (.int (Int32.ofNat k))] [(.int (1 : Int32))]))
              refine Goes.step (fun _ hr_ => XS.goto X0.here hx rfl (pc0 := 61) (pc' := 65) rfl (hb hby d_prog_3_method_6_code_61) (by decide) (by decide) hr_) ?_
              show Goes p ee below s _ _ _ (s₁.setTop (mkF m 65 #[.val (.int (Int32.ofNat k))] [(.int (1 : Int32))]))
              refine Goes.retZ X0 hx Bd.notSynchronized Bd.returns (by simp) rfl (hb hby d_prog_3_method_6_code_65) (by decide) (by decide) ?_
              exact ⟨own_t (by unfold own_idc; omega), N0, e0⟩
            · refine Goes.step (fun _ hr_ => XS.icmpNo X0.here hx rfl (hb hby d_prog_3_method_6_code_39) rfl (feq (fun z => hn39_38 ((own_eqN k 46 (by omega) (by decide)).mp z))).1 hr_) ?_
              show Goes p ee below s _ _ _ (s₁.setTop (mkF m 42 #[.val (.int (Int32.ofNat k))] []))
              refine Goes.step (fun _ hr_ => XS.iloadN X0.here hx rfl (hb hby d_prog_3_method_6_code_42) rfl  hr_) ?_
              show Goes p ee below s _ _ _ (s₁.setTop (mkF m 43 #[.val (.int (Int32.ofNat k))] [(.int (Int32.ofNat k))]))
              refine Goes.step (fun _ hr_ => XS.bipush X0.here hx rfl (hb hby d_prog_3_method_6_code_43) hr_) ?_
              show Goes p ee below s _ _ _ (s₁.setTop (mkF m 45 #[.val (.int (Int32.ofNat k))] [(.int (95 : Int32)), (.int (Int32.ofNat k))]))
              by_cases hn45_39 : k = 95
              · refine Goes.step (fun _ hr_ => XS.icmpYes X0.here hx rfl (pc0 := 45) (pc' := 60) rfl (hb hby d_prog_3_method_6_code_45) rfl (teq ((own_eqN k 95 (by omega) (by decide)).mpr hn45_39)).1 (by decide) (by decide) hr_) ?_
                show Goes p ee below s _ _ _ (s₁.setTop (mkF m 60 #[.val (.int (Int32.ofNat k))] []))
                refine Goes.step (fun _ hr_ => XS.iconst X0.here hx rfl (hb hby d_prog_3_method_6_code_60) hr_) ?_
                show Goes p ee below s _ _ _ (s₁.setTop (mkF m 61 #[.val (.int (Int32.ofNat k))] [(.int (1 : Int32))]))
                refine Goes.step (fun _ hr_ => XS.goto X0.here hx rfl (pc0 := 61) (pc' := 65) rfl (hb hby d_prog_3_method_6_code_61) (by decide) (by decide) hr_) ?_
                show Goes p ee below s _ _ _ (s₁.setTop (mkF m 65 #[.val (.int (Int32.ofNat k))] [(.int (1 : Int32))]))
                refine Goes.retZ X0 hx Bd.notSynchronized Bd.returns (by simp) rfl (hb hby d_prog_3_method_6_code_65) (by decide) (by decide) ?_
                exact ⟨own_t (by unfold own_idc; omega), N0, e0⟩
              · refine Goes.step (fun _ hr_ => XS.icmpNo X0.here hx rfl (hb hby d_prog_3_method_6_code_45) rfl (feq (fun z => hn45_39 ((own_eqN k 95 (by omega) (by decide)).mp z))).1 hr_) ?_
                show Goes p ee below s _ _ _ (s₁.setTop (mkF m 48 #[.val (.int (Int32.ofNat k))] []))
                refine Goes.step (fun _ hr_ => XS.iloadN X0.here hx rfl (hb hby d_prog_3_method_6_code_48) rfl  hr_) ?_
                show Goes p ee below s _ _ _ (s₁.setTop (mkF m 49 #[.val (.int (Int32.ofNat k))] [(.int (Int32.ofNat k))]))
                refine Goes.step (fun _ hr_ => XS.bipush X0.here hx rfl (hb hby d_prog_3_method_6_code_49) hr_) ?_
                show Goes p ee below s _ _ _ (s₁.setTop (mkF m 51 #[.val (.int (Int32.ofNat k))] [(.int (58 : Int32)), (.int (Int32.ofNat k))]))
                by_cases hn51_40 : k = 58
                · refine Goes.step (fun _ hr_ => XS.icmpYes X0.here hx rfl (pc0 := 51) (pc' := 60) rfl (hb hby d_prog_3_method_6_code_51) rfl (teq ((own_eqN k 58 (by omega) (by decide)).mpr hn51_40)).1 (by decide) (by decide) hr_) ?_
                  show Goes p ee below s _ _ _ (s₁.setTop (mkF m 60 #[.val (.int (Int32.ofNat k))] []))
                  refine Goes.step (fun _ hr_ => XS.iconst X0.here hx rfl (hb hby d_prog_3_method_6_code_60) hr_) ?_
                  show Goes p ee below s _ _ _ (s₁.setTop (mkF m 61 #[.val (.int (Int32.ofNat k))] [(.int (1 : Int32))]))
                  refine Goes.step (fun _ hr_ => XS.goto X0.here hx rfl (pc0 := 61) (pc' := 65) rfl (hb hby d_prog_3_method_6_code_61) (by decide) (by decide) hr_) ?_
                  show Goes p ee below s _ _ _ (s₁.setTop (mkF m 65 #[.val (.int (Int32.ofNat k))] [(.int (1 : Int32))]))
                  refine Goes.retZ X0 hx Bd.notSynchronized Bd.returns (by simp) rfl (hb hby d_prog_3_method_6_code_65) (by decide) (by decide) ?_
                  exact ⟨own_t (by unfold own_idc; omega), N0, e0⟩
                · refine Goes.step (fun _ hr_ => XS.icmpNo X0.here hx rfl (hb hby d_prog_3_method_6_code_51) rfl (feq (fun z => hn51_40 ((own_eqN k 58 (by omega) (by decide)).mp z))).1 hr_) ?_
                  show Goes p ee below s _ _ _ (s₁.setTop (mkF m 54 #[.val (.int (Int32.ofNat k))] []))
                  refine Goes.step (fun _ hr_ => XS.iloadN X0.here hx rfl (hb hby d_prog_3_method_6_code_54) rfl  hr_) ?_
                  show Goes p ee below s _ _ _ (s₁.setTop (mkF m 55 #[.val (.int (Int32.ofNat k))] [(.int (Int32.ofNat k))]))
                  refine Goes.step (fun _ hr_ => XS.bipush X0.here hx rfl (hb hby d_prog_3_method_6_code_55) hr_) ?_
                  show Goes p ee below s _ _ _ (s₁.setTop (mkF m 57 #[.val (.int (Int32.ofNat k))] [(.int (45 : Int32)), (.int (Int32.ofNat k))]))
                  by_cases hn57_41 : k = 45
                  · refine Goes.step (fun _ hr_ => XS.icmpNo X0.here hx rfl (hb hby d_prog_3_method_6_code_57) rfl (teq ((own_eqN k 45 (by omega) (by decide)).mpr hn57_41)).2 hr_) ?_
                    show Goes p ee below s _ _ _ (s₁.setTop (mkF m 60 #[.val (.int (Int32.ofNat k))] []))
                    refine Goes.step (fun _ hr_ => XS.iconst X0.here hx rfl (hb hby d_prog_3_method_6_code_60) hr_) ?_
                    show Goes p ee below s _ _ _ (s₁.setTop (mkF m 61 #[.val (.int (Int32.ofNat k))] [(.int (1 : Int32))]))
                    refine Goes.step (fun _ hr_ => XS.goto X0.here hx rfl (pc0 := 61) (pc' := 65) rfl (hb hby d_prog_3_method_6_code_61) (by decide) (by decide) hr_) ?_
                    show Goes p ee below s _ _ _ (s₁.setTop (mkF m 65 #[.val (.int (Int32.ofNat k))] [(.int (1 : Int32))]))
                    refine Goes.retZ X0 hx Bd.notSynchronized Bd.returns (by simp) rfl (hb hby d_prog_3_method_6_code_65) (by decide) (by decide) ?_
                    exact ⟨own_t (by unfold own_idc; omega), N0, e0⟩
                  · refine Goes.step (fun _ hr_ => XS.icmpYes X0.here hx rfl (pc0 := 57) (pc' := 64) rfl (hb hby d_prog_3_method_6_code_57) rfl (feq (fun z => hn57_41 ((own_eqN k 45 (by omega) (by decide)).mp z))).2 (by decide) (by decide) hr_) ?_
                    show Goes p ee below s _ _ _ (s₁.setTop (mkF m 64 #[.val (.int (Int32.ofNat k))] []))
                    refine Goes.step (fun _ hr_ => XS.iconst X0.here hx rfl (hb hby d_prog_3_method_6_code_64) hr_) ?_
                    show Goes p ee below s _ _ _ (s₁.setTop (mkF m 65 #[.val (.int (Int32.ofNat k))] [(.int (0 : Int32))]))
                    refine Goes.retZ X0 hx Bd.notSynchronized Bd.returns (by simp) rfl (hb hby d_prog_3_method_6_code_65) (by decide) (by decide) ?_
                    exact ⟨own_f (by unfold own_idc; omega), N0, e0⟩
          · refine Goes.step (fun _ hr_ => XS.icmpNo X0.here hx rfl (hb hby d_prog_3_method_6_code_27) rfl (flt (fun z => hn27_37 ((own_ltN k 48 (by omega) (by decide)).mp z))).1 hr_) ?_
            show Goes p ee below s _ _ _ (s₁.setTop (mkF m 30 #[.val (.int (Int32.ofNat k))] []))
            refine Goes.step (fun _ hr_ => XS.iloadN X0.here hx rfl (hb hby d_prog_3_method_6_code_30) rfl  hr_) ?_
            show Goes p ee below s _ _ _ (s₁.setTop (mkF m 31 #[.val (.int (Int32.ofNat k))] [(.int (Int32.ofNat k))]))
            refine Goes.step (fun _ hr_ => XS.bipush X0.here hx rfl (hb hby d_prog_3_method_6_code_31) hr_) ?_
            show Goes p ee below s _ _ _ (s₁.setTop (mkF m 33 #[.val (.int (Int32.ofNat k))] [(.int (57 : Int32)), (.int (Int32.ofNat k))]))
            by_cases hn33_42 : 57 < k
            · refine Goes.step (fun _ hr_ => XS.icmpNo X0.here hx rfl (hb hby d_prog_3_method_6_code_33) rfl (tlt ((own_ltN 57 k (by decide) (by omega)).mpr hn33_42)).2.2.2 hr_) ?_
              show Goes p ee below s _ _ _ (s₁.setTop (mkF m 36 #[.val (.int (Int32.ofNat k))] []))
              refine Goes.step (fun _ hr_ => XS.iloadN X0.here hx rfl (hb hby d_prog_3_method_6_code_36) rfl  hr_) ?_
              show Goes p ee below s _ _ _ (s₁.setTop (mkF m 37 #[.val (.int (Int32.ofNat k))] [(.int (Int32.ofNat k))]))
              refine Goes.step (fun _ hr_ => XS.bipush X0.here hx rfl (hb hby d_prog_3_method_6_code_37) hr_) ?_
              show Goes p ee below s _ _ _ (s₁.setTop (mkF m 39 #[.val (.int (Int32.ofNat k))] [(.int (46 : Int32)), (.int (Int32.ofNat k))]))
              by_cases hn39_43 : k = 46
              · refine Goes.step (fun _ hr_ => XS.icmpYes X0.here hx rfl (pc0 := 39) (pc' := 60) rfl (hb hby d_prog_3_method_6_code_39) rfl (teq ((own_eqN k 46 (by omega) (by decide)).mpr hn39_43)).1 (by decide) (by decide) hr_) ?_
                show Goes p ee below s _ _ _ (s₁.setTop (mkF m 60 #[.val (.int (Int32.ofNat k))] []))
                refine Goes.step (fun _ hr_ => XS.iconst X0.here hx rfl (hb hby d_prog_3_method_6_code_60) hr_) ?_
                show Goes p ee below s _ _ _ (s₁.setTop (mkF m 61 #[.val (.int (Int32.ofNat k))] [(.int (1 : Int32))]))
                refine Goes.step (fun _ hr_ => XS.goto X0.here hx rfl (pc0 := 61) (pc' := 65) rfl (hb hby d_prog_3_method_6_code_61) (by decide) (by decide) hr_) ?_
                show Goes p ee below s _ _ _ (s₁.setTop (mkF m 65 #[.val (.int (Int32.ofNat k))] [(.int (1 : Int32))]))
                refine Goes.retZ X0 hx Bd.notSynchronized Bd.returns (by simp) rfl (hb hby d_prog_3_method_6_code_65) (by decide) (by decide) ?_
                exact ⟨own_t (by unfold own_idc; omega), N0, e0⟩
              · refine Goes.step (fun _ hr_ => XS.icmpNo X0.here hx rfl (hb hby d_prog_3_method_6_code_39) rfl (feq (fun z => hn39_43 ((own_eqN k 46 (by omega) (by decide)).mp z))).1 hr_) ?_
                show Goes p ee below s _ _ _ (s₁.setTop (mkF m 42 #[.val (.int (Int32.ofNat k))] []))
                refine Goes.step (fun _ hr_ => XS.iloadN X0.here hx rfl (hb hby d_prog_3_method_6_code_42) rfl  hr_) ?_
                show Goes p ee below s _ _ _ (s₁.setTop (mkF m 43 #[.val (.int (Int32.ofNat k))] [(.int (Int32.ofNat k))]))
                refine Goes.step (fun _ hr_ => XS.bipush X0.here hx rfl (hb hby d_prog_3_method_6_code_43) hr_) ?_
                show Goes p ee below s _ _ _ (s₁.setTop (mkF m 45 #[.val (.int (Int32.ofNat k))] [(.int (95 : Int32)), (.int (Int32.ofNat k))]))
                by_cases hn45_44 : k = 95
                · refine Goes.step (fun _ hr_ => XS.icmpYes X0.here hx rfl (pc0 := 45) (pc' := 60) rfl (hb hby d_prog_3_method_6_code_45) rfl (teq ((own_eqN k 95 (by omega) (by decide)).mpr hn45_44)).1 (by decide) (by decide) hr_) ?_
                  show Goes p ee below s _ _ _ (s₁.setTop (mkF m 60 #[.val (.int (Int32.ofNat k))] []))
                  refine Goes.step (fun _ hr_ => XS.iconst X0.here hx rfl (hb hby d_prog_3_method_6_code_60) hr_) ?_
                  show Goes p ee below s _ _ _ (s₁.setTop (mkF m 61 #[.val (.int (Int32.ofNat k))] [(.int (1 : Int32))]))
                  refine Goes.step (fun _ hr_ => XS.goto X0.here hx rfl (pc0 := 61) (pc' := 65) rfl (hb hby d_prog_3_method_6_code_61) (by decide) (by decide) hr_) ?_
                  show Goes p ee below s _ _ _ (s₁.setTop (mkF m 65 #[.val (.int (Int32.ofNat k))] [(.int (1 : Int32))]))
                  refine Goes.retZ X0 hx Bd.notSynchronized Bd.returns (by simp) rfl (hb hby d_prog_3_method_6_code_65) (by decide) (by decide) ?_
                  exact ⟨own_t (by unfold own_idc; omega), N0, e0⟩
                · refine Goes.step (fun _ hr_ => XS.icmpNo X0.here hx rfl (hb hby d_prog_3_method_6_code_45) rfl (feq (fun z => hn45_44 ((own_eqN k 95 (by omega) (by decide)).mp z))).1 hr_) ?_
                  show Goes p ee below s _ _ _ (s₁.setTop (mkF m 48 #[.val (.int (Int32.ofNat k))] []))
                  refine Goes.step (fun _ hr_ => XS.iloadN X0.here hx rfl (hb hby d_prog_3_method_6_code_48) rfl  hr_) ?_
                  show Goes p ee below s _ _ _ (s₁.setTop (mkF m 49 #[.val (.int (Int32.ofNat k))] [(.int (Int32.ofNat k))]))
                  refine Goes.step (fun _ hr_ => XS.bipush X0.here hx rfl (hb hby d_prog_3_method_6_code_49) hr_) ?_
                  show Goes p ee below s _ _ _ (s₁.setTop (mkF m 51 #[.val (.int (Int32.ofNat k))] [(.int (58 : Int32)), (.int (Int32.ofNat k))]))
                  by_cases hn51_45 : k = 58
                  · refine Goes.step (fun _ hr_ => XS.icmpYes X0.here hx rfl (pc0 := 51) (pc' := 60) rfl (hb hby d_prog_3_method_6_code_51) rfl (teq ((own_eqN k 58 (by omega) (by decide)).mpr hn51_45)).1 (by decide) (by decide) hr_) ?_
                    show Goes p ee below s _ _ _ (s₁.setTop (mkF m 60 #[.val (.int (Int32.ofNat k))] []))
                    refine Goes.step (fun _ hr_ => XS.iconst X0.here hx rfl (hb hby d_prog_3_method_6_code_60) hr_) ?_
                    show Goes p ee below s _ _ _ (s₁.setTop (mkF m 61 #[.val (.int (Int32.ofNat k))] [(.int (1 : Int32))]))
                    refine Goes.step (fun _ hr_ => XS.goto X0.here hx rfl (pc0 := 61) (pc' := 65) rfl (hb hby d_prog_3_method_6_code_61) (by decide) (by decide) hr_) ?_
                    show Goes p ee below s _ _ _ (s₁.setTop (mkF m 65 #[.val (.int (Int32.ofNat k))] [(.int (1 : Int32))]))
                    refine Goes.retZ X0 hx Bd.notSynchronized Bd.returns (by simp) rfl (hb hby d_prog_3_method_6_code_65) (by decide) (by decide) ?_
                    exact ⟨own_t (by unfold own_idc; omega), N0, e0⟩
                  · refine Goes.step (fun _ hr_ => XS.icmpNo X0.here hx rfl (hb hby d_prog_3_method_6_code_51) rfl (feq (fun z => hn51_45 ((own_eqN k 58 (by omega) (by decide)).mp z))).1 hr_) ?_
                    show Goes p ee below s _ _ _ (s₁.setTop (mkF m 54 #[.val (.int (Int32.ofNat k))] []))
                    refine Goes.step (fun _ hr_ => XS.iloadN X0.here hx rfl (hb hby d_prog_3_method_6_code_54) rfl  hr_) ?_
                    show Goes p ee below s _ _ _ (s₁.setTop (mkF m 55 #[.val (.int (Int32.ofNat k))] [(.int (Int32.ofNat k))]))
                    refine Goes.step (fun _ hr_ => XS.bipush X0.here hx rfl (hb hby d_prog_3_method_6_code_55) hr_) ?_
                    show Goes p ee below s _ _ _ (s₁.setTop (mkF m 57 #[.val (.int (Int32.ofNat k))] [(.int (45 : Int32)), (.int (Int32.ofNat k))]))
                    by_cases hn57_46 : k = 45
                    · refine Goes.step (fun _ hr_ => XS.icmpNo X0.here hx rfl (hb hby d_prog_3_method_6_code_57) rfl (teq ((own_eqN k 45 (by omega) (by decide)).mpr hn57_46)).2 hr_) ?_
                      show Goes p ee below s _ _ _ (s₁.setTop (mkF m 60 #[.val (.int (Int32.ofNat k))] []))
                      refine Goes.step (fun _ hr_ => XS.iconst X0.here hx rfl (hb hby d_prog_3_method_6_code_60) hr_) ?_
                      show Goes p ee below s _ _ _ (s₁.setTop (mkF m 61 #[.val (.int (Int32.ofNat k))] [(.int (1 : Int32))]))
                      refine Goes.step (fun _ hr_ => XS.goto X0.here hx rfl (pc0 := 61) (pc' := 65) rfl (hb hby d_prog_3_method_6_code_61) (by decide) (by decide) hr_) ?_
                      show Goes p ee below s _ _ _ (s₁.setTop (mkF m 65 #[.val (.int (Int32.ofNat k))] [(.int (1 : Int32))]))
                      refine Goes.retZ X0 hx Bd.notSynchronized Bd.returns (by simp) rfl (hb hby d_prog_3_method_6_code_65) (by decide) (by decide) ?_
                      exact ⟨own_t (by unfold own_idc; omega), N0, e0⟩
                    · refine Goes.step (fun _ hr_ => XS.icmpYes X0.here hx rfl (pc0 := 57) (pc' := 64) rfl (hb hby d_prog_3_method_6_code_57) rfl (feq (fun z => hn57_46 ((own_eqN k 45 (by omega) (by decide)).mp z))).2 (by decide) (by decide) hr_) ?_
                      show Goes p ee below s _ _ _ (s₁.setTop (mkF m 64 #[.val (.int (Int32.ofNat k))] []))
                      refine Goes.step (fun _ hr_ => XS.iconst X0.here hx rfl (hb hby d_prog_3_method_6_code_64) hr_) ?_
                      show Goes p ee below s _ _ _ (s₁.setTop (mkF m 65 #[.val (.int (Int32.ofNat k))] [(.int (0 : Int32))]))
                      refine Goes.retZ X0 hx Bd.notSynchronized Bd.returns (by simp) rfl (hb hby d_prog_3_method_6_code_65) (by decide) (by decide) ?_
                      exact ⟨own_f (by unfold own_idc; omega), N0, e0⟩
            · refine Goes.step (fun _ hr_ => XS.icmpYes X0.here hx rfl (pc0 := 33) (pc' := 60) rfl (hb hby d_prog_3_method_6_code_33) rfl (flt (fun z => hn33_42 ((own_ltN 57 k (by decide) (by omega)).mp z))).2.2.2 (by decide) (by decide) hr_) ?_
              show Goes p ee below s _ _ _ (s₁.setTop (mkF m 60 #[.val (.int (Int32.ofNat k))] []))
              refine Goes.step (fun _ hr_ => XS.iconst X0.here hx rfl (hb hby d_prog_3_method_6_code_60) hr_) ?_
              show Goes p ee below s _ _ _ (s₁.setTop (mkF m 61 #[.val (.int (Int32.ofNat k))] [(.int (1 : Int32))]))
              refine Goes.step (fun _ hr_ => XS.goto X0.here hx rfl (pc0 := 61) (pc' := 65) rfl (hb hby d_prog_3_method_6_code_61) (by decide) (by decide) hr_) ?_
              show Goes p ee below s _ _ _ (s₁.setTop (mkF m 65 #[.val (.int (Int32.ofNat k))] [(.int (1 : Int32))]))
              refine Goes.retZ X0 hx Bd.notSynchronized Bd.returns (by simp) rfl (hb hby d_prog_3_method_6_code_65) (by decide) (by decide) ?_
              exact ⟨own_t (by unfold own_idc; omega), N0, e0⟩
        · refine Goes.step (fun _ hr_ => XS.icmpYes X0.here hx rfl (pc0 := 21) (pc' := 60) rfl (hb hby d_prog_3_method_6_code_21) rfl (flt (fun z => hn21_36 ((own_ltN 122 k (by decide) (by omega)).mp z))).2.2.2 (by decide) (by decide) hr_) ?_
          show Goes p ee below s _ _ _ (s₁.setTop (mkF m 60 #[.val (.int (Int32.ofNat k))] []))
          refine Goes.step (fun _ hr_ => XS.iconst X0.here hx rfl (hb hby d_prog_3_method_6_code_60) hr_) ?_
          show Goes p ee below s _ _ _ (s₁.setTop (mkF m 61 #[.val (.int (Int32.ofNat k))] [(.int (1 : Int32))]))
          refine Goes.step (fun _ hr_ => XS.goto X0.here hx rfl (pc0 := 61) (pc' := 65) rfl (hb hby d_prog_3_method_6_code_61) (by decide) (by decide) hr_) ?_
          show Goes p ee below s _ _ _ (s₁.setTop (mkF m 65 #[.val (.int (Int32.ofNat k))] [(.int (1 : Int32))]))
          refine Goes.retZ X0 hx Bd.notSynchronized Bd.returns (by simp) rfl (hb hby d_prog_3_method_6_code_65) (by decide) (by decide) ?_
          exact ⟨own_t (by unfold own_idc; omega), N0, e0⟩
    · refine Goes.step (fun _ hr_ => XS.icmpYes X0.here hx rfl (pc0 := 9) (pc' := 60) rfl (hb hby d_prog_3_method_6_code_9) rfl (flt (fun z => hn9_24 ((own_ltN 90 k (by decide) (by omega)).mp z))).2.2.2 (by decide) (by decide) hr_) ?_
      show Goes p ee below s _ _ _ (s₁.setTop (mkF m 60 #[.val (.int (Int32.ofNat k))] []))
      refine Goes.step (fun _ hr_ => XS.iconst X0.here hx rfl (hb hby d_prog_3_method_6_code_60) hr_) ?_
      show Goes p ee below s _ _ _ (s₁.setTop (mkF m 61 #[.val (.int (Int32.ofNat k))] [(.int (1 : Int32))]))
      refine Goes.step (fun _ hr_ => XS.goto X0.here hx rfl (pc0 := 61) (pc' := 65) rfl (hb hby d_prog_3_method_6_code_61) (by decide) (by decide) hr_) ?_
      show Goes p ee below s _ _ _ (s₁.setTop (mkF m 65 #[.val (.int (Int32.ofNat k))] [(.int (1 : Int32))]))
      refine Goes.retZ X0 hx Bd.notSynchronized Bd.returns (by simp) rfl (hb hby d_prog_3_method_6_code_65) (by decide) (by decide) ?_
      exact ⟨own_t (by unfold own_idc; omega), N0, e0⟩
theorem ef_isn0 (m : MethodId) (x1 : Int32) : entryFrame m #[.null, (.int x1)] 3 = mkF m 0 #[.val .null, .val (.int x1), .unset] [] := by first | (simp [entryFrame, mkF, argsToLocals, Value.category]; done) | rfl
theorem d_prog_3_method_5_code_0 : decode prog_3_method_5_code 0 = .ok (.aload_n 0, 1) := by decide +kernel
theorem d_prog_3_method_5_code_1 : decode prog_3_method_5_code 1 = .ok (.ifnull 18, 3) := by decide +kernel
theorem d_prog_3_method_5_code_19 : decode prog_3_method_5_code 19 = .ok (.iconst 0, 1) := by decide +kernel
theorem d_prog_3_method_5_code_20 : decode prog_3_method_5_code 20 = .ok (.ireturn, 1) := by decide +kernel
def Q_isn0 (Z : State) (cs : Int32) (fm : Value) (p1 : Int32) (h0 : Heap) (n0 : Nat) (v : Option Value) (h : Heap) (L : List Loc) : Prop := v = some (.int 0) ∧ Fr n0 L ∧ h = h0
set_option maxRecDepth 65536 in
set_option maxHeartbeats 40000000 in
theorem rm_isn0 (l : Launch) (Z : State) (a0 : Array Value) (hw : ∀ d ∈ tables_1, d.before a0 Z = true) (ws : List Jvm.Cond) (cs : Int32) (fm : Value) (p1 : Int32) (h0 : Heap) (n0 : Nat) (Z0 : n0 ≤ h0.size) (ST : own_ST Z cs fm) (OO : Old Z n0 h0)  :
    MetFree l (⟨"com/example/landshut/landshut/NodeIds", "isName", "(Ljava/lang/String;I)Z"⟩ : MethodName) (head1 (Jvm.Cond.code (⟨"com/example/landshut/landshut/NodeIds", "isName", "(Ljava/lang/String;I)Z"⟩ : MethodName) prog_3_method_5_code 3 (some .boolean) :: ws) ({ frames := 0, cells := 0, slots := 0, locals := 0 } : Room)) (fun a U => a = #[.null, (.int p1)] ∧ Z.Warmed39 U.vm ∧ U.heap = h0) (fun _ _ _ _ _ => True) (fun _ U o U' => ∃ v L, o = .returned v ∧ Q_isn0 Z cs fm p1 h0 n0 v U'.heap L ∧ FrameEnd U o U' L ({ frames := 0, cells := 0, slots := 0, locals := 0 } : Room).cells ({ frames := 0, cells := 0, slots := 0, locals := 0 } : Room).slots) := by
  refine MetFree.of_bodySF (plainFor_of_name pn_com_example_landshut_landshut_NodeIds) hisR ?_
  intro p ee s m args below meth cc s₁ Bd hml0 hP hK
  obtain ⟨rfl, hZ, hh⟩ := hP
  have hx := Bd.exec
  have hby := Bd.bytes
  have hml : cc.maxLocals = 3 := hml0
  have hown : s.vm.findClass "com/example/landshut/landshut/NodeIds" = some m.cls := findClass_of_methodNamed Bd.named
  have hnm := (name_of_methodNamed Bd.named Bd.method).1
  have X0 : Stand p l ee ({ frames := 0, cells := 0, slots := 0, locals := 0 } : Room) s m #[.null, (.int p1)] below meth cc s₁ [] 0 0 := Stand.of_body Bd
  have e0 : s₁.heap = h0 := by rw [← hh, Bd.state]; rfl
  have N0 := Fr.nil n0
  show Goes p ee below s ({ frames := 0, cells := 0, slots := 0, locals := 0 } : Room).cells ({ frames := 0, cells := 0, slots := 0, locals := 0 } : Room).slots (Q_isn0 Z cs fm p1 h0 n0) (s₁.setTop (entryFrame m #[.null, (.int p1)] 3))
  refine Goes.step (fun _ hr_ => castTop (ef_isn0 m p1) hr_) ?_
  show Goes p ee below s _ _ _ (s₁.setTop (mkF m 0 #[.val .null, .val (.int p1), .unset] []))
  refine Goes.step (fun _ hr_ => XS.aloadN X0.here hx rfl (hb hby d_prog_3_method_5_code_0) rfl rfl hr_) ?_
  show Goes p ee below s _ _ _ (s₁.setTop (mkF m 1 #[.val .null, .val (.int p1), .unset] [.null]))
  refine Goes.step (fun _ hr_ => XS.ifnullYes X0.here hx rfl (pc0 := 1) (pc' := 19) rfl (hb hby d_prog_3_method_5_code_1) rfl (by decide) (by decide) hr_) ?_
  show Goes p ee below s _ _ _ (s₁.setTop (mkF m 19 #[.val .null, .val (.int p1), .unset] []))
  refine Goes.step (fun _ hr_ => XS.iconst X0.here hx rfl (hb hby d_prog_3_method_5_code_19) hr_) ?_
  show Goes p ee below s _ _ _ (s₁.setTop (mkF m 20 #[.val .null, .val (.int p1), .unset] [(.int (0 : Int32))]))
  refine Goes.retZ X0 hx Bd.notSynchronized Bd.returns (by simp) rfl (hb hby d_prog_3_method_5_code_20) (by decide) (by decide) ?_
  exact ⟨rfl, N0, e0⟩
theorem ef_isn (m : MethodId) (x0 : Addr) (x1 : Int32) : entryFrame m #[(.ref x0), (.int x1)] 3 = mkF m 0 #[.val (.ref x0), .val (.int x1), .unset] [] := by first | (simp [entryFrame, mkF, argsToLocals, Value.category]; done) | rfl
theorem own_mored {c : Nat → Nat} {i : Nat} (hA : ∀ j, j < i → own_idc (c j)) (h : own_idc (c i)) : ∀ j, j < i + 1 → own_idc (c j) := fun t h2 => by
  by_cases q : t = i
  · rw [q]; exact h
  · exact hA t (by omega)
theorem d_prog_3_method_5_code_4 : decode prog_3_method_5_code 4 = .ok (.aload_n 0, 1) := by decide +kernel
theorem d_prog_3_method_5_code_5 : decode prog_3_method_5_code 5 = .ok (.invokevirtual 30, 3) := by decide +kernel
theorem d_prog_3_method_5_code_8 : decode prog_3_method_5_code 8 = .ok (.ifCond .ne 11, 3) := by decide +kernel
theorem d_prog_3_method_5_code_11 : decode prog_3_method_5_code 11 = .ok (.aload_n 0, 1) := by decide +kernel
theorem pd_9 : parseMethodDescriptor "()I" = some ⟨[], some .int⟩ := by decide +kernel
theorem d_prog_3_method_5_code_12 : decode prog_3_method_5_code 12 = .ok (.invokevirtual 36, 3) := by decide +kernel
theorem d_prog_3_method_5_code_15 : decode prog_3_method_5_code 15 = .ok (.iload_n 1, 1) := by decide +kernel
theorem d_prog_3_method_5_code_16 : decode prog_3_method_5_code 16 = .ok (.if_icmp .le 5, 3) := by decide +kernel
theorem d_prog_3_method_5_code_21 : decode prog_3_method_5_code 21 = .ok (.iconst 0, 1) := by decide +kernel
theorem d_prog_3_method_5_code_22 : decode prog_3_method_5_code 22 = .ok (.istore_n 2, 1) := by decide +kernel
theorem d_prog_3_method_5_code_23 : decode prog_3_method_5_code 23 = .ok (.iload_n 2, 1) := by decide +kernel
theorem d_prog_3_method_5_code_24 : decode prog_3_method_5_code 24 = .ok (.aload_n 0, 1) := by decide +kernel
theorem d_prog_3_method_5_code_25 : decode prog_3_method_5_code 25 = .ok (.invokevirtual 36, 3) := by decide +kernel
theorem d_prog_3_method_5_code_28 : decode prog_3_method_5_code 28 = .ok (.if_icmp .ge 22, 3) := by decide +kernel
theorem d_prog_3_method_5_code_31 : decode prog_3_method_5_code 31 = .ok (.aload_n 0, 1) := by decide +kernel
theorem d_prog_3_method_5_code_32 : decode prog_3_method_5_code 32 = .ok (.iload_n 2, 1) := by decide +kernel
theorem pd_10 : parseMethodDescriptor "(I)C" = some ⟨[.int], some .char⟩ := by decide +kernel
theorem d_prog_3_method_5_code_33 : decode prog_3_method_5_code 33 = .ok (.invokevirtual 40, 3) := by decide +kernel
theorem pd_11 : parseMethodDescriptor "(C)Z" = some ⟨[.char], some .boolean⟩ := by decide +kernel
theorem d_prog_3_method_5_code_36 : decode prog_3_method_5_code 36 = .ok (.invokestatic 44, 3) := by decide +kernel
theorem d_prog_3_method_5_code_39 : decode prog_3_method_5_code 39 = .ok (.ifCond .ne 5, 3) := by decide +kernel
theorem d_prog_3_method_5_code_42 : decode prog_3_method_5_code 42 = .ok (.iconst 0, 1) := by decide +kernel
theorem d_prog_3_method_5_code_43 : decode prog_3_method_5_code 43 = .ok (.ireturn, 1) := by decide +kernel
theorem d_prog_3_method_5_code_44 : decode prog_3_method_5_code 44 = .ok (.iinc 2 1, 3) := by decide +kernel
theorem d_prog_3_method_5_code_47 : decode prog_3_method_5_code 47 = .ok (.goto (-24), 3) := by decide +kernel
theorem d_prog_3_method_5_code_50 : decode prog_3_method_5_code 50 = .ok (.iconst 1, 1) := by decide +kernel
theorem d_prog_3_method_5_code_51 : decode prog_3_method_5_code 51 = .ok (.ireturn, 1) := by decide +kernel
def Q_isn (Z : State) (cs : Int32) (fm : Value) (a1 b : Addr) (n : Nat) (c : Nat → Nat) (p1 : Int32) (h0 : Heap) (n0 : Nat) (v : Option Value) (h : Heap) (L : List Loc) : Prop := (∃ r : Int32, v = some (.int r) ∧ ((r = 1 ∧ (0 < n ∧ ¬ p1 < Int32.ofNat n ∧ ∀ j, j < n → own_idc (c j))) ∨ (r = 0 ∧ ¬ (0 < n ∧ ¬ p1 < Int32.ofNat n ∧ ∀ j, j < n → own_idc (c j))))) ∧ Fr n0 L ∧ h = h0
set_option maxRecDepth 65536 in
set_option maxHeartbeats 40000000 in
theorem rm_isn (l : Launch) (Z : State) (a0 : Array Value) (hw : ∀ d ∈ tables_1, d.before a0 Z = true) (ws : List Jvm.Cond) (cs : Int32) (fm : Value) (a1 b : Addr) (n : Nat) (c : Nat → Nat) (p1 : Int32) (h0 : Heap) (n0 : Nat) (Z0 : n0 ≤ h0.size) (ST : own_ST Z cs fm) (OO : Old Z n0 h0) (hn : n < 2 ^ 29) (E : Exa Z h0 a1 "java/lang/String") (FV : Fld Z h0 a1 "java/lang/String" "value" "[B" (.ref b)) (FC : Fld Z h0 a1 "java/lang/String" "coder" "B" (.int (own_cd false))) (A : OA Z h0 b .byte (own_len false n) (own_by false c)) (hc : ∀ j, j < n → c j < 65536) (hl : false = false → ∀ j, j < n → c j < 256) :
    MetFree l (⟨"com/example/landshut/landshut/NodeIds", "isName", "(Ljava/lang/String;I)Z"⟩ : MethodName) (head1 (Jvm.Cond.code (⟨"com/example/landshut/landshut/NodeIds", "isName", "(Ljava/lang/String;I)Z"⟩ : MethodName) prog_3_method_5_code 3 (some .boolean) :: ws) ({ frames := 4, cells := 0, slots := 0, locals := 53 } : Room)) (fun a U => a = #[(.ref a1), (.int p1)] ∧ Z.Warmed39 U.vm ∧ U.heap = h0) (fun _ _ _ _ _ => True) (fun _ U o U' => ∃ v L, o = .returned v ∧ Q_isn Z cs fm a1 b n c p1 h0 n0 v U'.heap L ∧ FrameEnd U o U' L ({ frames := 4, cells := 0, slots := 0, locals := 53 } : Room).cells ({ frames := 4, cells := 0, slots := 0, locals := 53 } : Room).slots) := by
  refine MetFree.of_bodySF (plainFor_of_name pn_com_example_landshut_landshut_NodeIds) hisR ?_
  intro p ee s m args below meth cc s₁ Bd hml0 hP hK
  obtain ⟨rfl, hZ, hh⟩ := hP
  have hx := Bd.exec
  have hby := Bd.bytes
  have hml : cc.maxLocals = 3 := hml0
  have hown : s.vm.findClass "com/example/landshut/landshut/NodeIds" = some m.cls := findClass_of_methodNamed Bd.named
  have hnm := (name_of_methodNamed Bd.named Bd.method).1
  have X0 : Stand p l ee ({ frames := 4, cells := 0, slots := 0, locals := 53 } : Room) s m #[(.ref a1), (.int p1)] below meth cc s₁ [] 0 0 := Stand.of_body Bd
  have e0 : s₁.heap = h0 := by rw [← hh, Bd.state]; rfl
  have N0 := Fr.nil n0
  show Goes p ee below s ({ frames := 4, cells := 0, slots := 0, locals := 53 } : Room).cells ({ frames := 4, cells := 0, slots := 0, locals := 53 } : Room).slots (Q_isn Z cs fm a1 b n c p1 h0 n0) (s₁.setTop (entryFrame m #[(.ref a1), (.int p1)] 3))
  refine Goes.step (fun _ hr_ => castTop (ef_isn m a1 p1) hr_) ?_
  show Goes p ee below s _ _ _ (s₁.setTop (mkF m 0 #[.val (.ref a1), .val (.int p1), .unset] []))
  refine Goes.step (fun _ hr_ => XS.aloadN X0.here hx rfl (hb hby d_prog_3_method_5_code_0) rfl rfl hr_) ?_
  show Goes p ee below s _ _ _ (s₁.setTop (mkF m 1 #[.val (.ref a1), .val (.int p1), .unset] [(.ref a1)]))
  refine Goes.step (fun _ hr_ => XS.ifnullNo X0.here hx rfl (hb hby d_prog_3_method_5_code_1) rfl hr_) ?_
  show Goes p ee below s _ _ _ (s₁.setTop (mkF m 4 #[.val (.ref a1), .val (.int p1), .unset] []))
  refine Goes.step (fun _ hr_ => XS.aloadN X0.here hx rfl (hb hby d_prog_3_method_5_code_4) rfl rfl hr_) ?_
  show Goes p ee below s _ _ _ (s₁.setTop (mkF m 5 #[.val (.ref a1), .val (.int p1), .unset] [(.ref a1)]))
  have lt_a1 := E.lt
  have lt_b := A.lt
  obtain ⟨v1, T1, L1, X1, hQ1, st1⟩ := own_callV X0 hx hZ (y := (⟨"java/lang/String", "isEmpty", "()Z"⟩ : MethodName)) hown (hw _ (List.mem_of_getElem? (i := 58) rfl)) (hw _ (List.mem_of_getElem? (i := 59) rfl)) (hw _ (List.mem_of_getElem? (i := 61) rfl)) (hw _ (List.mem_of_getElem? (i := 60) rfl)) (hw _ (List.mem_of_getElem? (i := 5) rfl)) (hw _ (List.mem_of_getElem? (i := 62) rfl)) (by decide) (a := a1) (argsL := []) (rm_emp l Z a0 hw [] cs fm a1 b n c h0 n0 Z0 ST OO hn E FV FC A) e0 E (W := 0) (by decide) (by decide) (by decide) (by decide) (g := (mkF m 5 #[.val (.ref a1), .val (.int p1), .unset] [(.ref a1)])) rfl (by rw [hml]; rfl) (rest := []) (lenOf pd_3 rfl) rfl (by show 2 * 0 + _ ≤ _; exact Nat.le_of_eq rfl) (hb hby d_prog_3_method_5_code_5)
  refine Goes.step st1 ?_
  obtain ⟨rfl, N1, e1⟩ := hQ1
  have N2 := Fr.app N0 N1
  show Goes p ee below s _ _ _ (T1.setTop (mkF m 8 #[.val (.ref a1), .val (.int p1), .unset] [(.int (if n = 0 then (1 : Int32) else 0))]))
  by_cases hn8_3 : ¬ n = 0
  · refine Goes.step (fun _ hr_ => XS.ifNo X1.here hx rfl (hb hby d_prog_3_method_5_code_8) rfl ((if0 _ _).trans (teq (own_if0.mpr hn8_3)).2) hr_) ?_
    show Goes p ee below s _ _ _ (T1.setTop (mkF m 11 #[.val (.ref a1), .val (.int p1), .unset] []))
    refine Goes.step (fun _ hr_ => XS.aloadN X1.here hx rfl (hb hby d_prog_3_method_5_code_11) rfl rfl hr_) ?_
    show Goes p ee below s _ _ _ (T1.setTop (mkF m 12 #[.val (.ref a1), .val (.int p1), .unset] [(.ref a1)]))
    have lt_a1 := E.lt
    have lt_b := A.lt
    obtain ⟨v4, T4, L4, X4, hQ4, st4⟩ := own_callV X1 hx hZ (y := (⟨"java/lang/String", "length", "()I"⟩ : MethodName)) hown (hw _ (List.mem_of_getElem? (i := 76) rfl)) (hw _ (List.mem_of_getElem? (i := 77) rfl)) (hw _ (List.mem_of_getElem? (i := 79) rfl)) (hw _ (List.mem_of_getElem? (i := 78) rfl)) (hw _ (List.mem_of_getElem? (i := 5) rfl)) (hw _ (List.mem_of_getElem? (i := 80) rfl)) (by decide) (a := a1) (argsL := []) (rm_slen l Z a0 hw [] cs fm a1 b n c h0 n0 Z0 ST OO hn E FV FC A) e1 E (W := 0) (by decide) (by decide) (by decide) (by decide) (g := (mkF m 12 #[.val (.ref a1), .val (.int p1), .unset] [(.ref a1)])) rfl (by rw [hml]; rfl) (rest := []) (lenOf pd_9 rfl) rfl (by show 2 * 0 + _ ≤ _; exact Nat.le_of_eq rfl) (hb hby d_prog_3_method_5_code_12)
    refine Goes.step st4 ?_
    obtain ⟨rfl, N4, e4⟩ := hQ4
    have N5 := Fr.app N2 N4
    show Goes p ee below s _ _ _ (T4.setTop (mkF m 15 #[.val (.ref a1), .val (.int p1), .unset] [(.int (Int32.ofNat n))]))
    refine Goes.step (fun _ hr_ => XS.iloadN X4.here hx rfl (hb hby d_prog_3_method_5_code_15) rfl  hr_) ?_
    show Goes p ee below s _ _ _ (T4.setTop (mkF m 16 #[.val (.ref a1), .val (.int p1), .unset] [(.int p1), (.int (Int32.ofNat n))]))
    by_cases hn16_6 : p1 < Int32.ofNat n
    · refine Goes.step (fun _ hr_ => XS.icmpNo X4.here hx rfl (hb hby d_prog_3_method_5_code_16) rfl (tlt (Iff.rfl.mpr hn16_6)).2.2.2 hr_) ?_
      show Goes p ee below s _ _ _ (T4.setTop (mkF m 19 #[.val (.ref a1), .val (.int p1), .unset] []))
      refine Goes.step (fun _ hr_ => XS.iconst X4.here hx rfl (hb hby d_prog_3_method_5_code_19) hr_) ?_
      show Goes p ee below s _ _ _ (T4.setTop (mkF m 20 #[.val (.ref a1), .val (.int p1), .unset] [(.int (0 : Int32))]))
      refine Goes.retZ X4 hx Bd.notSynchronized Bd.returns (by simp) rfl (hb hby d_prog_3_method_5_code_20) (by decide) (by decide) ?_
      refine ⟨⟨_, rfl, Or.inr ⟨rfl, fun q => ?_⟩⟩, N5, e4⟩
      exact q.2.1 hn16_6
    · refine Goes.step (fun _ hr_ => XS.icmpYes X4.here hx rfl (pc0 := 16) (pc' := 21) rfl (hb hby d_prog_3_method_5_code_16) rfl (flt (fun z => hn16_6 (Iff.rfl.mp z))).2.2.2 (by decide) (by decide) hr_) ?_
      show Goes p ee below s _ _ _ (T4.setTop (mkF m 21 #[.val (.ref a1), .val (.int p1), .unset] []))
      refine Goes.step (fun _ hr_ => XS.iconst X4.here hx rfl (hb hby d_prog_3_method_5_code_21) hr_) ?_
      show Goes p ee below s _ _ _ (T4.setTop (mkF m 22 #[.val (.ref a1), .val (.int p1), .unset] [(.int (0 : Int32))]))
      refine Goes.step (fun _ hr_ => XS.istoreN X4.here hx rfl (hb hby d_prog_3_method_5_code_22) rfl  (l' := #[.val (.ref a1), .val (.int p1), .val (.int (0 : Int32))]) rfl hr_) ?_
      show Goes p ee below s _ _ _ (T4.setTop (mkF m 23 #[.val (.ref a1), .val (.int p1), .val (.int (0 : Int32))] []))
      have hmx : ¬ p1 < Int32.ofNat n := hn16_6
      have hn1 : ¬ n = 0 := by first | exact hn8_3 | omega
      have loop : ∀ (d i : Nat) (T : State) (locs : List Loc), Stand p l ee ({ frames := 4, cells := 0, slots := 0, locals := 53 } : Room) s m #[(.ref a1), (.int p1)] below meth cc T locs 0 0 → T.heap = h0 → Fr n0 locs → 0 < d → n < i + d → i ≤ n → (∀ j, j < i → own_idc (c j)) → Goes p ee below s ({ frames := 4, cells := 0, slots := 0, locals := 53 } : Room).cells ({ frames := 4, cells := 0, slots := 0, locals := 53 } : Room).slots (Q_isn Z cs fm a1 b n c p1 h0 n0) (T.setTop (mkF m 23 #[.val (.ref a1), .val (.int p1), .val (.int (Int32.ofNat i))] [])) := by
        intro d
        induction d with
        | zero => intro i T locs X eT N q1; omega
        | succ d ih =>
          intro i T locs X eT N q1 q2 q3 hall
          show Goes p ee below s _ _ _ (T.setTop (mkF m 23 #[.val (.ref a1), .val (.int p1), .val (.int (Int32.ofNat i))] []))
          refine Goes.step (fun _ hr_ => XS.iloadN X.here hx rfl (hb hby d_prog_3_method_5_code_23) rfl  hr_) ?_
          show Goes p ee below s _ _ _ (T.setTop (mkF m 24 #[.val (.ref a1), .val (.int p1), .val (.int (Int32.ofNat i))] [(.int (Int32.ofNat i))]))
          refine Goes.step (fun _ hr_ => XS.aloadN X.here hx rfl (hb hby d_prog_3_method_5_code_24) rfl rfl hr_) ?_
          show Goes p ee below s _ _ _ (T.setTop (mkF m 25 #[.val (.ref a1), .val (.int p1), .val (.int (Int32.ofNat i))] [(.ref a1), (.int (Int32.ofNat i))]))
          have lt_a1 := E.lt
          have lt_b := A.lt
          obtain ⟨v7, T7, L7, X7, hQ7, st7⟩ := own_callV X hx hZ (y := (⟨"java/lang/String", "length", "()I"⟩ : MethodName)) hown (hw _ (List.mem_of_getElem? (i := 76) rfl)) (hw _ (List.mem_of_getElem? (i := 77) rfl)) (hw _ (List.mem_of_getElem? (i := 79) rfl)) (hw _ (List.mem_of_getElem? (i := 78) rfl)) (hw _ (List.mem_of_getElem? (i := 5) rfl)) (hw _ (List.mem_of_getElem? (i := 80) rfl)) (by decide) (a := a1) (argsL := []) (rm_slen l Z a0 hw [] cs fm a1 b n c h0 n0 Z0 ST OO hn E FV FC A) eT E (W := 1) (by decide) (by decide) (by decide) (by decide) (g := (mkF m 25 #[.val (.ref a1), .val (.int p1), .val (.int (Int32.ofNat i))] [(.ref a1), (.int (Int32.ofNat i))])) rfl (by rw [hml]; rfl) (rest := [(.int (Int32.ofNat i))]) (lenOf pd_9 rfl) rfl (by show 2 * 0 + _ ≤ _; exact Nat.le_of_eq rfl) (hb hby d_prog_3_method_5_code_25)
          refine Goes.step st7 ?_
          obtain ⟨rfl, N7, e7⟩ := hQ7
          have N8 := Fr.app N N7
          show Goes p ee below s _ _ _ (T7.setTop (mkF m 28 #[.val (.ref a1), .val (.int p1), .val (.int (Int32.ofNat i))] [(.int (Int32.ofNat n)), (.int (Int32.ofNat i))]))
          by_cases hn28_9 : i < n
          · refine Goes.step (fun _ hr_ => XS.icmpNo X7.here hx rfl (hb hby d_prog_3_method_5_code_28) rfl (tlt ((own_ltN i n (by omega) (by omega)).mpr hn28_9)).2.1 hr_) ?_
            show Goes p ee below s _ _ _ (T7.setTop (mkF m 31 #[.val (.ref a1), .val (.int p1), .val (.int (Int32.ofNat i))] []))
            refine Goes.step (fun _ hr_ => XS.aloadN X7.here hx rfl (hb hby d_prog_3_method_5_code_31) rfl rfl hr_) ?_
            show Goes p ee below s _ _ _ (T7.setTop (mkF m 32 #[.val (.ref a1), .val (.int p1), .val (.int (Int32.ofNat i))] [(.ref a1)]))
            refine Goes.step (fun _ hr_ => XS.iloadN X7.here hx rfl (hb hby d_prog_3_method_5_code_32) rfl  hr_) ?_
            show Goes p ee below s _ _ _ (T7.setTop (mkF m 33 #[.val (.ref a1), .val (.int p1), .val (.int (Int32.ofNat i))] [(.int (Int32.ofNat i)), (.ref a1)]))
            have lt_a1 := E.lt
            have lt_b := A.lt
            obtain ⟨v10, T10, L10, X10, hQ10, st10⟩ := own_callV X7 hx hZ (y := (⟨"java/lang/String", "charAt", "(I)C"⟩ : MethodName)) hown (hw _ (List.mem_of_getElem? (i := 86) rfl)) (hw _ (List.mem_of_getElem? (i := 14) rfl)) (hw _ (List.mem_of_getElem? (i := 16) rfl)) (hw _ (List.mem_of_getElem? (i := 15) rfl)) (hw _ (List.mem_of_getElem? (i := 5) rfl)) (hw _ (List.mem_of_getElem? (i := 17) rfl)) (by decide) (a := a1) (argsL := [(.int (Int32.ofNat i))]) (rm_schar l Z a0 hw [] cs fm a1 b n c i h0 n0 Z0 ST OO hn E FV FC A hc hl hn28_9) e7 E (W := 0) (by decide) (by decide) (by decide) (by decide) (g := (mkF m 33 #[.val (.ref a1), .val (.int p1), .val (.int (Int32.ofNat i))] [(.int (Int32.ofNat i)), (.ref a1)])) rfl (by rw [hml]; rfl) (rest := []) (lenOf pd_10 rfl) rfl (by show 2 * 0 + _ ≤ _; exact Nat.le_of_eq rfl) (hb hby d_prog_3_method_5_code_33)
            refine Goes.step st10 ?_
            obtain ⟨rfl, N10, e10⟩ := hQ10
            have N11 := Fr.app N8 N10
            show Goes p ee below s _ _ _ (T10.setTop (mkF m 36 #[.val (.ref a1), .val (.int p1), .val (.int (Int32.ofNat i))] [(.int (Int32.ofNat (c i)))]))
            have lt_a1 := E.lt
            have lt_b := A.lt
            obtain ⟨v12, T12, L12, X12, hQ12, st12⟩ := own_callS X10 hx hZ (y := (⟨"com/example/landshut/landshut/NodeIds", "isIdChar", "(C)Z"⟩ : MethodName)) hown (hw _ (List.mem_of_getElem? (i := 87) rfl)) (hw _ (List.mem_of_getElem? (i := 88) rfl)) (hw _ (List.mem_of_getElem? (i := 53) rfl)) (hw _ (List.mem_of_getElem? (i := 89) rfl)) (by decide) (argsL := [(.int (Int32.ofNat (c i)))]) (rm_idch l Z a0 hw [] (c i) h0 n0 Z0 (hc i hn28_9)) e10 (W := 0) (by decide) (by decide) (by decide) (by decide) (g := (mkF m 36 #[.val (.ref a1), .val (.int p1), .val (.int (Int32.ofNat i))] [(.int (Int32.ofNat (c i)))])) rfl (by rw [hml]; rfl) (rest := []) (lenOf pd_11 rfl) rfl (by show 2 * 0 + _ ≤ _; exact Nat.le_of_eq rfl) (hb hby d_prog_3_method_5_code_36)
            refine Goes.step st12 ?_
            obtain ⟨rfl, N12, e12⟩ := hQ12
            have N13 := Fr.app N11 N12
            show Goes p ee below s _ _ _ (T12.setTop (mkF m 39 #[.val (.ref a1), .val (.int p1), .val (.int (Int32.ofNat i))] [(.int (if own_idc (c i) then (1 : Int32) else 0))]))
            by_cases hn39_14 : ¬ own_idc (c i)
            · refine Goes.step (fun _ hr_ => XS.ifNo X12.here hx rfl (hb hby d_prog_3_method_5_code_39) rfl ((if0 _ _).trans (teq (own_if0.mpr hn39_14)).2) hr_) ?_
              show Goes p ee below s _ _ _ (T12.setTop (mkF m 42 #[.val (.ref a1), .val (.int p1), .val (.int (Int32.ofNat i))] []))
              refine Goes.step (fun _ hr_ => XS.iconst X12.here hx rfl (hb hby d_prog_3_method_5_code_42) hr_) ?_
              show Goes p ee below s _ _ _ (T12.setTop (mkF m 43 #[.val (.ref a1), .val (.int p1), .val (.int (Int32.ofNat i))] [(.int (0 : Int32))]))
              refine Goes.retZ X12 hx Bd.notSynchronized Bd.returns (by simp) rfl (hb hby d_prog_3_method_5_code_43) (by decide) (by decide) ?_
              exact ⟨⟨_, rfl, Or.inr ⟨rfl, fun q => hn39_14 (q.2.2 i hn28_9)⟩⟩, N13, e12⟩
            · refine Goes.step (fun _ hr_ => XS.ifYes X12.here hx rfl (pc0 := 39) (pc' := 44) rfl (hb hby d_prog_3_method_5_code_39) rfl ((if0 _ _).trans (feq (fun z => hn39_14 (own_if0.mp z))).2) (by decide) (by decide) hr_) ?_
              show Goes p ee below s _ _ _ (T12.setTop (mkF m 44 #[.val (.ref a1), .val (.int p1), .val (.int (Int32.ofNat i))] []))
              refine Goes.step (fun _ hr_ => XS.iinc X12.here hx rfl (hb hby d_prog_3_method_5_code_44) rfl (l' := #[.val (.ref a1), .val (.int p1), .val (.int ((Int32.ofNat i) + (1 : Int32)))]) rfl hr_) ?_
              show Goes p ee below s _ _ _ (T12.setTop (mkF m 47 #[.val (.ref a1), .val (.int p1), .val (.int ((Int32.ofNat i) + (1 : Int32)))] []))
              rw [show Int32.ofNat i + (1 : Int32) = Int32.ofNat (i + 1) from own_addN i 1]
              show Goes p ee below s _ _ _ (T12.setTop (mkF m 47 #[.val (.ref a1), .val (.int p1), .val (.int (Int32.ofNat (i + 1)))] []))
              refine Goes.step (fun _ hr_ => XS.goto X12.here hx rfl (pc0 := 47) (pc' := 23) rfl (hb hby d_prog_3_method_5_code_47) (by decide) (by decide) hr_) ?_
              show Goes p ee below s _ _ _ (T12.setTop (mkF m 23 #[.val (.ref a1), .val (.int p1), .val (.int (Int32.ofNat (i + 1)))] []))
              exact ih (i + 1) _ _ X12 e12 N13 (by omega) (by omega) (by omega) (own_mored hall (Decidable.not_not.mp hn39_14))
          · refine Goes.step (fun _ hr_ => XS.icmpYes X7.here hx rfl (pc0 := 28) (pc' := 50) rfl (hb hby d_prog_3_method_5_code_28) rfl (flt (fun z => hn28_9 ((own_ltN i n (by omega) (by omega)).mp z))).2.1 (by decide) (by decide) hr_) ?_
            show Goes p ee below s _ _ _ (T7.setTop (mkF m 50 #[.val (.ref a1), .val (.int p1), .val (.int (Int32.ofNat i))] []))
            refine Goes.step (fun _ hr_ => XS.iconst X7.here hx rfl (hb hby d_prog_3_method_5_code_50) hr_) ?_
            show Goes p ee below s _ _ _ (T7.setTop (mkF m 51 #[.val (.ref a1), .val (.int p1), .val (.int (Int32.ofNat i))] [(.int (1 : Int32))]))
            refine Goes.retZ X7 hx Bd.notSynchronized Bd.returns (by simp) rfl (hb hby d_prog_3_method_5_code_51) (by decide) (by decide) ?_
            exact ⟨⟨_, rfl, Or.inl ⟨rfl, by omega, hmx, fun j hj => hall j (by omega)⟩⟩, N8, e7⟩
      exact loop (n + 1) 0 _ _ X4 e4 N5 (by omega) (by omega) (by omega) (fun j hj => by omega)
  · refine Goes.step (fun _ hr_ => XS.ifYes X1.here hx rfl (pc0 := 8) (pc' := 19) rfl (hb hby d_prog_3_method_5_code_8) rfl ((if0 _ _).trans (feq (fun z => hn8_3 (own_if0.mp z))).2) (by decide) (by decide) hr_) ?_
    show Goes p ee below s _ _ _ (T1.setTop (mkF m 19 #[.val (.ref a1), .val (.int p1), .unset] []))
    refine Goes.step (fun _ hr_ => XS.iconst X1.here hx rfl (hb hby d_prog_3_method_5_code_19) hr_) ?_
    show Goes p ee below s _ _ _ (T1.setTop (mkF m 20 #[.val (.ref a1), .val (.int p1), .unset] [(.int (0 : Int32))]))
    refine Goes.retZ X1 hx Bd.notSynchronized Bd.returns (by simp) rfl (hb hby d_prog_3_method_5_code_20) (by decide) (by decide) ?_
    refine ⟨⟨_, rfl, Or.inr ⟨rfl, fun q => ?_⟩⟩, N2, e1⟩
    have := q.1; omega
theorem ef_isv0 (m : MethodId)  : entryFrame m #[.null] 1 = mkF m 0 #[.val .null] [] := by first | (simp [entryFrame, mkF, argsToLocals, Value.category]; done) | rfl
theorem d_prog_3_method_2_code_0 : decode prog_3_method_2_code 0 = .ok (.aload_n 0, 1) := by decide +kernel
theorem d_prog_3_method_2_code_1 : decode prog_3_method_2_code 1 = .ok (.sipush 128, 3) := by decide +kernel
theorem pd_12 : parseMethodDescriptor "(Ljava/lang/String;I)Z" = some ⟨[(.object "java/lang/String"), .int], some .boolean⟩ := by decide +kernel
theorem d_prog_3_method_2_code_4 : decode prog_3_method_2_code 4 = .ok (.invokestatic 9, 3) := by decide +kernel
theorem d_prog_3_method_2_code_7 : decode prog_3_method_2_code 7 = .ok (.ireturn, 1) := by decide +kernel
def Q_isv0 (Z : State) (cs : Int32) (fm : Value)  (h0 : Heap) (n0 : Nat) (v : Option Value) (h : Heap) (L : List Loc) : Prop := v = some (.int 0) ∧ Fr n0 L ∧ h = h0
set_option maxRecDepth 65536 in
set_option maxHeartbeats 40000000 in
theorem rm_isv0 (l : Launch) (Z : State) (a0 : Array Value) (hw : ∀ d ∈ tables_1, d.before a0 Z = true) (ws : List Jvm.Cond) (cs : Int32) (fm : Value)  (h0 : Heap) (n0 : Nat) (Z0 : n0 ≤ h0.size) (ST : own_ST Z cs fm) (OO : Old Z n0 h0)  :
    MetFree l (⟨"com/example/landshut/landshut/NodeIds", "isValid", "(Ljava/lang/String;)Z"⟩ : MethodName) (head1 (Jvm.Cond.code (⟨"com/example/landshut/landshut/NodeIds", "isValid", "(Ljava/lang/String;)Z"⟩ : MethodName) prog_3_method_2_code 1 (some .boolean) :: ws) ({ frames := 1, cells := 0, slots := 0, locals := 14 } : Room)) (fun a U => a = #[.null] ∧ Z.Warmed39 U.vm ∧ U.heap = h0) (fun _ _ _ _ _ => True) (fun _ U o U' => ∃ v L, o = .returned v ∧ Q_isv0 Z cs fm h0 n0 v U'.heap L ∧ FrameEnd U o U' L ({ frames := 1, cells := 0, slots := 0, locals := 14 } : Room).cells ({ frames := 1, cells := 0, slots := 0, locals := 14 } : Room).slots) := by
  refine MetFree.of_bodySF (plainFor_of_name pn_com_example_landshut_landshut_NodeIds) hisR ?_
  intro p ee s m args below meth cc s₁ Bd hml0 hP hK
  obtain ⟨rfl, hZ, hh⟩ := hP
  have hx := Bd.exec
  have hby := Bd.bytes
  have hml : cc.maxLocals = 1 := hml0
  have hown : s.vm.findClass "com/example/landshut/landshut/NodeIds" = some m.cls := findClass_of_methodNamed Bd.named
  have hnm := (name_of_methodNamed Bd.named Bd.method).1
  have X0 : Stand p l ee ({ frames := 1, cells := 0, slots := 0, locals := 14 } : Room) s m #[.null] below meth cc s₁ [] 0 0 := Stand.of_body Bd
  have e0 : s₁.heap = h0 := by rw [← hh, Bd.state]; rfl
  have N0 := Fr.nil n0
  show Goes p ee below s ({ frames := 1, cells := 0, slots := 0, locals := 14 } : Room).cells ({ frames := 1, cells := 0, slots := 0, locals := 14 } : Room).slots (Q_isv0 Z cs fm h0 n0) (s₁.setTop (entryFrame m #[.null] 1))
  refine Goes.step (fun _ hr_ => castTop (ef_isv0 m ) hr_) ?_
  show Goes p ee below s _ _ _ (s₁.setTop (mkF m 0 #[.val .null] []))
  refine Goes.step (fun _ hr_ => XS.aloadN X0.here hx rfl (hb hby d_prog_3_method_2_code_0) rfl rfl hr_) ?_
  show Goes p ee below s _ _ _ (s₁.setTop (mkF m 1 #[.val .null] [.null]))
  refine Goes.step (fun _ hr_ => XS.sipush X0.here hx rfl (hb hby d_prog_3_method_2_code_1) hr_) ?_
  show Goes p ee below s _ _ _ (s₁.setTop (mkF m 4 #[.val .null] [(.int (128 : Int32)), .null]))
  obtain ⟨v1, T1, L1, X1, hQ1, st1⟩ := own_callS X0 hx hZ (y := (⟨"com/example/landshut/landshut/NodeIds", "isName", "(Ljava/lang/String;I)Z"⟩ : MethodName)) hown (hw _ (List.mem_of_getElem? (i := 55) rfl)) (hw _ (List.mem_of_getElem? (i := 56) rfl)) (hw _ (List.mem_of_getElem? (i := 53) rfl)) (hw _ (List.mem_of_getElem? (i := 57) rfl)) (by decide) (argsL := [.null, (.int (128 : Int32))]) (rm_isn0 l Z a0 hw [] cs fm (128 : Int32) h0 n0 Z0 ST OO ) e0 (W := 0) (by decide) (by decide) (by decide) (by decide) (g := (mkF m 4 #[.val .null] [(.int (128 : Int32)), .null])) rfl (by rw [hml]; rfl) (rest := []) (lenOf pd_12 rfl) rfl (by show 2 * 0 + _ ≤ _; exact Nat.le_of_eq rfl) (hb hby d_prog_3_method_2_code_4)
  refine Goes.step st1 ?_
  obtain ⟨rfl, N1, e1⟩ := hQ1
  have N2 := Fr.app N0 N1
  show Goes p ee below s _ _ _ (T1.setTop (mkF m 7 #[.val .null] [(.int (0 : Int32))]))
  refine Goes.retZ X1 hx Bd.notSynchronized Bd.returns (by simp) rfl (hb hby d_prog_3_method_2_code_7) (by decide) (by decide) ?_
  exact ⟨rfl, N2, e1⟩
theorem ef_isv (m : MethodId) (x0 : Addr) : entryFrame m #[(.ref x0)] 1 = mkF m 0 #[.val (.ref x0)] [] := by first | (simp [entryFrame, mkF, argsToLocals, Value.category]; done) | rfl
def Q_isv (Z : State) (cs : Int32) (fm : Value) (a1 b : Addr) (n : Nat) (c : Nat → Nat) (h0 : Heap) (n0 : Nat) (v : Option Value) (h : Heap) (L : List Loc) : Prop := (∃ r : Int32, v = some (.int r) ∧ ((r = 1 ∧ (0 < n ∧ ¬ (128 : Int32) < Int32.ofNat n ∧ ∀ j, j < n → own_idc (c j))) ∨ (r = 0 ∧ ¬ (0 < n ∧ ¬ (128 : Int32) < Int32.ofNat n ∧ ∀ j, j < n → own_idc (c j))))) ∧ Fr n0 L ∧ h = h0
set_option maxRecDepth 65536 in
set_option maxHeartbeats 40000000 in
theorem rm_isv (l : Launch) (Z : State) (a0 : Array Value) (hw : ∀ d ∈ tables_1, d.before a0 Z = true) (ws : List Jvm.Cond) (cs : Int32) (fm : Value) (a1 b : Addr) (n : Nat) (c : Nat → Nat) (h0 : Heap) (n0 : Nat) (Z0 : n0 ≤ h0.size) (ST : own_ST Z cs fm) (OO : Old Z n0 h0) (hn : n < 2 ^ 29) (E : Exa Z h0 a1 "java/lang/String") (FV : Fld Z h0 a1 "java/lang/String" "value" "[B" (.ref b)) (FC : Fld Z h0 a1 "java/lang/String" "coder" "B" (.int (own_cd false))) (A : OA Z h0 b .byte (own_len false n) (own_by false c)) (hc : ∀ j, j < n → c j < 65536) (hl : false = false → ∀ j, j < n → c j < 256) :
    MetFree l (⟨"com/example/landshut/landshut/NodeIds", "isValid", "(Ljava/lang/String;)Z"⟩ : MethodName) (head1 (Jvm.Cond.code (⟨"com/example/landshut/landshut/NodeIds", "isValid", "(Ljava/lang/String;)Z"⟩ : MethodName) prog_3_method_2_code 1 (some .boolean) :: ws) ({ frames := 5, cells := 0, slots := 0, locals := 67 } : Room)) (fun a U => a = #[(.ref a1)] ∧ Z.Warmed39 U.vm ∧ U.heap = h0) (fun _ _ _ _ _ => True) (fun _ U o U' => ∃ v L, o = .returned v ∧ Q_isv Z cs fm a1 b n c h0 n0 v U'.heap L ∧ FrameEnd U o U' L ({ frames := 5, cells := 0, slots := 0, locals := 67 } : Room).cells ({ frames := 5, cells := 0, slots := 0, locals := 67 } : Room).slots) := by
  refine MetFree.of_bodySF (plainFor_of_name pn_com_example_landshut_landshut_NodeIds) hisR ?_
  intro p ee s m args below meth cc s₁ Bd hml0 hP hK
  obtain ⟨rfl, hZ, hh⟩ := hP
  have hx := Bd.exec
  have hby := Bd.bytes
  have hml : cc.maxLocals = 1 := hml0
  have hown : s.vm.findClass "com/example/landshut/landshut/NodeIds" = some m.cls := findClass_of_methodNamed Bd.named
  have hnm := (name_of_methodNamed Bd.named Bd.method).1
  have X0 : Stand p l ee ({ frames := 5, cells := 0, slots := 0, locals := 67 } : Room) s m #[(.ref a1)] below meth cc s₁ [] 0 0 := Stand.of_body Bd
  have e0 : s₁.heap = h0 := by rw [← hh, Bd.state]; rfl
  have N0 := Fr.nil n0
  show Goes p ee below s ({ frames := 5, cells := 0, slots := 0, locals := 67 } : Room).cells ({ frames := 5, cells := 0, slots := 0, locals := 67 } : Room).slots (Q_isv Z cs fm a1 b n c h0 n0) (s₁.setTop (entryFrame m #[(.ref a1)] 1))
  refine Goes.step (fun _ hr_ => castTop (ef_isv m a1) hr_) ?_
  show Goes p ee below s _ _ _ (s₁.setTop (mkF m 0 #[.val (.ref a1)] []))
  refine Goes.step (fun _ hr_ => XS.aloadN X0.here hx rfl (hb hby d_prog_3_method_2_code_0) rfl rfl hr_) ?_
  show Goes p ee below s _ _ _ (s₁.setTop (mkF m 1 #[.val (.ref a1)] [(.ref a1)]))
  refine Goes.step (fun _ hr_ => XS.sipush X0.here hx rfl (hb hby d_prog_3_method_2_code_1) hr_) ?_
  show Goes p ee below s _ _ _ (s₁.setTop (mkF m 4 #[.val (.ref a1)] [(.int (128 : Int32)), (.ref a1)]))
  have lt_a1 := E.lt
  have lt_b := A.lt
  obtain ⟨v1, T1, L1, X1, hQ1, st1⟩ := own_callS X0 hx hZ (y := (⟨"com/example/landshut/landshut/NodeIds", "isName", "(Ljava/lang/String;I)Z"⟩ : MethodName)) hown (hw _ (List.mem_of_getElem? (i := 55) rfl)) (hw _ (List.mem_of_getElem? (i := 56) rfl)) (hw _ (List.mem_of_getElem? (i := 53) rfl)) (hw _ (List.mem_of_getElem? (i := 57) rfl)) (by decide) (argsL := [(.ref a1), (.int (128 : Int32))]) (rm_isn l Z a0 hw [] cs fm a1 b n c (128 : Int32) h0 n0 Z0 ST OO hn E FV FC A hc hl) e0 (W := 0) (by decide) (by decide) (by decide) (by decide) (g := (mkF m 4 #[.val (.ref a1)] [(.int (128 : Int32)), (.ref a1)])) rfl (by rw [hml]; rfl) (rest := []) (lenOf pd_12 rfl) rfl (by show 2 * 0 + _ ≤ _; exact Nat.le_of_eq rfl) (hb hby d_prog_3_method_2_code_4)
  refine Goes.step st1 ?_
  obtain ⟨⟨r1, rfl, hr1⟩, N1, e1⟩ := hQ1
  have N2 := Fr.app N0 N1
  show Goes p ee below s _ _ _ (T1.setTop (mkF m 7 #[.val (.ref a1)] [(.int r1)]))
  refine Goes.retZ X1 hx Bd.notSynchronized Bd.returns (by simp) (by rcases hr1 with ⟨q, -⟩ | ⟨q, -⟩ <;> rw [q] <;> rfl) (hb hby d_prog_3_method_2_code_7) (by decide) (by decide) ?_
  exact ⟨⟨_, rfl, hr1⟩, N2, e1⟩
theorem ef_chk (m : MethodId) (x0 : Addr) : entryFrame m #[(.ref x0)] 1 = mkF m 0 #[.val (.ref x0)] [] := by first | (simp [entryFrame, mkF, argsToLocals, Value.category]; done) | rfl
theorem d_prog_3_method_3_code_0 : decode prog_3_method_3_code 0 = .ok (.aload_n 0, 1) := by decide +kernel
theorem pd_13 : parseMethodDescriptor "(Ljava/lang/String;)Z" = some ⟨[(.object "java/lang/String")], some .boolean⟩ := by decide +kernel
theorem d_prog_3_method_3_code_1 : decode prog_3_method_3_code 1 = .ok (.invokestatic 13, 3) := by decide +kernel
theorem d_prog_3_method_3_code_4 : decode prog_3_method_3_code 4 = .ok (.ifCond .ne 14, 3) := by decide +kernel
theorem d_prog_3_method_3_code_18 : decode prog_3_method_3_code 18 = .ok (.aload_n 0, 1) := by decide +kernel
theorem d_prog_3_method_3_code_19 : decode prog_3_method_3_code 19 = .ok (.areturn, 1) := by decide +kernel
def Q_chk (Z : State) (cs : Int32) (fm : Value) (a1 b : Addr) (n : Nat) (c : Nat → Nat) (h0 : Heap) (n0 : Nat) (v : Option Value) (h : Heap) (L : List Loc) : Prop := v = some (.ref a1) ∧ Fr n0 L ∧ h = h0
set_option maxRecDepth 65536 in
set_option maxHeartbeats 40000000 in
theorem rm_chk (l : Launch) (Z : State) (a0 : Array Value) (hw : ∀ d ∈ tables_1, d.before a0 Z = true) (ws : List Jvm.Cond) (cs : Int32) (fm : Value) (a1 b : Addr) (n : Nat) (c : Nat → Nat) (h0 : Heap) (n0 : Nat) (Z0 : n0 ≤ h0.size) (ST : own_ST Z cs fm) (OO : Old Z n0 h0) (hn : n < 2 ^ 29) (E : Exa Z h0 a1 "java/lang/String") (FV : Fld Z h0 a1 "java/lang/String" "value" "[B" (.ref b)) (FC : Fld Z h0 a1 "java/lang/String" "coder" "B" (.int (own_cd false))) (A : OA Z h0 b .byte (own_len false n) (own_by false c)) (hc : ∀ j, j < n → c j < 65536) (hl : false = false → ∀ j, j < n → c j < 256) (hP : (0 < n ∧ ¬ (128 : Int32) < Int32.ofNat n ∧ ∀ j, j < n → own_idc (c j))) :
    MetFree l (⟨"com/example/landshut/landshut/NodeIds", "check", "(Ljava/lang/String;)Ljava/lang/String;"⟩ : MethodName) (head1 (Jvm.Cond.code (⟨"com/example/landshut/landshut/NodeIds", "check", "(Ljava/lang/String;)Ljava/lang/String;"⟩ : MethodName) prog_3_method_3_code 1 (some (.object "java/lang/String")) :: ws) ({ frames := 6, cells := 0, slots := 0, locals := 79 } : Room)) (fun a U => a = #[(.ref a1)] ∧ Z.Warmed39 U.vm ∧ U.heap = h0) (fun _ _ _ _ _ => True) (fun _ U o U' => ∃ v L, o = .returned v ∧ Q_chk Z cs fm a1 b n c h0 n0 v U'.heap L ∧ FrameEnd U o U' L ({ frames := 6, cells := 0, slots := 0, locals := 79 } : Room).cells ({ frames := 6, cells := 0, slots := 0, locals := 79 } : Room).slots) := by
  refine MetFree.of_bodySF (plainFor_of_name pn_com_example_landshut_landshut_NodeIds) hisR ?_
  intro p ee s m args below meth cc s₁ Bd hml0 hP hK
  obtain ⟨rfl, hZ, hh⟩ := hP
  have hx := Bd.exec
  have hby := Bd.bytes
  have hml : cc.maxLocals = 1 := hml0
  have hown : s.vm.findClass "com/example/landshut/landshut/NodeIds" = some m.cls := findClass_of_methodNamed Bd.named
  have hnm := (name_of_methodNamed Bd.named Bd.method).1
  have X0 : Stand p l ee ({ frames := 6, cells := 0, slots := 0, locals := 79 } : Room) s m #[(.ref a1)] below meth cc s₁ [] 0 0 := Stand.of_body Bd
  have e0 : s₁.heap = h0 := by rw [← hh, Bd.state]; rfl
  have N0 := Fr.nil n0
  show Goes p ee below s ({ frames := 6, cells := 0, slots := 0, locals := 79 } : Room).cells ({ frames := 6, cells := 0, slots := 0, locals := 79 } : Room).slots (Q_chk Z cs fm a1 b n c h0 n0) (s₁.setTop (entryFrame m #[(.ref a1)] 1))
  refine Goes.step (fun _ hr_ => castTop (ef_chk m a1) hr_) ?_
  show Goes p ee below s _ _ _ (s₁.setTop (mkF m 0 #[.val (.ref a1)] []))
  refine Goes.step (fun _ hr_ => XS.aloadN X0.here hx rfl (hb hby d_prog_3_method_3_code_0) rfl rfl hr_) ?_
  show Goes p ee below s _ _ _ (s₁.setTop (mkF m 1 #[.val (.ref a1)] [(.ref a1)]))
  have lt_a1 := E.lt
  have lt_b := A.lt
  obtain ⟨v1, T1, L1, X1, hQ1, st1⟩ := own_callS X0 hx hZ (y := (⟨"com/example/landshut/landshut/NodeIds", "isValid", "(Ljava/lang/String;)Z"⟩ : MethodName)) hown (hw _ (List.mem_of_getElem? (i := 93) rfl)) (hw _ (List.mem_of_getElem? (i := 52) rfl)) (hw _ (List.mem_of_getElem? (i := 53) rfl)) (hw _ (List.mem_of_getElem? (i := 54) rfl)) (by decide) (argsL := [(.ref a1)]) (rm_isv l Z a0 hw [] cs fm a1 b n c h0 n0 Z0 ST OO hn E FV FC A hc hl) e0 (W := 0) (by decide) (by decide) (by decide) (by decide) (g := (mkF m 1 #[.val (.ref a1)] [(.ref a1)])) rfl (by rw [hml]; rfl) (rest := []) (lenOf pd_13 rfl) rfl (by show 2 * 0 + _ ≤ _; exact Nat.le_of_eq rfl) (hb hby d_prog_3_method_3_code_1)
  refine Goes.step st1 ?_
  obtain ⟨⟨r1, rfl, hr1⟩, N1, e1⟩ := hQ1
  have N2 := Fr.app N0 N1
  show Goes p ee below s _ _ _ (T1.setTop (mkF m 4 #[.val (.ref a1)] [(.int r1)]))
  refine Goes.step (fun _ hr_ => XS.ifYes X1.here hx rfl (pc0 := 4) (pc' := 18) rfl (hb hby d_prog_3_method_3_code_4) rfl ((if0 _ _).trans (feq (by
    rcases hr1 with ⟨q, -⟩ | ⟨-, q⟩
    · rw [q]; decide
    · exact absurd hP q)).2) (by decide) (by decide) hr_) ?_
  show Goes p ee below s _ _ _ (T1.setTop (mkF m 18 #[.val (.ref a1)] []))
  refine Goes.step (fun _ hr_ => XS.aloadN X1.here hx rfl (hb hby d_prog_3_method_3_code_18) rfl rfl hr_) ?_
  show Goes p ee below s _ _ _ (T1.setTop (mkF m 19 #[.val (.ref a1)] [(.ref a1)]))
  refine Goes.retA X1 hx Bd.notSynchronized Bd.returns rfl rfl (hb hby d_prog_3_method_3_code_19) (by decide) (by decide) ?_
  exact ⟨rfl, N2, e1⟩
theorem ef_eqs (m : MethodId) (x0 : Addr) (x1 : Addr) : entryFrame m #[(.ref x0), (.ref x1)] 3 = mkF m 0 #[.val (.ref x0), .val (.ref x1), .unset] [] := by first | (simp [entryFrame, mkF, argsToLocals, Value.category]; done) | rfl
theorem d_jdk_42_method_66_code_0 : decode jdk_42_method_66_code 0 = .ok (.aload_n 0, 1) := by decide +kernel
theorem d_jdk_42_method_66_code_1 : decode jdk_42_method_66_code 1 = .ok (.aload_n 1, 1) := by decide +kernel
theorem d_jdk_42_method_66_code_2 : decode jdk_42_method_66_code 2 = .ok (.if_acmp .ne 5, 3) := by decide +kernel
theorem d_jdk_42_method_66_code_5 : decode jdk_42_method_66_code 5 = .ok (.iconst 1, 1) := by decide +kernel
theorem d_jdk_42_method_66_code_6 : decode jdk_42_method_66_code 6 = .ok (.ireturn, 1) := by decide +kernel
def Q_eqs (Z : State) (cs : Int32) (fm : Value) (a1 : Addr) (h0 : Heap) (n0 : Nat) (v : Option Value) (h : Heap) (L : List Loc) : Prop := v = some (.int 1) ∧ Fr n0 L ∧ h = h0
set_option maxRecDepth 65536 in
set_option maxHeartbeats 40000000 in
theorem rm_eqs (l : Launch) (Z : State) (a0 : Array Value) (hw : ∀ d ∈ tables_1, d.before a0 Z = true) (ws : List Jvm.Cond) (cs : Int32) (fm : Value) (a1 : Addr) (h0 : Heap) (n0 : Nat) (Z0 : n0 ≤ h0.size) (ST : own_ST Z cs fm) (OO : Old Z n0 h0)  :
    MetFree l (⟨"java/lang/String", "equals", "(Ljava/lang/Object;)Z"⟩ : MethodName) (head1 (Jvm.Cond.code (⟨"java/lang/String", "equals", "(Ljava/lang/Object;)Z"⟩ : MethodName) jdk_42_method_66_code 3 (some .boolean) :: ws) ({ frames := 0, cells := 0, slots := 0, locals := 0 } : Room)) (fun a U => a = #[(.ref a1), (.ref a1)] ∧ Z.Warmed39 U.vm ∧ U.heap = h0) (fun _ _ _ _ _ => True) (fun _ U o U' => ∃ v L, o = .returned v ∧ Q_eqs Z cs fm a1 h0 n0 v U'.heap L ∧ FrameEnd U o U' L ({ frames := 0, cells := 0, slots := 0, locals := 0 } : Room).cells ({ frames := 0, cells := 0, slots := 0, locals := 0 } : Room).slots) := by
  refine MetFree.of_bodySF (plainFor_of_name pn_java_lang_String) hisR ?_
  intro p ee s m args below meth cc s₁ Bd hml0 hP hK
  obtain ⟨rfl, hZ, hh⟩ := hP
  have hx := Bd.exec
  have hby := Bd.bytes
  have hml : cc.maxLocals = 3 := hml0
  have hown : s.vm.findClass "java/lang/String" = some m.cls := findClass_of_methodNamed Bd.named
  have hnm := (name_of_methodNamed Bd.named Bd.method).1
  have X0 : Stand p l ee ({ frames := 0, cells := 0, slots := 0, locals := 0 } : Room) s m #[(.ref a1), (.ref a1)] below meth cc s₁ [] 0 0 := Stand.of_body Bd
  have e0 : s₁.heap = h0 := by rw [← hh, Bd.state]; rfl
  have N0 := Fr.nil n0
  show Goes p ee below s ({ frames := 0, cells := 0, slots := 0, locals := 0 } : Room).cells ({ frames := 0, cells := 0, slots := 0, locals := 0 } : Room).slots (Q_eqs Z cs fm a1 h0 n0) (s₁.setTop (entryFrame m #[(.ref a1), (.ref a1)] 3))
  refine Goes.step (fun _ hr_ => castTop (ef_eqs m a1 a1) hr_) ?_
  show Goes p ee below s _ _ _ (s₁.setTop (mkF m 0 #[.val (.ref a1), .val (.ref a1), .unset] []))
  refine Goes.step (fun _ hr_ => XS.aloadN X0.here hx rfl (hb hby d_jdk_42_method_66_code_0) rfl rfl hr_) ?_
  show Goes p ee below s _ _ _ (s₁.setTop (mkF m 1 #[.val (.ref a1), .val (.ref a1), .unset] [(.ref a1)]))
  refine Goes.step (fun _ hr_ => XS.aloadN X0.here hx rfl (hb hby d_jdk_42_method_66_code_1) rfl rfl hr_) ?_
  show Goes p ee below s _ _ _ (s₁.setTop (mkF m 2 #[.val (.ref a1), .val (.ref a1), .unset] [(.ref a1), (.ref a1)]))
  refine Goes.step (fun _ hr_ => Jvm.RoadKit.acmp (g := (mkF m 2 #[.val (.ref a1), .val (.ref a1), .unset] [(.ref a1), (.ref a1)])) X0 hx rfl (x := (.ref a1)) (y := (.ref a1)) rfl rfl (pc0 := 2) (pc' := 5) (same := true) rfl (hb hby d_jdk_42_method_66_code_2) rfl (decide_eq_true rfl) (by decide) (by decide) hr_) ?_
  show Goes p ee below s _ _ _ (s₁.setTop (mkF m 5 #[.val (.ref a1), .val (.ref a1), .unset] []))
  refine Goes.step (fun _ hr_ => XS.iconst X0.here hx rfl (hb hby d_jdk_42_method_66_code_5) hr_) ?_
  show Goes p ee below s _ _ _ (s₁.setTop (mkF m 6 #[.val (.ref a1), .val (.ref a1), .unset] [(.int (1 : Int32))]))
  refine Goes.retZ X0 hx Bd.notSynchronized Bd.returns (by simp) rfl (hb hby d_jdk_42_method_66_code_6) (by decide) (by decide) ?_
  exact ⟨rfl, N0, e0⟩
theorem ef_ok (m : MethodId) (x0 : Int32) : entryFrame m #[(.int x0)] 1 = mkF m 0 #[.val (.int x0)] [] := by first | (simp [entryFrame, mkF, argsToLocals, Value.category]; done) | rfl
theorem pn_com_example_landshut_landshut_NodeIdsCheckPinLaw : plainName "com/example/landshut/landshut/NodeIdsCheckPinLaw" = true := by first | (simp [plainName, overriddenIn]; done) | decide +kernel
theorem d_method_3_code_0 : decode method_3_code 0 = .ok (.iload_n 0, 1) := by decide +kernel
theorem d_method_3_code_1 : decode method_3_code 1 = .ok (.bipush 65, 2) := by decide +kernel
theorem d_method_3_code_3 : decode method_3_code 3 = .ok (.if_icmp .lt 11, 3) := by decide +kernel
theorem d_method_3_code_14 : decode method_3_code 14 = .ok (.iload_n 0, 1) := by decide +kernel
theorem d_method_3_code_15 : decode method_3_code 15 = .ok (.bipush 97, 2) := by decide +kernel
theorem d_method_3_code_17 : decode method_3_code 17 = .ok (.if_icmp .lt 11, 3) := by decide +kernel
theorem d_method_3_code_28 : decode method_3_code 28 = .ok (.iload_n 0, 1) := by decide +kernel
theorem d_method_3_code_29 : decode method_3_code 29 = .ok (.bipush 48, 2) := by decide +kernel
theorem d_method_3_code_31 : decode method_3_code 31 = .ok (.if_icmp .lt 11, 3) := by decide +kernel
theorem d_method_3_code_42 : decode method_3_code 42 = .ok (.iload_n 0, 1) := by decide +kernel
theorem d_method_3_code_43 : decode method_3_code 43 = .ok (.bipush 46, 2) := by decide +kernel
theorem d_method_3_code_45 : decode method_3_code 45 = .ok (.if_icmp .eq 21, 3) := by decide +kernel
theorem d_method_3_code_66 : decode method_3_code 66 = .ok (.iconst 1, 1) := by decide +kernel
theorem d_method_3_code_67 : decode method_3_code 67 = .ok (.goto 4, 3) := by decide +kernel
theorem d_method_3_code_71 : decode method_3_code 71 = .ok (.ireturn, 1) := by decide +kernel
theorem d_method_3_code_48 : decode method_3_code 48 = .ok (.iload_n 0, 1) := by decide +kernel
theorem d_method_3_code_49 : decode method_3_code 49 = .ok (.bipush 95, 2) := by decide +kernel
theorem d_method_3_code_51 : decode method_3_code 51 = .ok (.if_icmp .eq 15, 3) := by decide +kernel
theorem d_method_3_code_54 : decode method_3_code 54 = .ok (.iload_n 0, 1) := by decide +kernel
theorem d_method_3_code_55 : decode method_3_code 55 = .ok (.bipush 58, 2) := by decide +kernel
theorem d_method_3_code_57 : decode method_3_code 57 = .ok (.if_icmp .eq 9, 3) := by decide +kernel
theorem d_method_3_code_60 : decode method_3_code 60 = .ok (.iload_n 0, 1) := by decide +kernel
theorem d_method_3_code_61 : decode method_3_code 61 = .ok (.bipush 45, 2) := by decide +kernel
theorem d_method_3_code_63 : decode method_3_code 63 = .ok (.if_icmp .ne 7, 3) := by decide +kernel
theorem d_method_3_code_70 : decode method_3_code 70 = .ok (.iconst 0, 1) := by decide +kernel
theorem d_method_3_code_34 : decode method_3_code 34 = .ok (.iload_n 0, 1) := by decide +kernel
theorem d_method_3_code_35 : decode method_3_code 35 = .ok (.bipush 57, 2) := by decide +kernel
theorem d_method_3_code_37 : decode method_3_code 37 = .ok (.if_icmp .gt 5, 3) := by decide +kernel
theorem d_method_3_code_40 : decode method_3_code 40 = .ok (.iconst 1, 1) := by decide +kernel
theorem d_method_3_code_41 : decode method_3_code 41 = .ok (.ireturn, 1) := by decide +kernel
theorem d_method_3_code_20 : decode method_3_code 20 = .ok (.iload_n 0, 1) := by decide +kernel
theorem d_method_3_code_21 : decode method_3_code 21 = .ok (.bipush 122, 2) := by decide +kernel
theorem d_method_3_code_23 : decode method_3_code 23 = .ok (.if_icmp .gt 5, 3) := by decide +kernel
theorem d_method_3_code_26 : decode method_3_code 26 = .ok (.iconst 1, 1) := by decide +kernel
theorem d_method_3_code_27 : decode method_3_code 27 = .ok (.ireturn, 1) := by decide +kernel
theorem d_method_3_code_6 : decode method_3_code 6 = .ok (.iload_n 0, 1) := by decide +kernel
theorem d_method_3_code_7 : decode method_3_code 7 = .ok (.bipush 90, 2) := by decide +kernel
theorem d_method_3_code_9 : decode method_3_code 9 = .ok (.if_icmp .gt 5, 3) := by decide +kernel
theorem d_method_3_code_12 : decode method_3_code 12 = .ok (.iconst 1, 1) := by decide +kernel
theorem d_method_3_code_13 : decode method_3_code 13 = .ok (.ireturn, 1) := by decide +kernel
def Q_ok (Z : State) (k : Nat) (h0 : Heap) (n0 : Nat) (v : Option Value) (h : Heap) (L : List Loc) : Prop := v = some (.int (if own_idc k then 1 else 0)) ∧ Fr n0 L ∧ h = h0
set_option maxRecDepth 65536 in
set_option maxHeartbeats 40000000 in
theorem rm_ok (l : Launch) (Z : State) (a0 : Array Value) (hw : ∀ d ∈ tables_1, d.before a0 Z = true) (ws : List Jvm.Cond) (k : Nat) (h0 : Heap) (n0 : Nat) (Z0 : n0 ≤ h0.size) (hk : k < 65536) :
    MetFree l (⟨"com/example/landshut/landshut/NodeIdsCheckPinLaw", "ok", "(C)Z"⟩ : MethodName) (head1 (Jvm.Cond.code (⟨"com/example/landshut/landshut/NodeIdsCheckPinLaw", "ok", "(C)Z"⟩ : MethodName) method_3_code 1 (some .boolean) :: ws) ({ frames := 0, cells := 0, slots := 0, locals := 0 } : Room)) (fun a U => a = #[(.int (Int32.ofNat k))] ∧ Z.Warmed39 U.vm ∧ U.heap = h0) (fun _ _ _ _ _ => True) (fun _ U o U' => ∃ v L, o = .returned v ∧ Q_ok Z k h0 n0 v U'.heap L ∧ FrameEnd U o U' L ({ frames := 0, cells := 0, slots := 0, locals := 0 } : Room).cells ({ frames := 0, cells := 0, slots := 0, locals := 0 } : Room).slots) := by
  refine MetFree.of_bodySF (plainFor_of_name pn_com_example_landshut_landshut_NodeIdsCheckPinLaw) hisR ?_
  intro p ee s m args below meth cc s₁ Bd hml0 hP hK
  obtain ⟨rfl, hZ, hh⟩ := hP
  have hx := Bd.exec
  have hby := Bd.bytes
  have hml : cc.maxLocals = 1 := hml0
  have hown : s.vm.findClass "com/example/landshut/landshut/NodeIdsCheckPinLaw" = some m.cls := findClass_of_methodNamed Bd.named
  have hnm := (name_of_methodNamed Bd.named Bd.method).1
  have X0 : Stand p l ee ({ frames := 0, cells := 0, slots := 0, locals := 0 } : Room) s m #[(.int (Int32.ofNat k))] below meth cc s₁ [] 0 0 := Stand.of_body Bd
  have e0 : s₁.heap = h0 := by rw [← hh, Bd.state]; rfl
  have N0 := Fr.nil n0
  show Goes p ee below s ({ frames := 0, cells := 0, slots := 0, locals := 0 } : Room).cells ({ frames := 0, cells := 0, slots := 0, locals := 0 } : Room).slots (Q_ok Z k h0 n0) (s₁.setTop (entryFrame m #[(.int (Int32.ofNat k))] 1))
  refine Goes.step (fun _ hr_ => castTop (ef_ok m (Int32.ofNat k)) hr_) ?_
  show Goes p ee below s _ _ _ (s₁.setTop (mkF m 0 #[.val (.int (Int32.ofNat k))] []))
  refine Goes.step (fun _ hr_ => XS.iloadN X0.here hx rfl (hb hby d_method_3_code_0) rfl  hr_) ?_
  show Goes p ee below s _ _ _ (s₁.setTop (mkF m 1 #[.val (.int (Int32.ofNat k))] [(.int (Int32.ofNat k))]))
  refine Goes.step (fun _ hr_ => XS.bipush X0.here hx rfl (hb hby d_method_3_code_1) hr_) ?_
  show Goes p ee below s _ _ _ (s₁.setTop (mkF m 3 #[.val (.int (Int32.ofNat k))] [(.int (65 : Int32)), (.int (Int32.ofNat k))]))
  by_cases hn3_1 : k < 65
  · refine Goes.step (fun _ hr_ => XS.icmpYes X0.here hx rfl (pc0 := 3) (pc' := 14) rfl (hb hby d_method_3_code_3) rfl (tlt ((own_ltN k 65 (by omega) (by decide)).mpr hn3_1)).1 (by decide) (by decide) hr_) ?_
    show Goes p ee below s _ _ _ (s₁.setTop (mkF m 14 #[.val (.int (Int32.ofNat k))] []))
    refine Goes.step (fun _ hr_ => XS.iloadN X0.here hx rfl (hb hby d_method_3_code_14) rfl  hr_) ?_
    show Goes p ee below s _ _ _ (s₁.setTop (mkF m 15 #[.val (.int (Int32.ofNat k))] [(.int (Int32.ofNat k))]))
    refine Goes.step (fun _ hr_ => XS.bipush X0.here hx rfl (hb hby d_method_3_code_15) hr_) ?_
    show Goes p ee below s _ _ _ (s₁.setTop (mkF m 17 #[.val (.int (Int32.ofNat k))] [(.int (97 : Int32)), (.int (Int32.ofNat k))]))
    by_cases hn17_2 : k < 97
    · refine Goes.step (fun _ hr_ => XS.icmpYes X0.here hx rfl (pc0 := 17) (pc' := 28) rfl (hb hby d_method_3_code_17) rfl (tlt ((own_ltN k 97 (by omega) (by decide)).mpr hn17_2)).1 (by decide) (by decide) hr_) ?_
      show Goes p ee below s _ _ _ (s₁.setTop (mkF m 28 #[.val (.int (Int32.ofNat k))] []))
      refine Goes.step (fun _ hr_ => XS.iloadN X0.here hx rfl (hb hby d_method_3_code_28) rfl  hr_) ?_
      show Goes p ee below s _ _ _ (s₁.setTop (mkF m 29 #[.val (.int (Int32.ofNat k))] [(.int (Int32.ofNat k))]))
      refine Goes.step (fun _ hr_ => XS.bipush X0.here hx rfl (hb hby d_method_3_code_29) hr_) ?_
      show Goes p ee below s _ _ _ (s₁.setTop (mkF m 31 #[.val (.int (Int32.ofNat k))] [(.int (48 : Int32)), (.int (Int32.ofNat k))]))
      by_cases hn31_3 : k < 48
      · refine Goes.step (fun _ hr_ => XS.icmpYes X0.here hx rfl (pc0 := 31) (pc' := 42) rfl (hb hby d_method_3_code_31) rfl (tlt ((own_ltN k 48 (by omega) (by decide)).mpr hn31_3)).1 (by decide) (by decide) hr_) ?_
        show Goes p ee below s _ _ _ (s₁.setTop (mkF m 42 #[.val (.int (Int32.ofNat k))] []))
        refine Goes.step (fun _ hr_ => XS.iloadN X0.here hx rfl (hb hby d_method_3_code_42) rfl  hr_) ?_
        show Goes p ee below s _ _ _ (s₁.setTop (mkF m 43 #[.val (.int (Int32.ofNat k))] [(.int (Int32.ofNat k))]))
        refine Goes.step (fun _ hr_ => XS.bipush X0.here hx rfl (hb hby d_method_3_code_43) hr_) ?_
        show Goes p ee below s _ _ _ (s₁.setTop (mkF m 45 #[.val (.int (Int32.ofNat k))] [(.int (46 : Int32)), (.int (Int32.ofNat k))]))
        by_cases hn45_4 : k = 46
        · refine Goes.step (fun _ hr_ => XS.icmpYes X0.here hx rfl (pc0 := 45) (pc' := 66) rfl (hb hby d_method_3_code_45) rfl (teq ((own_eqN k 46 (by omega) (by decide)).mpr hn45_4)).1 (by decide) (by decide) hr_) ?_
          show Goes p ee below s _ _ _ (s₁.setTop (mkF m 66 #[.val (.int (Int32.ofNat k))] []))
          refine Goes.step (fun _ hr_ => XS.iconst X0.here hx rfl (hb hby d_method_3_code_66) hr_) ?_
          show Goes p ee below s _ _ _ (s₁.setTop (mkF m 67 #[.val (.int (Int32.ofNat k))] [(.int (1 : Int32))]))
          refine Goes.step (fun _ hr_ => XS.goto X0.here hx rfl (pc0 := 67) (pc' := 71) rfl (hb hby d_method_3_code_67) (by decide) (by decide) hr_) ?_
          show Goes p ee below s _ _ _ (s₁.setTop (mkF m 71 #[.val (.int (Int32.ofNat k))] [(.int (1 : Int32))]))
          refine Goes.retZ X0 hx Bd.notSynchronized Bd.returns (by simp) rfl (hb hby d_method_3_code_71) (by decide) (by decide) ?_
          exact ⟨own_t (by unfold own_idc; omega), N0, e0⟩
        · refine Goes.step (fun _ hr_ => XS.icmpNo X0.here hx rfl (hb hby d_method_3_code_45) rfl (feq (fun z => hn45_4 ((own_eqN k 46 (by omega) (by decide)).mp z))).1 hr_) ?_
          show Goes p ee below s _ _ _ (s₁.setTop (mkF m 48 #[.val (.int (Int32.ofNat k))] []))
          refine Goes.step (fun _ hr_ => XS.iloadN X0.here hx rfl (hb hby d_method_3_code_48) rfl  hr_) ?_
          show Goes p ee below s _ _ _ (s₁.setTop (mkF m 49 #[.val (.int (Int32.ofNat k))] [(.int (Int32.ofNat k))]))
          refine Goes.step (fun _ hr_ => XS.bipush X0.here hx rfl (hb hby d_method_3_code_49) hr_) ?_
          show Goes p ee below s _ _ _ (s₁.setTop (mkF m 51 #[.val (.int (Int32.ofNat k))] [(.int (95 : Int32)), (.int (Int32.ofNat k))]))
          by_cases hn51_5 : k = 95
          · refine Goes.step (fun _ hr_ => XS.icmpYes X0.here hx rfl (pc0 := 51) (pc' := 66) rfl (hb hby d_method_3_code_51) rfl (teq ((own_eqN k 95 (by omega) (by decide)).mpr hn51_5)).1 (by decide) (by decide) hr_) ?_
            show Goes p ee below s _ _ _ (s₁.setTop (mkF m 66 #[.val (.int (Int32.ofNat k))] []))
            refine Goes.step (fun _ hr_ => XS.iconst X0.here hx rfl (hb hby d_method_3_code_66) hr_) ?_
            show Goes p ee below s _ _ _ (s₁.setTop (mkF m 67 #[.val (.int (Int32.ofNat k))] [(.int (1 : Int32))]))
            refine Goes.step (fun _ hr_ => XS.goto X0.here hx rfl (pc0 := 67) (pc' := 71) rfl (hb hby d_method_3_code_67) (by decide) (by decide) hr_) ?_
            show Goes p ee below s _ _ _ (s₁.setTop (mkF m 71 #[.val (.int (Int32.ofNat k))] [(.int (1 : Int32))]))
            refine Goes.retZ X0 hx Bd.notSynchronized Bd.returns (by simp) rfl (hb hby d_method_3_code_71) (by decide) (by decide) ?_
            exact ⟨own_t (by unfold own_idc; omega), N0, e0⟩
          · refine Goes.step (fun _ hr_ => XS.icmpNo X0.here hx rfl (hb hby d_method_3_code_51) rfl (feq (fun z => hn51_5 ((own_eqN k 95 (by omega) (by decide)).mp z))).1 hr_) ?_
            show Goes p ee below s _ _ _ (s₁.setTop (mkF m 54 #[.val (.int (Int32.ofNat k))] []))
            refine Goes.step (fun _ hr_ => XS.iloadN X0.here hx rfl (hb hby d_method_3_code_54) rfl  hr_) ?_
            show Goes p ee below s _ _ _ (s₁.setTop (mkF m 55 #[.val (.int (Int32.ofNat k))] [(.int (Int32.ofNat k))]))
            refine Goes.step (fun _ hr_ => XS.bipush X0.here hx rfl (hb hby d_method_3_code_55) hr_) ?_
            show Goes p ee below s _ _ _ (s₁.setTop (mkF m 57 #[.val (.int (Int32.ofNat k))] [(.int (58 : Int32)), (.int (Int32.ofNat k))]))
            by_cases hn57_6 : k = 58
            · refine Goes.step (fun _ hr_ => XS.icmpYes X0.here hx rfl (pc0 := 57) (pc' := 66) rfl (hb hby d_method_3_code_57) rfl (teq ((own_eqN k 58 (by omega) (by decide)).mpr hn57_6)).1 (by decide) (by decide) hr_) ?_
              show Goes p ee below s _ _ _ (s₁.setTop (mkF m 66 #[.val (.int (Int32.ofNat k))] []))
              refine Goes.step (fun _ hr_ => XS.iconst X0.here hx rfl (hb hby d_method_3_code_66) hr_) ?_
              show Goes p ee below s _ _ _ (s₁.setTop (mkF m 67 #[.val (.int (Int32.ofNat k))] [(.int (1 : Int32))]))
              refine Goes.step (fun _ hr_ => XS.goto X0.here hx rfl (pc0 := 67) (pc' := 71) rfl (hb hby d_method_3_code_67) (by decide) (by decide) hr_) ?_
              show Goes p ee below s _ _ _ (s₁.setTop (mkF m 71 #[.val (.int (Int32.ofNat k))] [(.int (1 : Int32))]))
              refine Goes.retZ X0 hx Bd.notSynchronized Bd.returns (by simp) rfl (hb hby d_method_3_code_71) (by decide) (by decide) ?_
              exact ⟨own_t (by unfold own_idc; omega), N0, e0⟩
            · refine Goes.step (fun _ hr_ => XS.icmpNo X0.here hx rfl (hb hby d_method_3_code_57) rfl (feq (fun z => hn57_6 ((own_eqN k 58 (by omega) (by decide)).mp z))).1 hr_) ?_
              show Goes p ee below s _ _ _ (s₁.setTop (mkF m 60 #[.val (.int (Int32.ofNat k))] []))
              refine Goes.step (fun _ hr_ => XS.iloadN X0.here hx rfl (hb hby d_method_3_code_60) rfl  hr_) ?_
              show Goes p ee below s _ _ _ (s₁.setTop (mkF m 61 #[.val (.int (Int32.ofNat k))] [(.int (Int32.ofNat k))]))
              refine Goes.step (fun _ hr_ => XS.bipush X0.here hx rfl (hb hby d_method_3_code_61) hr_) ?_
              show Goes p ee below s _ _ _ (s₁.setTop (mkF m 63 #[.val (.int (Int32.ofNat k))] [(.int (45 : Int32)), (.int (Int32.ofNat k))]))
              by_cases hn63_7 : k = 45
              · refine Goes.step (fun _ hr_ => XS.icmpNo X0.here hx rfl (hb hby d_method_3_code_63) rfl (teq ((own_eqN k 45 (by omega) (by decide)).mpr hn63_7)).2 hr_) ?_
                show Goes p ee below s _ _ _ (s₁.setTop (mkF m 66 #[.val (.int (Int32.ofNat k))] []))
                refine Goes.step (fun _ hr_ => XS.iconst X0.here hx rfl (hb hby d_method_3_code_66) hr_) ?_
                show Goes p ee below s _ _ _ (s₁.setTop (mkF m 67 #[.val (.int (Int32.ofNat k))] [(.int (1 : Int32))]))
                refine Goes.step (fun _ hr_ => XS.goto X0.here hx rfl (pc0 := 67) (pc' := 71) rfl (hb hby d_method_3_code_67) (by decide) (by decide) hr_) ?_
                show Goes p ee below s _ _ _ (s₁.setTop (mkF m 71 #[.val (.int (Int32.ofNat k))] [(.int (1 : Int32))]))
                refine Goes.retZ X0 hx Bd.notSynchronized Bd.returns (by simp) rfl (hb hby d_method_3_code_71) (by decide) (by decide) ?_
                exact ⟨own_t (by unfold own_idc; omega), N0, e0⟩
              · refine Goes.step (fun _ hr_ => XS.icmpYes X0.here hx rfl (pc0 := 63) (pc' := 70) rfl (hb hby d_method_3_code_63) rfl (feq (fun z => hn63_7 ((own_eqN k 45 (by omega) (by decide)).mp z))).2 (by decide) (by decide) hr_) ?_
                show Goes p ee below s _ _ _ (s₁.setTop (mkF m 70 #[.val (.int (Int32.ofNat k))] []))
                refine Goes.step (fun _ hr_ => XS.iconst X0.here hx rfl (hb hby d_method_3_code_70) hr_) ?_
                show Goes p ee below s _ _ _ (s₁.setTop (mkF m 71 #[.val (.int (Int32.ofNat k))] [(.int (0 : Int32))]))
                refine Goes.retZ X0 hx Bd.notSynchronized Bd.returns (by simp) rfl (hb hby d_method_3_code_71) (by decide) (by decide) ?_
                exact ⟨own_f (by unfold own_idc; omega), N0, e0⟩
      · refine Goes.step (fun _ hr_ => XS.icmpNo X0.here hx rfl (hb hby d_method_3_code_31) rfl (flt (fun z => hn31_3 ((own_ltN k 48 (by omega) (by decide)).mp z))).1 hr_) ?_
        show Goes p ee below s _ _ _ (s₁.setTop (mkF m 34 #[.val (.int (Int32.ofNat k))] []))
        refine Goes.step (fun _ hr_ => XS.iloadN X0.here hx rfl (hb hby d_method_3_code_34) rfl  hr_) ?_
        show Goes p ee below s _ _ _ (s₁.setTop (mkF m 35 #[.val (.int (Int32.ofNat k))] [(.int (Int32.ofNat k))]))
        refine Goes.step (fun _ hr_ => XS.bipush X0.here hx rfl (hb hby d_method_3_code_35) hr_) ?_
        show Goes p ee below s _ _ _ (s₁.setTop (mkF m 37 #[.val (.int (Int32.ofNat k))] [(.int (57 : Int32)), (.int (Int32.ofNat k))]))
        by_cases hn37_8 : 57 < k
        · refine Goes.step (fun _ hr_ => XS.icmpYes X0.here hx rfl (pc0 := 37) (pc' := 42) rfl (hb hby d_method_3_code_37) rfl (tlt ((own_ltN 57 k (by decide) (by omega)).mpr hn37_8)).2.2.1 (by decide) (by decide) hr_) ?_
          show Goes p ee below s _ _ _ (s₁.setTop (mkF m 42 #[.val (.int (Int32.ofNat k))] []))
          refine Goes.step (fun _ hr_ => XS.iloadN X0.here hx rfl (hb hby d_method_3_code_42) rfl  hr_) ?_
          show Goes p ee below s _ _ _ (s₁.setTop (mkF m 43 #[.val (.int (Int32.ofNat k))] [(.int (Int32.ofNat k))]))
          refine Goes.step (fun _ hr_ => XS.bipush X0.here hx rfl (hb hby d_method_3_code_43) hr_) ?_
          show Goes p ee below s _ _ _ (s₁.setTop (mkF m 45 #[.val (.int (Int32.ofNat k))] [(.int (46 : Int32)), (.int (Int32.ofNat k))]))
          by_cases hn45_9 : k = 46
          · refine Goes.step (fun _ hr_ => XS.icmpYes X0.here hx rfl (pc0 := 45) (pc' := 66) rfl (hb hby d_method_3_code_45) rfl (teq ((own_eqN k 46 (by omega) (by decide)).mpr hn45_9)).1 (by decide) (by decide) hr_) ?_
            show Goes p ee below s _ _ _ (s₁.setTop (mkF m 66 #[.val (.int (Int32.ofNat k))] []))
            refine Goes.step (fun _ hr_ => XS.iconst X0.here hx rfl (hb hby d_method_3_code_66) hr_) ?_
            show Goes p ee below s _ _ _ (s₁.setTop (mkF m 67 #[.val (.int (Int32.ofNat k))] [(.int (1 : Int32))]))
            refine Goes.step (fun _ hr_ => XS.goto X0.here hx rfl (pc0 := 67) (pc' := 71) rfl (hb hby d_method_3_code_67) (by decide) (by decide) hr_) ?_
            show Goes p ee below s _ _ _ (s₁.setTop (mkF m 71 #[.val (.int (Int32.ofNat k))] [(.int (1 : Int32))]))
            refine Goes.retZ X0 hx Bd.notSynchronized Bd.returns (by simp) rfl (hb hby d_method_3_code_71) (by decide) (by decide) ?_
            exact ⟨own_t (by unfold own_idc; omega), N0, e0⟩
          · refine Goes.step (fun _ hr_ => XS.icmpNo X0.here hx rfl (hb hby d_method_3_code_45) rfl (feq (fun z => hn45_9 ((own_eqN k 46 (by omega) (by decide)).mp z))).1 hr_) ?_
            show Goes p ee below s _ _ _ (s₁.setTop (mkF m 48 #[.val (.int (Int32.ofNat k))] []))
            refine Goes.step (fun _ hr_ => XS.iloadN X0.here hx rfl (hb hby d_method_3_code_48) rfl  hr_) ?_
            show Goes p ee below s _ _ _ (s₁.setTop (mkF m 49 #[.val (.int (Int32.ofNat k))] [(.int (Int32.ofNat k))]))
            refine Goes.step (fun _ hr_ => XS.bipush X0.here hx rfl (hb hby d_method_3_code_49) hr_) ?_
            show Goes p ee below s _ _ _ (s₁.setTop (mkF m 51 #[.val (.int (Int32.ofNat k))] [(.int (95 : Int32)), (.int (Int32.ofNat k))]))
            by_cases hn51_10 : k = 95
            · refine Goes.step (fun _ hr_ => XS.icmpYes X0.here hx rfl (pc0 := 51) (pc' := 66) rfl (hb hby d_method_3_code_51) rfl (teq ((own_eqN k 95 (by omega) (by decide)).mpr hn51_10)).1 (by decide) (by decide) hr_) ?_
              show Goes p ee below s _ _ _ (s₁.setTop (mkF m 66 #[.val (.int (Int32.ofNat k))] []))
              refine Goes.step (fun _ hr_ => XS.iconst X0.here hx rfl (hb hby d_method_3_code_66) hr_) ?_
              show Goes p ee below s _ _ _ (s₁.setTop (mkF m 67 #[.val (.int (Int32.ofNat k))] [(.int (1 : Int32))]))
              refine Goes.step (fun _ hr_ => XS.goto X0.here hx rfl (pc0 := 67) (pc' := 71) rfl (hb hby d_method_3_code_67) (by decide) (by decide) hr_) ?_
              show Goes p ee below s _ _ _ (s₁.setTop (mkF m 71 #[.val (.int (Int32.ofNat k))] [(.int (1 : Int32))]))
              refine Goes.retZ X0 hx Bd.notSynchronized Bd.returns (by simp) rfl (hb hby d_method_3_code_71) (by decide) (by decide) ?_
              exact ⟨own_t (by unfold own_idc; omega), N0, e0⟩
            · refine Goes.step (fun _ hr_ => XS.icmpNo X0.here hx rfl (hb hby d_method_3_code_51) rfl (feq (fun z => hn51_10 ((own_eqN k 95 (by omega) (by decide)).mp z))).1 hr_) ?_
              show Goes p ee below s _ _ _ (s₁.setTop (mkF m 54 #[.val (.int (Int32.ofNat k))] []))
              refine Goes.step (fun _ hr_ => XS.iloadN X0.here hx rfl (hb hby d_method_3_code_54) rfl  hr_) ?_
              show Goes p ee below s _ _ _ (s₁.setTop (mkF m 55 #[.val (.int (Int32.ofNat k))] [(.int (Int32.ofNat k))]))
              refine Goes.step (fun _ hr_ => XS.bipush X0.here hx rfl (hb hby d_method_3_code_55) hr_) ?_
              show Goes p ee below s _ _ _ (s₁.setTop (mkF m 57 #[.val (.int (Int32.ofNat k))] [(.int (58 : Int32)), (.int (Int32.ofNat k))]))
              by_cases hn57_11 : k = 58
              · refine Goes.step (fun _ hr_ => XS.icmpYes X0.here hx rfl (pc0 := 57) (pc' := 66) rfl (hb hby d_method_3_code_57) rfl (teq ((own_eqN k 58 (by omega) (by decide)).mpr hn57_11)).1 (by decide) (by decide) hr_) ?_
                show Goes p ee below s _ _ _ (s₁.setTop (mkF m 66 #[.val (.int (Int32.ofNat k))] []))
                refine Goes.step (fun _ hr_ => XS.iconst X0.here hx rfl (hb hby d_method_3_code_66) hr_) ?_
                show Goes p ee below s _ _ _ (s₁.setTop (mkF m 67 #[.val (.int (Int32.ofNat k))] [(.int (1 : Int32))]))
                refine Goes.step (fun _ hr_ => XS.goto X0.here hx rfl (pc0 := 67) (pc' := 71) rfl (hb hby d_method_3_code_67) (by decide) (by decide) hr_) ?_
                show Goes p ee below s _ _ _ (s₁.setTop (mkF m 71 #[.val (.int (Int32.ofNat k))] [(.int (1 : Int32))]))
                refine Goes.retZ X0 hx Bd.notSynchronized Bd.returns (by simp) rfl (hb hby d_method_3_code_71) (by decide) (by decide) ?_
                exact ⟨own_t (by unfold own_idc; omega), N0, e0⟩
              · refine Goes.step (fun _ hr_ => XS.icmpNo X0.here hx rfl (hb hby d_method_3_code_57) rfl (feq (fun z => hn57_11 ((own_eqN k 58 (by omega) (by decide)).mp z))).1 hr_) ?_
                show Goes p ee below s _ _ _ (s₁.setTop (mkF m 60 #[.val (.int (Int32.ofNat k))] []))
                refine Goes.step (fun _ hr_ => XS.iloadN X0.here hx rfl (hb hby d_method_3_code_60) rfl  hr_) ?_
                show Goes p ee below s _ _ _ (s₁.setTop (mkF m 61 #[.val (.int (Int32.ofNat k))] [(.int (Int32.ofNat k))]))
                refine Goes.step (fun _ hr_ => XS.bipush X0.here hx rfl (hb hby d_method_3_code_61) hr_) ?_
                show Goes p ee below s _ _ _ (s₁.setTop (mkF m 63 #[.val (.int (Int32.ofNat k))] [(.int (45 : Int32)), (.int (Int32.ofNat k))]))
                by_cases hn63_12 : k = 45
                · refine Goes.step (fun _ hr_ => XS.icmpNo X0.here hx rfl (hb hby d_method_3_code_63) rfl (teq ((own_eqN k 45 (by omega) (by decide)).mpr hn63_12)).2 hr_) ?_
                  show Goes p ee below s _ _ _ (s₁.setTop (mkF m 66 #[.val (.int (Int32.ofNat k))] []))
                  refine Goes.step (fun _ hr_ => XS.iconst X0.here hx rfl (hb hby d_method_3_code_66) hr_) ?_
                  show Goes p ee below s _ _ _ (s₁.setTop (mkF m 67 #[.val (.int (Int32.ofNat k))] [(.int (1 : Int32))]))
                  refine Goes.step (fun _ hr_ => XS.goto X0.here hx rfl (pc0 := 67) (pc' := 71) rfl (hb hby d_method_3_code_67) (by decide) (by decide) hr_) ?_
                  show Goes p ee below s _ _ _ (s₁.setTop (mkF m 71 #[.val (.int (Int32.ofNat k))] [(.int (1 : Int32))]))
                  refine Goes.retZ X0 hx Bd.notSynchronized Bd.returns (by simp) rfl (hb hby d_method_3_code_71) (by decide) (by decide) ?_
                  exact ⟨own_t (by unfold own_idc; omega), N0, e0⟩
                · refine Goes.step (fun _ hr_ => XS.icmpYes X0.here hx rfl (pc0 := 63) (pc' := 70) rfl (hb hby d_method_3_code_63) rfl (feq (fun z => hn63_12 ((own_eqN k 45 (by omega) (by decide)).mp z))).2 (by decide) (by decide) hr_) ?_
                  show Goes p ee below s _ _ _ (s₁.setTop (mkF m 70 #[.val (.int (Int32.ofNat k))] []))
                  refine Goes.step (fun _ hr_ => XS.iconst X0.here hx rfl (hb hby d_method_3_code_70) hr_) ?_
                  show Goes p ee below s _ _ _ (s₁.setTop (mkF m 71 #[.val (.int (Int32.ofNat k))] [(.int (0 : Int32))]))
                  refine Goes.retZ X0 hx Bd.notSynchronized Bd.returns (by simp) rfl (hb hby d_method_3_code_71) (by decide) (by decide) ?_
                  exact ⟨own_f (by unfold own_idc; omega), N0, e0⟩
        · refine Goes.step (fun _ hr_ => XS.icmpNo X0.here hx rfl (hb hby d_method_3_code_37) rfl (flt (fun z => hn37_8 ((own_ltN 57 k (by decide) (by omega)).mp z))).2.2.1 hr_) ?_
          show Goes p ee below s _ _ _ (s₁.setTop (mkF m 40 #[.val (.int (Int32.ofNat k))] []))
          refine Goes.step (fun _ hr_ => XS.iconst X0.here hx rfl (hb hby d_method_3_code_40) hr_) ?_
          show Goes p ee below s _ _ _ (s₁.setTop (mkF m 41 #[.val (.int (Int32.ofNat k))] [(.int (1 : Int32))]))
          refine Goes.retZ X0 hx Bd.notSynchronized Bd.returns (by simp) rfl (hb hby d_method_3_code_41) (by decide) (by decide) ?_
          exact ⟨own_t (by unfold own_idc; omega), N0, e0⟩
    · refine Goes.step (fun _ hr_ => XS.icmpNo X0.here hx rfl (hb hby d_method_3_code_17) rfl (flt (fun z => hn17_2 ((own_ltN k 97 (by omega) (by decide)).mp z))).1 hr_) ?_
      show Goes p ee below s _ _ _ (s₁.setTop (mkF m 20 #[.val (.int (Int32.ofNat k))] []))
      refine Goes.step (fun _ hr_ => XS.iloadN X0.here hx rfl (hb hby d_method_3_code_20) rfl  hr_) ?_
      show Goes p ee below s _ _ _ (s₁.setTop (mkF m 21 #[.val (.int (Int32.ofNat k))] [(.int (Int32.ofNat k))]))
      refine Goes.step (fun _ hr_ => XS.bipush X0.here hx rfl (hb hby d_method_3_code_21) hr_) ?_
      show Goes p ee below s _ _ _ (s₁.setTop (mkF m 23 #[.val (.int (Int32.ofNat k))] [(.int (122 : Int32)), (.int (Int32.ofNat k))]))
      by_cases hn23_13 : 122 < k
      · refine Goes.step (fun _ hr_ => XS.icmpYes X0.here hx rfl (pc0 := 23) (pc' := 28) rfl (hb hby d_method_3_code_23) rfl (tlt ((own_ltN 122 k (by decide) (by omega)).mpr hn23_13)).2.2.1 (by decide) (by decide) hr_) ?_
        show Goes p ee below s _ _ _ (s₁.setTop (mkF m 28 #[.val (.int (Int32.ofNat k))] []))
        refine Goes.step (fun _ hr_ => XS.iloadN X0.here hx rfl (hb hby d_method_3_code_28) rfl  hr_) ?_
        show Goes p ee below s _ _ _ (s₁.setTop (mkF m 29 #[.val (.int (Int32.ofNat k))] [(.int (Int32.ofNat k))]))
        refine Goes.step (fun _ hr_ => XS.bipush X0.here hx rfl (hb hby d_method_3_code_29) hr_) ?_
        show Goes p ee below s _ _ _ (s₁.setTop (mkF m 31 #[.val (.int (Int32.ofNat k))] [(.int (48 : Int32)), (.int (Int32.ofNat k))]))
        by_cases hn31_14 : k < 48
        · refine Goes.step (fun _ hr_ => XS.icmpYes X0.here hx rfl (pc0 := 31) (pc' := 42) rfl (hb hby d_method_3_code_31) rfl (tlt ((own_ltN k 48 (by omega) (by decide)).mpr hn31_14)).1 (by decide) (by decide) hr_) ?_
          show Goes p ee below s _ _ _ (s₁.setTop (mkF m 42 #[.val (.int (Int32.ofNat k))] []))
          refine Goes.step (fun _ hr_ => XS.iloadN X0.here hx rfl (hb hby d_method_3_code_42) rfl  hr_) ?_
          show Goes p ee below s _ _ _ (s₁.setTop (mkF m 43 #[.val (.int (Int32.ofNat k))] [(.int (Int32.ofNat k))]))
          refine Goes.step (fun _ hr_ => XS.bipush X0.here hx rfl (hb hby d_method_3_code_43) hr_) ?_
          show Goes p ee below s _ _ _ (s₁.setTop (mkF m 45 #[.val (.int (Int32.ofNat k))] [(.int (46 : Int32)), (.int (Int32.ofNat k))]))
          by_cases hn45_15 : k = 46
          · refine Goes.step (fun _ hr_ => XS.icmpYes X0.here hx rfl (pc0 := 45) (pc' := 66) rfl (hb hby d_method_3_code_45) rfl (teq ((own_eqN k 46 (by omega) (by decide)).mpr hn45_15)).1 (by decide) (by decide) hr_) ?_
            show Goes p ee below s _ _ _ (s₁.setTop (mkF m 66 #[.val (.int (Int32.ofNat k))] []))
            refine Goes.step (fun _ hr_ => XS.iconst X0.here hx rfl (hb hby d_method_3_code_66) hr_) ?_
            show Goes p ee below s _ _ _ (s₁.setTop (mkF m 67 #[.val (.int (Int32.ofNat k))] [(.int (1 : Int32))]))
            refine Goes.step (fun _ hr_ => XS.goto X0.here hx rfl (pc0 := 67) (pc' := 71) rfl (hb hby d_method_3_code_67) (by decide) (by decide) hr_) ?_
            show Goes p ee below s _ _ _ (s₁.setTop (mkF m 71 #[.val (.int (Int32.ofNat k))] [(.int (1 : Int32))]))
            refine Goes.retZ X0 hx Bd.notSynchronized Bd.returns (by simp) rfl (hb hby d_method_3_code_71) (by decide) (by decide) ?_
            exact ⟨own_t (by unfold own_idc; omega), N0, e0⟩
          · refine Goes.step (fun _ hr_ => XS.icmpNo X0.here hx rfl (hb hby d_method_3_code_45) rfl (feq (fun z => hn45_15 ((own_eqN k 46 (by omega) (by decide)).mp z))).1 hr_) ?_
            show Goes p ee below s _ _ _ (s₁.setTop (mkF m 48 #[.val (.int (Int32.ofNat k))] []))
            refine Goes.step (fun _ hr_ => XS.iloadN X0.here hx rfl (hb hby d_method_3_code_48) rfl  hr_) ?_
            show Goes p ee below s _ _ _ (s₁.setTop (mkF m 49 #[.val (.int (Int32.ofNat k))] [(.int (Int32.ofNat k))]))
            refine Goes.step (fun _ hr_ => XS.bipush X0.here hx rfl (hb hby d_method_3_code_49) hr_) ?_
            show Goes p ee below s _ _ _ (s₁.setTop (mkF m 51 #[.val (.int (Int32.ofNat k))] [(.int (95 : Int32)), (.int (Int32.ofNat k))]))
            by_cases hn51_16 : k = 95
            · refine Goes.step (fun _ hr_ => XS.icmpYes X0.here hx rfl (pc0 := 51) (pc' := 66) rfl (hb hby d_method_3_code_51) rfl (teq ((own_eqN k 95 (by omega) (by decide)).mpr hn51_16)).1 (by decide) (by decide) hr_) ?_
              show Goes p ee below s _ _ _ (s₁.setTop (mkF m 66 #[.val (.int (Int32.ofNat k))] []))
              refine Goes.step (fun _ hr_ => XS.iconst X0.here hx rfl (hb hby d_method_3_code_66) hr_) ?_
              show Goes p ee below s _ _ _ (s₁.setTop (mkF m 67 #[.val (.int (Int32.ofNat k))] [(.int (1 : Int32))]))
              refine Goes.step (fun _ hr_ => XS.goto X0.here hx rfl (pc0 := 67) (pc' := 71) rfl (hb hby d_method_3_code_67) (by decide) (by decide) hr_) ?_
              show Goes p ee below s _ _ _ (s₁.setTop (mkF m 71 #[.val (.int (Int32.ofNat k))] [(.int (1 : Int32))]))
              refine Goes.retZ X0 hx Bd.notSynchronized Bd.returns (by simp) rfl (hb hby d_method_3_code_71) (by decide) (by decide) ?_
              exact ⟨own_t (by unfold own_idc; omega), N0, e0⟩
            · refine Goes.step (fun _ hr_ => XS.icmpNo X0.here hx rfl (hb hby d_method_3_code_51) rfl (feq (fun z => hn51_16 ((own_eqN k 95 (by omega) (by decide)).mp z))).1 hr_) ?_
              show Goes p ee below s _ _ _ (s₁.setTop (mkF m 54 #[.val (.int (Int32.ofNat k))] []))
              refine Goes.step (fun _ hr_ => XS.iloadN X0.here hx rfl (hb hby d_method_3_code_54) rfl  hr_) ?_
              show Goes p ee below s _ _ _ (s₁.setTop (mkF m 55 #[.val (.int (Int32.ofNat k))] [(.int (Int32.ofNat k))]))
              refine Goes.step (fun _ hr_ => XS.bipush X0.here hx rfl (hb hby d_method_3_code_55) hr_) ?_
              show Goes p ee below s _ _ _ (s₁.setTop (mkF m 57 #[.val (.int (Int32.ofNat k))] [(.int (58 : Int32)), (.int (Int32.ofNat k))]))
              by_cases hn57_17 : k = 58
              · refine Goes.step (fun _ hr_ => XS.icmpYes X0.here hx rfl (pc0 := 57) (pc' := 66) rfl (hb hby d_method_3_code_57) rfl (teq ((own_eqN k 58 (by omega) (by decide)).mpr hn57_17)).1 (by decide) (by decide) hr_) ?_
                show Goes p ee below s _ _ _ (s₁.setTop (mkF m 66 #[.val (.int (Int32.ofNat k))] []))
                refine Goes.step (fun _ hr_ => XS.iconst X0.here hx rfl (hb hby d_method_3_code_66) hr_) ?_
                show Goes p ee below s _ _ _ (s₁.setTop (mkF m 67 #[.val (.int (Int32.ofNat k))] [(.int (1 : Int32))]))
                refine Goes.step (fun _ hr_ => XS.goto X0.here hx rfl (pc0 := 67) (pc' := 71) rfl (hb hby d_method_3_code_67) (by decide) (by decide) hr_) ?_
                show Goes p ee below s _ _ _ (s₁.setTop (mkF m 71 #[.val (.int (Int32.ofNat k))] [(.int (1 : Int32))]))
                refine Goes.retZ X0 hx Bd.notSynchronized Bd.returns (by simp) rfl (hb hby d_method_3_code_71) (by decide) (by decide) ?_
                exact ⟨own_t (by unfold own_idc; omega), N0, e0⟩
              · refine Goes.step (fun _ hr_ => XS.icmpNo X0.here hx rfl (hb hby d_method_3_code_57) rfl (feq (fun z => hn57_17 ((own_eqN k 58 (by omega) (by decide)).mp z))).1 hr_) ?_
                show Goes p ee below s _ _ _ (s₁.setTop (mkF m 60 #[.val (.int (Int32.ofNat k))] []))
                refine Goes.step (fun _ hr_ => XS.iloadN X0.here hx rfl (hb hby d_method_3_code_60) rfl  hr_) ?_
                show Goes p ee below s _ _ _ (s₁.setTop (mkF m 61 #[.val (.int (Int32.ofNat k))] [(.int (Int32.ofNat k))]))
                refine Goes.step (fun _ hr_ => XS.bipush X0.here hx rfl (hb hby d_method_3_code_61) hr_) ?_
                show Goes p ee below s _ _ _ (s₁.setTop (mkF m 63 #[.val (.int (Int32.ofNat k))] [(.int (45 : Int32)), (.int (Int32.ofNat k))]))
                by_cases hn63_18 : k = 45
                · refine Goes.step (fun _ hr_ => XS.icmpNo X0.here hx rfl (hb hby d_method_3_code_63) rfl (teq ((own_eqN k 45 (by omega) (by decide)).mpr hn63_18)).2 hr_) ?_
                  show Goes p ee below s _ _ _ (s₁.setTop (mkF m 66 #[.val (.int (Int32.ofNat k))] []))
                  refine Goes.step (fun _ hr_ => XS.iconst X0.here hx rfl (hb hby d_method_3_code_66) hr_) ?_
                  show Goes p ee below s _ _ _ (s₁.setTop (mkF m 67 #[.val (.int (Int32.ofNat k))] [(.int (1 : Int32))]))
                  refine Goes.step (fun _ hr_ => XS.goto X0.here hx rfl (pc0 := 67) (pc' := 71) rfl (hb hby d_method_3_code_67) (by decide) (by decide) hr_) ?_
                  show Goes p ee below s _ _ _ (s₁.setTop (mkF m 71 #[.val (.int (Int32.ofNat k))] [(.int (1 : Int32))]))
                  refine Goes.retZ X0 hx Bd.notSynchronized Bd.returns (by simp) rfl (hb hby d_method_3_code_71) (by decide) (by decide) ?_
                  exact ⟨own_t (by unfold own_idc; omega), N0, e0⟩
                · refine Goes.step (fun _ hr_ => XS.icmpYes X0.here hx rfl (pc0 := 63) (pc' := 70) rfl (hb hby d_method_3_code_63) rfl (feq (fun z => hn63_18 ((own_eqN k 45 (by omega) (by decide)).mp z))).2 (by decide) (by decide) hr_) ?_
                  show Goes p ee below s _ _ _ (s₁.setTop (mkF m 70 #[.val (.int (Int32.ofNat k))] []))
                  refine Goes.step (fun _ hr_ => XS.iconst X0.here hx rfl (hb hby d_method_3_code_70) hr_) ?_
                  show Goes p ee below s _ _ _ (s₁.setTop (mkF m 71 #[.val (.int (Int32.ofNat k))] [(.int (0 : Int32))]))
                  refine Goes.retZ X0 hx Bd.notSynchronized Bd.returns (by simp) rfl (hb hby d_method_3_code_71) (by decide) (by decide) ?_
                  exact ⟨own_f (by unfold own_idc; omega), N0, e0⟩
        · refine Goes.step (fun _ hr_ => XS.icmpNo X0.here hx rfl (hb hby d_method_3_code_31) rfl (flt (fun z => hn31_14 ((own_ltN k 48 (by omega) (by decide)).mp z))).1 hr_) ?_
          show Goes p ee below s _ _ _ (s₁.setTop (mkF m 34 #[.val (.int (Int32.ofNat k))] []))
          refine Goes.step (fun _ hr_ => XS.iloadN X0.here hx rfl (hb hby d_method_3_code_34) rfl  hr_) ?_
          show Goes p ee below s _ _ _ (s₁.setTop (mkF m 35 #[.val (.int (Int32.ofNat k))] [(.int (Int32.ofNat k))]))
          refine Goes.step (fun _ hr_ => XS.bipush X0.here hx rfl (hb hby d_method_3_code_35) hr_) ?_
          show Goes p ee below s _ _ _ (s₁.setTop (mkF m 37 #[.val (.int (Int32.ofNat k))] [(.int (57 : Int32)), (.int (Int32.ofNat k))]))
          by_cases hn37_19 : 57 < k
          · refine Goes.step (fun _ hr_ => XS.icmpYes X0.here hx rfl (pc0 := 37) (pc' := 42) rfl (hb hby d_method_3_code_37) rfl (tlt ((own_ltN 57 k (by decide) (by omega)).mpr hn37_19)).2.2.1 (by decide) (by decide) hr_) ?_
            show Goes p ee below s _ _ _ (s₁.setTop (mkF m 42 #[.val (.int (Int32.ofNat k))] []))
            refine Goes.step (fun _ hr_ => XS.iloadN X0.here hx rfl (hb hby d_method_3_code_42) rfl  hr_) ?_
            show Goes p ee below s _ _ _ (s₁.setTop (mkF m 43 #[.val (.int (Int32.ofNat k))] [(.int (Int32.ofNat k))]))
            refine Goes.step (fun _ hr_ => XS.bipush X0.here hx rfl (hb hby d_method_3_code_43) hr_) ?_
            show Goes p ee below s _ _ _ (s₁.setTop (mkF m 45 #[.val (.int (Int32.ofNat k))] [(.int (46 : Int32)), (.int (Int32.ofNat k))]))
            by_cases hn45_20 : k = 46
            · refine Goes.step (fun _ hr_ => XS.icmpYes X0.here hx rfl (pc0 := 45) (pc' := 66) rfl (hb hby d_method_3_code_45) rfl (teq ((own_eqN k 46 (by omega) (by decide)).mpr hn45_20)).1 (by decide) (by decide) hr_) ?_
              show Goes p ee below s _ _ _ (s₁.setTop (mkF m 66 #[.val (.int (Int32.ofNat k))] []))
              refine Goes.step (fun _ hr_ => XS.iconst X0.here hx rfl (hb hby d_method_3_code_66) hr_) ?_
              show Goes p ee below s _ _ _ (s₁.setTop (mkF m 67 #[.val (.int (Int32.ofNat k))] [(.int (1 : Int32))]))
              refine Goes.step (fun _ hr_ => XS.goto X0.here hx rfl (pc0 := 67) (pc' := 71) rfl (hb hby d_method_3_code_67) (by decide) (by decide) hr_) ?_
              show Goes p ee below s _ _ _ (s₁.setTop (mkF m 71 #[.val (.int (Int32.ofNat k))] [(.int (1 : Int32))]))
              refine Goes.retZ X0 hx Bd.notSynchronized Bd.returns (by simp) rfl (hb hby d_method_3_code_71) (by decide) (by decide) ?_
              exact ⟨own_t (by unfold own_idc; omega), N0, e0⟩
            · refine Goes.step (fun _ hr_ => XS.icmpNo X0.here hx rfl (hb hby d_method_3_code_45) rfl (feq (fun z => hn45_20 ((own_eqN k 46 (by omega) (by decide)).mp z))).1 hr_) ?_
              show Goes p ee below s _ _ _ (s₁.setTop (mkF m 48 #[.val (.int (Int32.ofNat k))] []))
              refine Goes.step (fun _ hr_ => XS.iloadN X0.here hx rfl (hb hby d_method_3_code_48) rfl  hr_) ?_
              show Goes p ee below s _ _ _ (s₁.setTop (mkF m 49 #[.val (.int (Int32.ofNat k))] [(.int (Int32.ofNat k))]))
              refine Goes.step (fun _ hr_ => XS.bipush X0.here hx rfl (hb hby d_method_3_code_49) hr_) ?_
              show Goes p ee below s _ _ _ (s₁.setTop (mkF m 51 #[.val (.int (Int32.ofNat k))] [(.int (95 : Int32)), (.int (Int32.ofNat k))]))
              by_cases hn51_21 : k = 95
              · refine Goes.step (fun _ hr_ => XS.icmpYes X0.here hx rfl (pc0 := 51) (pc' := 66) rfl (hb hby d_method_3_code_51) rfl (teq ((own_eqN k 95 (by omega) (by decide)).mpr hn51_21)).1 (by decide) (by decide) hr_) ?_
                show Goes p ee below s _ _ _ (s₁.setTop (mkF m 66 #[.val (.int (Int32.ofNat k))] []))
                refine Goes.step (fun _ hr_ => XS.iconst X0.here hx rfl (hb hby d_method_3_code_66) hr_) ?_
                show Goes p ee below s _ _ _ (s₁.setTop (mkF m 67 #[.val (.int (Int32.ofNat k))] [(.int (1 : Int32))]))
                refine Goes.step (fun _ hr_ => XS.goto X0.here hx rfl (pc0 := 67) (pc' := 71) rfl (hb hby d_method_3_code_67) (by decide) (by decide) hr_) ?_
                show Goes p ee below s _ _ _ (s₁.setTop (mkF m 71 #[.val (.int (Int32.ofNat k))] [(.int (1 : Int32))]))
                refine Goes.retZ X0 hx Bd.notSynchronized Bd.returns (by simp) rfl (hb hby d_method_3_code_71) (by decide) (by decide) ?_
                exact ⟨own_t (by unfold own_idc; omega), N0, e0⟩
              · refine Goes.step (fun _ hr_ => XS.icmpNo X0.here hx rfl (hb hby d_method_3_code_51) rfl (feq (fun z => hn51_21 ((own_eqN k 95 (by omega) (by decide)).mp z))).1 hr_) ?_
                show Goes p ee below s _ _ _ (s₁.setTop (mkF m 54 #[.val (.int (Int32.ofNat k))] []))
                refine Goes.step (fun _ hr_ => XS.iloadN X0.here hx rfl (hb hby d_method_3_code_54) rfl  hr_) ?_
                show Goes p ee below s _ _ _ (s₁.setTop (mkF m 55 #[.val (.int (Int32.ofNat k))] [(.int (Int32.ofNat k))]))
                refine Goes.step (fun _ hr_ => XS.bipush X0.here hx rfl (hb hby d_method_3_code_55) hr_) ?_
                show Goes p ee below s _ _ _ (s₁.setTop (mkF m 57 #[.val (.int (Int32.ofNat k))] [(.int (58 : Int32)), (.int (Int32.ofNat k))]))
                by_cases hn57_22 : k = 58
                · refine Goes.step (fun _ hr_ => XS.icmpYes X0.here hx rfl (pc0 := 57) (pc' := 66) rfl (hb hby d_method_3_code_57) rfl (teq ((own_eqN k 58 (by omega) (by decide)).mpr hn57_22)).1 (by decide) (by decide) hr_) ?_
                  show Goes p ee below s _ _ _ (s₁.setTop (mkF m 66 #[.val (.int (Int32.ofNat k))] []))
                  refine Goes.step (fun _ hr_ => XS.iconst X0.here hx rfl (hb hby d_method_3_code_66) hr_) ?_
                  show Goes p ee below s _ _ _ (s₁.setTop (mkF m 67 #[.val (.int (Int32.ofNat k))] [(.int (1 : Int32))]))
                  refine Goes.step (fun _ hr_ => XS.goto X0.here hx rfl (pc0 := 67) (pc' := 71) rfl (hb hby d_method_3_code_67) (by decide) (by decide) hr_) ?_
                  show Goes p ee below s _ _ _ (s₁.setTop (mkF m 71 #[.val (.int (Int32.ofNat k))] [(.int (1 : Int32))]))
                  refine Goes.retZ X0 hx Bd.notSynchronized Bd.returns (by simp) rfl (hb hby d_method_3_code_71) (by decide) (by decide) ?_
                  exact ⟨own_t (by unfold own_idc; omega), N0, e0⟩
                · refine Goes.step (fun _ hr_ => XS.icmpNo X0.here hx rfl (hb hby d_method_3_code_57) rfl (feq (fun z => hn57_22 ((own_eqN k 58 (by omega) (by decide)).mp z))).1 hr_) ?_
                  show Goes p ee below s _ _ _ (s₁.setTop (mkF m 60 #[.val (.int (Int32.ofNat k))] []))
                  refine Goes.step (fun _ hr_ => XS.iloadN X0.here hx rfl (hb hby d_method_3_code_60) rfl  hr_) ?_
                  show Goes p ee below s _ _ _ (s₁.setTop (mkF m 61 #[.val (.int (Int32.ofNat k))] [(.int (Int32.ofNat k))]))
                  refine Goes.step (fun _ hr_ => XS.bipush X0.here hx rfl (hb hby d_method_3_code_61) hr_) ?_
                  show Goes p ee below s _ _ _ (s₁.setTop (mkF m 63 #[.val (.int (Int32.ofNat k))] [(.int (45 : Int32)), (.int (Int32.ofNat k))]))
                  by_cases hn63_23 : k = 45
                  · refine Goes.step (fun _ hr_ => XS.icmpNo X0.here hx rfl (hb hby d_method_3_code_63) rfl (teq ((own_eqN k 45 (by omega) (by decide)).mpr hn63_23)).2 hr_) ?_
                    show Goes p ee below s _ _ _ (s₁.setTop (mkF m 66 #[.val (.int (Int32.ofNat k))] []))
                    refine Goes.step (fun _ hr_ => XS.iconst X0.here hx rfl (hb hby d_method_3_code_66) hr_) ?_
                    show Goes p ee below s _ _ _ (s₁.setTop (mkF m 67 #[.val (.int (Int32.ofNat k))] [(.int (1 : Int32))]))
                    refine Goes.step (fun _ hr_ => XS.goto X0.here hx rfl (pc0 := 67) (pc' := 71) rfl (hb hby d_method_3_code_67) (by decide) (by decide) hr_) ?_
                    show Goes p ee below s _ _ _ (s₁.setTop (mkF m 71 #[.val (.int (Int32.ofNat k))] [(.int (1 : Int32))]))
                    refine Goes.retZ X0 hx Bd.notSynchronized Bd.returns (by simp) rfl (hb hby d_method_3_code_71) (by decide) (by decide) ?_
                    exact ⟨own_t (by unfold own_idc; omega), N0, e0⟩
                  · refine Goes.step (fun _ hr_ => XS.icmpYes X0.here hx rfl (pc0 := 63) (pc' := 70) rfl (hb hby d_method_3_code_63) rfl (feq (fun z => hn63_23 ((own_eqN k 45 (by omega) (by decide)).mp z))).2 (by decide) (by decide) hr_) ?_
                    show Goes p ee below s _ _ _ (s₁.setTop (mkF m 70 #[.val (.int (Int32.ofNat k))] []))
                    refine Goes.step (fun _ hr_ => XS.iconst X0.here hx rfl (hb hby d_method_3_code_70) hr_) ?_
                    show Goes p ee below s _ _ _ (s₁.setTop (mkF m 71 #[.val (.int (Int32.ofNat k))] [(.int (0 : Int32))]))
                    refine Goes.retZ X0 hx Bd.notSynchronized Bd.returns (by simp) rfl (hb hby d_method_3_code_71) (by decide) (by decide) ?_
                    exact ⟨own_f (by unfold own_idc; omega), N0, e0⟩
          · refine Goes.step (fun _ hr_ => XS.icmpNo X0.here hx rfl (hb hby d_method_3_code_37) rfl (flt (fun z => hn37_19 ((own_ltN 57 k (by decide) (by omega)).mp z))).2.2.1 hr_) ?_
            show Goes p ee below s _ _ _ (s₁.setTop (mkF m 40 #[.val (.int (Int32.ofNat k))] []))
            refine Goes.step (fun _ hr_ => XS.iconst X0.here hx rfl (hb hby d_method_3_code_40) hr_) ?_
            show Goes p ee below s _ _ _ (s₁.setTop (mkF m 41 #[.val (.int (Int32.ofNat k))] [(.int (1 : Int32))]))
            refine Goes.retZ X0 hx Bd.notSynchronized Bd.returns (by simp) rfl (hb hby d_method_3_code_41) (by decide) (by decide) ?_
            exact ⟨own_t (by unfold own_idc; omega), N0, e0⟩
      · refine Goes.step (fun _ hr_ => XS.icmpNo X0.here hx rfl (hb hby d_method_3_code_23) rfl (flt (fun z => hn23_13 ((own_ltN 122 k (by decide) (by omega)).mp z))).2.2.1 hr_) ?_
        show Goes p ee below s _ _ _ (s₁.setTop (mkF m 26 #[.val (.int (Int32.ofNat k))] []))
        refine Goes.step (fun _ hr_ => XS.iconst X0.here hx rfl (hb hby d_method_3_code_26) hr_) ?_
        show Goes p ee below s _ _ _ (s₁.setTop (mkF m 27 #[.val (.int (Int32.ofNat k))] [(.int (1 : Int32))]))
        refine Goes.retZ X0 hx Bd.notSynchronized Bd.returns (by simp) rfl (hb hby d_method_3_code_27) (by decide) (by decide) ?_
        exact ⟨own_t (by unfold own_idc; omega), N0, e0⟩
  · refine Goes.step (fun _ hr_ => XS.icmpNo X0.here hx rfl (hb hby d_method_3_code_3) rfl (flt (fun z => hn3_1 ((own_ltN k 65 (by omega) (by decide)).mp z))).1 hr_) ?_
    show Goes p ee below s _ _ _ (s₁.setTop (mkF m 6 #[.val (.int (Int32.ofNat k))] []))
    refine Goes.step (fun _ hr_ => XS.iloadN X0.here hx rfl (hb hby d_method_3_code_6) rfl  hr_) ?_
    show Goes p ee below s _ _ _ (s₁.setTop (mkF m 7 #[.val (.int (Int32.ofNat k))] [(.int (Int32.ofNat k))]))
    refine Goes.step (fun _ hr_ => XS.bipush X0.here hx rfl (hb hby d_method_3_code_7) hr_) ?_
    show Goes p ee below s _ _ _ (s₁.setTop (mkF m 9 #[.val (.int (Int32.ofNat k))] [(.int (90 : Int32)), (.int (Int32.ofNat k))]))
    by_cases hn9_24 : 90 < k
    · refine Goes.step (fun _ hr_ => XS.icmpYes X0.here hx rfl (pc0 := 9) (pc' := 14) rfl (hb hby d_method_3_code_9) rfl (tlt ((own_ltN 90 k (by decide) (by omega)).mpr hn9_24)).2.2.1 (by decide) (by decide) hr_) ?_
      show Goes p ee below s _ _ _ (s₁.setTop (mkF m 14 #[.val (.int (Int32.ofNat k))] []))
      refine Goes.step (fun _ hr_ => XS.iloadN X0.here hx rfl (hb hby d_method_3_code_14) rfl  hr_) ?_
      show Goes p ee below s _ _ _ (s₁.setTop (mkF m 15 #[.val (.int (Int32.ofNat k))] [(.int (Int32.ofNat k))]))
      refine Goes.step (fun _ hr_ => XS.bipush X0.here hx rfl (hb hby d_method_3_code_15) hr_) ?_
      show Goes p ee below s _ _ _ (s₁.setTop (mkF m 17 #[.val (.int (Int32.ofNat k))] [(.int (97 : Int32)), (.int (Int32.ofNat k))]))
      by_cases hn17_25 : k < 97
      · refine Goes.step (fun _ hr_ => XS.icmpYes X0.here hx rfl (pc0 := 17) (pc' := 28) rfl (hb hby d_method_3_code_17) rfl (tlt ((own_ltN k 97 (by omega) (by decide)).mpr hn17_25)).1 (by decide) (by decide) hr_) ?_
        show Goes p ee below s _ _ _ (s₁.setTop (mkF m 28 #[.val (.int (Int32.ofNat k))] []))
        refine Goes.step (fun _ hr_ => XS.iloadN X0.here hx rfl (hb hby d_method_3_code_28) rfl  hr_) ?_
        show Goes p ee below s _ _ _ (s₁.setTop (mkF m 29 #[.val (.int (Int32.ofNat k))] [(.int (Int32.ofNat k))]))
        refine Goes.step (fun _ hr_ => XS.bipush X0.here hx rfl (hb hby d_method_3_code_29) hr_) ?_
        show Goes p ee below s _ _ _ (s₁.setTop (mkF m 31 #[.val (.int (Int32.ofNat k))] [(.int (48 : Int32)), (.int (Int32.ofNat k))]))
        by_cases hn31_26 : k < 48
        · refine Goes.step (fun _ hr_ => XS.icmpYes X0.here hx rfl (pc0 := 31) (pc' := 42) rfl (hb hby d_method_3_code_31) rfl (tlt ((own_ltN k 48 (by omega) (by decide)).mpr hn31_26)).1 (by decide) (by decide) hr_) ?_
          show Goes p ee below s _ _ _ (s₁.setTop (mkF m 42 #[.val (.int (Int32.ofNat k))] []))
          refine Goes.step (fun _ hr_ => XS.iloadN X0.here hx rfl (hb hby d_method_3_code_42) rfl  hr_) ?_
          show Goes p ee below s _ _ _ (s₁.setTop (mkF m 43 #[.val (.int (Int32.ofNat k))] [(.int (Int32.ofNat k))]))
          refine Goes.step (fun _ hr_ => XS.bipush X0.here hx rfl (hb hby d_method_3_code_43) hr_) ?_
          show Goes p ee below s _ _ _ (s₁.setTop (mkF m 45 #[.val (.int (Int32.ofNat k))] [(.int (46 : Int32)), (.int (Int32.ofNat k))]))
          by_cases hn45_27 : k = 46
          · refine Goes.step (fun _ hr_ => XS.icmpYes X0.here hx rfl (pc0 := 45) (pc' := 66) rfl (hb hby d_method_3_code_45) rfl (teq ((own_eqN k 46 (by omega) (by decide)).mpr hn45_27)).1 (by decide) (by decide) hr_) ?_
            show Goes p ee below s _ _ _ (s₁.setTop (mkF m 66 #[.val (.int (Int32.ofNat k))] []))
            refine Goes.step (fun _ hr_ => XS.iconst X0.here hx rfl (hb hby d_method_3_code_66) hr_) ?_
            show Goes p ee below s _ _ _ (s₁.setTop (mkF m 67 #[.val (.int (Int32.ofNat k))] [(.int (1 : Int32))]))
            refine Goes.step (fun _ hr_ => XS.goto X0.here hx rfl (pc0 := 67) (pc' := 71) rfl (hb hby d_method_3_code_67) (by decide) (by decide) hr_) ?_
            show Goes p ee below s _ _ _ (s₁.setTop (mkF m 71 #[.val (.int (Int32.ofNat k))] [(.int (1 : Int32))]))
            refine Goes.retZ X0 hx Bd.notSynchronized Bd.returns (by simp) rfl (hb hby d_method_3_code_71) (by decide) (by decide) ?_
            exact ⟨own_t (by unfold own_idc; omega), N0, e0⟩
          · refine Goes.step (fun _ hr_ => XS.icmpNo X0.here hx rfl (hb hby d_method_3_code_45) rfl (feq (fun z => hn45_27 ((own_eqN k 46 (by omega) (by decide)).mp z))).1 hr_) ?_
            show Goes p ee below s _ _ _ (s₁.setTop (mkF m 48 #[.val (.int (Int32.ofNat k))] []))
            refine Goes.step (fun _ hr_ => XS.iloadN X0.here hx rfl (hb hby d_method_3_code_48) rfl  hr_) ?_
            show Goes p ee below s _ _ _ (s₁.setTop (mkF m 49 #[.val (.int (Int32.ofNat k))] [(.int (Int32.ofNat k))]))
            refine Goes.step (fun _ hr_ => XS.bipush X0.here hx rfl (hb hby d_method_3_code_49) hr_) ?_
            show Goes p ee below s _ _ _ (s₁.setTop (mkF m 51 #[.val (.int (Int32.ofNat k))] [(.int (95 : Int32)), (.int (Int32.ofNat k))]))
            by_cases hn51_28 : k = 95
            · refine Goes.step (fun _ hr_ => XS.icmpYes X0.here hx rfl (pc0 := 51) (pc' := 66) rfl (hb hby d_method_3_code_51) rfl (teq ((own_eqN k 95 (by omega) (by decide)).mpr hn51_28)).1 (by decide) (by decide) hr_) ?_
              show Goes p ee below s _ _ _ (s₁.setTop (mkF m 66 #[.val (.int (Int32.ofNat k))] []))
              refine Goes.step (fun _ hr_ => XS.iconst X0.here hx rfl (hb hby d_method_3_code_66) hr_) ?_
              show Goes p ee below s _ _ _ (s₁.setTop (mkF m 67 #[.val (.int (Int32.ofNat k))] [(.int (1 : Int32))]))
              refine Goes.step (fun _ hr_ => XS.goto X0.here hx rfl (pc0 := 67) (pc' := 71) rfl (hb hby d_method_3_code_67) (by decide) (by decide) hr_) ?_
              show Goes p ee below s _ _ _ (s₁.setTop (mkF m 71 #[.val (.int (Int32.ofNat k))] [(.int (1 : Int32))]))
              refine Goes.retZ X0 hx Bd.notSynchronized Bd.returns (by simp) rfl (hb hby d_method_3_code_71) (by decide) (by decide) ?_
              exact ⟨own_t (by unfold own_idc; omega), N0, e0⟩
            · refine Goes.step (fun _ hr_ => XS.icmpNo X0.here hx rfl (hb hby d_method_3_code_51) rfl (feq (fun z => hn51_28 ((own_eqN k 95 (by omega) (by decide)).mp z))).1 hr_) ?_
              show Goes p ee below s _ _ _ (s₁.setTop (mkF m 54 #[.val (.int (Int32.ofNat k))] []))
              refine Goes.step (fun _ hr_ => XS.iloadN X0.here hx rfl (hb hby d_method_3_code_54) rfl  hr_) ?_
              show Goes p ee below s _ _ _ (s₁.setTop (mkF m 55 #[.val (.int (Int32.ofNat k))] [(.int (Int32.ofNat k))]))
              refine Goes.step (fun _ hr_ => XS.bipush X0.here hx rfl (hb hby d_method_3_code_55) hr_) ?_
              show Goes p ee below s _ _ _ (s₁.setTop (mkF m 57 #[.val (.int (Int32.ofNat k))] [(.int (58 : Int32)), (.int (Int32.ofNat k))]))
              by_cases hn57_29 : k = 58
              · refine Goes.step (fun _ hr_ => XS.icmpYes X0.here hx rfl (pc0 := 57) (pc' := 66) rfl (hb hby d_method_3_code_57) rfl (teq ((own_eqN k 58 (by omega) (by decide)).mpr hn57_29)).1 (by decide) (by decide) hr_) ?_
                show Goes p ee below s _ _ _ (s₁.setTop (mkF m 66 #[.val (.int (Int32.ofNat k))] []))
                refine Goes.step (fun _ hr_ => XS.iconst X0.here hx rfl (hb hby d_method_3_code_66) hr_) ?_
                show Goes p ee below s _ _ _ (s₁.setTop (mkF m 67 #[.val (.int (Int32.ofNat k))] [(.int (1 : Int32))]))
                refine Goes.step (fun _ hr_ => XS.goto X0.here hx rfl (pc0 := 67) (pc' := 71) rfl (hb hby d_method_3_code_67) (by decide) (by decide) hr_) ?_
                show Goes p ee below s _ _ _ (s₁.setTop (mkF m 71 #[.val (.int (Int32.ofNat k))] [(.int (1 : Int32))]))
                refine Goes.retZ X0 hx Bd.notSynchronized Bd.returns (by simp) rfl (hb hby d_method_3_code_71) (by decide) (by decide) ?_
                exact ⟨own_t (by unfold own_idc; omega), N0, e0⟩
              · refine Goes.step (fun _ hr_ => XS.icmpNo X0.here hx rfl (hb hby d_method_3_code_57) rfl (feq (fun z => hn57_29 ((own_eqN k 58 (by omega) (by decide)).mp z))).1 hr_) ?_
                show Goes p ee below s _ _ _ (s₁.setTop (mkF m 60 #[.val (.int (Int32.ofNat k))] []))
                refine Goes.step (fun _ hr_ => XS.iloadN X0.here hx rfl (hb hby d_method_3_code_60) rfl  hr_) ?_
                show Goes p ee below s _ _ _ (s₁.setTop (mkF m 61 #[.val (.int (Int32.ofNat k))] [(.int (Int32.ofNat k))]))
                refine Goes.step (fun _ hr_ => XS.bipush X0.here hx rfl (hb hby d_method_3_code_61) hr_) ?_
                show Goes p ee below s _ _ _ (s₁.setTop (mkF m 63 #[.val (.int (Int32.ofNat k))] [(.int (45 : Int32)), (.int (Int32.ofNat k))]))
                by_cases hn63_30 : k = 45
                · refine Goes.step (fun _ hr_ => XS.icmpNo X0.here hx rfl (hb hby d_method_3_code_63) rfl (teq ((own_eqN k 45 (by omega) (by decide)).mpr hn63_30)).2 hr_) ?_
                  show Goes p ee below s _ _ _ (s₁.setTop (mkF m 66 #[.val (.int (Int32.ofNat k))] []))
                  refine Goes.step (fun _ hr_ => XS.iconst X0.here hx rfl (hb hby d_method_3_code_66) hr_) ?_
                  show Goes p ee below s _ _ _ (s₁.setTop (mkF m 67 #[.val (.int (Int32.ofNat k))] [(.int (1 : Int32))]))
                  refine Goes.step (fun _ hr_ => XS.goto X0.here hx rfl (pc0 := 67) (pc' := 71) rfl (hb hby d_method_3_code_67) (by decide) (by decide) hr_) ?_
                  show Goes p ee below s _ _ _ (s₁.setTop (mkF m 71 #[.val (.int (Int32.ofNat k))] [(.int (1 : Int32))]))
                  refine Goes.retZ X0 hx Bd.notSynchronized Bd.returns (by simp) rfl (hb hby d_method_3_code_71) (by decide) (by decide) ?_
                  exact ⟨own_t (by unfold own_idc; omega), N0, e0⟩
                · refine Goes.step (fun _ hr_ => XS.icmpYes X0.here hx rfl (pc0 := 63) (pc' := 70) rfl (hb hby d_method_3_code_63) rfl (feq (fun z => hn63_30 ((own_eqN k 45 (by omega) (by decide)).mp z))).2 (by decide) (by decide) hr_) ?_
                  show Goes p ee below s _ _ _ (s₁.setTop (mkF m 70 #[.val (.int (Int32.ofNat k))] []))
                  refine Goes.step (fun _ hr_ => XS.iconst X0.here hx rfl (hb hby d_method_3_code_70) hr_) ?_
                  show Goes p ee below s _ _ _ (s₁.setTop (mkF m 71 #[.val (.int (Int32.ofNat k))] [(.int (0 : Int32))]))
                  refine Goes.retZ X0 hx Bd.notSynchronized Bd.returns (by simp) rfl (hb hby d_method_3_code_71) (by decide) (by decide) ?_
                  exact ⟨own_f (by unfold own_idc; omega), N0, e0⟩
        · refine Goes.step (fun _ hr_ => XS.icmpNo X0.here hx rfl (hb hby d_method_3_code_31) rfl (flt (fun z => hn31_26 ((own_ltN k 48 (by omega) (by decide)).mp z))).1 hr_) ?_
          show Goes p ee below s _ _ _ (s₁.setTop (mkF m 34 #[.val (.int (Int32.ofNat k))] []))
          refine Goes.step (fun _ hr_ => XS.iloadN X0.here hx rfl (hb hby d_method_3_code_34) rfl  hr_) ?_
          show Goes p ee below s _ _ _ (s₁.setTop (mkF m 35 #[.val (.int (Int32.ofNat k))] [(.int (Int32.ofNat k))]))
          refine Goes.step (fun _ hr_ => XS.bipush X0.here hx rfl (hb hby d_method_3_code_35) hr_) ?_
          show Goes p ee below s _ _ _ (s₁.setTop (mkF m 37 #[.val (.int (Int32.ofNat k))] [(.int (57 : Int32)), (.int (Int32.ofNat k))]))
          by_cases hn37_31 : 57 < k
          · refine Goes.step (fun _ hr_ => XS.icmpYes X0.here hx rfl (pc0 := 37) (pc' := 42) rfl (hb hby d_method_3_code_37) rfl (tlt ((own_ltN 57 k (by decide) (by omega)).mpr hn37_31)).2.2.1 (by decide) (by decide) hr_) ?_
            show Goes p ee below s _ _ _ (s₁.setTop (mkF m 42 #[.val (.int (Int32.ofNat k))] []))
            refine Goes.step (fun _ hr_ => XS.iloadN X0.here hx rfl (hb hby d_method_3_code_42) rfl  hr_) ?_
            show Goes p ee below s _ _ _ (s₁.setTop (mkF m 43 #[.val (.int (Int32.ofNat k))] [(.int (Int32.ofNat k))]))
            refine Goes.step (fun _ hr_ => XS.bipush X0.here hx rfl (hb hby d_method_3_code_43) hr_) ?_
            show Goes p ee below s _ _ _ (s₁.setTop (mkF m 45 #[.val (.int (Int32.ofNat k))] [(.int (46 : Int32)), (.int (Int32.ofNat k))]))
            by_cases hn45_32 : k = 46
            · refine Goes.step (fun _ hr_ => XS.icmpYes X0.here hx rfl (pc0 := 45) (pc' := 66) rfl (hb hby d_method_3_code_45) rfl (teq ((own_eqN k 46 (by omega) (by decide)).mpr hn45_32)).1 (by decide) (by decide) hr_) ?_
              show Goes p ee below s _ _ _ (s₁.setTop (mkF m 66 #[.val (.int (Int32.ofNat k))] []))
              refine Goes.step (fun _ hr_ => XS.iconst X0.here hx rfl (hb hby d_method_3_code_66) hr_) ?_
              show Goes p ee below s _ _ _ (s₁.setTop (mkF m 67 #[.val (.int (Int32.ofNat k))] [(.int (1 : Int32))]))
              refine Goes.step (fun _ hr_ => XS.goto X0.here hx rfl (pc0 := 67) (pc' := 71) rfl (hb hby d_method_3_code_67) (by decide) (by decide) hr_) ?_
              show Goes p ee below s _ _ _ (s₁.setTop (mkF m 71 #[.val (.int (Int32.ofNat k))] [(.int (1 : Int32))]))
              refine Goes.retZ X0 hx Bd.notSynchronized Bd.returns (by simp) rfl (hb hby d_method_3_code_71) (by decide) (by decide) ?_
              exact ⟨own_t (by unfold own_idc; omega), N0, e0⟩
            · refine Goes.step (fun _ hr_ => XS.icmpNo X0.here hx rfl (hb hby d_method_3_code_45) rfl (feq (fun z => hn45_32 ((own_eqN k 46 (by omega) (by decide)).mp z))).1 hr_) ?_
              show Goes p ee below s _ _ _ (s₁.setTop (mkF m 48 #[.val (.int (Int32.ofNat k))] []))
              refine Goes.step (fun _ hr_ => XS.iloadN X0.here hx rfl (hb hby d_method_3_code_48) rfl  hr_) ?_
              show Goes p ee below s _ _ _ (s₁.setTop (mkF m 49 #[.val (.int (Int32.ofNat k))] [(.int (Int32.ofNat k))]))
              refine Goes.step (fun _ hr_ => XS.bipush X0.here hx rfl (hb hby d_method_3_code_49) hr_) ?_
              show Goes p ee below s _ _ _ (s₁.setTop (mkF m 51 #[.val (.int (Int32.ofNat k))] [(.int (95 : Int32)), (.int (Int32.ofNat k))]))
              by_cases hn51_33 : k = 95
              · refine Goes.step (fun _ hr_ => XS.icmpYes X0.here hx rfl (pc0 := 51) (pc' := 66) rfl (hb hby d_method_3_code_51) rfl (teq ((own_eqN k 95 (by omega) (by decide)).mpr hn51_33)).1 (by decide) (by decide) hr_) ?_
                show Goes p ee below s _ _ _ (s₁.setTop (mkF m 66 #[.val (.int (Int32.ofNat k))] []))
                refine Goes.step (fun _ hr_ => XS.iconst X0.here hx rfl (hb hby d_method_3_code_66) hr_) ?_
                show Goes p ee below s _ _ _ (s₁.setTop (mkF m 67 #[.val (.int (Int32.ofNat k))] [(.int (1 : Int32))]))
                refine Goes.step (fun _ hr_ => XS.goto X0.here hx rfl (pc0 := 67) (pc' := 71) rfl (hb hby d_method_3_code_67) (by decide) (by decide) hr_) ?_
                show Goes p ee below s _ _ _ (s₁.setTop (mkF m 71 #[.val (.int (Int32.ofNat k))] [(.int (1 : Int32))]))
                refine Goes.retZ X0 hx Bd.notSynchronized Bd.returns (by simp) rfl (hb hby d_method_3_code_71) (by decide) (by decide) ?_
                exact ⟨own_t (by unfold own_idc; omega), N0, e0⟩
              · refine Goes.step (fun _ hr_ => XS.icmpNo X0.here hx rfl (hb hby d_method_3_code_51) rfl (feq (fun z => hn51_33 ((own_eqN k 95 (by omega) (by decide)).mp z))).1 hr_) ?_
                show Goes p ee below s _ _ _ (s₁.setTop (mkF m 54 #[.val (.int (Int32.ofNat k))] []))
                refine Goes.step (fun _ hr_ => XS.iloadN X0.here hx rfl (hb hby d_method_3_code_54) rfl  hr_) ?_
                show Goes p ee below s _ _ _ (s₁.setTop (mkF m 55 #[.val (.int (Int32.ofNat k))] [(.int (Int32.ofNat k))]))
                refine Goes.step (fun _ hr_ => XS.bipush X0.here hx rfl (hb hby d_method_3_code_55) hr_) ?_
                show Goes p ee below s _ _ _ (s₁.setTop (mkF m 57 #[.val (.int (Int32.ofNat k))] [(.int (58 : Int32)), (.int (Int32.ofNat k))]))
                by_cases hn57_34 : k = 58
                · refine Goes.step (fun _ hr_ => XS.icmpYes X0.here hx rfl (pc0 := 57) (pc' := 66) rfl (hb hby d_method_3_code_57) rfl (teq ((own_eqN k 58 (by omega) (by decide)).mpr hn57_34)).1 (by decide) (by decide) hr_) ?_
                  show Goes p ee below s _ _ _ (s₁.setTop (mkF m 66 #[.val (.int (Int32.ofNat k))] []))
                  refine Goes.step (fun _ hr_ => XS.iconst X0.here hx rfl (hb hby d_method_3_code_66) hr_) ?_
                  show Goes p ee below s _ _ _ (s₁.setTop (mkF m 67 #[.val (.int (Int32.ofNat k))] [(.int (1 : Int32))]))
                  refine Goes.step (fun _ hr_ => XS.goto X0.here hx rfl (pc0 := 67) (pc' := 71) rfl (hb hby d_method_3_code_67) (by decide) (by decide) hr_) ?_
                  show Goes p ee below s _ _ _ (s₁.setTop (mkF m 71 #[.val (.int (Int32.ofNat k))] [(.int (1 : Int32))]))
                  refine Goes.retZ X0 hx Bd.notSynchronized Bd.returns (by simp) rfl (hb hby d_method_3_code_71) (by decide) (by decide) ?_
                  exact ⟨own_t (by unfold own_idc; omega), N0, e0⟩
                · refine Goes.step (fun _ hr_ => XS.icmpNo X0.here hx rfl (hb hby d_method_3_code_57) rfl (feq (fun z => hn57_34 ((own_eqN k 58 (by omega) (by decide)).mp z))).1 hr_) ?_
                  show Goes p ee below s _ _ _ (s₁.setTop (mkF m 60 #[.val (.int (Int32.ofNat k))] []))
                  refine Goes.step (fun _ hr_ => XS.iloadN X0.here hx rfl (hb hby d_method_3_code_60) rfl  hr_) ?_
                  show Goes p ee below s _ _ _ (s₁.setTop (mkF m 61 #[.val (.int (Int32.ofNat k))] [(.int (Int32.ofNat k))]))
                  refine Goes.step (fun _ hr_ => XS.bipush X0.here hx rfl (hb hby d_method_3_code_61) hr_) ?_
                  show Goes p ee below s _ _ _ (s₁.setTop (mkF m 63 #[.val (.int (Int32.ofNat k))] [(.int (45 : Int32)), (.int (Int32.ofNat k))]))
                  by_cases hn63_35 : k = 45
                  · refine Goes.step (fun _ hr_ => XS.icmpNo X0.here hx rfl (hb hby d_method_3_code_63) rfl (teq ((own_eqN k 45 (by omega) (by decide)).mpr hn63_35)).2 hr_) ?_
                    show Goes p ee below s _ _ _ (s₁.setTop (mkF m 66 #[.val (.int (Int32.ofNat k))] []))
                    refine Goes.step (fun _ hr_ => XS.iconst X0.here hx rfl (hb hby d_method_3_code_66) hr_) ?_
                    show Goes p ee below s _ _ _ (s₁.setTop (mkF m 67 #[.val (.int (Int32.ofNat k))] [(.int (1 : Int32))]))
                    refine Goes.step (fun _ hr_ => XS.goto X0.here hx rfl (pc0 := 67) (pc' := 71) rfl (hb hby d_method_3_code_67) (by decide) (by decide) hr_) ?_
                    show Goes p ee below s _ _ _ (s₁.setTop (mkF m 71 #[.val (.int (Int32.ofNat k))] [(.int (1 : Int32))]))
                    refine Goes.retZ X0 hx Bd.notSynchronized Bd.returns (by simp) rfl (hb hby d_method_3_code_71) (by decide) (by decide) ?_
                    exact ⟨own_t (by unfold own_idc; omega), N0, e0⟩
                  · refine Goes.step (fun _ hr_ => XS.icmpYes X0.here hx rfl (pc0 := 63) (pc' := 70) rfl (hb hby d_method_3_code_63) rfl (feq (fun z => hn63_35 ((own_eqN k 45 (by omega) (by decide)).mp z))).2 (by decide) (by decide) hr_) ?_
                    show Goes p ee below s _ _ _ (s₁.setTop (mkF m 70 #[.val (.int (Int32.ofNat k))] []))
                    refine Goes.step (fun _ hr_ => XS.iconst X0.here hx rfl (hb hby d_method_3_code_70) hr_) ?_
                    show Goes p ee below s _ _ _ (s₁.setTop (mkF m 71 #[.val (.int (Int32.ofNat k))] [(.int (0 : Int32))]))
                    refine Goes.retZ X0 hx Bd.notSynchronized Bd.returns (by simp) rfl (hb hby d_method_3_code_71) (by decide) (by decide) ?_
                    exact ⟨own_f (by unfold own_idc; omega), N0, e0⟩
          · refine Goes.step (fun _ hr_ => XS.icmpNo X0.here hx rfl (hb hby d_method_3_code_37) rfl (flt (fun z => hn37_31 ((own_ltN 57 k (by decide) (by omega)).mp z))).2.2.1 hr_) ?_
            show Goes p ee below s _ _ _ (s₁.setTop (mkF m 40 #[.val (.int (Int32.ofNat k))] []))
            refine Goes.step (fun _ hr_ => XS.iconst X0.here hx rfl (hb hby d_method_3_code_40) hr_) ?_
            show Goes p ee below s _ _ _ (s₁.setTop (mkF m 41 #[.val (.int (Int32.ofNat k))] [(.int (1 : Int32))]))
            refine Goes.retZ X0 hx Bd.notSynchronized Bd.returns (by simp) rfl (hb hby d_method_3_code_41) (by decide) (by decide) ?_
            exact ⟨own_t (by unfold own_idc; omega), N0, e0⟩
      · refine Goes.step (fun _ hr_ => XS.icmpNo X0.here hx rfl (hb hby d_method_3_code_17) rfl (flt (fun z => hn17_25 ((own_ltN k 97 (by omega) (by decide)).mp z))).1 hr_) ?_
        show Goes p ee below s _ _ _ (s₁.setTop (mkF m 20 #[.val (.int (Int32.ofNat k))] []))
        refine Goes.step (fun _ hr_ => XS.iloadN X0.here hx rfl (hb hby d_method_3_code_20) rfl  hr_) ?_
        show Goes p ee below s _ _ _ (s₁.setTop (mkF m 21 #[.val (.int (Int32.ofNat k))] [(.int (Int32.ofNat k))]))
        refine Goes.step (fun _ hr_ => XS.bipush X0.here hx rfl (hb hby d_method_3_code_21) hr_) ?_
        show Goes p ee below s _ _ _ (s₁.setTop (mkF m 23 #[.val (.int (Int32.ofNat k))] [(.int (122 : Int32)), (.int (Int32.ofNat k))]))
        by_cases hn23_36 : 122 < k
        · refine Goes.step (fun _ hr_ => XS.icmpYes X0.here hx rfl (pc0 := 23) (pc' := 28) rfl (hb hby d_method_3_code_23) rfl (tlt ((own_ltN 122 k (by decide) (by omega)).mpr hn23_36)).2.2.1 (by decide) (by decide) hr_) ?_
          show Goes p ee below s _ _ _ (s₁.setTop (mkF m 28 #[.val (.int (Int32.ofNat k))] []))
          refine Goes.step (fun _ hr_ => XS.iloadN X0.here hx rfl (hb hby d_method_3_code_28) rfl  hr_) ?_
          show Goes p ee below s _ _ _ (s₁.setTop (mkF m 29 #[.val (.int (Int32.ofNat k))] [(.int (Int32.ofNat k))]))
          refine Goes.step (fun _ hr_ => XS.bipush X0.here hx rfl (hb hby d_method_3_code_29) hr_) ?_
          show Goes p ee below s _ _ _ (s₁.setTop (mkF m 31 #[.val (.int (Int32.ofNat k))] [(.int (48 : Int32)), (.int (Int32.ofNat k))]))
          by_cases hn31_37 : k < 48
          · refine Goes.step (fun _ hr_ => XS.icmpYes X0.here hx rfl (pc0 := 31) (pc' := 42) rfl (hb hby d_method_3_code_31) rfl (tlt ((own_ltN k 48 (by omega) (by decide)).mpr hn31_37)).1 (by decide) (by decide) hr_) ?_
            show Goes p ee below s _ _ _ (s₁.setTop (mkF m 42 #[.val (.int (Int32.ofNat k))] []))
            refine Goes.step (fun _ hr_ => XS.iloadN X0.here hx rfl (hb hby d_method_3_code_42) rfl  hr_) ?_
            show Goes p ee below s _ _ _ (s₁.setTop (mkF m 43 #[.val (.int (Int32.ofNat k))] [(.int (Int32.ofNat k))]))
            refine Goes.step (fun _ hr_ => XS.bipush X0.here hx rfl (hb hby d_method_3_code_43) hr_) ?_
            show Goes p ee below s _ _ _ (s₁.setTop (mkF m 45 #[.val (.int (Int32.ofNat k))] [(.int (46 : Int32)), (.int (Int32.ofNat k))]))
            by_cases hn45_38 : k = 46
            · refine Goes.step (fun _ hr_ => XS.icmpYes X0.here hx rfl (pc0 := 45) (pc' := 66) rfl (hb hby d_method_3_code_45) rfl (teq ((own_eqN k 46 (by omega) (by decide)).mpr hn45_38)).1 (by decide) (by decide) hr_) ?_
              show Goes p ee below s _ _ _ (s₁.setTop (mkF m 66 #[.val (.int (Int32.ofNat k))] []))
              refine Goes.step (fun _ hr_ => XS.iconst X0.here hx rfl (hb hby d_method_3_code_66) hr_) ?_
              show Goes p ee below s _ _ _ (s₁.setTop (mkF m 67 #[.val (.int (Int32.ofNat k))] [(.int (1 : Int32))]))
              refine Goes.step (fun _ hr_ => XS.goto X0.here hx rfl (pc0 := 67) (pc' := 71) rfl (hb hby d_method_3_code_67) (by decide) (by decide) hr_) ?_
              show Goes p ee below s _ _ _ (s₁.setTop (mkF m 71 #[.val (.int (Int32.ofNat k))] [(.int (1 : Int32))]))
              refine Goes.retZ X0 hx Bd.notSynchronized Bd.returns (by simp) rfl (hb hby d_method_3_code_71) (by decide) (by decide) ?_
              exact ⟨own_t (by unfold own_idc; omega), N0, e0⟩
            · refine Goes.step (fun _ hr_ => XS.icmpNo X0.here hx rfl (hb hby d_method_3_code_45) rfl (feq (fun z => hn45_38 ((own_eqN k 46 (by omega) (by decide)).mp z))).1 hr_) ?_
              show Goes p ee below s _ _ _ (s₁.setTop (mkF m 48 #[.val (.int (Int32.ofNat k))] []))
              refine Goes.step (fun _ hr_ => XS.iloadN X0.here hx rfl (hb hby d_method_3_code_48) rfl  hr_) ?_
              show Goes p ee below s _ _ _ (s₁.setTop (mkF m 49 #[.val (.int (Int32.ofNat k))] [(.int (Int32.ofNat k))]))
              refine Goes.step (fun _ hr_ => XS.bipush X0.here hx rfl (hb hby d_method_3_code_49) hr_) ?_
              show Goes p ee below s _ _ _ (s₁.setTop (mkF m 51 #[.val (.int (Int32.ofNat k))] [(.int (95 : Int32)), (.int (Int32.ofNat k))]))
              by_cases hn51_39 : k = 95
              · refine Goes.step (fun _ hr_ => XS.icmpYes X0.here hx rfl (pc0 := 51) (pc' := 66) rfl (hb hby d_method_3_code_51) rfl (teq ((own_eqN k 95 (by omega) (by decide)).mpr hn51_39)).1 (by decide) (by decide) hr_) ?_
                show Goes p ee below s _ _ _ (s₁.setTop (mkF m 66 #[.val (.int (Int32.ofNat k))] []))
                refine Goes.step (fun _ hr_ => XS.iconst X0.here hx rfl (hb hby d_method_3_code_66) hr_) ?_
                show Goes p ee below s _ _ _ (s₁.setTop (mkF m 67 #[.val (.int (Int32.ofNat k))] [(.int (1 : Int32))]))
                refine Goes.step (fun _ hr_ => XS.goto X0.here hx rfl (pc0 := 67) (pc' := 71) rfl (hb hby d_method_3_code_67) (by decide) (by decide) hr_) ?_
                show Goes p ee below s _ _ _ (s₁.setTop (mkF m 71 #[.val (.int (Int32.ofNat k))] [(.int (1 : Int32))]))
                refine Goes.retZ X0 hx Bd.notSynchronized Bd.returns (by simp) rfl (hb hby d_method_3_code_71) (by decide) (by decide) ?_
                exact ⟨own_t (by unfold own_idc; omega), N0, e0⟩
              · refine Goes.step (fun _ hr_ => XS.icmpNo X0.here hx rfl (hb hby d_method_3_code_51) rfl (feq (fun z => hn51_39 ((own_eqN k 95 (by omega) (by decide)).mp z))).1 hr_) ?_
                show Goes p ee below s _ _ _ (s₁.setTop (mkF m 54 #[.val (.int (Int32.ofNat k))] []))
                refine Goes.step (fun _ hr_ => XS.iloadN X0.here hx rfl (hb hby d_method_3_code_54) rfl  hr_) ?_
                show Goes p ee below s _ _ _ (s₁.setTop (mkF m 55 #[.val (.int (Int32.ofNat k))] [(.int (Int32.ofNat k))]))
                refine Goes.step (fun _ hr_ => XS.bipush X0.here hx rfl (hb hby d_method_3_code_55) hr_) ?_
                show Goes p ee below s _ _ _ (s₁.setTop (mkF m 57 #[.val (.int (Int32.ofNat k))] [(.int (58 : Int32)), (.int (Int32.ofNat k))]))
                by_cases hn57_40 : k = 58
                · refine Goes.step (fun _ hr_ => XS.icmpYes X0.here hx rfl (pc0 := 57) (pc' := 66) rfl (hb hby d_method_3_code_57) rfl (teq ((own_eqN k 58 (by omega) (by decide)).mpr hn57_40)).1 (by decide) (by decide) hr_) ?_
                  show Goes p ee below s _ _ _ (s₁.setTop (mkF m 66 #[.val (.int (Int32.ofNat k))] []))
                  refine Goes.step (fun _ hr_ => XS.iconst X0.here hx rfl (hb hby d_method_3_code_66) hr_) ?_
                  show Goes p ee below s _ _ _ (s₁.setTop (mkF m 67 #[.val (.int (Int32.ofNat k))] [(.int (1 : Int32))]))
                  refine Goes.step (fun _ hr_ => XS.goto X0.here hx rfl (pc0 := 67) (pc' := 71) rfl (hb hby d_method_3_code_67) (by decide) (by decide) hr_) ?_
                  show Goes p ee below s _ _ _ (s₁.setTop (mkF m 71 #[.val (.int (Int32.ofNat k))] [(.int (1 : Int32))]))
                  refine Goes.retZ X0 hx Bd.notSynchronized Bd.returns (by simp) rfl (hb hby d_method_3_code_71) (by decide) (by decide) ?_
                  exact ⟨own_t (by unfold own_idc; omega), N0, e0⟩
                · refine Goes.step (fun _ hr_ => XS.icmpNo X0.here hx rfl (hb hby d_method_3_code_57) rfl (feq (fun z => hn57_40 ((own_eqN k 58 (by omega) (by decide)).mp z))).1 hr_) ?_
                  show Goes p ee below s _ _ _ (s₁.setTop (mkF m 60 #[.val (.int (Int32.ofNat k))] []))
                  refine Goes.step (fun _ hr_ => XS.iloadN X0.here hx rfl (hb hby d_method_3_code_60) rfl  hr_) ?_
                  show Goes p ee below s _ _ _ (s₁.setTop (mkF m 61 #[.val (.int (Int32.ofNat k))] [(.int (Int32.ofNat k))]))
                  refine Goes.step (fun _ hr_ => XS.bipush X0.here hx rfl (hb hby d_method_3_code_61) hr_) ?_
                  show Goes p ee below s _ _ _ (s₁.setTop (mkF m 63 #[.val (.int (Int32.ofNat k))] [(.int (45 : Int32)), (.int (Int32.ofNat k))]))
                  by_cases hn63_41 : k = 45
                  · refine Goes.step (fun _ hr_ => XS.icmpNo X0.here hx rfl (hb hby d_method_3_code_63) rfl (teq ((own_eqN k 45 (by omega) (by decide)).mpr hn63_41)).2 hr_) ?_
                    show Goes p ee below s _ _ _ (s₁.setTop (mkF m 66 #[.val (.int (Int32.ofNat k))] []))
                    refine Goes.step (fun _ hr_ => XS.iconst X0.here hx rfl (hb hby d_method_3_code_66) hr_) ?_
                    show Goes p ee below s _ _ _ (s₁.setTop (mkF m 67 #[.val (.int (Int32.ofNat k))] [(.int (1 : Int32))]))
                    refine Goes.step (fun _ hr_ => XS.goto X0.here hx rfl (pc0 := 67) (pc' := 71) rfl (hb hby d_method_3_code_67) (by decide) (by decide) hr_) ?_
                    show Goes p ee below s _ _ _ (s₁.setTop (mkF m 71 #[.val (.int (Int32.ofNat k))] [(.int (1 : Int32))]))
                    refine Goes.retZ X0 hx Bd.notSynchronized Bd.returns (by simp) rfl (hb hby d_method_3_code_71) (by decide) (by decide) ?_
                    exact ⟨own_t (by unfold own_idc; omega), N0, e0⟩
                  · refine Goes.step (fun _ hr_ => XS.icmpYes X0.here hx rfl (pc0 := 63) (pc' := 70) rfl (hb hby d_method_3_code_63) rfl (feq (fun z => hn63_41 ((own_eqN k 45 (by omega) (by decide)).mp z))).2 (by decide) (by decide) hr_) ?_
                    show Goes p ee below s _ _ _ (s₁.setTop (mkF m 70 #[.val (.int (Int32.ofNat k))] []))
                    refine Goes.step (fun _ hr_ => XS.iconst X0.here hx rfl (hb hby d_method_3_code_70) hr_) ?_
                    show Goes p ee below s _ _ _ (s₁.setTop (mkF m 71 #[.val (.int (Int32.ofNat k))] [(.int (0 : Int32))]))
                    refine Goes.retZ X0 hx Bd.notSynchronized Bd.returns (by simp) rfl (hb hby d_method_3_code_71) (by decide) (by decide) ?_
                    exact ⟨own_f (by unfold own_idc; omega), N0, e0⟩
          · refine Goes.step (fun _ hr_ => XS.icmpNo X0.here hx rfl (hb hby d_method_3_code_31) rfl (flt (fun z => hn31_37 ((own_ltN k 48 (by omega) (by decide)).mp z))).1 hr_) ?_
            show Goes p ee below s _ _ _ (s₁.setTop (mkF m 34 #[.val (.int (Int32.ofNat k))] []))
            refine Goes.step (fun _ hr_ => XS.iloadN X0.here hx rfl (hb hby d_method_3_code_34) rfl  hr_) ?_
            show Goes p ee below s _ _ _ (s₁.setTop (mkF m 35 #[.val (.int (Int32.ofNat k))] [(.int (Int32.ofNat k))]))
            refine Goes.step (fun _ hr_ => XS.bipush X0.here hx rfl (hb hby d_method_3_code_35) hr_) ?_
            show Goes p ee below s _ _ _ (s₁.setTop (mkF m 37 #[.val (.int (Int32.ofNat k))] [(.int (57 : Int32)), (.int (Int32.ofNat k))]))
            by_cases hn37_42 : 57 < k
            · refine Goes.step (fun _ hr_ => XS.icmpYes X0.here hx rfl (pc0 := 37) (pc' := 42) rfl (hb hby d_method_3_code_37) rfl (tlt ((own_ltN 57 k (by decide) (by omega)).mpr hn37_42)).2.2.1 (by decide) (by decide) hr_) ?_
              show Goes p ee below s _ _ _ (s₁.setTop (mkF m 42 #[.val (.int (Int32.ofNat k))] []))
              refine Goes.step (fun _ hr_ => XS.iloadN X0.here hx rfl (hb hby d_method_3_code_42) rfl  hr_) ?_
              show Goes p ee below s _ _ _ (s₁.setTop (mkF m 43 #[.val (.int (Int32.ofNat k))] [(.int (Int32.ofNat k))]))
              refine Goes.step (fun _ hr_ => XS.bipush X0.here hx rfl (hb hby d_method_3_code_43) hr_) ?_
              show Goes p ee below s _ _ _ (s₁.setTop (mkF m 45 #[.val (.int (Int32.ofNat k))] [(.int (46 : Int32)), (.int (Int32.ofNat k))]))
              by_cases hn45_43 : k = 46
              · refine Goes.step (fun _ hr_ => XS.icmpYes X0.here hx rfl (pc0 := 45) (pc' := 66) rfl (hb hby d_method_3_code_45) rfl (teq ((own_eqN k 46 (by omega) (by decide)).mpr hn45_43)).1 (by decide) (by decide) hr_) ?_
                show Goes p ee below s _ _ _ (s₁.setTop (mkF m 66 #[.val (.int (Int32.ofNat k))] []))
                refine Goes.step (fun _ hr_ => XS.iconst X0.here hx rfl (hb hby d_method_3_code_66) hr_) ?_
                show Goes p ee below s _ _ _ (s₁.setTop (mkF m 67 #[.val (.int (Int32.ofNat k))] [(.int (1 : Int32))]))
                refine Goes.step (fun _ hr_ => XS.goto X0.here hx rfl (pc0 := 67) (pc' := 71) rfl (hb hby d_method_3_code_67) (by decide) (by decide) hr_) ?_
                show Goes p ee below s _ _ _ (s₁.setTop (mkF m 71 #[.val (.int (Int32.ofNat k))] [(.int (1 : Int32))]))
                refine Goes.retZ X0 hx Bd.notSynchronized Bd.returns (by simp) rfl (hb hby d_method_3_code_71) (by decide) (by decide) ?_
                exact ⟨own_t (by unfold own_idc; omega), N0, e0⟩
              · refine Goes.step (fun _ hr_ => XS.icmpNo X0.here hx rfl (hb hby d_method_3_code_45) rfl (feq (fun z => hn45_43 ((own_eqN k 46 (by omega) (by decide)).mp z))).1 hr_) ?_
                show Goes p ee below s _ _ _ (s₁.setTop (mkF m 48 #[.val (.int (Int32.ofNat k))] []))
                refine Goes.step (fun _ hr_ => XS.iloadN X0.here hx rfl (hb hby d_method_3_code_48) rfl  hr_) ?_
                show Goes p ee below s _ _ _ (s₁.setTop (mkF m 49 #[.val (.int (Int32.ofNat k))] [(.int (Int32.ofNat k))]))
                refine Goes.step (fun _ hr_ => XS.bipush X0.here hx rfl (hb hby d_method_3_code_49) hr_) ?_
                show Goes p ee below s _ _ _ (s₁.setTop (mkF m 51 #[.val (.int (Int32.ofNat k))] [(.int (95 : Int32)), (.int (Int32.ofNat k))]))
                by_cases hn51_44 : k = 95
                · refine Goes.step (fun _ hr_ => XS.icmpYes X0.here hx rfl (pc0 := 51) (pc' := 66) rfl (hb hby d_method_3_code_51) rfl (teq ((own_eqN k 95 (by omega) (by decide)).mpr hn51_44)).1 (by decide) (by decide) hr_) ?_
                  show Goes p ee below s _ _ _ (s₁.setTop (mkF m 66 #[.val (.int (Int32.ofNat k))] []))
                  refine Goes.step (fun _ hr_ => XS.iconst X0.here hx rfl (hb hby d_method_3_code_66) hr_) ?_
                  show Goes p ee below s _ _ _ (s₁.setTop (mkF m 67 #[.val (.int (Int32.ofNat k))] [(.int (1 : Int32))]))
                  refine Goes.step (fun _ hr_ => XS.goto X0.here hx rfl (pc0 := 67) (pc' := 71) rfl (hb hby d_method_3_code_67) (by decide) (by decide) hr_) ?_
                  show Goes p ee below s _ _ _ (s₁.setTop (mkF m 71 #[.val (.int (Int32.ofNat k))] [(.int (1 : Int32))]))
                  refine Goes.retZ X0 hx Bd.notSynchronized Bd.returns (by simp) rfl (hb hby d_method_3_code_71) (by decide) (by decide) ?_
                  exact ⟨own_t (by unfold own_idc; omega), N0, e0⟩
                · refine Goes.step (fun _ hr_ => XS.icmpNo X0.here hx rfl (hb hby d_method_3_code_51) rfl (feq (fun z => hn51_44 ((own_eqN k 95 (by omega) (by decide)).mp z))).1 hr_) ?_
                  show Goes p ee below s _ _ _ (s₁.setTop (mkF m 54 #[.val (.int (Int32.ofNat k))] []))
                  refine Goes.step (fun _ hr_ => XS.iloadN X0.here hx rfl (hb hby d_method_3_code_54) rfl  hr_) ?_
                  show Goes p ee below s _ _ _ (s₁.setTop (mkF m 55 #[.val (.int (Int32.ofNat k))] [(.int (Int32.ofNat k))]))
                  refine Goes.step (fun _ hr_ => XS.bipush X0.here hx rfl (hb hby d_method_3_code_55) hr_) ?_
                  show Goes p ee below s _ _ _ (s₁.setTop (mkF m 57 #[.val (.int (Int32.ofNat k))] [(.int (58 : Int32)), (.int (Int32.ofNat k))]))
                  by_cases hn57_45 : k = 58
                  · refine Goes.step (fun _ hr_ => XS.icmpYes X0.here hx rfl (pc0 := 57) (pc' := 66) rfl (hb hby d_method_3_code_57) rfl (teq ((own_eqN k 58 (by omega) (by decide)).mpr hn57_45)).1 (by decide) (by decide) hr_) ?_
                    show Goes p ee below s _ _ _ (s₁.setTop (mkF m 66 #[.val (.int (Int32.ofNat k))] []))
                    refine Goes.step (fun _ hr_ => XS.iconst X0.here hx rfl (hb hby d_method_3_code_66) hr_) ?_
                    show Goes p ee below s _ _ _ (s₁.setTop (mkF m 67 #[.val (.int (Int32.ofNat k))] [(.int (1 : Int32))]))
                    refine Goes.step (fun _ hr_ => XS.goto X0.here hx rfl (pc0 := 67) (pc' := 71) rfl (hb hby d_method_3_code_67) (by decide) (by decide) hr_) ?_
                    show Goes p ee below s _ _ _ (s₁.setTop (mkF m 71 #[.val (.int (Int32.ofNat k))] [(.int (1 : Int32))]))
                    refine Goes.retZ X0 hx Bd.notSynchronized Bd.returns (by simp) rfl (hb hby d_method_3_code_71) (by decide) (by decide) ?_
                    exact ⟨own_t (by unfold own_idc; omega), N0, e0⟩
                  · refine Goes.step (fun _ hr_ => XS.icmpNo X0.here hx rfl (hb hby d_method_3_code_57) rfl (feq (fun z => hn57_45 ((own_eqN k 58 (by omega) (by decide)).mp z))).1 hr_) ?_
                    show Goes p ee below s _ _ _ (s₁.setTop (mkF m 60 #[.val (.int (Int32.ofNat k))] []))
                    refine Goes.step (fun _ hr_ => XS.iloadN X0.here hx rfl (hb hby d_method_3_code_60) rfl  hr_) ?_
                    show Goes p ee below s _ _ _ (s₁.setTop (mkF m 61 #[.val (.int (Int32.ofNat k))] [(.int (Int32.ofNat k))]))
                    refine Goes.step (fun _ hr_ => XS.bipush X0.here hx rfl (hb hby d_method_3_code_61) hr_) ?_
                    show Goes p ee below s _ _ _ (s₁.setTop (mkF m 63 #[.val (.int (Int32.ofNat k))] [(.int (45 : Int32)), (.int (Int32.ofNat k))]))
                    by_cases hn63_46 : k = 45
                    · refine Goes.step (fun _ hr_ => XS.icmpNo X0.here hx rfl (hb hby d_method_3_code_63) rfl (teq ((own_eqN k 45 (by omega) (by decide)).mpr hn63_46)).2 hr_) ?_
                      show Goes p ee below s _ _ _ (s₁.setTop (mkF m 66 #[.val (.int (Int32.ofNat k))] []))
                      refine Goes.step (fun _ hr_ => XS.iconst X0.here hx rfl (hb hby d_method_3_code_66) hr_) ?_
                      show Goes p ee below s _ _ _ (s₁.setTop (mkF m 67 #[.val (.int (Int32.ofNat k))] [(.int (1 : Int32))]))
                      refine Goes.step (fun _ hr_ => XS.goto X0.here hx rfl (pc0 := 67) (pc' := 71) rfl (hb hby d_method_3_code_67) (by decide) (by decide) hr_) ?_
                      show Goes p ee below s _ _ _ (s₁.setTop (mkF m 71 #[.val (.int (Int32.ofNat k))] [(.int (1 : Int32))]))
                      refine Goes.retZ X0 hx Bd.notSynchronized Bd.returns (by simp) rfl (hb hby d_method_3_code_71) (by decide) (by decide) ?_
                      exact ⟨own_t (by unfold own_idc; omega), N0, e0⟩
                    · refine Goes.step (fun _ hr_ => XS.icmpYes X0.here hx rfl (pc0 := 63) (pc' := 70) rfl (hb hby d_method_3_code_63) rfl (feq (fun z => hn63_46 ((own_eqN k 45 (by omega) (by decide)).mp z))).2 (by decide) (by decide) hr_) ?_
                      show Goes p ee below s _ _ _ (s₁.setTop (mkF m 70 #[.val (.int (Int32.ofNat k))] []))
                      refine Goes.step (fun _ hr_ => XS.iconst X0.here hx rfl (hb hby d_method_3_code_70) hr_) ?_
                      show Goes p ee below s _ _ _ (s₁.setTop (mkF m 71 #[.val (.int (Int32.ofNat k))] [(.int (0 : Int32))]))
                      refine Goes.retZ X0 hx Bd.notSynchronized Bd.returns (by simp) rfl (hb hby d_method_3_code_71) (by decide) (by decide) ?_
                      exact ⟨own_f (by unfold own_idc; omega), N0, e0⟩
            · refine Goes.step (fun _ hr_ => XS.icmpNo X0.here hx rfl (hb hby d_method_3_code_37) rfl (flt (fun z => hn37_42 ((own_ltN 57 k (by decide) (by omega)).mp z))).2.2.1 hr_) ?_
              show Goes p ee below s _ _ _ (s₁.setTop (mkF m 40 #[.val (.int (Int32.ofNat k))] []))
              refine Goes.step (fun _ hr_ => XS.iconst X0.here hx rfl (hb hby d_method_3_code_40) hr_) ?_
              show Goes p ee below s _ _ _ (s₁.setTop (mkF m 41 #[.val (.int (Int32.ofNat k))] [(.int (1 : Int32))]))
              refine Goes.retZ X0 hx Bd.notSynchronized Bd.returns (by simp) rfl (hb hby d_method_3_code_41) (by decide) (by decide) ?_
              exact ⟨own_t (by unfold own_idc; omega), N0, e0⟩
        · refine Goes.step (fun _ hr_ => XS.icmpNo X0.here hx rfl (hb hby d_method_3_code_23) rfl (flt (fun z => hn23_36 ((own_ltN 122 k (by decide) (by omega)).mp z))).2.2.1 hr_) ?_
          show Goes p ee below s _ _ _ (s₁.setTop (mkF m 26 #[.val (.int (Int32.ofNat k))] []))
          refine Goes.step (fun _ hr_ => XS.iconst X0.here hx rfl (hb hby d_method_3_code_26) hr_) ?_
          show Goes p ee below s _ _ _ (s₁.setTop (mkF m 27 #[.val (.int (Int32.ofNat k))] [(.int (1 : Int32))]))
          refine Goes.retZ X0 hx Bd.notSynchronized Bd.returns (by simp) rfl (hb hby d_method_3_code_27) (by decide) (by decide) ?_
          exact ⟨own_t (by unfold own_idc; omega), N0, e0⟩
    · refine Goes.step (fun _ hr_ => XS.icmpNo X0.here hx rfl (hb hby d_method_3_code_9) rfl (flt (fun z => hn9_24 ((own_ltN 90 k (by decide) (by omega)).mp z))).2.2.1 hr_) ?_
      show Goes p ee below s _ _ _ (s₁.setTop (mkF m 12 #[.val (.int (Int32.ofNat k))] []))
      refine Goes.step (fun _ hr_ => XS.iconst X0.here hx rfl (hb hby d_method_3_code_12) hr_) ?_
      show Goes p ee below s _ _ _ (s₁.setTop (mkF m 13 #[.val (.int (Int32.ofNat k))] [(.int (1 : Int32))]))
      refine Goes.retZ X0 hx Bd.notSynchronized Bd.returns (by simp) rfl (hb hby d_method_3_code_13) (by decide) (by decide) ?_
      exact ⟨own_t (by unfold own_idc; omega), N0, e0⟩
def own_tab : List Nat := [65, 66, 67, 68, 69, 70, 71, 72, 73, 74, 75, 76, 77, 78, 79, 80, 81, 82, 83, 84, 85, 86, 87, 88, 89, 90, 97, 98, 99, 100, 101, 102, 103, 104, 105, 106, 107, 108, 109, 110, 111, 112, 113, 114, 115, 116, 117, 118, 119, 120, 121, 122, 48, 49, 50, 51, 52, 53, 54, 55, 56, 57, 46, 95, 58, 45]
theorem own_tab_lt : ∀ k ∈ own_tab, k < 256 := by decide
theorem own_tabv : ("ABCDEFGHIJKLMNOPQRSTUVWXYZabcdefghijklmnopqrstuvwxyz0123456789._:-").toList.map (fun c => Value.int (Jvm.Lit.byteI c.toNat.toUInt16)) = own_tab.map (fun k => Value.int (own_bt k)) := by decide +kernel
theorem own_getD_map (L : List Nat) (g : Nat → Value) (d : Value) (hd : g 0 = d) (i : Nat) : (L.map g).getD i d = g (L.getD i 0) := by
  simp only [List.getD_eq_getElem?_getD, List.getElem?_map]
  cases L[i]? with
  | none => exact hd.symm
  | some k => rfl
theorem own_tab_at (i : Nat) : own_tab.getD i 0 < 256 := by
  simp only [List.getD_eq_getElem?_getD]
  cases h : own_tab[i]? with
  | none => decide
  | some k => exact own_tab_lt k (List.mem_of_getElem? h)
theorem own_c255 (x : Int32) : ∃ k : Nat, k < 256 ∧ x &&& 255 = Int32.ofNat k := by
  obtain ⟨n, h1, h2⟩ := own_masked x 255 (by decide)
  exact ⟨n, by omega, h2⟩
theorem ef_pick (m : MethodId) (x0 : Int32) : entryFrame m #[(.int x0)] 2 = mkF m 0 #[.val (.int x0), .unset] [] := by first | (simp [entryFrame, mkF, argsToLocals, Value.category]; done) | rfl
theorem d_method_2_code_0 : decode method_2_code 0 = .ok (.iload_n 0, 1) := by decide +kernel
theorem d_method_2_code_1 : decode method_2_code 1 = .ok (.sipush 256, 3) := by decide +kernel
theorem d_method_2_code_4 : decode method_2_code 4 = .ok (.iand, 1) := by decide +kernel
theorem d_method_2_code_5 : decode method_2_code 5 = .ok (.ifCond .eq 10, 3) := by decide +kernel
theorem d_method_2_code_15 : decode method_2_code 15 = .ok (.ldc 7, 2) := by decide +kernel
theorem d_method_2_code_17 : decode method_2_code 17 = .ok (.astore_n 1, 1) := by decide +kernel
theorem d_method_2_code_18 : decode method_2_code 18 = .ok (.aload_n 1, 1) := by decide +kernel
theorem d_method_2_code_19 : decode method_2_code 19 = .ok (.iload_n 0, 1) := by decide +kernel
theorem d_method_2_code_20 : decode method_2_code 20 = .ok (.bipush 9, 2) := by decide +kernel
theorem d_method_2_code_22 : decode method_2_code 22 = .ok (.iushr, 1) := by decide +kernel
theorem d_method_2_code_23 : decode method_2_code 23 = .ok (.ldc 9, 2) := by decide +kernel
theorem d_method_2_code_25 : decode method_2_code 25 = .ok (.iand, 1) := by decide +kernel
theorem d_method_2_code_26 : decode method_2_code 26 = .ok (.bipush 66, 2) := by decide +kernel
theorem d_method_2_code_28 : decode method_2_code 28 = .ok (.irem, 1) := by decide +kernel
theorem d_method_2_code_29 : decode method_2_code 29 = .ok (.invokevirtual 10, 3) := by decide +kernel
theorem d_method_2_code_32 : decode method_2_code 32 = .ok (.ireturn, 1) := by decide +kernel
theorem d_method_2_code_8 : decode method_2_code 8 = .ok (.iload_n 0, 1) := by decide +kernel
theorem d_method_2_code_9 : decode method_2_code 9 = .ok (.sipush 255, 3) := by decide +kernel
theorem d_method_2_code_12 : decode method_2_code 12 = .ok (.iand, 1) := by decide +kernel
theorem d_method_2_code_13 : decode method_2_code 13 = .ok (.i2c, 1) := by decide +kernel
theorem d_method_2_code_14 : decode method_2_code 14 = .ok (.ireturn, 1) := by decide +kernel
def Q_pick (Z : State) (cs : Int32) (fm : Value) (p1 : Int32) (h0 : Heap) (n0 : Nat) (v : Option Value) (h : Heap) (L : List Loc) : Prop := (∃ k : Nat, k < 256 ∧ v = some (.int (Int32.ofNat k))) ∧ Fr n0 L ∧ Keep h0 h []
set_option maxRecDepth 65536 in
set_option maxHeartbeats 40000000 in
theorem rm_pick (l : Launch) (Z : State) (a0 : Array Value) (hw : ∀ d ∈ tables_1, d.before a0 Z = true) (ws : List Jvm.Cond) (cs : Int32) (fm : Value) (p1 : Int32) (h0 : Heap) (n0 : Nat) (Z0 : n0 ≤ h0.size) (ST : own_ST Z cs fm) (OO : Old Z n0 h0)  :
    MetFree l (⟨"com/example/landshut/landshut/NodeIdsCheckPinLaw", "pick", "(I)C"⟩ : MethodName) (head1 (Jvm.Cond.code (⟨"com/example/landshut/landshut/NodeIdsCheckPinLaw", "pick", "(I)C"⟩ : MethodName) method_2_code 2 (some .char) :: ws) ({ frames := 4, cells := 2, slots := 268, locals := 53 } : Room)) (fun a U => a = #[(.int p1)] ∧ Z.Warmed39 U.vm ∧ U.heap = h0 ∧ CHv Z consts_1 U.vm h0 ∧ ∀ x ∈ ([] : List Addr), Safe Z consts_1 U.vm h0 x) (fun _ _ _ _ _ => True) (fun _ U o U' => ∃ v L, o = .returned v ∧ Q_pick Z cs fm p1 h0 n0 v U'.heap L ∧ CHr Z consts_1 U.vm U.heap U'.vm U'.heap ∧ ReturnedEndW U o U' L ({ frames := 4, cells := 2, slots := 268, locals := 53 } : Room).cells ({ frames := 4, cells := 2, slots := 268, locals := 53 } : Room).slots) := by
  refine MetFree.of_bodySF (plainFor_of_name pn_com_example_landshut_landshut_NodeIdsCheckPinLaw) hisR ?_
  intro p ee s m args below meth cc s₁ Bd hml0 hP hK
  obtain ⟨rfl, hZ, hh, H, hsf⟩ := hP
  have hx := Bd.exec
  have hby := Bd.bytes
  have hml : cc.maxLocals = 2 := hml0
  have hown : (s.setVm s.vm).vm.findClass "com/example/landshut/landshut/NodeIdsCheckPinLaw" = some m.cls := findClass_of_methodNamed Bd.named
  have hnm := (name_of_methodNamed Bd.named Bd.method).1
  have X0 : Stand p l ee ({ frames := 4, cells := 2, slots := 268, locals := 53 } : Room) (s.setVm s.vm) m #[(.int p1)] below meth cc s₁ [] 0 0 := Stand.of_body Bd
  have e0 : s₁.heap = h0 := by rw [← hh, Bd.state]; rfl
  have N0 := Fr.nil n0
  have hEL := own_EW hw
  have hZ : Z.Warmed39 (s.setVm s.vm).vm := hZ
  have C : Cold Z consts_1 s s.vm h0 := by rw [← hh]; exact Cold.start (by rw [hh]; exact H)
  show GoesW p ee below s ({ frames := 4, cells := 2, slots := 268, locals := 53 } : Room).cells ({ frames := 4, cells := 2, slots := 268, locals := 53 } : Room).slots Z consts_1 (Q_pick Z cs fm p1 h0 n0) (s₁.setTop (entryFrame m #[(.int p1)] 2))
  refine GoesW.step (fun _ hr_ => castTop (ef_pick m p1) hr_) ?_
  show GoesW p ee below s _ _ _ _ _ (s₁.setTop (mkF m 0 #[.val (.int p1), .unset] []))
  have K0 := Keep.refl h0 ([] : List Addr)
  refine GoesW.step (fun _ hr_ => XS.iloadN X0.here hx rfl (hb hby d_method_2_code_0) rfl  hr_) ?_
  show GoesW p ee below s _ _ _ _ _ (s₁.setTop (mkF m 1 #[.val (.int p1), .unset] [(.int p1)]))
  refine GoesW.step (fun _ hr_ => XS.sipush X0.here hx rfl (hb hby d_method_2_code_1) hr_) ?_
  show GoesW p ee below s _ _ _ _ _ (s₁.setTop (mkF m 4 #[.val (.int p1), .unset] [(.int (256 : Int32)), (.int p1)]))
  refine GoesW.step (fun _ hr_ => XS.iand X0.here hx rfl (hb hby d_method_2_code_4) rfl hr_) ?_
  show GoesW p ee below s _ _ _ _ _ (s₁.setTop (mkF m 5 #[.val (.int p1), .unset] [(.int (p1 &&& (256 : Int32)))]))
  by_cases hc5_1 : (p1 &&& (256 : Int32)) = (0 : Int32)
  · refine GoesW.step (fun _ hr_ => XS.ifYes X0.here hx rfl (pc0 := 5) (pc' := 15) rfl (hb hby d_method_2_code_5) rfl ((if0 _ _).trans (teq hc5_1).1) (by decide) (by decide) hr_) ?_
    show GoesW p ee below s _ _ _ _ _ (s₁.setTop (mkF m 15 #[.val (.int p1), .unset] []))
    obtain ⟨la2, lb2, vm2, T2, h2, ⟨X2, Cn2, hZ, hown, hsaf2⟩, e2, E2, Ei2, Fv2, Fc2, A_lb2, Lit2, hlit2, st2⟩ := own_ldcW X0 hx hZ hEL C hown (hw _ (List.mem_of_getElem? (i := 4) rfl)) (own_wS hw) e0 (List.mem_of_getElem? (i := 0) rfl) (vs := own_tab.map (fun k => Value.int (own_bt k))) (k := 66) ⟨by decide, own_tabv⟩ rfl (by decide) (g := (mkF m 15 #[.val (.int p1), .unset] [])) rfl (hb hby d_method_2_code_15) (n := 264) (by decide) (by decide) (by decide) (by decide)
    refine GoesW.step st2 ?_
    rw [e2] at Cn2 hsaf2
    have C := Cn2
    have Zp3 := Nat.le_trans Z0 E2.1
    have OO := OO.ext E2
    have K4 := K0.ext E2
    show GoesW p ee below s _ _ _ _ _ (T2.setTop (mkF m 17 #[.val (.int p1), .unset] [(.ref la2)]))
    refine GoesW.step (fun _ hr_ => XS.astoreN X2.here hx rfl (hb hby d_method_2_code_17) rfl rfl (l' := #[.val (.int p1), .val (.ref la2)]) rfl hr_) ?_
    show GoesW p ee below s _ _ _ _ _ (T2.setTop (mkF m 18 #[.val (.int p1), .val (.ref la2)] []))
    refine GoesW.step (fun _ hr_ => XS.aloadN X2.here hx rfl (hb hby d_method_2_code_18) rfl rfl hr_) ?_
    show GoesW p ee below s _ _ _ _ _ (T2.setTop (mkF m 19 #[.val (.int p1), .val (.ref la2)] [(.ref la2)]))
    refine GoesW.step (fun _ hr_ => XS.iloadN X2.here hx rfl (hb hby d_method_2_code_19) rfl  hr_) ?_
    show GoesW p ee below s _ _ _ _ _ (T2.setTop (mkF m 20 #[.val (.int p1), .val (.ref la2)] [(.int p1), (.ref la2)]))
    refine GoesW.step (fun _ hr_ => XS.bipush X2.here hx rfl (hb hby d_method_2_code_20) hr_) ?_
    show GoesW p ee below s _ _ _ _ _ (T2.setTop (mkF m 22 #[.val (.int p1), .val (.ref la2)] [(.int (9 : Int32)), (.int p1), (.ref la2)]))
    refine GoesW.step (fun _ hr_ => XT.iushr X2.here hx rfl (hb hby d_method_2_code_22) rfl hr_) ?_
    show GoesW p ee below s _ _ _ _ _ (T2.setTop (mkF m 23 #[.val (.int p1), .val (.ref la2)] [(.int (XT.ushr p1 (9 : Int32))), (.ref la2)]))
    refine GoesW.step (X2.ldcInt hx hown (mvT hZ (hw _ (List.mem_of_getElem? (i := 12) rfl))) (g := (mkF m 23 #[.val (.int p1), .val (.ref la2)] [(.int (XT.ushr p1 (9 : Int32))), (.ref la2)])) rfl (hb hby d_method_2_code_23)) ?_
    show GoesW p ee below s _ _ _ _ _ (T2.setTop (mkF m 25 #[.val (.int p1), .val (.ref la2)] [(.int (2147483647 : Int32)), (.int (XT.ushr p1 (9 : Int32))), (.ref la2)]))
    refine GoesW.step (fun _ hr_ => XS.iand X2.here hx rfl (hb hby d_method_2_code_25) rfl hr_) ?_
    show GoesW p ee below s _ _ _ _ _ (T2.setTop (mkF m 26 #[.val (.int p1), .val (.ref la2)] [(.int ((XT.ushr p1 (9 : Int32)) &&& (2147483647 : Int32))), (.ref la2)]))
    refine GoesW.step (fun _ hr_ => XS.bipush X2.here hx rfl (hb hby d_method_2_code_26) hr_) ?_
    show GoesW p ee below s _ _ _ _ _ (T2.setTop (mkF m 28 #[.val (.int p1), .val (.ref la2)] [(.int (66 : Int32)), (.int ((XT.ushr p1 (9 : Int32)) &&& (2147483647 : Int32))), (.ref la2)]))
    refine GoesW.step (fun _ hr_ => iremM (g := (mkF m 28 #[.val (.int p1), .val (.ref la2)] [(.int (66 : Int32)), (.int ((XT.ushr p1 (9 : Int32)) &&& (2147483647 : Int32))), (.ref la2)])) X2 hx rfl (hb hby d_method_2_code_28) rfl (by decide) hr_) ?_
    show GoesW p ee below s _ _ _ _ _ (T2.setTop (mkF m 29 #[.val (.int p1), .val (.ref la2)] [(.int (((XT.ushr p1 (9 : Int32)) &&& (2147483647 : Int32)) % (66 : Int32))), (.ref la2)]))
    obtain ⟨i, hi, ei⟩ := own_small (XT.ushr p1 (9 : Int32)) 66 (by decide) (by decide)
    rw [show (XT.ushr p1 (9 : Int32) &&& (2147483647 : Int32)) % (66 : Int32) = Int32.ofNat i from ei]
    show GoesW p ee below s _ _ _ _ _ (T2.setTop (mkF m 29 #[.val (.int p1), .val (.ref la2)] [(.int (Int32.ofNat i)), (.ref la2)]))
    have A_lb2 : OA Z h2 lb2 .byte (own_len false 66) (own_by false (fun i => own_tab.getD i 0)) := A_lb2.congr (fun j hj => own_getD_map own_tab (fun k => Value.int (own_bt k)) _ rfl j)
    have lt_la2 := Ei2.lt
    have lt_lb2 := A_lb2.lt
    obtain ⟨v5, T5, L5, X5, hQ5, st5⟩ := own_callV X2 hx hZ (y := (⟨"java/lang/String", "charAt", "(I)C"⟩ : MethodName)) hown (hw _ (List.mem_of_getElem? (i := 13) rfl)) (hw _ (List.mem_of_getElem? (i := 14) rfl)) (hw _ (List.mem_of_getElem? (i := 16) rfl)) (hw _ (List.mem_of_getElem? (i := 15) rfl)) (hw _ (List.mem_of_getElem? (i := 5) rfl)) (hw _ (List.mem_of_getElem? (i := 17) rfl)) (by decide) (a := la2) (argsL := [(.int (Int32.ofNat i))]) (rm_schar l Z a0 hw [] cs fm la2 lb2 66 (fun i => own_tab.getD i 0) i h2 n0 Zp3 ST OO (by decide) Ei2 Fv2 Fc2 A_lb2 (fun j hj => Nat.lt_trans (own_tab_at j) (by decide)) (fun _ j hj => own_tab_at j) hi) e2 Ei2 (W := 0) (by decide) (by decide) (by decide) (by decide) (g := (mkF m 29 #[.val (.int p1), .val (.ref la2)] [(.int (Int32.ofNat i)), (.ref la2)])) rfl (by rw [hml]; rfl) (rest := []) (lenOf pd_10 rfl) rfl (by show 2 * 0 + _ ≤ _; exact Nat.le_of_eq rfl) (hb hby d_method_2_code_29)
    refine GoesW.step st5 ?_
    obtain ⟨rfl, N5, e5⟩ := hQ5
    have N6 := Fr.app N0 N5
    show GoesW p ee below s _ _ _ _ _ (T5.setTop (mkF m 32 #[.val (.int p1), .val (.ref la2)] [(.int (Int32.ofNat ((fun i => own_tab.getD i 0) i)))]))
    refine GoesW.retZ X5 hx hZ hEL C e5 Bd.notSynchronized Bd.returns (by simp) (own_nchar _ (Nat.lt_trans (own_tab_at i) (by decide))) (hb hby d_method_2_code_32) (by decide) (by decide) ?_
    rw [e5]
    exact ⟨⟨_, own_tab_at i, rfl⟩, N6, K4⟩
  · refine GoesW.step (fun _ hr_ => XS.ifNo X0.here hx rfl (hb hby d_method_2_code_5) rfl ((if0 _ _).trans (feq hc5_1).1) hr_) ?_
    show GoesW p ee below s _ _ _ _ _ (s₁.setTop (mkF m 8 #[.val (.int p1), .unset] []))
    refine GoesW.step (fun _ hr_ => XS.iloadN X0.here hx rfl (hb hby d_method_2_code_8) rfl  hr_) ?_
    show GoesW p ee below s _ _ _ _ _ (s₁.setTop (mkF m 9 #[.val (.int p1), .unset] [(.int p1)]))
    refine GoesW.step (fun _ hr_ => XS.sipush X0.here hx rfl (hb hby d_method_2_code_9) hr_) ?_
    show GoesW p ee below s _ _ _ _ _ (s₁.setTop (mkF m 12 #[.val (.int p1), .unset] [(.int (255 : Int32)), (.int p1)]))
    refine GoesW.step (fun _ hr_ => XS.iand X0.here hx rfl (hb hby d_method_2_code_12) rfl hr_) ?_
    show GoesW p ee below s _ _ _ _ _ (s₁.setTop (mkF m 13 #[.val (.int p1), .unset] [(.int (p1 &&& (255 : Int32)))]))
    obtain ⟨k, hk, ek⟩ := own_c255 p1
    rw [ek]
    show GoesW p ee below s _ _ _ _ _ (s₁.setTop (mkF m 13 #[.val (.int p1), .unset] [(.int (Int32.ofNat k))]))
    refine GoesW.step (fun _ hr_ => XT.i2c X0.here hx rfl (hb hby d_method_2_code_13) rfl hr_) ?_
    show GoesW p ee below s _ _ _ _ _ (s₁.setTop (mkF m 14 #[.val (.int p1), .unset] [(.int (Int32.ofNat k).toUInt32.toUInt16.toUInt32.toInt32)]))
    rw [own_i2c k (by omega)]
    show GoesW p ee below s _ _ _ _ _ (s₁.setTop (mkF m 14 #[.val (.int p1), .unset] [(.int (Int32.ofNat k))]))
    refine GoesW.retZ X0 hx hZ hEL C e0 Bd.notSynchronized Bd.returns (by simp) (own_nchar k (by omega)) (hb hby d_method_2_code_14) (by decide) (by decide) ?_
    rw [e0]
    exact ⟨⟨k, hk, rfl⟩, N0, K0⟩
theorem ef_law (m : MethodId) (x0 : Int32) (x1 : Int32) (x2 : Int32) (x3 : Int32) : entryFrame m #[(.int x0), (.int x1), (.int x2), (.int x3)] maxLocals = mkF m 0 #[.val (.int x0), .val (.int x1), .val (.int x2), .val (.int x3), .unset, .unset, .unset, .unset, .unset, .unset, .unset, .unset] [] := by first | (simp [entryFrame, mkF, argsToLocals, Value.category, maxLocals]; done) | rfl
theorem pd_14 : parseMethodDescriptor "([C)V" = some ⟨[(.array .char)], none⟩ := by decide +kernel
theorem pd_15 : parseMethodDescriptor "(Ljava/lang/String;)Ljava/lang/String;" = some ⟨[(.object "java/lang/String")], some (.object "java/lang/String")⟩ := by decide +kernel
theorem pd_16 : parseMethodDescriptor "(Ljava/lang/Object;)Z" = some ⟨[(.object "java/lang/Object")], some .boolean⟩ := by decide +kernel
def Q_law (Z : State) (p1 p2 p3 p4 : Int32) (cs : Int32) (fm : Value) (h0 : Heap) (n0 : Nat) (v : Option Value) (h : Heap) (L : List Loc) : Prop := v = some (.int 1) ∧ Fr n0 L
set_option maxRecDepth 65536 in
set_option maxHeartbeats 40000000 in
theorem rm_law (l : Launch) (Z : State) (a0 : Array Value) (hw : ∀ d ∈ tables_1, d.before a0 Z = true) (ws : List Jvm.Cond) (p1 p2 p3 p4 : Int32) (cs : Int32) (fm : Value) (h0 : Heap) (n0 : Nat) (Z0 : n0 ≤ h0.size) (ST : own_ST Z cs fm) (OO : Old Z n0 h0)  :
    MetFree l x (head1 (Jvm.Cond.code x code maxLocals ret :: ws) room_1) (fun a U => a = #[(.int p1), (.int p2), (.int p3), (.int p4)] ∧ Z.Warmed39 U.vm ∧ U.heap = h0 ∧ CHv Z consts_1 U.vm h0 ∧ ∀ x ∈ ([] : List Addr), Safe Z consts_1 U.vm h0 x) (fun _ _ _ _ _ => True) (fun _ U o U' => ∃ v L, o = .returned v ∧ Q_law Z p1 p2 p3 p4 cs fm h0 n0 v U'.heap L ∧ CHr Z consts_1 U.vm U.heap U'.vm U'.heap ∧ ReturnedEndW U o U' L room_1.cells room_1.slots) := by
  refine MetFree.of_bodySF (plainFor_of_name pn_com_example_landshut_landshut_NodeIdsCheckPinLaw) hisR ?_
  intro p ee s m args below meth cc s₁ Bd hml0 hP hK
  obtain ⟨rfl, hZ, hh, H, hsf⟩ := hP
  have hx := Bd.exec
  have hby := Bd.bytes
  have hml : cc.maxLocals = 12 := hml0
  have hown : (s.setVm s.vm).vm.findClass "com/example/landshut/landshut/NodeIdsCheckPinLaw" = some m.cls := findClass_of_methodNamed Bd.named
  have hnm := (name_of_methodNamed Bd.named Bd.method).1
  have X0 : Stand p l ee room_1 (s.setVm s.vm) m #[(.int p1), (.int p2), (.int p3), (.int p4)] below meth cc s₁ [] 0 0 := Stand.of_body Bd
  have e0 : s₁.heap = h0 := by rw [← hh, Bd.state]; rfl
  have N0 := Fr.nil n0
  have hEL := own_EW hw
  have hZ : Z.Warmed39 (s.setVm s.vm).vm := hZ
  have C : Cold Z consts_1 s s.vm h0 := by rw [← hh]; exact Cold.start (by rw [hh]; exact H)
  show GoesW p ee below s room_1.cells room_1.slots Z consts_1 (Q_law Z p1 p2 p3 p4 cs fm h0 n0) (s₁.setTop (entryFrame m #[(.int p1), (.int p2), (.int p3), (.int p4)] maxLocals))
  refine GoesW.step (fun _ hr_ => castTop (ef_law m p1 p2 p3 p4) hr_) ?_
  show GoesW p ee below s _ _ _ _ _ (s₁.setTop (mkF m 0 #[.val (.int p1), .val (.int p2), .val (.int p3), .val (.int p4), .unset, .unset, .unset, .unset, .unset, .unset, .unset, .unset] []))
  refine GoesW.step (fun _ hr_ => XS.iloadN X0.here hx rfl (hb hby at_0) rfl  hr_) ?_
  show GoesW p ee below s _ _ _ _ _ (s₁.setTop (mkF m 1 #[.val (.int p1), .val (.int p2), .val (.int p3), .val (.int p4), .unset, .unset, .unset, .unset, .unset, .unset, .unset, .unset] [(.int p1)]))
  refine GoesW.step (fun _ hr_ => XS.bipush X0.here hx rfl (hb hby at_1) hr_) ?_
  show GoesW p ee below s _ _ _ _ _ (s₁.setTop (mkF m 3 #[.val (.int p1), .val (.int p2), .val (.int p3), .val (.int p4), .unset, .unset, .unset, .unset, .unset, .unset, .unset, .unset] [(.int (12 : Int32)), (.int p1)]))
  refine GoesW.step (fun _ hr_ => XS.iand X0.here hx rfl (hb hby at_3) rfl hr_) ?_
  show GoesW p ee below s _ _ _ _ _ (s₁.setTop (mkF m 4 #[.val (.int p1), .val (.int p2), .val (.int p3), .val (.int p4), .unset, .unset, .unset, .unset, .unset, .unset, .unset, .unset] [(.int (p1 &&& (12 : Int32)))]))
  refine GoesW.step (fun _ hr_ => XS.bipush X0.here hx rfl (hb hby at_4) hr_) ?_
  show GoesW p ee below s _ _ _ _ _ (s₁.setTop (mkF m 6 #[.val (.int p1), .val (.int p2), .val (.int p3), .val (.int p4), .unset, .unset, .unset, .unset, .unset, .unset, .unset, .unset] [(.int (12 : Int32)), (.int (p1 &&& (12 : Int32)))]))
  by_cases hc6_1 : (p1 &&& (12 : Int32)) = (12 : Int32)
  · refine GoesW.step (fun _ hr_ => XS.icmpNo X0.here hx rfl (hb hby at_6) rfl (teq hc6_1).2 hr_) ?_
    show GoesW p ee below s _ _ _ _ _ (s₁.setTop (mkF m 9 #[.val (.int p1), .val (.int p2), .val (.int p3), .val (.int p4), .unset, .unset, .unset, .unset, .unset, .unset, .unset, .unset] []))
    refine GoesW.step (fun _ hr_ => XS.aconstNull X0.here hx rfl (hb hby at_9) hr_) ?_
    show GoesW p ee below s _ _ _ _ _ (s₁.setTop (mkF m 10 #[.val (.int p1), .val (.int p2), .val (.int p3), .val (.int p4), .unset, .unset, .unset, .unset, .unset, .unset, .unset, .unset] [.null]))
    obtain ⟨v2, T2, L2, X2, hQ2, st2⟩ := own_callS X0 hx hZ (y := (⟨"com/example/landshut/landshut/NodeIds", "isValid", "(Ljava/lang/String;)Z"⟩ : MethodName)) hown (hw _ (List.mem_of_getElem? (i := 51) rfl)) (hw _ (List.mem_of_getElem? (i := 52) rfl)) (hw _ (List.mem_of_getElem? (i := 53) rfl)) (hw _ (List.mem_of_getElem? (i := 54) rfl)) (by decide) (argsL := [.null]) (rm_isv0 l Z a0 hw [] cs fm  h0 n0 Z0 ST OO ) e0 (W := 0) (by decide) (by decide) (by decide) (by decide) (g := (mkF m 10 #[.val (.int p1), .val (.int p2), .val (.int p3), .val (.int p4), .unset, .unset, .unset, .unset, .unset, .unset, .unset, .unset] [.null])) rfl (by rw [hml]; rfl) (rest := []) (lenOf pd_13 rfl) rfl (by show 2 * 0 + _ ≤ _; exact Nat.le_of_eq rfl) (hb hby at_10)
    refine GoesW.step st2 ?_
    obtain ⟨rfl, N2, e2⟩ := hQ2
    have N3 := Fr.app N0 N2
    show GoesW p ee below s _ _ _ _ _ (T2.setTop (mkF m 13 #[.val (.int p1), .val (.int p2), .val (.int p3), .val (.int p4), .unset, .unset, .unset, .unset, .unset, .unset, .unset, .unset] [(.int (0 : Int32))]))
    refine GoesW.step (fun _ hr_ => XS.ifNo X2.here hx rfl (hb hby at_13) rfl ((if0 _ _).trans (teq (by decide)).2) hr_) ?_
    show GoesW p ee below s _ _ _ _ _ (T2.setTop (mkF m 16 #[.val (.int p1), .val (.int p2), .val (.int p3), .val (.int p4), .unset, .unset, .unset, .unset, .unset, .unset, .unset, .unset] []))
    refine GoesW.step (fun _ hr_ => XS.iconst X2.here hx rfl (hb hby at_16) hr_) ?_
    show GoesW p ee below s _ _ _ _ _ (T2.setTop (mkF m 17 #[.val (.int p1), .val (.int p2), .val (.int p3), .val (.int p4), .unset, .unset, .unset, .unset, .unset, .unset, .unset, .unset] [(.int (1 : Int32))]))
    refine GoesW.step (fun _ hr_ => XS.goto X2.here hx rfl (pc0 := 17) (pc' := 21) rfl (hb hby at_17) (by decide) (by decide) hr_) ?_
    show GoesW p ee below s _ _ _ _ _ (T2.setTop (mkF m 21 #[.val (.int p1), .val (.int p2), .val (.int p3), .val (.int p4), .unset, .unset, .unset, .unset, .unset, .unset, .unset, .unset] [(.int (1 : Int32))]))
    refine GoesW.retZ X2 hx hZ hEL C e2 Bd.notSynchronized Bd.returns (by simp) rfl (hb hby at_21) (by decide) (by decide) ?_
    exact ⟨rfl, N3⟩
  · refine GoesW.step (fun _ hr_ => XS.icmpYes X0.here hx rfl (pc0 := 6) (pc' := 22) rfl (hb hby at_6) rfl (feq hc6_1).2 (by decide) (by decide) hr_) ?_
    show GoesW p ee below s _ _ _ _ _ (s₁.setTop (mkF m 22 #[.val (.int p1), .val (.int p2), .val (.int p3), .val (.int p4), .unset, .unset, .unset, .unset, .unset, .unset, .unset, .unset] []))
    refine GoesW.step (fun _ hr_ => XS.iloadN X0.here hx rfl (hb hby at_22) rfl  hr_) ?_
    show GoesW p ee below s _ _ _ _ _ (s₁.setTop (mkF m 23 #[.val (.int p1), .val (.int p2), .val (.int p3), .val (.int p4), .unset, .unset, .unset, .unset, .unset, .unset, .unset, .unset] [(.int p1)]))
    refine GoesW.step (fun _ hr_ => XS.iconst X0.here hx rfl (hb hby at_23) hr_) ?_
    show GoesW p ee below s _ _ _ _ _ (s₁.setTop (mkF m 24 #[.val (.int p1), .val (.int p2), .val (.int p3), .val (.int p4), .unset, .unset, .unset, .unset, .unset, .unset, .unset, .unset] [(.int (3 : Int32)), (.int p1)]))
    refine GoesW.step (fun _ hr_ => XS.iand X0.here hx rfl (hb hby at_24) rfl hr_) ?_
    show GoesW p ee below s _ _ _ _ _ (s₁.setTop (mkF m 25 #[.val (.int p1), .val (.int p2), .val (.int p3), .val (.int p4), .unset, .unset, .unset, .unset, .unset, .unset, .unset, .unset] [(.int (p1 &&& (3 : Int32)))]))
    obtain ⟨n, hn3, hne⟩ := own_masked p1 3 (by decide)
    rw [show p1 &&& (3 : Int32) = Int32.ofNat n from hne]
    show GoesW p ee below s _ _ _ _ _ (s₁.setTop (mkF m 25 #[.val (.int p1), .val (.int p2), .val (.int p3), .val (.int p4), .unset, .unset, .unset, .unset, .unset, .unset, .unset, .unset] [(.int (Int32.ofNat n))]))
    refine GoesW.step (fun _ hr_ => XS.istore X0.here hx rfl (hb hby at_25) rfl  (l' := #[.val (.int p1), .val (.int p2), .val (.int p3), .val (.int p4), .val (.int (Int32.ofNat n)), .unset, .unset, .unset, .unset, .unset, .unset, .unset]) rfl hr_) ?_
    show GoesW p ee below s _ _ _ _ _ (s₁.setTop (mkF m 27 #[.val (.int p1), .val (.int p2), .val (.int p3), .val (.int p4), .val (.int (Int32.ofNat n)), .unset, .unset, .unset, .unset, .unset, .unset, .unset] []))
    refine GoesW.step (fun _ hr_ => XS.iloadN X0.here hx rfl (hb hby at_27) rfl  hr_) ?_
    show GoesW p ee below s _ _ _ _ _ (s₁.setTop (mkF m 28 #[.val (.int p1), .val (.int p2), .val (.int p3), .val (.int p4), .val (.int (Int32.ofNat n)), .unset, .unset, .unset, .unset, .unset, .unset, .unset] [(.int p2)]))
    obtain ⟨v4, vm4, T4, L4, ⟨X4, Cn4, hZ, hown, hsaf4⟩, hQ4, st4⟩ := own_callSW X0 hx hZ hEL C (y := (⟨"com/example/landshut/landshut/NodeIdsCheckPinLaw", "pick", "(I)C"⟩ : MethodName)) hown (hw _ (List.mem_of_getElem? (i := 0) rfl)) (hw _ (List.mem_of_getElem? (i := 1) rfl)) (hw _ (List.mem_of_getElem? (i := 2) rfl)) (hw _ (List.mem_of_getElem? (i := 3) rfl)) (by decide) (argsL := [(.int p2)]) (ws := []) (fun _ q => nomatch q) (rm_pick l Z a0 hw [] cs fm p2 h0 n0 Z0 ST OO ) e0 (W := 0) (by decide) (by decide) (by decide) (by decide) (g := (mkF m 28 #[.val (.int p1), .val (.int p2), .val (.int p3), .val (.int p4), .val (.int (Int32.ofNat n)), .unset, .unset, .unset, .unset, .unset, .unset, .unset] [(.int p2)])) rfl (by rw [hml]; rfl) (rest := []) (lenOf pd_10 rfl) rfl (by show 2 * 0 + _ ≤ _; exact Nat.le_of_eq rfl) (hb hby at_28)
    refine GoesW.step st4 ?_
    obtain ⟨⟨k4, hk4, rfl⟩, N4, Kc4⟩ := hQ4
    have N5 := Fr.app N0 N4
    obtain ⟨h4, e4⟩ : ∃ h', T4.heap = h' := ⟨_, rfl⟩
    rw [e4] at Kc4 Cn4 hsaf4 
    have C := Cn4
    have OO := OO.keep Kc4 all0
    have Zp6 := Nat.le_trans Z0 Kc4.1
    show GoesW p ee below s _ _ _ _ _ (T4.setTop (mkF m 31 #[.val (.int p1), .val (.int p2), .val (.int p3), .val (.int p4), .val (.int (Int32.ofNat n)), .unset, .unset, .unset, .unset, .unset, .unset, .unset] [(.int (Int32.ofNat k4))]))
    refine GoesW.step (fun _ hr_ => XS.istore X4.here hx rfl (hb hby at_31) rfl  (l' := #[.val (.int p1), .val (.int p2), .val (.int p3), .val (.int p4), .val (.int (Int32.ofNat n)), .val (.int (Int32.ofNat k4)), .unset, .unset, .unset, .unset, .unset, .unset]) rfl hr_) ?_
    show GoesW p ee below s _ _ _ _ _ (T4.setTop (mkF m 33 #[.val (.int p1), .val (.int p2), .val (.int p3), .val (.int p4), .val (.int (Int32.ofNat n)), .val (.int (Int32.ofNat k4)), .unset, .unset, .unset, .unset, .unset, .unset] []))
    refine GoesW.step (fun _ hr_ => XS.iloadN X4.here hx rfl (hb hby at_33) rfl  hr_) ?_
    show GoesW p ee below s _ _ _ _ _ (T4.setTop (mkF m 34 #[.val (.int p1), .val (.int p2), .val (.int p3), .val (.int p4), .val (.int (Int32.ofNat n)), .val (.int (Int32.ofNat k4)), .unset, .unset, .unset, .unset, .unset, .unset] [(.int p3)]))
    obtain ⟨v7, vm7, T7, L7, ⟨X7, Cn7, hZ, hown, hsaf7⟩, hQ7, st7⟩ := own_callSW X4 hx hZ hEL C (y := (⟨"com/example/landshut/landshut/NodeIdsCheckPinLaw", "pick", "(I)C"⟩ : MethodName)) hown (hw _ (List.mem_of_getElem? (i := 0) rfl)) (hw _ (List.mem_of_getElem? (i := 1) rfl)) (hw _ (List.mem_of_getElem? (i := 2) rfl)) (hw _ (List.mem_of_getElem? (i := 3) rfl)) (by decide) (argsL := [(.int p3)]) (ws := []) (fun _ q => nomatch q) (rm_pick l Z a0 hw [] cs fm p3 h4 n0 Zp6 ST OO ) e4 (W := 0) (by decide) (by decide) (by decide) (by decide) (g := (mkF m 34 #[.val (.int p1), .val (.int p2), .val (.int p3), .val (.int p4), .val (.int (Int32.ofNat n)), .val (.int (Int32.ofNat k4)), .unset, .unset, .unset, .unset, .unset, .unset] [(.int p3)])) rfl (by rw [hml]; rfl) (rest := []) (lenOf pd_10 rfl) rfl (by show 2 * 0 + _ ≤ _; exact Nat.le_of_eq rfl) (hb hby at_34)
    refine GoesW.step st7 ?_
    obtain ⟨⟨k7, hk7, rfl⟩, N7, Kc7⟩ := hQ7
    have N8 := Fr.app N5 N7
    obtain ⟨h7, e7⟩ : ∃ h', T7.heap = h' := ⟨_, rfl⟩
    rw [e7] at Kc7 Cn7 hsaf7 
    have C := Cn7
    have OO := OO.keep Kc7 all0
    have Zp9 := Nat.le_trans Zp6 Kc7.1
    show GoesW p ee below s _ _ _ _ _ (T7.setTop (mkF m 37 #[.val (.int p1), .val (.int p2), .val (.int p3), .val (.int p4), .val (.int (Int32.ofNat n)), .val (.int (Int32.ofNat k4)), .unset, .unset, .unset, .unset, .unset, .unset] [(.int (Int32.ofNat k7))]))
    refine GoesW.step (fun _ hr_ => XS.istore X7.here hx rfl (hb hby at_37) rfl  (l' := #[.val (.int p1), .val (.int p2), .val (.int p3), .val (.int p4), .val (.int (Int32.ofNat n)), .val (.int (Int32.ofNat k4)), .val (.int (Int32.ofNat k7)), .unset, .unset, .unset, .unset, .unset]) rfl hr_) ?_
    show GoesW p ee below s _ _ _ _ _ (T7.setTop (mkF m 39 #[.val (.int p1), .val (.int p2), .val (.int p3), .val (.int p4), .val (.int (Int32.ofNat n)), .val (.int (Int32.ofNat k4)), .val (.int (Int32.ofNat k7)), .unset, .unset, .unset, .unset, .unset] []))
    refine GoesW.step (fun _ hr_ => XS.iloadN X7.here hx rfl (hb hby at_39) rfl  hr_) ?_
    show GoesW p ee below s _ _ _ _ _ (T7.setTop (mkF m 40 #[.val (.int p1), .val (.int p2), .val (.int p3), .val (.int p4), .val (.int (Int32.ofNat n)), .val (.int (Int32.ofNat k4)), .val (.int (Int32.ofNat k7)), .unset, .unset, .unset, .unset, .unset] [(.int p4)]))
    obtain ⟨v10, vm10, T10, L10, ⟨X10, Cn10, hZ, hown, hsaf10⟩, hQ10, st10⟩ := own_callSW X7 hx hZ hEL C (y := (⟨"com/example/landshut/landshut/NodeIdsCheckPinLaw", "pick", "(I)C"⟩ : MethodName)) hown (hw _ (List.mem_of_getElem? (i := 0) rfl)) (hw _ (List.mem_of_getElem? (i := 1) rfl)) (hw _ (List.mem_of_getElem? (i := 2) rfl)) (hw _ (List.mem_of_getElem? (i := 3) rfl)) (by decide) (argsL := [(.int p4)]) (ws := []) (fun _ q => nomatch q) (rm_pick l Z a0 hw [] cs fm p4 h7 n0 Zp9 ST OO ) e7 (W := 0) (by decide) (by decide) (by decide) (by decide) (g := (mkF m 40 #[.val (.int p1), .val (.int p2), .val (.int p3), .val (.int p4), .val (.int (Int32.ofNat n)), .val (.int (Int32.ofNat k4)), .val (.int (Int32.ofNat k7)), .unset, .unset, .unset, .unset, .unset] [(.int p4)])) rfl (by rw [hml]; rfl) (rest := []) (lenOf pd_10 rfl) rfl (by show 2 * 0 + _ ≤ _; exact Nat.le_of_eq rfl) (hb hby at_40)
    refine GoesW.step st10 ?_
    obtain ⟨⟨k10, hk10, rfl⟩, N10, Kc10⟩ := hQ10
    have N11 := Fr.app N8 N10
    obtain ⟨h10, e10⟩ : ∃ h', T10.heap = h' := ⟨_, rfl⟩
    rw [e10] at Kc10 Cn10 hsaf10 
    have C := Cn10
    have OO := OO.keep Kc10 all0
    have Zp12 := Nat.le_trans Zp9 Kc10.1
    show GoesW p ee below s _ _ _ _ _ (T10.setTop (mkF m 43 #[.val (.int p1), .val (.int p2), .val (.int p3), .val (.int p4), .val (.int (Int32.ofNat n)), .val (.int (Int32.ofNat k4)), .val (.int (Int32.ofNat k7)), .unset, .unset, .unset, .unset, .unset] [(.int (Int32.ofNat k10))]))
    refine GoesW.step (fun _ hr_ => XS.istore X10.here hx rfl (hb hby at_43) rfl  (l' := #[.val (.int p1), .val (.int p2), .val (.int p3), .val (.int p4), .val (.int (Int32.ofNat n)), .val (.int (Int32.ofNat k4)), .val (.int (Int32.ofNat k7)), .val (.int (Int32.ofNat k10)), .unset, .unset, .unset, .unset]) rfl hr_) ?_
    show GoesW p ee below s _ _ _ _ _ (T10.setTop (mkF m 45 #[.val (.int p1), .val (.int p2), .val (.int p3), .val (.int p4), .val (.int (Int32.ofNat n)), .val (.int (Int32.ofNat k4)), .val (.int (Int32.ofNat k7)), .val (.int (Int32.ofNat k10)), .unset, .unset, .unset, .unset] []))
    have hcases : n = 0 ∨ n = 1 ∨ n = 2 ∨ n = 3 := by omega
    rcases hcases with rfl | rfl | rfl | rfl
    · show GoesW p ee below s _ _ _ _ _ (T10.setTop (mkF m 45 #[.val (.int p1), .val (.int p2), .val (.int p3), .val (.int p4), .val (.int (0 : Int32)), .val (.int (Int32.ofNat k4)), .val (.int (Int32.ofNat k7)), .val (.int (Int32.ofNat k10)), .unset, .unset, .unset, .unset] []))
      refine GoesW.step (fun _ hr_ => XS.iload X10.here hx rfl (hb hby at_45) rfl  hr_) ?_
      show GoesW p ee below s _ _ _ _ _ (T10.setTop (mkF m 47 #[.val (.int p1), .val (.int p2), .val (.int p3), .val (.int p4), .val (.int (0 : Int32)), .val (.int (Int32.ofNat k4)), .val (.int (Int32.ofNat k7)), .val (.int (Int32.ofNat k10)), .unset, .unset, .unset, .unset] [(.int (0 : Int32))]))
      refine GoesW.step (fun _ hr_ => XS.ifNo X10.here hx rfl (hb hby at_47) rfl ((if0 _ _).trans (teq (by decide)).2) hr_) ?_
      show GoesW p ee below s _ _ _ _ _ (T10.setTop (mkF m 50 #[.val (.int p1), .val (.int p2), .val (.int p3), .val (.int p4), .val (.int (0 : Int32)), .val (.int (Int32.ofNat k4)), .val (.int (Int32.ofNat k7)), .val (.int (Int32.ofNat k10)), .unset, .unset, .unset, .unset] []))
      refine GoesW.step (fun _ hr_ => XS.iconst X10.here hx rfl (hb hby at_50) hr_) ?_
      show GoesW p ee below s _ _ _ _ _ (T10.setTop (mkF m 51 #[.val (.int p1), .val (.int p2), .val (.int p3), .val (.int p4), .val (.int (0 : Int32)), .val (.int (Int32.ofNat k4)), .val (.int (Int32.ofNat k7)), .val (.int (Int32.ofNat k10)), .unset, .unset, .unset, .unset] [(.int (0 : Int32))]))
      obtain ⟨T13, h13, X13, e13, E13, A13, st13⟩ := own_newP X10 hx hZ (aty := .char) (hw _ (List.mem_of_getElem? (i := 38) rfl)) e10 (z := (0 : Int32)) (by decide) (n := 0) rfl (cap := 0) (Nat.le_refl _) (by decide) (by decide) (by decide) (g := (mkF m 51 #[.val (.int p1), .val (.int p2), .val (.int p3), .val (.int p4), .val (.int (0 : Int32)), .val (.int (Int32.ofNat k4)), .val (.int (Int32.ofNat k7)), .val (.int (Int32.ofNat k10)), .unset, .unset, .unset, .unset] [(.int (0 : Int32))])) rfl rfl (hb hby at_51)
      obtain ⟨b13, g_b13⟩ : ∃ z, z = h10.size := ⟨_, rfl⟩
      have ge_b13 : n0 ≤ b13 := Nat.le_trans Zp12 (Nat.le_of_eq g_b13.symm)
      rw [← g_b13] at A13 st13
      have Zp14 := Nat.le_trans Zp12 E13.1
      have sf_b13 := Safe.ext E13 C.chv (Safe.new (Nat.le_of_eq g_b13.symm))
      have C := C.ext E13
      have OO := OO.ext E13
      refine GoesW.step st13 ?_
      have A_b13 : OA Z h13 b13 .char 0 (fun _ => (.int 0)) := A13
      show GoesW p ee below s _ _ _ _ _ (T13.setTop (mkF m 53 #[.val (.int p1), .val (.int p2), .val (.int p3), .val (.int p4), .val (.int (0 : Int32)), .val (.int (Int32.ofNat k4)), .val (.int (Int32.ofNat k7)), .val (.int (Int32.ofNat k10)), .unset, .unset, .unset, .unset] [(.ref b13)]))
      refine GoesW.step (fun _ hr_ => XS.astore X13.here hx rfl (hb hby at_53) rfl rfl (l' := #[.val (.int p1), .val (.int p2), .val (.int p3), .val (.int p4), .val (.int (0 : Int32)), .val (.int (Int32.ofNat k4)), .val (.int (Int32.ofNat k7)), .val (.int (Int32.ofNat k10)), .val (.ref b13), .unset, .unset, .unset]) rfl hr_) ?_
      show GoesW p ee below s _ _ _ _ _ (T13.setTop (mkF m 55 #[.val (.int p1), .val (.int p2), .val (.int p3), .val (.int p4), .val (.int (0 : Int32)), .val (.int (Int32.ofNat k4)), .val (.int (Int32.ofNat k7)), .val (.int (Int32.ofNat k10)), .val (.ref b13), .unset, .unset, .unset] []))
      refine GoesW.step (fun _ hr_ => XS.iconst X13.here hx rfl (hb hby at_55) hr_) ?_
      show GoesW p ee below s _ _ _ _ _ (T13.setTop (mkF m 56 #[.val (.int p1), .val (.int p2), .val (.int p3), .val (.int p4), .val (.int (0 : Int32)), .val (.int (Int32.ofNat k4)), .val (.int (Int32.ofNat k7)), .val (.int (Int32.ofNat k10)), .val (.ref b13), .unset, .unset, .unset] [(.int (0 : Int32))]))
      refine GoesW.step (fun _ hr_ => XS.istore X13.here hx rfl (hb hby at_56) rfl  (l' := #[.val (.int p1), .val (.int p2), .val (.int p3), .val (.int p4), .val (.int (0 : Int32)), .val (.int (Int32.ofNat k4)), .val (.int (Int32.ofNat k7)), .val (.int (Int32.ofNat k10)), .val (.ref b13), .val (.int (0 : Int32)), .unset, .unset]) rfl hr_) ?_
      show GoesW p ee below s _ _ _ _ _ (T13.setTop (mkF m 58 #[.val (.int p1), .val (.int p2), .val (.int p3), .val (.int p4), .val (.int (0 : Int32)), .val (.int (Int32.ofNat k4)), .val (.int (Int32.ofNat k7)), .val (.int (Int32.ofNat k10)), .val (.ref b13), .val (.int (0 : Int32)), .unset, .unset] []))
      refine GoesW.step (fun _ hr_ => XS.goto X13.here hx rfl (pc0 := 58) (pc' := 185) rfl (hb hby at_58) (by decide) (by decide) hr_) ?_
      show GoesW p ee below s _ _ _ _ _ (T13.setTop (mkF m 185 #[.val (.int p1), .val (.int p2), .val (.int p3), .val (.int p4), .val (.int (0 : Int32)), .val (.int (Int32.ofNat k4)), .val (.int (Int32.ofNat k7)), .val (.int (Int32.ofNat k10)), .val (.ref b13), .val (.int (0 : Int32)), .unset, .unset] []))
      obtain ⟨T15, h15, X15, e15, E15, A15, D15, -, st15⟩ := newO X13 hx hZ hown (hw _ (List.mem_of_getElem? (i := 39) rfl)) (hw _ (List.mem_of_getElem? (i := 6) rfl)) (hw _ (List.mem_of_getElem? (i := 5) rfl)) e13 (g := (mkF m 185 #[.val (.int p1), .val (.int p2), .val (.int p3), .val (.int p4), .val (.int (0 : Int32)), .val (.int (Int32.ofNat k4)), .val (.int (Int32.ofNat k7)), .val (.int (Int32.ofNat k10)), .val (.ref b13), .val (.int (0 : Int32)), .unset, .unset] [])) rfl (hb hby at_185) (by decide) (by decide)
      obtain ⟨b15, g_b15⟩ : ∃ z, z = h13.size := ⟨_, rfl⟩
      have ne_b13_b15 : b13 ≠ b15 := Nat.ne_of_lt (Nat.lt_of_lt_of_le A_b13.lt (Nat.le_of_eq g_b15.symm))
      have ge_b15 : n0 ≤ b15 := Nat.le_trans Zp14 (Nat.le_of_eq g_b15.symm)
      rw [← g_b15] at A15 D15 st15
      have A_b13 := A_b13.ext E15
      have Zp16 := Nat.le_trans Zp14 E15.1
      have sf_b13 := Safe.ext E15 C.chv sf_b13
      have sf_b15 := Safe.ext E15 C.chv (Safe.new (Nat.le_of_eq g_b15.symm))
      have C := C.ext E15
      have OO := OO.ext E15
      refine GoesW.step st15 ?_
      have E_b15 := A15
      have F_value_b15 : Fld Z h15 b15 "java/lang/String" "value" "[B" .null := D15 (Or.inr (hw _ (List.mem_of_getElem? (i := 8) rfl))) (ty := (.array .byte)) (by decide)
      have F_coder_b15 : Fld Z h15 b15 "java/lang/String" "coder" "B" (.int (0 : Int32)) := D15 (Or.inr (hw _ (List.mem_of_getElem? (i := 9) rfl))) (ty := .byte) (by decide)
      show GoesW p ee below s _ _ _ _ _ (T15.setTop (mkF m 188 #[.val (.int p1), .val (.int p2), .val (.int p3), .val (.int p4), .val (.int (0 : Int32)), .val (.int (Int32.ofNat k4)), .val (.int (Int32.ofNat k7)), .val (.int (Int32.ofNat k10)), .val (.ref b13), .val (.int (0 : Int32)), .unset, .unset] [(.ref b15)]))
      refine GoesW.step (fun _ hr_ => XS.dup X15.here hx rfl (hb hby at_188) rfl rfl hr_) ?_
      show GoesW p ee below s _ _ _ _ _ (T15.setTop (mkF m 189 #[.val (.int p1), .val (.int p2), .val (.int p3), .val (.int p4), .val (.int (0 : Int32)), .val (.int (Int32.ofNat k4)), .val (.int (Int32.ofNat k7)), .val (.int (Int32.ofNat k10)), .val (.ref b13), .val (.int (0 : Int32)), .unset, .unset] [(.ref b15), (.ref b15)]))
      refine GoesW.step (fun _ hr_ => XS.aload X15.here hx rfl (hb hby at_189) rfl rfl hr_) ?_
      show GoesW p ee below s _ _ _ _ _ (T15.setTop (mkF m 191 #[.val (.int p1), .val (.int p2), .val (.int p3), .val (.int p4), .val (.int (0 : Int32)), .val (.int (Int32.ofNat k4)), .val (.int (Int32.ofNat k7)), .val (.int (Int32.ofNat k10)), .val (.ref b13), .val (.int (0 : Int32)), .unset, .unset] [(.ref b13), (.ref b15), (.ref b15)]))
      have A_b13 : OA Z h15 b13 .char 0 (fun _ => .int 0) := A_b13
      have lt_b13 := A_b13.lt
      have lt_b15 := E_b15.lt
      obtain ⟨v17, vm17, T17, L17, ⟨X17, Cn17, hZ, hown, hsaf17⟩, hQ17, st17⟩ := own_callNW X15 hx hZ hEL C (y := (⟨"java/lang/String", "<init>", "([C)V"⟩ : MethodName)) rfl hown (hw _ (List.mem_of_getElem? (i := 40) rfl)) (hw _ (List.mem_of_getElem? (i := 41) rfl)) (hw _ (List.mem_of_getElem? (i := 5) rfl)) (hw _ (List.mem_of_getElem? (i := 42) rfl)) (by decide) (a := b15) (argsL := [(.ref b13)]) (ws := [b15]) (own_allS ⟨lt_b15, sf_b15⟩ (fun _ q => nomatch q)) (rm_sin1w l Z a0 hw [] cs fm b15 b13 _ _ _ h15 n0 Zp16 ST OO ge_b15 (Ne.symm ne_b13_b15) E_b15 F_value_b15 F_coder_b15 A_b13) e15 (W := 1) (by decide) (by decide) (by decide) (by decide) (g := (mkF m 191 #[.val (.int p1), .val (.int p2), .val (.int p3), .val (.int p4), .val (.int (0 : Int32)), .val (.int (Int32.ofNat k4)), .val (.int (Int32.ofNat k7)), .val (.int (Int32.ofNat k10)), .val (.ref b13), .val (.int (0 : Int32)), .unset, .unset] [(.ref b13), (.ref b15), (.ref b15)])) rfl (by rw [hml]; rfl) (rest := [(.ref b15)]) (lenOf pd_14 rfl) rfl (by show 2 * 0 + _ ≤ _; exact Nat.le_of_eq rfl) (hb hby at_191)
      refine GoesW.step st17 ?_
      obtain ⟨rfl, N17, Kc17, b17, Ei17, Fv17, Fc17, AE_b17⟩ := hQ17
      have N18 := Fr.app N11 N17
      obtain ⟨h17, e17⟩ : ∃ h', T17.heap = h' := ⟨_, rfl⟩
      rw [e17] at Kc17 Cn17 hsaf17 Ei17 Fv17 Fc17 AE_b17
      have sf_b13 := hsaf17 b13 lt_b13 sf_b13
      have sf_b15 := hsaf17 b15 lt_b15 sf_b15
      have C := Cn17
      have A_b13 := A_b13.keep Kc17 (ninS ne_b13_b15 nin0)
      have OO := OO.keep Kc17 (allS ge_b15 all0)
      have Zp19 := Nat.le_trans Zp16 Kc17.1
      have A_b17 := AE_b17 (fun _ => 0)
      show GoesW p ee below s _ _ _ _ _ (T17.setTop (mkF m 194 #[.val (.int p1), .val (.int p2), .val (.int p3), .val (.int p4), .val (.int (0 : Int32)), .val (.int (Int32.ofNat k4)), .val (.int (Int32.ofNat k7)), .val (.int (Int32.ofNat k10)), .val (.ref b13), .val (.int (0 : Int32)), .unset, .unset] [(.ref b15)]))
      refine GoesW.step (fun _ hr_ => XS.astore X17.here hx rfl (hb hby at_194) rfl rfl (l' := #[.val (.int p1), .val (.int p2), .val (.int p3), .val (.int p4), .val (.int (0 : Int32)), .val (.int (Int32.ofNat k4)), .val (.int (Int32.ofNat k7)), .val (.int (Int32.ofNat k10)), .val (.ref b13), .val (.int (0 : Int32)), .val (.ref b15), .unset]) rfl hr_) ?_
      show GoesW p ee below s _ _ _ _ _ (T17.setTop (mkF m 196 #[.val (.int p1), .val (.int p2), .val (.int p3), .val (.int p4), .val (.int (0 : Int32)), .val (.int (Int32.ofNat k4)), .val (.int (Int32.ofNat k7)), .val (.int (Int32.ofNat k10)), .val (.ref b13), .val (.int (0 : Int32)), .val (.ref b15), .unset] []))
      refine GoesW.step (fun _ hr_ => XS.aload X17.here hx rfl (hb hby at_196) rfl rfl hr_) ?_
      show GoesW p ee below s _ _ _ _ _ (T17.setTop (mkF m 198 #[.val (.int p1), .val (.int p2), .val (.int p3), .val (.int p4), .val (.int (0 : Int32)), .val (.int (Int32.ofNat k4)), .val (.int (Int32.ofNat k7)), .val (.int (Int32.ofNat k10)), .val (.ref b13), .val (.int (0 : Int32)), .val (.ref b15), .unset] [(.ref b15)]))
      have lt_b13 := A_b13.lt
      have lt_b15 := Ei17.lt
      have lt_b17 := A_b17.lt
      obtain ⟨v20, T20, L20, X20, hQ20, st20⟩ := own_callS X17 hx hZ (y := (⟨"com/example/landshut/landshut/NodeIds", "isValid", "(Ljava/lang/String;)Z"⟩ : MethodName)) hown (hw _ (List.mem_of_getElem? (i := 51) rfl)) (hw _ (List.mem_of_getElem? (i := 52) rfl)) (hw _ (List.mem_of_getElem? (i := 53) rfl)) (hw _ (List.mem_of_getElem? (i := 54) rfl)) (by decide) (argsL := [(.ref b15)]) (rm_isv l Z a0 hw [] cs fm b15 b17 0 (fun _ => 0) h17 n0 Zp19 ST OO (by decide) Ei17 Fv17 Fc17 A_b17 (fun j hj => absurd hj (Nat.not_lt_zero j)) (fun _ j hj => absurd hj (Nat.not_lt_zero j))) e17 (W := 0) (by decide) (by decide) (by decide) (by decide) (g := (mkF m 198 #[.val (.int p1), .val (.int p2), .val (.int p3), .val (.int p4), .val (.int (0 : Int32)), .val (.int (Int32.ofNat k4)), .val (.int (Int32.ofNat k7)), .val (.int (Int32.ofNat k10)), .val (.ref b13), .val (.int (0 : Int32)), .val (.ref b15), .unset] [(.ref b15)])) rfl (by rw [hml]; rfl) (rest := []) (lenOf pd_13 rfl) rfl (by show 2 * 0 + _ ≤ _; exact Nat.le_of_eq rfl) (hb hby at_198)
      refine GoesW.step st20 ?_
      obtain ⟨⟨r20, rfl, hr20⟩, N20, e20⟩ := hQ20
      have N21 := Fr.app N18 N20
      show GoesW p ee below s _ _ _ _ _ (T20.setTop (mkF m 201 #[.val (.int p1), .val (.int p2), .val (.int p3), .val (.int p4), .val (.int (0 : Int32)), .val (.int (Int32.ofNat k4)), .val (.int (Int32.ofNat k7)), .val (.int (Int32.ofNat k10)), .val (.ref b13), .val (.int (0 : Int32)), .val (.ref b15), .unset] [(.int r20)]))
      refine GoesW.step (fun _ hr_ => XS.iload X20.here hx rfl (hb hby at_201) rfl  hr_) ?_
      show GoesW p ee below s _ _ _ _ _ (T20.setTop (mkF m 203 #[.val (.int p1), .val (.int p2), .val (.int p3), .val (.int p4), .val (.int (0 : Int32)), .val (.int (Int32.ofNat k4)), .val (.int (Int32.ofNat k7)), .val (.int (Int32.ofNat k10)), .val (.ref b13), .val (.int (0 : Int32)), .val (.ref b15), .unset] [(.int (0 : Int32)), (.int r20)]))
      refine GoesW.step (fun _ hr_ => XS.icmpYes X20.here hx rfl (pc0 := 203) (pc' := 208) rfl (hb hby at_203) rfl (teq (by
        rcases hr20 with ⟨-, q⟩ | ⟨q, -⟩
        · exact absurd q.1 (by decide)
        · exact q)).1 (by decide) (by decide) hr_) ?_
      show GoesW p ee below s _ _ _ _ _ (T20.setTop (mkF m 208 #[.val (.int p1), .val (.int p2), .val (.int p3), .val (.int p4), .val (.int (0 : Int32)), .val (.int (Int32.ofNat k4)), .val (.int (Int32.ofNat k7)), .val (.int (Int32.ofNat k10)), .val (.ref b13), .val (.int (0 : Int32)), .val (.ref b15), .unset] []))
      refine GoesW.step (fun _ hr_ => XS.iload X20.here hx rfl (hb hby at_208) rfl  hr_) ?_
      show GoesW p ee below s _ _ _ _ _ (T20.setTop (mkF m 210 #[.val (.int p1), .val (.int p2), .val (.int p3), .val (.int p4), .val (.int (0 : Int32)), .val (.int (Int32.ofNat k4)), .val (.int (Int32.ofNat k7)), .val (.int (Int32.ofNat k10)), .val (.ref b13), .val (.int (0 : Int32)), .val (.ref b15), .unset] [(.int (0 : Int32))]))
      refine GoesW.step (fun _ hr_ => XS.ifNo X20.here hx rfl (hb hby at_210) rfl ((if0 _ _).trans (teq (by decide)).2) hr_) ?_
      show GoesW p ee below s _ _ _ _ _ (T20.setTop (mkF m 213 #[.val (.int p1), .val (.int p2), .val (.int p3), .val (.int p4), .val (.int (0 : Int32)), .val (.int (Int32.ofNat k4)), .val (.int (Int32.ofNat k7)), .val (.int (Int32.ofNat k10)), .val (.ref b13), .val (.int (0 : Int32)), .val (.ref b15), .unset] []))
      refine GoesW.step (fun _ hr_ => XS.iconst X20.here hx rfl (hb hby at_213) hr_) ?_
      show GoesW p ee below s _ _ _ _ _ (T20.setTop (mkF m 214 #[.val (.int p1), .val (.int p2), .val (.int p3), .val (.int p4), .val (.int (0 : Int32)), .val (.int (Int32.ofNat k4)), .val (.int (Int32.ofNat k7)), .val (.int (Int32.ofNat k10)), .val (.ref b13), .val (.int (0 : Int32)), .val (.ref b15), .unset] [(.int (1 : Int32))]))
      refine GoesW.retZ X20 hx hZ hEL C e20 Bd.notSynchronized Bd.returns (by simp) rfl (hb hby at_214) (by decide) (by decide) ?_
      exact ⟨rfl, N21⟩
    · show GoesW p ee below s _ _ _ _ _ (T10.setTop (mkF m 45 #[.val (.int p1), .val (.int p2), .val (.int p3), .val (.int p4), .val (.int (1 : Int32)), .val (.int (Int32.ofNat k4)), .val (.int (Int32.ofNat k7)), .val (.int (Int32.ofNat k10)), .unset, .unset, .unset, .unset] []))
      refine GoesW.step (fun _ hr_ => XS.iload X10.here hx rfl (hb hby at_45) rfl  hr_) ?_
      show GoesW p ee below s _ _ _ _ _ (T10.setTop (mkF m 47 #[.val (.int p1), .val (.int p2), .val (.int p3), .val (.int p4), .val (.int (1 : Int32)), .val (.int (Int32.ofNat k4)), .val (.int (Int32.ofNat k7)), .val (.int (Int32.ofNat k10)), .unset, .unset, .unset, .unset] [(.int (1 : Int32))]))
      refine GoesW.step (fun _ hr_ => XS.ifYes X10.here hx rfl (pc0 := 47) (pc' := 61) rfl (hb hby at_47) rfl ((if0 _ _).trans (feq (by decide)).2) (by decide) (by decide) hr_) ?_
      show GoesW p ee below s _ _ _ _ _ (T10.setTop (mkF m 61 #[.val (.int p1), .val (.int p2), .val (.int p3), .val (.int p4), .val (.int (1 : Int32)), .val (.int (Int32.ofNat k4)), .val (.int (Int32.ofNat k7)), .val (.int (Int32.ofNat k10)), .unset, .unset, .unset, .unset] []))
      refine GoesW.step (fun _ hr_ => XS.iload X10.here hx rfl (hb hby at_61) rfl  hr_) ?_
      show GoesW p ee below s _ _ _ _ _ (T10.setTop (mkF m 63 #[.val (.int p1), .val (.int p2), .val (.int p3), .val (.int p4), .val (.int (1 : Int32)), .val (.int (Int32.ofNat k4)), .val (.int (Int32.ofNat k7)), .val (.int (Int32.ofNat k10)), .unset, .unset, .unset, .unset] [(.int (1 : Int32))]))
      refine GoesW.step (fun _ hr_ => XS.iconst X10.here hx rfl (hb hby at_63) hr_) ?_
      show GoesW p ee below s _ _ _ _ _ (T10.setTop (mkF m 64 #[.val (.int p1), .val (.int p2), .val (.int p3), .val (.int p4), .val (.int (1 : Int32)), .val (.int (Int32.ofNat k4)), .val (.int (Int32.ofNat k7)), .val (.int (Int32.ofNat k10)), .unset, .unset, .unset, .unset] [(.int (1 : Int32)), (.int (1 : Int32))]))
      refine GoesW.step (fun _ hr_ => XS.icmpNo X10.here hx rfl (hb hby at_64) rfl (teq (by decide)).2 hr_) ?_
      show GoesW p ee below s _ _ _ _ _ (T10.setTop (mkF m 67 #[.val (.int p1), .val (.int p2), .val (.int p3), .val (.int p4), .val (.int (1 : Int32)), .val (.int (Int32.ofNat k4)), .val (.int (Int32.ofNat k7)), .val (.int (Int32.ofNat k10)), .unset, .unset, .unset, .unset] []))
      refine GoesW.step (fun _ hr_ => XS.iconst X10.here hx rfl (hb hby at_67) hr_) ?_
      show GoesW p ee below s _ _ _ _ _ (T10.setTop (mkF m 68 #[.val (.int p1), .val (.int p2), .val (.int p3), .val (.int p4), .val (.int (1 : Int32)), .val (.int (Int32.ofNat k4)), .val (.int (Int32.ofNat k7)), .val (.int (Int32.ofNat k10)), .unset, .unset, .unset, .unset] [(.int (1 : Int32))]))
      obtain ⟨T22, h22, X22, e22, E22, A22, st22⟩ := own_newP X10 hx hZ (aty := .char) (hw _ (List.mem_of_getElem? (i := 38) rfl)) e10 (z := (1 : Int32)) (by decide) (n := 1) rfl (cap := 1) (Nat.le_refl _) (by decide) (by decide) (by decide) (g := (mkF m 68 #[.val (.int p1), .val (.int p2), .val (.int p3), .val (.int p4), .val (.int (1 : Int32)), .val (.int (Int32.ofNat k4)), .val (.int (Int32.ofNat k7)), .val (.int (Int32.ofNat k10)), .unset, .unset, .unset, .unset] [(.int (1 : Int32))])) rfl rfl (hb hby at_68)
      obtain ⟨b22, g_b22⟩ : ∃ z, z = h10.size := ⟨_, rfl⟩
      have ge_b22 : n0 ≤ b22 := Nat.le_trans Zp12 (Nat.le_of_eq g_b22.symm)
      rw [← g_b22] at A22 st22
      have Zp23 := Nat.le_trans Zp12 E22.1
      have sf_b22 := Safe.ext E22 C.chv (Safe.new (Nat.le_of_eq g_b22.symm))
      have C := C.ext E22
      have OO := OO.ext E22
      refine GoesW.step st22 ?_
      have A_b22 : OA Z h22 b22 .char 1 (fun _ => (.int 0)) := A22
      show GoesW p ee below s _ _ _ _ _ (T22.setTop (mkF m 70 #[.val (.int p1), .val (.int p2), .val (.int p3), .val (.int p4), .val (.int (1 : Int32)), .val (.int (Int32.ofNat k4)), .val (.int (Int32.ofNat k7)), .val (.int (Int32.ofNat k10)), .unset, .unset, .unset, .unset] [(.ref b22)]))
      refine GoesW.step (fun _ hr_ => XS.dup X22.here hx rfl (hb hby at_70) rfl rfl hr_) ?_
      show GoesW p ee below s _ _ _ _ _ (T22.setTop (mkF m 71 #[.val (.int p1), .val (.int p2), .val (.int p3), .val (.int p4), .val (.int (1 : Int32)), .val (.int (Int32.ofNat k4)), .val (.int (Int32.ofNat k7)), .val (.int (Int32.ofNat k10)), .unset, .unset, .unset, .unset] [(.ref b22), (.ref b22)]))
      refine GoesW.step (fun _ hr_ => XS.iconst X22.here hx rfl (hb hby at_71) hr_) ?_
      show GoesW p ee below s _ _ _ _ _ (T22.setTop (mkF m 72 #[.val (.int p1), .val (.int p2), .val (.int p3), .val (.int p4), .val (.int (1 : Int32)), .val (.int (Int32.ofNat k4)), .val (.int (Int32.ofNat k7)), .val (.int (Int32.ofNat k10)), .unset, .unset, .unset, .unset] [(.int (0 : Int32)), (.ref b22), (.ref b22)]))
      refine GoesW.step (fun _ hr_ => XS.iload X22.here hx rfl (hb hby at_72) rfl  hr_) ?_
      show GoesW p ee below s _ _ _ _ _ (T22.setTop (mkF m 74 #[.val (.int p1), .val (.int p2), .val (.int p3), .val (.int p4), .val (.int (1 : Int32)), .val (.int (Int32.ofNat k4)), .val (.int (Int32.ofNat k7)), .val (.int (Int32.ofNat k10)), .unset, .unset, .unset, .unset] [(.int (Int32.ofNat k4)), (.int (0 : Int32)), (.ref b22), (.ref b22)]))
      obtain ⟨T24, h24, X24, e24, W24, A24, st24⟩ := own_stC X22 hx hZ e22 A_b22 (x := (Int32.ofNat k4)) (j := (0 : Int32)) (by decide) (k := 0) rfl (by decide) (g := (mkF m 74 #[.val (.int p1), .val (.int p2), .val (.int p3), .val (.int p4), .val (.int (1 : Int32)), .val (.int (Int32.ofNat k4)), .val (.int (Int32.ofNat k7)), .val (.int (Int32.ofNat k10)), .unset, .unset, .unset, .unset] [(.int (Int32.ofNat k4)), (.int (0 : Int32)), (.ref b22), (.ref b22)])) rfl rfl (hb hby at_74)
      refine GoesW.step st24 ?_
      have Zp25 := Nat.le_trans Zp23 (Keep.of_wr W24).1
      have N26 := Fr.snoc X24 N11 ge_b22
      have sfw := sf_b22
      have sf_b22 := Safe.wr W24 sfw C.chv sf_b22
      have C := C.wr W24 sfw
      have OO := OO.wr W24 ge_b22
      have A_b22 : OA Z h24 b22 .char 1 (fun i => [(.int (nar .char (Int32.ofNat k4)))].getD i (.int 0)) := A24.congr (fun i hi => by match i, hi with | 0, _ => rfl | i + 1, hi => omega)
      show GoesW p ee below s _ _ _ _ _ (T24.setTop (mkF m 75 #[.val (.int p1), .val (.int p2), .val (.int p3), .val (.int p4), .val (.int (1 : Int32)), .val (.int (Int32.ofNat k4)), .val (.int (Int32.ofNat k7)), .val (.int (Int32.ofNat k10)), .unset, .unset, .unset, .unset] [(.ref b22)]))
      refine GoesW.step (fun _ hr_ => XS.astore X24.here hx rfl (hb hby at_75) rfl rfl (l' := #[.val (.int p1), .val (.int p2), .val (.int p3), .val (.int p4), .val (.int (1 : Int32)), .val (.int (Int32.ofNat k4)), .val (.int (Int32.ofNat k7)), .val (.int (Int32.ofNat k10)), .val (.ref b22), .unset, .unset, .unset]) rfl hr_) ?_
      show GoesW p ee below s _ _ _ _ _ (T24.setTop (mkF m 77 #[.val (.int p1), .val (.int p2), .val (.int p3), .val (.int p4), .val (.int (1 : Int32)), .val (.int (Int32.ofNat k4)), .val (.int (Int32.ofNat k7)), .val (.int (Int32.ofNat k10)), .val (.ref b22), .unset, .unset, .unset] []))
      refine GoesW.step (fun _ hr_ => XS.iload X24.here hx rfl (hb hby at_77) rfl  hr_) ?_
      show GoesW p ee below s _ _ _ _ _ (T24.setTop (mkF m 79 #[.val (.int p1), .val (.int p2), .val (.int p3), .val (.int p4), .val (.int (1 : Int32)), .val (.int (Int32.ofNat k4)), .val (.int (Int32.ofNat k7)), .val (.int (Int32.ofNat k10)), .val (.ref b22), .unset, .unset, .unset] [(.int (Int32.ofNat k4))]))
      have lt_b22 := A_b22.lt
      obtain ⟨v27, T27, L27, X27, hQ27, st27⟩ := own_callS X24 hx hZ (y := (⟨"com/example/landshut/landshut/NodeIdsCheckPinLaw", "ok", "(C)Z"⟩ : MethodName)) hown (hw _ (List.mem_of_getElem? (i := 63) rfl)) (hw _ (List.mem_of_getElem? (i := 64) rfl)) (hw _ (List.mem_of_getElem? (i := 2) rfl)) (hw _ (List.mem_of_getElem? (i := 65) rfl)) (by decide) (argsL := [(.int (Int32.ofNat k4))]) (rm_ok l Z a0 hw [] k4 h24 n0 Zp25 (Nat.lt_trans hk4 (by decide))) e24 (W := 0) (by decide) (by decide) (by decide) (by decide) (g := (mkF m 79 #[.val (.int p1), .val (.int p2), .val (.int p3), .val (.int p4), .val (.int (1 : Int32)), .val (.int (Int32.ofNat k4)), .val (.int (Int32.ofNat k7)), .val (.int (Int32.ofNat k10)), .val (.ref b22), .unset, .unset, .unset] [(.int (Int32.ofNat k4))])) rfl (by rw [hml]; rfl) (rest := []) (lenOf pd_11 rfl) rfl (by show 2 * 0 + _ ≤ _; exact Nat.le_of_eq rfl) (hb hby at_79)
      refine GoesW.step st27 ?_
      obtain ⟨rfl, N27, e27⟩ := hQ27
      have N28 := Fr.app N26 N27
      show GoesW p ee below s _ _ _ _ _ (T27.setTop (mkF m 82 #[.val (.int p1), .val (.int p2), .val (.int p3), .val (.int p4), .val (.int (1 : Int32)), .val (.int (Int32.ofNat k4)), .val (.int (Int32.ofNat k7)), .val (.int (Int32.ofNat k10)), .val (.ref b22), .unset, .unset, .unset] [(.int (if own_idc k4 then (1 : Int32) else 0))]))
      by_cases hid : own_idc k4
      · rw [if_pos hid]
        show GoesW p ee below s _ _ _ _ _ (T27.setTop (mkF m 82 #[.val (.int p1), .val (.int p2), .val (.int p3), .val (.int p4), .val (.int (1 : Int32)), .val (.int (Int32.ofNat k4)), .val (.int (Int32.ofNat k7)), .val (.int (Int32.ofNat k10)), .val (.ref b22), .unset, .unset, .unset] [(.int (1 : Int32))]))
        refine GoesW.step (fun _ hr_ => XS.istore X27.here hx rfl (hb hby at_82) rfl  (l' := #[.val (.int p1), .val (.int p2), .val (.int p3), .val (.int p4), .val (.int (1 : Int32)), .val (.int (Int32.ofNat k4)), .val (.int (Int32.ofNat k7)), .val (.int (Int32.ofNat k10)), .val (.ref b22), .val (.int (1 : Int32)), .unset, .unset]) rfl hr_) ?_
        show GoesW p ee below s _ _ _ _ _ (T27.setTop (mkF m 84 #[.val (.int p1), .val (.int p2), .val (.int p3), .val (.int p4), .val (.int (1 : Int32)), .val (.int (Int32.ofNat k4)), .val (.int (Int32.ofNat k7)), .val (.int (Int32.ofNat k10)), .val (.ref b22), .val (.int (1 : Int32)), .unset, .unset] []))
        refine GoesW.step (fun _ hr_ => XS.goto X27.here hx rfl (pc0 := 84) (pc' := 185) rfl (hb hby at_84) (by decide) (by decide) hr_) ?_
        show GoesW p ee below s _ _ _ _ _ (T27.setTop (mkF m 185 #[.val (.int p1), .val (.int p2), .val (.int p3), .val (.int p4), .val (.int (1 : Int32)), .val (.int (Int32.ofNat k4)), .val (.int (Int32.ofNat k7)), .val (.int (Int32.ofNat k10)), .val (.ref b22), .val (.int (1 : Int32)), .unset, .unset] []))
        obtain ⟨T29, h29, X29, e29, E29, A29, D29, -, st29⟩ := newO X27 hx hZ hown (hw _ (List.mem_of_getElem? (i := 39) rfl)) (hw _ (List.mem_of_getElem? (i := 6) rfl)) (hw _ (List.mem_of_getElem? (i := 5) rfl)) e27 (g := (mkF m 185 #[.val (.int p1), .val (.int p2), .val (.int p3), .val (.int p4), .val (.int (1 : Int32)), .val (.int (Int32.ofNat k4)), .val (.int (Int32.ofNat k7)), .val (.int (Int32.ofNat k10)), .val (.ref b22), .val (.int (1 : Int32)), .unset, .unset] [])) rfl (hb hby at_185) (by decide) (by decide)
        obtain ⟨b29, g_b29⟩ : ∃ z, z = h24.size := ⟨_, rfl⟩
        have ne_b22_b29 : b22 ≠ b29 := Nat.ne_of_lt (Nat.lt_of_lt_of_le A_b22.lt (Nat.le_of_eq g_b29.symm))
        have ge_b29 : n0 ≤ b29 := Nat.le_trans Zp25 (Nat.le_of_eq g_b29.symm)
        rw [← g_b29] at A29 D29 st29
        have A_b22 := A_b22.ext E29
        have Zp30 := Nat.le_trans Zp25 E29.1
        have sf_b22 := Safe.ext E29 C.chv sf_b22
        have sf_b29 := Safe.ext E29 C.chv (Safe.new (Nat.le_of_eq g_b29.symm))
        have C := C.ext E29
        have OO := OO.ext E29
        refine GoesW.step st29 ?_
        have E_b29 := A29
        have F_value_b29 : Fld Z h29 b29 "java/lang/String" "value" "[B" .null := D29 (Or.inr (hw _ (List.mem_of_getElem? (i := 8) rfl))) (ty := (.array .byte)) (by decide)
        have F_coder_b29 : Fld Z h29 b29 "java/lang/String" "coder" "B" (.int (0 : Int32)) := D29 (Or.inr (hw _ (List.mem_of_getElem? (i := 9) rfl))) (ty := .byte) (by decide)
        show GoesW p ee below s _ _ _ _ _ (T29.setTop (mkF m 188 #[.val (.int p1), .val (.int p2), .val (.int p3), .val (.int p4), .val (.int (1 : Int32)), .val (.int (Int32.ofNat k4)), .val (.int (Int32.ofNat k7)), .val (.int (Int32.ofNat k10)), .val (.ref b22), .val (.int (1 : Int32)), .unset, .unset] [(.ref b29)]))
        refine GoesW.step (fun _ hr_ => XS.dup X29.here hx rfl (hb hby at_188) rfl rfl hr_) ?_
        show GoesW p ee below s _ _ _ _ _ (T29.setTop (mkF m 189 #[.val (.int p1), .val (.int p2), .val (.int p3), .val (.int p4), .val (.int (1 : Int32)), .val (.int (Int32.ofNat k4)), .val (.int (Int32.ofNat k7)), .val (.int (Int32.ofNat k10)), .val (.ref b22), .val (.int (1 : Int32)), .unset, .unset] [(.ref b29), (.ref b29)]))
        refine GoesW.step (fun _ hr_ => XS.aload X29.here hx rfl (hb hby at_189) rfl rfl hr_) ?_
        show GoesW p ee below s _ _ _ _ _ (T29.setTop (mkF m 191 #[.val (.int p1), .val (.int p2), .val (.int p3), .val (.int p4), .val (.int (1 : Int32)), .val (.int (Int32.ofNat k4)), .val (.int (Int32.ofNat k7)), .val (.int (Int32.ofNat k10)), .val (.ref b22), .val (.int (1 : Int32)), .unset, .unset] [(.ref b22), (.ref b29), (.ref b29)]))
        have A_b22 : OA Z h29 b22 .char 1 (fun i => .int (Int32.ofNat ([k4].getD i 0))) := A_b22.congr (fun i hi => by match i, hi with | 0, _ => exact congrArg Value.int (own_charnar k4 (Nat.lt_trans hk4 (by decide))) | i + 1, hi => omega)
        have hlat : ∀ j, j < 1 → [k4].getD j 0 < 256 := fun j hj => by match j, hj with | 0, _ => exact hk4 | j + 1, hj => omega
        have hcs : ∀ j, j < 1 → [k4].getD j 0 < 65536 := fun j hj => Nat.lt_trans (hlat j hj) (by decide)
        have lt_b22 := A_b22.lt
        have lt_b29 := E_b29.lt
        obtain ⟨v31, T31, L31, X31, hQ31, st31⟩ := own_callN X29 hx hZ (y := (⟨"java/lang/String", "<init>", "([C)V"⟩ : MethodName)) rfl hown (hw _ (List.mem_of_getElem? (i := 40) rfl)) (hw _ (List.mem_of_getElem? (i := 41) rfl)) (hw _ (List.mem_of_getElem? (i := 5) rfl)) (hw _ (List.mem_of_getElem? (i := 42) rfl)) (by decide) (a := b29) (argsL := [(.ref b22)]) (rm_sin1 l Z a0 hw [] cs fm b29 b22 1 (fun i => [k4].getD i 0) _ _ h29 n0 Zp30 ST OO (by decide) (by decide) hcs hlat ge_b29 (Ne.symm ne_b22_b29) E_b29 F_value_b29 F_coder_b29 A_b22) e29 (W := 1) (by decide) (by decide) (by decide) (by decide) (g := (mkF m 191 #[.val (.int p1), .val (.int p2), .val (.int p3), .val (.int p4), .val (.int (1 : Int32)), .val (.int (Int32.ofNat k4)), .val (.int (Int32.ofNat k7)), .val (.int (Int32.ofNat k10)), .val (.ref b22), .val (.int (1 : Int32)), .unset, .unset] [(.ref b22), (.ref b29), (.ref b29)])) rfl (by rw [hml]; rfl) (rest := [(.ref b29)]) (lenOf pd_14 rfl) rfl (by show 2 * 0 + _ ≤ _; exact Nat.le_of_eq rfl) (hb hby at_191)
        refine GoesW.step st31 ?_
        obtain ⟨rfl, N31, Kc31, b31, u, sz31, Ei31, Fv31, Fc31, A_b31, hlu, hlu2⟩ := hQ31
        have N32 := Fr.app N28 N31
        obtain ⟨h31, e31⟩ : ∃ h', T31.heap = h' := ⟨_, rfl⟩
        rw [e31] at Kc31 Ei31 Fv31 Fc31 A_b31
        have A_b22 := A_b22.keep Kc31 (ninS ne_b22_b29 nin0)
        have hsk := (sfS sf_b29 sf0)
        have sf_b22 := Safe.keep Kc31 hsk C.chv sf_b22
        have sf_b29 := Safe.keep Kc31 hsk C.chv sf_b29
        have C := C.keep Kc31 hsk
        have OO := OO.keep Kc31 (allS ge_b29 all0)
        have Zp33 := Nat.le_trans Zp30 Kc31.1
        have ge_b31 : n0 ≤ b31 := Nat.le_trans Zp30 sz31
        have ne_b22_b31 : b22 ≠ b31 := Nat.ne_of_lt (Nat.lt_of_lt_of_le lt_b22 sz31)
        have ne_b29_b31 : b29 ≠ b31 := Nat.ne_of_lt (Nat.lt_of_lt_of_le lt_b29 sz31)
        have hu : u = false := by
          cases u
          · rfl
          · obtain ⟨j, hj, hjj⟩ := hlu2 rfl
            exact absurd (hlat j hj) (Nat.not_lt.mpr hjj)
        subst hu
        show GoesW p ee below s _ _ _ _ _ (T31.setTop (mkF m 194 #[.val (.int p1), .val (.int p2), .val (.int p3), .val (.int p4), .val (.int (1 : Int32)), .val (.int (Int32.ofNat k4)), .val (.int (Int32.ofNat k7)), .val (.int (Int32.ofNat k10)), .val (.ref b22), .val (.int (1 : Int32)), .unset, .unset] [(.ref b29)]))
        refine GoesW.step (fun _ hr_ => XS.astore X31.here hx rfl (hb hby at_194) rfl rfl (l' := #[.val (.int p1), .val (.int p2), .val (.int p3), .val (.int p4), .val (.int (1 : Int32)), .val (.int (Int32.ofNat k4)), .val (.int (Int32.ofNat k7)), .val (.int (Int32.ofNat k10)), .val (.ref b22), .val (.int (1 : Int32)), .val (.ref b29), .unset]) rfl hr_) ?_
        show GoesW p ee below s _ _ _ _ _ (T31.setTop (mkF m 196 #[.val (.int p1), .val (.int p2), .val (.int p3), .val (.int p4), .val (.int (1 : Int32)), .val (.int (Int32.ofNat k4)), .val (.int (Int32.ofNat k7)), .val (.int (Int32.ofNat k10)), .val (.ref b22), .val (.int (1 : Int32)), .val (.ref b29), .unset] []))
        refine GoesW.step (fun _ hr_ => XS.aload X31.here hx rfl (hb hby at_196) rfl rfl hr_) ?_
        show GoesW p ee below s _ _ _ _ _ (T31.setTop (mkF m 198 #[.val (.int p1), .val (.int p2), .val (.int p3), .val (.int p4), .val (.int (1 : Int32)), .val (.int (Int32.ofNat k4)), .val (.int (Int32.ofNat k7)), .val (.int (Int32.ofNat k10)), .val (.ref b22), .val (.int (1 : Int32)), .val (.ref b29), .unset] [(.ref b29)]))
        have lt_b22 := A_b22.lt
        have lt_b29 := Ei31.lt
        have lt_b31 := A_b31.lt
        obtain ⟨v34, T34, L34, X34, hQ34, st34⟩ := own_callS X31 hx hZ (y := (⟨"com/example/landshut/landshut/NodeIds", "isValid", "(Ljava/lang/String;)Z"⟩ : MethodName)) hown (hw _ (List.mem_of_getElem? (i := 51) rfl)) (hw _ (List.mem_of_getElem? (i := 52) rfl)) (hw _ (List.mem_of_getElem? (i := 53) rfl)) (hw _ (List.mem_of_getElem? (i := 54) rfl)) (by decide) (argsL := [(.ref b29)]) (rm_isv l Z a0 hw [] cs fm b29 b31 1 (fun i => [k4].getD i 0) h31 n0 Zp33 ST OO (by omega) Ei31 Fv31 Fc31 A_b31 hcs hlu) e31 (W := 0) (by decide) (by decide) (by decide) (by decide) (g := (mkF m 198 #[.val (.int p1), .val (.int p2), .val (.int p3), .val (.int p4), .val (.int (1 : Int32)), .val (.int (Int32.ofNat k4)), .val (.int (Int32.ofNat k7)), .val (.int (Int32.ofNat k10)), .val (.ref b22), .val (.int (1 : Int32)), .val (.ref b29), .unset] [(.ref b29)])) rfl (by rw [hml]; rfl) (rest := []) (lenOf pd_13 rfl) rfl (by show 2 * 0 + _ ≤ _; exact Nat.le_of_eq rfl) (hb hby at_198)
        refine GoesW.step st34 ?_
        obtain ⟨⟨r34, rfl, hr34⟩, N34, e34⟩ := hQ34
        have N35 := Fr.app N32 N34
        show GoesW p ee below s _ _ _ _ _ (T34.setTop (mkF m 201 #[.val (.int p1), .val (.int p2), .val (.int p3), .val (.int p4), .val (.int (1 : Int32)), .val (.int (Int32.ofNat k4)), .val (.int (Int32.ofNat k7)), .val (.int (Int32.ofNat k10)), .val (.ref b22), .val (.int (1 : Int32)), .val (.ref b29), .unset] [(.int r34)]))
        refine GoesW.step (fun _ hr_ => XS.iload X34.here hx rfl (hb hby at_201) rfl  hr_) ?_
        show GoesW p ee below s _ _ _ _ _ (T34.setTop (mkF m 203 #[.val (.int p1), .val (.int p2), .val (.int p3), .val (.int p4), .val (.int (1 : Int32)), .val (.int (Int32.ofNat k4)), .val (.int (Int32.ofNat k7)), .val (.int (Int32.ofNat k10)), .val (.ref b22), .val (.int (1 : Int32)), .val (.ref b29), .unset] [(.int (1 : Int32)), (.int r34)]))
        refine GoesW.step (fun _ hr_ => XS.icmpYes X34.here hx rfl (pc0 := 203) (pc' := 208) rfl (hb hby at_203) rfl (teq (by
          rcases hr34 with ⟨q, -⟩ | ⟨-, q⟩
          · exact q
          · exact absurd ⟨by decide, by decide, fun j hj => by match j, hj with | 0, _ => exact hid | j + 1, hj => omega⟩ q)).1 (by decide) (by decide) hr_) ?_
        show GoesW p ee below s _ _ _ _ _ (T34.setTop (mkF m 208 #[.val (.int p1), .val (.int p2), .val (.int p3), .val (.int p4), .val (.int (1 : Int32)), .val (.int (Int32.ofNat k4)), .val (.int (Int32.ofNat k7)), .val (.int (Int32.ofNat k10)), .val (.ref b22), .val (.int (1 : Int32)), .val (.ref b29), .unset] []))
        refine GoesW.step (fun _ hr_ => XS.iload X34.here hx rfl (hb hby at_208) rfl  hr_) ?_
        show GoesW p ee below s _ _ _ _ _ (T34.setTop (mkF m 210 #[.val (.int p1), .val (.int p2), .val (.int p3), .val (.int p4), .val (.int (1 : Int32)), .val (.int (Int32.ofNat k4)), .val (.int (Int32.ofNat k7)), .val (.int (Int32.ofNat k10)), .val (.ref b22), .val (.int (1 : Int32)), .val (.ref b29), .unset] [(.int (1 : Int32))]))
        refine GoesW.step (fun _ hr_ => XS.ifYes X34.here hx rfl (pc0 := 210) (pc' := 215) rfl (hb hby at_210) rfl ((if0 _ _).trans (feq (by decide)).2) (by decide) (by decide) hr_) ?_
        show GoesW p ee below s _ _ _ _ _ (T34.setTop (mkF m 215 #[.val (.int p1), .val (.int p2), .val (.int p3), .val (.int p4), .val (.int (1 : Int32)), .val (.int (Int32.ofNat k4)), .val (.int (Int32.ofNat k7)), .val (.int (Int32.ofNat k10)), .val (.ref b22), .val (.int (1 : Int32)), .val (.ref b29), .unset] []))
        refine GoesW.step (fun _ hr_ => XS.aload X34.here hx rfl (hb hby at_215) rfl rfl hr_) ?_
        show GoesW p ee below s _ _ _ _ _ (T34.setTop (mkF m 217 #[.val (.int p1), .val (.int p2), .val (.int p3), .val (.int p4), .val (.int (1 : Int32)), .val (.int (Int32.ofNat k4)), .val (.int (Int32.ofNat k7)), .val (.int (Int32.ofNat k10)), .val (.ref b22), .val (.int (1 : Int32)), .val (.ref b29), .unset] [(.ref b29)]))
        have lt_b22 := A_b22.lt
        have lt_b29 := Ei31.lt
        have lt_b31 := A_b31.lt
        obtain ⟨v36, T36, L36, X36, hQ36, st36⟩ := own_callS X34 hx hZ (y := (⟨"com/example/landshut/landshut/NodeIds", "check", "(Ljava/lang/String;)Ljava/lang/String;"⟩ : MethodName)) hown (hw _ (List.mem_of_getElem? (i := 90) rfl)) (hw _ (List.mem_of_getElem? (i := 91) rfl)) (hw _ (List.mem_of_getElem? (i := 53) rfl)) (hw _ (List.mem_of_getElem? (i := 92) rfl)) (by decide) (argsL := [(.ref b29)]) (rm_chk l Z a0 hw [] cs fm b29 b31 1 (fun i => [k4].getD i 0) h31 n0 Zp33 ST OO (by omega) Ei31 Fv31 Fc31 A_b31 hcs hlu ⟨by decide, by decide, fun j hj => by match j, hj with | 0, _ => exact hid | j + 1, hj => omega⟩) e34 (W := 0) (by decide) (by decide) (by decide) (by decide) (g := (mkF m 217 #[.val (.int p1), .val (.int p2), .val (.int p3), .val (.int p4), .val (.int (1 : Int32)), .val (.int (Int32.ofNat k4)), .val (.int (Int32.ofNat k7)), .val (.int (Int32.ofNat k10)), .val (.ref b22), .val (.int (1 : Int32)), .val (.ref b29), .unset] [(.ref b29)])) rfl (by rw [hml]; rfl) (rest := []) (lenOf pd_15 rfl) rfl (by show 2 * 0 + _ ≤ _; exact Nat.le_of_eq rfl) (hb hby at_217)
        refine GoesW.step st36 ?_
        obtain ⟨rfl, N36, e36⟩ := hQ36
        have N37 := Fr.app N35 N36
        show GoesW p ee below s _ _ _ _ _ (T36.setTop (mkF m 220 #[.val (.int p1), .val (.int p2), .val (.int p3), .val (.int p4), .val (.int (1 : Int32)), .val (.int (Int32.ofNat k4)), .val (.int (Int32.ofNat k7)), .val (.int (Int32.ofNat k10)), .val (.ref b22), .val (.int (1 : Int32)), .val (.ref b29), .unset] [(.ref b29)]))
        refine GoesW.step (fun _ hr_ => XS.astore X36.here hx rfl (hb hby at_220) rfl rfl (l' := #[.val (.int p1), .val (.int p2), .val (.int p3), .val (.int p4), .val (.int (1 : Int32)), .val (.int (Int32.ofNat k4)), .val (.int (Int32.ofNat k7)), .val (.int (Int32.ofNat k10)), .val (.ref b22), .val (.int (1 : Int32)), .val (.ref b29), .val (.ref b29)]) rfl hr_) ?_
        show GoesW p ee below s _ _ _ _ _ (T36.setTop (mkF m 222 #[.val (.int p1), .val (.int p2), .val (.int p3), .val (.int p4), .val (.int (1 : Int32)), .val (.int (Int32.ofNat k4)), .val (.int (Int32.ofNat k7)), .val (.int (Int32.ofNat k10)), .val (.ref b22), .val (.int (1 : Int32)), .val (.ref b29), .val (.ref b29)] []))
        refine GoesW.step (fun _ hr_ => XS.aload X36.here hx rfl (hb hby at_222) rfl rfl hr_) ?_
        show GoesW p ee below s _ _ _ _ _ (T36.setTop (mkF m 224 #[.val (.int p1), .val (.int p2), .val (.int p3), .val (.int p4), .val (.int (1 : Int32)), .val (.int (Int32.ofNat k4)), .val (.int (Int32.ofNat k7)), .val (.int (Int32.ofNat k10)), .val (.ref b22), .val (.int (1 : Int32)), .val (.ref b29), .val (.ref b29)] [(.ref b29)]))
        refine GoesW.step (fun _ hr_ => XS.ifnullNo X36.here hx rfl (hb hby at_224) rfl hr_) ?_
        show GoesW p ee below s _ _ _ _ _ (T36.setTop (mkF m 227 #[.val (.int p1), .val (.int p2), .val (.int p3), .val (.int p4), .val (.int (1 : Int32)), .val (.int (Int32.ofNat k4)), .val (.int (Int32.ofNat k7)), .val (.int (Int32.ofNat k10)), .val (.ref b22), .val (.int (1 : Int32)), .val (.ref b29), .val (.ref b29)] []))
        refine GoesW.step (fun _ hr_ => XS.aload X36.here hx rfl (hb hby at_227) rfl rfl hr_) ?_
        show GoesW p ee below s _ _ _ _ _ (T36.setTop (mkF m 229 #[.val (.int p1), .val (.int p2), .val (.int p3), .val (.int p4), .val (.int (1 : Int32)), .val (.int (Int32.ofNat k4)), .val (.int (Int32.ofNat k7)), .val (.int (Int32.ofNat k10)), .val (.ref b22), .val (.int (1 : Int32)), .val (.ref b29), .val (.ref b29)] [(.ref b29)]))
        refine GoesW.step (fun _ hr_ => XS.aload X36.here hx rfl (hb hby at_229) rfl rfl hr_) ?_
        show GoesW p ee below s _ _ _ _ _ (T36.setTop (mkF m 231 #[.val (.int p1), .val (.int p2), .val (.int p3), .val (.int p4), .val (.int (1 : Int32)), .val (.int (Int32.ofNat k4)), .val (.int (Int32.ofNat k7)), .val (.int (Int32.ofNat k10)), .val (.ref b22), .val (.int (1 : Int32)), .val (.ref b29), .val (.ref b29)] [(.ref b29), (.ref b29)]))
        have lt_b22 := A_b22.lt
        have lt_b29 := Ei31.lt
        have lt_b31 := A_b31.lt
        obtain ⟨v38, T38, L38, X38, hQ38, st38⟩ := own_callV X36 hx hZ (y := (⟨"java/lang/String", "equals", "(Ljava/lang/Object;)Z"⟩ : MethodName)) hown (hw _ (List.mem_of_getElem? (i := 94) rfl)) (hw _ (List.mem_of_getElem? (i := 95) rfl)) (hw _ (List.mem_of_getElem? (i := 97) rfl)) (hw _ (List.mem_of_getElem? (i := 96) rfl)) (hw _ (List.mem_of_getElem? (i := 5) rfl)) (hw _ (List.mem_of_getElem? (i := 98) rfl)) (by decide) (a := b29) (argsL := [(.ref b29)]) (rm_eqs l Z a0 hw [] cs fm b29 h31 n0 Zp33 ST OO ) e36 Ei31 (W := 0) (by decide) (by decide) (by decide) (by decide) (g := (mkF m 231 #[.val (.int p1), .val (.int p2), .val (.int p3), .val (.int p4), .val (.int (1 : Int32)), .val (.int (Int32.ofNat k4)), .val (.int (Int32.ofNat k7)), .val (.int (Int32.ofNat k10)), .val (.ref b22), .val (.int (1 : Int32)), .val (.ref b29), .val (.ref b29)] [(.ref b29), (.ref b29)])) rfl (by rw [hml]; rfl) (rest := []) (lenOf pd_16 rfl) rfl (by show 2 * 0 + _ ≤ _; exact Nat.le_of_eq rfl) (hb hby at_231)
        refine GoesW.step st38 ?_
        obtain ⟨rfl, N38, e38⟩ := hQ38
        have N39 := Fr.app N37 N38
        show GoesW p ee below s _ _ _ _ _ (T38.setTop (mkF m 234 #[.val (.int p1), .val (.int p2), .val (.int p3), .val (.int p4), .val (.int (1 : Int32)), .val (.int (Int32.ofNat k4)), .val (.int (Int32.ofNat k7)), .val (.int (Int32.ofNat k10)), .val (.ref b22), .val (.int (1 : Int32)), .val (.ref b29), .val (.ref b29)] [(.int (1 : Int32))]))
        refine GoesW.step (fun _ hr_ => XS.ifNo X38.here hx rfl (hb hby at_234) rfl ((if0 _ _).trans (feq (by decide)).1) hr_) ?_
        show GoesW p ee below s _ _ _ _ _ (T38.setTop (mkF m 237 #[.val (.int p1), .val (.int p2), .val (.int p3), .val (.int p4), .val (.int (1 : Int32)), .val (.int (Int32.ofNat k4)), .val (.int (Int32.ofNat k7)), .val (.int (Int32.ofNat k10)), .val (.ref b22), .val (.int (1 : Int32)), .val (.ref b29), .val (.ref b29)] []))
        refine GoesW.step (fun _ hr_ => XS.iconst X38.here hx rfl (hb hby at_237) hr_) ?_
        show GoesW p ee below s _ _ _ _ _ (T38.setTop (mkF m 238 #[.val (.int p1), .val (.int p2), .val (.int p3), .val (.int p4), .val (.int (1 : Int32)), .val (.int (Int32.ofNat k4)), .val (.int (Int32.ofNat k7)), .val (.int (Int32.ofNat k10)), .val (.ref b22), .val (.int (1 : Int32)), .val (.ref b29), .val (.ref b29)] [(.int (1 : Int32))]))
        refine GoesW.step (fun _ hr_ => XS.goto X38.here hx rfl (pc0 := 238) (pc' := 242) rfl (hb hby at_238) (by decide) (by decide) hr_) ?_
        show GoesW p ee below s _ _ _ _ _ (T38.setTop (mkF m 242 #[.val (.int p1), .val (.int p2), .val (.int p3), .val (.int p4), .val (.int (1 : Int32)), .val (.int (Int32.ofNat k4)), .val (.int (Int32.ofNat k7)), .val (.int (Int32.ofNat k10)), .val (.ref b22), .val (.int (1 : Int32)), .val (.ref b29), .val (.ref b29)] [(.int (1 : Int32))]))
        refine GoesW.retZ X38 hx hZ hEL C e38 Bd.notSynchronized Bd.returns (by simp) rfl (hb hby at_242) (by decide) (by decide) ?_
        exact ⟨rfl, N39⟩
      · rw [if_neg hid]
        show GoesW p ee below s _ _ _ _ _ (T27.setTop (mkF m 82 #[.val (.int p1), .val (.int p2), .val (.int p3), .val (.int p4), .val (.int (1 : Int32)), .val (.int (Int32.ofNat k4)), .val (.int (Int32.ofNat k7)), .val (.int (Int32.ofNat k10)), .val (.ref b22), .unset, .unset, .unset] [(.int (0 : Int32))]))
        refine GoesW.step (fun _ hr_ => XS.istore X27.here hx rfl (hb hby at_82) rfl  (l' := #[.val (.int p1), .val (.int p2), .val (.int p3), .val (.int p4), .val (.int (1 : Int32)), .val (.int (Int32.ofNat k4)), .val (.int (Int32.ofNat k7)), .val (.int (Int32.ofNat k10)), .val (.ref b22), .val (.int (0 : Int32)), .unset, .unset]) rfl hr_) ?_
        show GoesW p ee below s _ _ _ _ _ (T27.setTop (mkF m 84 #[.val (.int p1), .val (.int p2), .val (.int p3), .val (.int p4), .val (.int (1 : Int32)), .val (.int (Int32.ofNat k4)), .val (.int (Int32.ofNat k7)), .val (.int (Int32.ofNat k10)), .val (.ref b22), .val (.int (0 : Int32)), .unset, .unset] []))
        refine GoesW.step (fun _ hr_ => XS.goto X27.here hx rfl (pc0 := 84) (pc' := 185) rfl (hb hby at_84) (by decide) (by decide) hr_) ?_
        show GoesW p ee below s _ _ _ _ _ (T27.setTop (mkF m 185 #[.val (.int p1), .val (.int p2), .val (.int p3), .val (.int p4), .val (.int (1 : Int32)), .val (.int (Int32.ofNat k4)), .val (.int (Int32.ofNat k7)), .val (.int (Int32.ofNat k10)), .val (.ref b22), .val (.int (0 : Int32)), .unset, .unset] []))
        obtain ⟨T40, h40, X40, e40, E40, A40, D40, -, st40⟩ := newO X27 hx hZ hown (hw _ (List.mem_of_getElem? (i := 39) rfl)) (hw _ (List.mem_of_getElem? (i := 6) rfl)) (hw _ (List.mem_of_getElem? (i := 5) rfl)) e27 (g := (mkF m 185 #[.val (.int p1), .val (.int p2), .val (.int p3), .val (.int p4), .val (.int (1 : Int32)), .val (.int (Int32.ofNat k4)), .val (.int (Int32.ofNat k7)), .val (.int (Int32.ofNat k10)), .val (.ref b22), .val (.int (0 : Int32)), .unset, .unset] [])) rfl (hb hby at_185) (by decide) (by decide)
        obtain ⟨b40, g_b40⟩ : ∃ z, z = h24.size := ⟨_, rfl⟩
        have ne_b22_b40 : b22 ≠ b40 := Nat.ne_of_lt (Nat.lt_of_lt_of_le A_b22.lt (Nat.le_of_eq g_b40.symm))
        have ge_b40 : n0 ≤ b40 := Nat.le_trans Zp25 (Nat.le_of_eq g_b40.symm)
        rw [← g_b40] at A40 D40 st40
        have A_b22 := A_b22.ext E40
        have Zp41 := Nat.le_trans Zp25 E40.1
        have sf_b22 := Safe.ext E40 C.chv sf_b22
        have sf_b40 := Safe.ext E40 C.chv (Safe.new (Nat.le_of_eq g_b40.symm))
        have C := C.ext E40
        have OO := OO.ext E40
        refine GoesW.step st40 ?_
        have E_b40 := A40
        have F_value_b40 : Fld Z h40 b40 "java/lang/String" "value" "[B" .null := D40 (Or.inr (hw _ (List.mem_of_getElem? (i := 8) rfl))) (ty := (.array .byte)) (by decide)
        have F_coder_b40 : Fld Z h40 b40 "java/lang/String" "coder" "B" (.int (0 : Int32)) := D40 (Or.inr (hw _ (List.mem_of_getElem? (i := 9) rfl))) (ty := .byte) (by decide)
        show GoesW p ee below s _ _ _ _ _ (T40.setTop (mkF m 188 #[.val (.int p1), .val (.int p2), .val (.int p3), .val (.int p4), .val (.int (1 : Int32)), .val (.int (Int32.ofNat k4)), .val (.int (Int32.ofNat k7)), .val (.int (Int32.ofNat k10)), .val (.ref b22), .val (.int (0 : Int32)), .unset, .unset] [(.ref b40)]))
        refine GoesW.step (fun _ hr_ => XS.dup X40.here hx rfl (hb hby at_188) rfl rfl hr_) ?_
        show GoesW p ee below s _ _ _ _ _ (T40.setTop (mkF m 189 #[.val (.int p1), .val (.int p2), .val (.int p3), .val (.int p4), .val (.int (1 : Int32)), .val (.int (Int32.ofNat k4)), .val (.int (Int32.ofNat k7)), .val (.int (Int32.ofNat k10)), .val (.ref b22), .val (.int (0 : Int32)), .unset, .unset] [(.ref b40), (.ref b40)]))
        refine GoesW.step (fun _ hr_ => XS.aload X40.here hx rfl (hb hby at_189) rfl rfl hr_) ?_
        show GoesW p ee below s _ _ _ _ _ (T40.setTop (mkF m 191 #[.val (.int p1), .val (.int p2), .val (.int p3), .val (.int p4), .val (.int (1 : Int32)), .val (.int (Int32.ofNat k4)), .val (.int (Int32.ofNat k7)), .val (.int (Int32.ofNat k10)), .val (.ref b22), .val (.int (0 : Int32)), .unset, .unset] [(.ref b22), (.ref b40), (.ref b40)]))
        have A_b22 : OA Z h40 b22 .char 1 (fun i => .int (Int32.ofNat ([k4].getD i 0))) := A_b22.congr (fun i hi => by match i, hi with | 0, _ => exact congrArg Value.int (own_charnar k4 (Nat.lt_trans hk4 (by decide))) | i + 1, hi => omega)
        have hlat : ∀ j, j < 1 → [k4].getD j 0 < 256 := fun j hj => by match j, hj with | 0, _ => exact hk4 | j + 1, hj => omega
        have hcs : ∀ j, j < 1 → [k4].getD j 0 < 65536 := fun j hj => Nat.lt_trans (hlat j hj) (by decide)
        have lt_b22 := A_b22.lt
        have lt_b40 := E_b40.lt
        obtain ⟨v42, T42, L42, X42, hQ42, st42⟩ := own_callN X40 hx hZ (y := (⟨"java/lang/String", "<init>", "([C)V"⟩ : MethodName)) rfl hown (hw _ (List.mem_of_getElem? (i := 40) rfl)) (hw _ (List.mem_of_getElem? (i := 41) rfl)) (hw _ (List.mem_of_getElem? (i := 5) rfl)) (hw _ (List.mem_of_getElem? (i := 42) rfl)) (by decide) (a := b40) (argsL := [(.ref b22)]) (rm_sin1 l Z a0 hw [] cs fm b40 b22 1 (fun i => [k4].getD i 0) _ _ h40 n0 Zp41 ST OO (by decide) (by decide) hcs hlat ge_b40 (Ne.symm ne_b22_b40) E_b40 F_value_b40 F_coder_b40 A_b22) e40 (W := 1) (by decide) (by decide) (by decide) (by decide) (g := (mkF m 191 #[.val (.int p1), .val (.int p2), .val (.int p3), .val (.int p4), .val (.int (1 : Int32)), .val (.int (Int32.ofNat k4)), .val (.int (Int32.ofNat k7)), .val (.int (Int32.ofNat k10)), .val (.ref b22), .val (.int (0 : Int32)), .unset, .unset] [(.ref b22), (.ref b40), (.ref b40)])) rfl (by rw [hml]; rfl) (rest := [(.ref b40)]) (lenOf pd_14 rfl) rfl (by show 2 * 0 + _ ≤ _; exact Nat.le_of_eq rfl) (hb hby at_191)
        refine GoesW.step st42 ?_
        obtain ⟨rfl, N42, Kc42, b42, u, sz42, Ei42, Fv42, Fc42, A_b42, hlu, hlu2⟩ := hQ42
        have N43 := Fr.app N28 N42
        obtain ⟨h42, e42⟩ : ∃ h', T42.heap = h' := ⟨_, rfl⟩
        rw [e42] at Kc42 Ei42 Fv42 Fc42 A_b42
        have A_b22 := A_b22.keep Kc42 (ninS ne_b22_b40 nin0)
        have hsk := (sfS sf_b40 sf0)
        have sf_b22 := Safe.keep Kc42 hsk C.chv sf_b22
        have sf_b40 := Safe.keep Kc42 hsk C.chv sf_b40
        have C := C.keep Kc42 hsk
        have OO := OO.keep Kc42 (allS ge_b40 all0)
        have Zp44 := Nat.le_trans Zp41 Kc42.1
        have ge_b42 : n0 ≤ b42 := Nat.le_trans Zp41 sz42
        have ne_b22_b42 : b22 ≠ b42 := Nat.ne_of_lt (Nat.lt_of_lt_of_le lt_b22 sz42)
        have ne_b40_b42 : b40 ≠ b42 := Nat.ne_of_lt (Nat.lt_of_lt_of_le lt_b40 sz42)
        have hu : u = false := by
          cases u
          · rfl
          · obtain ⟨j, hj, hjj⟩ := hlu2 rfl
            exact absurd (hlat j hj) (Nat.not_lt.mpr hjj)
        subst hu
        show GoesW p ee below s _ _ _ _ _ (T42.setTop (mkF m 194 #[.val (.int p1), .val (.int p2), .val (.int p3), .val (.int p4), .val (.int (1 : Int32)), .val (.int (Int32.ofNat k4)), .val (.int (Int32.ofNat k7)), .val (.int (Int32.ofNat k10)), .val (.ref b22), .val (.int (0 : Int32)), .unset, .unset] [(.ref b40)]))
        refine GoesW.step (fun _ hr_ => XS.astore X42.here hx rfl (hb hby at_194) rfl rfl (l' := #[.val (.int p1), .val (.int p2), .val (.int p3), .val (.int p4), .val (.int (1 : Int32)), .val (.int (Int32.ofNat k4)), .val (.int (Int32.ofNat k7)), .val (.int (Int32.ofNat k10)), .val (.ref b22), .val (.int (0 : Int32)), .val (.ref b40), .unset]) rfl hr_) ?_
        show GoesW p ee below s _ _ _ _ _ (T42.setTop (mkF m 196 #[.val (.int p1), .val (.int p2), .val (.int p3), .val (.int p4), .val (.int (1 : Int32)), .val (.int (Int32.ofNat k4)), .val (.int (Int32.ofNat k7)), .val (.int (Int32.ofNat k10)), .val (.ref b22), .val (.int (0 : Int32)), .val (.ref b40), .unset] []))
        refine GoesW.step (fun _ hr_ => XS.aload X42.here hx rfl (hb hby at_196) rfl rfl hr_) ?_
        show GoesW p ee below s _ _ _ _ _ (T42.setTop (mkF m 198 #[.val (.int p1), .val (.int p2), .val (.int p3), .val (.int p4), .val (.int (1 : Int32)), .val (.int (Int32.ofNat k4)), .val (.int (Int32.ofNat k7)), .val (.int (Int32.ofNat k10)), .val (.ref b22), .val (.int (0 : Int32)), .val (.ref b40), .unset] [(.ref b40)]))
        have lt_b22 := A_b22.lt
        have lt_b40 := Ei42.lt
        have lt_b42 := A_b42.lt
        obtain ⟨v45, T45, L45, X45, hQ45, st45⟩ := own_callS X42 hx hZ (y := (⟨"com/example/landshut/landshut/NodeIds", "isValid", "(Ljava/lang/String;)Z"⟩ : MethodName)) hown (hw _ (List.mem_of_getElem? (i := 51) rfl)) (hw _ (List.mem_of_getElem? (i := 52) rfl)) (hw _ (List.mem_of_getElem? (i := 53) rfl)) (hw _ (List.mem_of_getElem? (i := 54) rfl)) (by decide) (argsL := [(.ref b40)]) (rm_isv l Z a0 hw [] cs fm b40 b42 1 (fun i => [k4].getD i 0) h42 n0 Zp44 ST OO (by omega) Ei42 Fv42 Fc42 A_b42 hcs hlu) e42 (W := 0) (by decide) (by decide) (by decide) (by decide) (g := (mkF m 198 #[.val (.int p1), .val (.int p2), .val (.int p3), .val (.int p4), .val (.int (1 : Int32)), .val (.int (Int32.ofNat k4)), .val (.int (Int32.ofNat k7)), .val (.int (Int32.ofNat k10)), .val (.ref b22), .val (.int (0 : Int32)), .val (.ref b40), .unset] [(.ref b40)])) rfl (by rw [hml]; rfl) (rest := []) (lenOf pd_13 rfl) rfl (by show 2 * 0 + _ ≤ _; exact Nat.le_of_eq rfl) (hb hby at_198)
        refine GoesW.step st45 ?_
        obtain ⟨⟨r45, rfl, hr45⟩, N45, e45⟩ := hQ45
        have N46 := Fr.app N43 N45
        show GoesW p ee below s _ _ _ _ _ (T45.setTop (mkF m 201 #[.val (.int p1), .val (.int p2), .val (.int p3), .val (.int p4), .val (.int (1 : Int32)), .val (.int (Int32.ofNat k4)), .val (.int (Int32.ofNat k7)), .val (.int (Int32.ofNat k10)), .val (.ref b22), .val (.int (0 : Int32)), .val (.ref b40), .unset] [(.int r45)]))
        refine GoesW.step (fun _ hr_ => XS.iload X45.here hx rfl (hb hby at_201) rfl  hr_) ?_
        show GoesW p ee below s _ _ _ _ _ (T45.setTop (mkF m 203 #[.val (.int p1), .val (.int p2), .val (.int p3), .val (.int p4), .val (.int (1 : Int32)), .val (.int (Int32.ofNat k4)), .val (.int (Int32.ofNat k7)), .val (.int (Int32.ofNat k10)), .val (.ref b22), .val (.int (0 : Int32)), .val (.ref b40), .unset] [(.int (0 : Int32)), (.int r45)]))
        refine GoesW.step (fun _ hr_ => XS.icmpYes X45.here hx rfl (pc0 := 203) (pc' := 208) rfl (hb hby at_203) rfl (teq (by
          rcases hr45 with ⟨-, q⟩ | ⟨q, -⟩
          · exact absurd (q.2.2 0 (by decide)) hid
          · exact q)).1 (by decide) (by decide) hr_) ?_
        show GoesW p ee below s _ _ _ _ _ (T45.setTop (mkF m 208 #[.val (.int p1), .val (.int p2), .val (.int p3), .val (.int p4), .val (.int (1 : Int32)), .val (.int (Int32.ofNat k4)), .val (.int (Int32.ofNat k7)), .val (.int (Int32.ofNat k10)), .val (.ref b22), .val (.int (0 : Int32)), .val (.ref b40), .unset] []))
        refine GoesW.step (fun _ hr_ => XS.iload X45.here hx rfl (hb hby at_208) rfl  hr_) ?_
        show GoesW p ee below s _ _ _ _ _ (T45.setTop (mkF m 210 #[.val (.int p1), .val (.int p2), .val (.int p3), .val (.int p4), .val (.int (1 : Int32)), .val (.int (Int32.ofNat k4)), .val (.int (Int32.ofNat k7)), .val (.int (Int32.ofNat k10)), .val (.ref b22), .val (.int (0 : Int32)), .val (.ref b40), .unset] [(.int (0 : Int32))]))
        refine GoesW.step (fun _ hr_ => XS.ifNo X45.here hx rfl (hb hby at_210) rfl ((if0 _ _).trans (teq (by decide)).2) hr_) ?_
        show GoesW p ee below s _ _ _ _ _ (T45.setTop (mkF m 213 #[.val (.int p1), .val (.int p2), .val (.int p3), .val (.int p4), .val (.int (1 : Int32)), .val (.int (Int32.ofNat k4)), .val (.int (Int32.ofNat k7)), .val (.int (Int32.ofNat k10)), .val (.ref b22), .val (.int (0 : Int32)), .val (.ref b40), .unset] []))
        refine GoesW.step (fun _ hr_ => XS.iconst X45.here hx rfl (hb hby at_213) hr_) ?_
        show GoesW p ee below s _ _ _ _ _ (T45.setTop (mkF m 214 #[.val (.int p1), .val (.int p2), .val (.int p3), .val (.int p4), .val (.int (1 : Int32)), .val (.int (Int32.ofNat k4)), .val (.int (Int32.ofNat k7)), .val (.int (Int32.ofNat k10)), .val (.ref b22), .val (.int (0 : Int32)), .val (.ref b40), .unset] [(.int (1 : Int32))]))
        refine GoesW.retZ X45 hx hZ hEL C e45 Bd.notSynchronized Bd.returns (by simp) rfl (hb hby at_214) (by decide) (by decide) ?_
        exact ⟨rfl, N46⟩
    · show GoesW p ee below s _ _ _ _ _ (T10.setTop (mkF m 45 #[.val (.int p1), .val (.int p2), .val (.int p3), .val (.int p4), .val (.int (2 : Int32)), .val (.int (Int32.ofNat k4)), .val (.int (Int32.ofNat k7)), .val (.int (Int32.ofNat k10)), .unset, .unset, .unset, .unset] []))
      refine GoesW.step (fun _ hr_ => XS.iload X10.here hx rfl (hb hby at_45) rfl  hr_) ?_
      show GoesW p ee below s _ _ _ _ _ (T10.setTop (mkF m 47 #[.val (.int p1), .val (.int p2), .val (.int p3), .val (.int p4), .val (.int (2 : Int32)), .val (.int (Int32.ofNat k4)), .val (.int (Int32.ofNat k7)), .val (.int (Int32.ofNat k10)), .unset, .unset, .unset, .unset] [(.int (2 : Int32))]))
      refine GoesW.step (fun _ hr_ => XS.ifYes X10.here hx rfl (pc0 := 47) (pc' := 61) rfl (hb hby at_47) rfl ((if0 _ _).trans (feq (by decide)).2) (by decide) (by decide) hr_) ?_
      show GoesW p ee below s _ _ _ _ _ (T10.setTop (mkF m 61 #[.val (.int p1), .val (.int p2), .val (.int p3), .val (.int p4), .val (.int (2 : Int32)), .val (.int (Int32.ofNat k4)), .val (.int (Int32.ofNat k7)), .val (.int (Int32.ofNat k10)), .unset, .unset, .unset, .unset] []))
      refine GoesW.step (fun _ hr_ => XS.iload X10.here hx rfl (hb hby at_61) rfl  hr_) ?_
      show GoesW p ee below s _ _ _ _ _ (T10.setTop (mkF m 63 #[.val (.int p1), .val (.int p2), .val (.int p3), .val (.int p4), .val (.int (2 : Int32)), .val (.int (Int32.ofNat k4)), .val (.int (Int32.ofNat k7)), .val (.int (Int32.ofNat k10)), .unset, .unset, .unset, .unset] [(.int (2 : Int32))]))
      refine GoesW.step (fun _ hr_ => XS.iconst X10.here hx rfl (hb hby at_63) hr_) ?_
      show GoesW p ee below s _ _ _ _ _ (T10.setTop (mkF m 64 #[.val (.int p1), .val (.int p2), .val (.int p3), .val (.int p4), .val (.int (2 : Int32)), .val (.int (Int32.ofNat k4)), .val (.int (Int32.ofNat k7)), .val (.int (Int32.ofNat k10)), .unset, .unset, .unset, .unset] [(.int (1 : Int32)), (.int (2 : Int32))]))
      refine GoesW.step (fun _ hr_ => XS.icmpYes X10.here hx rfl (pc0 := 64) (pc' := 87) rfl (hb hby at_64) rfl (feq (by decide)).2 (by decide) (by decide) hr_) ?_
      show GoesW p ee below s _ _ _ _ _ (T10.setTop (mkF m 87 #[.val (.int p1), .val (.int p2), .val (.int p3), .val (.int p4), .val (.int (2 : Int32)), .val (.int (Int32.ofNat k4)), .val (.int (Int32.ofNat k7)), .val (.int (Int32.ofNat k10)), .unset, .unset, .unset, .unset] []))
      refine GoesW.step (fun _ hr_ => XS.iload X10.here hx rfl (hb hby at_87) rfl  hr_) ?_
      show GoesW p ee below s _ _ _ _ _ (T10.setTop (mkF m 89 #[.val (.int p1), .val (.int p2), .val (.int p3), .val (.int p4), .val (.int (2 : Int32)), .val (.int (Int32.ofNat k4)), .val (.int (Int32.ofNat k7)), .val (.int (Int32.ofNat k10)), .unset, .unset, .unset, .unset] [(.int (2 : Int32))]))
      refine GoesW.step (fun _ hr_ => XS.iconst X10.here hx rfl (hb hby at_89) hr_) ?_
      show GoesW p ee below s _ _ _ _ _ (T10.setTop (mkF m 90 #[.val (.int p1), .val (.int p2), .val (.int p3), .val (.int p4), .val (.int (2 : Int32)), .val (.int (Int32.ofNat k4)), .val (.int (Int32.ofNat k7)), .val (.int (Int32.ofNat k10)), .unset, .unset, .unset, .unset] [(.int (2 : Int32)), (.int (2 : Int32))]))
      refine GoesW.step (fun _ hr_ => XS.icmpNo X10.here hx rfl (hb hby at_90) rfl (teq (by decide)).2 hr_) ?_
      show GoesW p ee below s _ _ _ _ _ (T10.setTop (mkF m 93 #[.val (.int p1), .val (.int p2), .val (.int p3), .val (.int p4), .val (.int (2 : Int32)), .val (.int (Int32.ofNat k4)), .val (.int (Int32.ofNat k7)), .val (.int (Int32.ofNat k10)), .unset, .unset, .unset, .unset] []))
      refine GoesW.step (fun _ hr_ => XS.iconst X10.here hx rfl (hb hby at_93) hr_) ?_
      show GoesW p ee below s _ _ _ _ _ (T10.setTop (mkF m 94 #[.val (.int p1), .val (.int p2), .val (.int p3), .val (.int p4), .val (.int (2 : Int32)), .val (.int (Int32.ofNat k4)), .val (.int (Int32.ofNat k7)), .val (.int (Int32.ofNat k10)), .unset, .unset, .unset, .unset] [(.int (2 : Int32))]))
      obtain ⟨T47, h47, X47, e47, E47, A47, st47⟩ := own_newP X10 hx hZ (aty := .char) (hw _ (List.mem_of_getElem? (i := 38) rfl)) e10 (z := (2 : Int32)) (by decide) (n := 2) rfl (cap := 2) (Nat.le_refl _) (by decide) (by decide) (by decide) (g := (mkF m 94 #[.val (.int p1), .val (.int p2), .val (.int p3), .val (.int p4), .val (.int (2 : Int32)), .val (.int (Int32.ofNat k4)), .val (.int (Int32.ofNat k7)), .val (.int (Int32.ofNat k10)), .unset, .unset, .unset, .unset] [(.int (2 : Int32))])) rfl rfl (hb hby at_94)
      obtain ⟨b47, g_b47⟩ : ∃ z, z = h10.size := ⟨_, rfl⟩
      have ge_b47 : n0 ≤ b47 := Nat.le_trans Zp12 (Nat.le_of_eq g_b47.symm)
      rw [← g_b47] at A47 st47
      have Zp48 := Nat.le_trans Zp12 E47.1
      have sf_b47 := Safe.ext E47 C.chv (Safe.new (Nat.le_of_eq g_b47.symm))
      have C := C.ext E47
      have OO := OO.ext E47
      refine GoesW.step st47 ?_
      have A_b47 : OA Z h47 b47 .char 2 (fun _ => (.int 0)) := A47
      show GoesW p ee below s _ _ _ _ _ (T47.setTop (mkF m 96 #[.val (.int p1), .val (.int p2), .val (.int p3), .val (.int p4), .val (.int (2 : Int32)), .val (.int (Int32.ofNat k4)), .val (.int (Int32.ofNat k7)), .val (.int (Int32.ofNat k10)), .unset, .unset, .unset, .unset] [(.ref b47)]))
      refine GoesW.step (fun _ hr_ => XS.dup X47.here hx rfl (hb hby at_96) rfl rfl hr_) ?_
      show GoesW p ee below s _ _ _ _ _ (T47.setTop (mkF m 97 #[.val (.int p1), .val (.int p2), .val (.int p3), .val (.int p4), .val (.int (2 : Int32)), .val (.int (Int32.ofNat k4)), .val (.int (Int32.ofNat k7)), .val (.int (Int32.ofNat k10)), .unset, .unset, .unset, .unset] [(.ref b47), (.ref b47)]))
      refine GoesW.step (fun _ hr_ => XS.iconst X47.here hx rfl (hb hby at_97) hr_) ?_
      show GoesW p ee below s _ _ _ _ _ (T47.setTop (mkF m 98 #[.val (.int p1), .val (.int p2), .val (.int p3), .val (.int p4), .val (.int (2 : Int32)), .val (.int (Int32.ofNat k4)), .val (.int (Int32.ofNat k7)), .val (.int (Int32.ofNat k10)), .unset, .unset, .unset, .unset] [(.int (0 : Int32)), (.ref b47), (.ref b47)]))
      refine GoesW.step (fun _ hr_ => XS.iload X47.here hx rfl (hb hby at_98) rfl  hr_) ?_
      show GoesW p ee below s _ _ _ _ _ (T47.setTop (mkF m 100 #[.val (.int p1), .val (.int p2), .val (.int p3), .val (.int p4), .val (.int (2 : Int32)), .val (.int (Int32.ofNat k4)), .val (.int (Int32.ofNat k7)), .val (.int (Int32.ofNat k10)), .unset, .unset, .unset, .unset] [(.int (Int32.ofNat k4)), (.int (0 : Int32)), (.ref b47), (.ref b47)]))
      obtain ⟨T49, h49, X49, e49, W49, A49, st49⟩ := own_stC X47 hx hZ e47 A_b47 (x := (Int32.ofNat k4)) (j := (0 : Int32)) (by decide) (k := 0) rfl (by decide) (g := (mkF m 100 #[.val (.int p1), .val (.int p2), .val (.int p3), .val (.int p4), .val (.int (2 : Int32)), .val (.int (Int32.ofNat k4)), .val (.int (Int32.ofNat k7)), .val (.int (Int32.ofNat k10)), .unset, .unset, .unset, .unset] [(.int (Int32.ofNat k4)), (.int (0 : Int32)), (.ref b47), (.ref b47)])) rfl rfl (hb hby at_100)
      refine GoesW.step st49 ?_
      have Zp50 := Nat.le_trans Zp48 (Keep.of_wr W49).1
      have N51 := Fr.snoc X49 N11 ge_b47
      have sfw := sf_b47
      have sf_b47 := Safe.wr W49 sfw C.chv sf_b47
      have C := C.wr W49 sfw
      have OO := OO.wr W49 ge_b47
      have A_b47 : OA Z h49 b47 .char 2 (fun i => [(.int (nar .char (Int32.ofNat k4))), (.int 0)].getD i (.int 0)) := A49.congr (fun i hi => by match i, hi with | 0, _ => rfl | 1, _ => rfl | i + 2, hi => omega)
      show GoesW p ee below s _ _ _ _ _ (T49.setTop (mkF m 101 #[.val (.int p1), .val (.int p2), .val (.int p3), .val (.int p4), .val (.int (2 : Int32)), .val (.int (Int32.ofNat k4)), .val (.int (Int32.ofNat k7)), .val (.int (Int32.ofNat k10)), .unset, .unset, .unset, .unset] [(.ref b47)]))
      refine GoesW.step (fun _ hr_ => XS.dup X49.here hx rfl (hb hby at_101) rfl rfl hr_) ?_
      show GoesW p ee below s _ _ _ _ _ (T49.setTop (mkF m 102 #[.val (.int p1), .val (.int p2), .val (.int p3), .val (.int p4), .val (.int (2 : Int32)), .val (.int (Int32.ofNat k4)), .val (.int (Int32.ofNat k7)), .val (.int (Int32.ofNat k10)), .unset, .unset, .unset, .unset] [(.ref b47), (.ref b47)]))
      refine GoesW.step (fun _ hr_ => XS.iconst X49.here hx rfl (hb hby at_102) hr_) ?_
      show GoesW p ee below s _ _ _ _ _ (T49.setTop (mkF m 103 #[.val (.int p1), .val (.int p2), .val (.int p3), .val (.int p4), .val (.int (2 : Int32)), .val (.int (Int32.ofNat k4)), .val (.int (Int32.ofNat k7)), .val (.int (Int32.ofNat k10)), .unset, .unset, .unset, .unset] [(.int (1 : Int32)), (.ref b47), (.ref b47)]))
      refine GoesW.step (fun _ hr_ => XS.iload X49.here hx rfl (hb hby at_103) rfl  hr_) ?_
      show GoesW p ee below s _ _ _ _ _ (T49.setTop (mkF m 105 #[.val (.int p1), .val (.int p2), .val (.int p3), .val (.int p4), .val (.int (2 : Int32)), .val (.int (Int32.ofNat k4)), .val (.int (Int32.ofNat k7)), .val (.int (Int32.ofNat k10)), .unset, .unset, .unset, .unset] [(.int (Int32.ofNat k7)), (.int (1 : Int32)), (.ref b47), (.ref b47)]))
      obtain ⟨T52, h52, X52, e52, W52, A52, st52⟩ := own_stC X49 hx hZ e49 A_b47 (x := (Int32.ofNat k7)) (j := (1 : Int32)) (by decide) (k := 1) rfl (by decide) (g := (mkF m 105 #[.val (.int p1), .val (.int p2), .val (.int p3), .val (.int p4), .val (.int (2 : Int32)), .val (.int (Int32.ofNat k4)), .val (.int (Int32.ofNat k7)), .val (.int (Int32.ofNat k10)), .unset, .unset, .unset, .unset] [(.int (Int32.ofNat k7)), (.int (1 : Int32)), (.ref b47), (.ref b47)])) rfl rfl (hb hby at_105)
      refine GoesW.step st52 ?_
      have Zp53 := Nat.le_trans Zp50 (Keep.of_wr W52).1
      have N54 := Fr.snoc X52 N51 ge_b47
      have sfw := sf_b47
      have sf_b47 := Safe.wr W52 sfw C.chv sf_b47
      have C := C.wr W52 sfw
      have OO := OO.wr W52 ge_b47
      have A_b47 : OA Z h52 b47 .char 2 (fun i => [(.int (nar .char (Int32.ofNat k4))), (.int (nar .char (Int32.ofNat k7)))].getD i (.int 0)) := A52.congr (fun i hi => by match i, hi with | 0, _ => rfl | 1, _ => rfl | i + 2, hi => omega)
      show GoesW p ee below s _ _ _ _ _ (T52.setTop (mkF m 106 #[.val (.int p1), .val (.int p2), .val (.int p3), .val (.int p4), .val (.int (2 : Int32)), .val (.int (Int32.ofNat k4)), .val (.int (Int32.ofNat k7)), .val (.int (Int32.ofNat k10)), .unset, .unset, .unset, .unset] [(.ref b47)]))
      refine GoesW.step (fun _ hr_ => XS.astore X52.here hx rfl (hb hby at_106) rfl rfl (l' := #[.val (.int p1), .val (.int p2), .val (.int p3), .val (.int p4), .val (.int (2 : Int32)), .val (.int (Int32.ofNat k4)), .val (.int (Int32.ofNat k7)), .val (.int (Int32.ofNat k10)), .val (.ref b47), .unset, .unset, .unset]) rfl hr_) ?_
      show GoesW p ee below s _ _ _ _ _ (T52.setTop (mkF m 108 #[.val (.int p1), .val (.int p2), .val (.int p3), .val (.int p4), .val (.int (2 : Int32)), .val (.int (Int32.ofNat k4)), .val (.int (Int32.ofNat k7)), .val (.int (Int32.ofNat k10)), .val (.ref b47), .unset, .unset, .unset] []))
      refine GoesW.step (fun _ hr_ => XS.iload X52.here hx rfl (hb hby at_108) rfl  hr_) ?_
      show GoesW p ee below s _ _ _ _ _ (T52.setTop (mkF m 110 #[.val (.int p1), .val (.int p2), .val (.int p3), .val (.int p4), .val (.int (2 : Int32)), .val (.int (Int32.ofNat k4)), .val (.int (Int32.ofNat k7)), .val (.int (Int32.ofNat k10)), .val (.ref b47), .unset, .unset, .unset] [(.int (Int32.ofNat k4))]))
      have lt_b47 := A_b47.lt
      obtain ⟨v55, T55, L55, X55, hQ55, st55⟩ := own_callS X52 hx hZ (y := (⟨"com/example/landshut/landshut/NodeIdsCheckPinLaw", "ok", "(C)Z"⟩ : MethodName)) hown (hw _ (List.mem_of_getElem? (i := 63) rfl)) (hw _ (List.mem_of_getElem? (i := 64) rfl)) (hw _ (List.mem_of_getElem? (i := 2) rfl)) (hw _ (List.mem_of_getElem? (i := 65) rfl)) (by decide) (argsL := [(.int (Int32.ofNat k4))]) (rm_ok l Z a0 hw [] k4 h52 n0 Zp53 (Nat.lt_trans hk4 (by decide))) e52 (W := 0) (by decide) (by decide) (by decide) (by decide) (g := (mkF m 110 #[.val (.int p1), .val (.int p2), .val (.int p3), .val (.int p4), .val (.int (2 : Int32)), .val (.int (Int32.ofNat k4)), .val (.int (Int32.ofNat k7)), .val (.int (Int32.ofNat k10)), .val (.ref b47), .unset, .unset, .unset] [(.int (Int32.ofNat k4))])) rfl (by rw [hml]; rfl) (rest := []) (lenOf pd_11 rfl) rfl (by show 2 * 0 + _ ≤ _; exact Nat.le_of_eq rfl) (hb hby at_110)
      refine GoesW.step st55 ?_
      obtain ⟨rfl, N55, e55⟩ := hQ55
      have N56 := Fr.app N54 N55
      show GoesW p ee below s _ _ _ _ _ (T55.setTop (mkF m 113 #[.val (.int p1), .val (.int p2), .val (.int p3), .val (.int p4), .val (.int (2 : Int32)), .val (.int (Int32.ofNat k4)), .val (.int (Int32.ofNat k7)), .val (.int (Int32.ofNat k10)), .val (.ref b47), .unset, .unset, .unset] [(.int (if own_idc k4 then (1 : Int32) else 0))]))
      by_cases hn113_57 : ¬ own_idc k4
      · refine GoesW.step (fun _ hr_ => XS.ifYes X55.here hx rfl (pc0 := 113) (pc' := 128) rfl (hb hby at_113) rfl ((if0 _ _).trans (teq (own_if0.mpr hn113_57)).1) (by decide) (by decide) hr_) ?_
        show GoesW p ee below s _ _ _ _ _ (T55.setTop (mkF m 128 #[.val (.int p1), .val (.int p2), .val (.int p3), .val (.int p4), .val (.int (2 : Int32)), .val (.int (Int32.ofNat k4)), .val (.int (Int32.ofNat k7)), .val (.int (Int32.ofNat k10)), .val (.ref b47), .unset, .unset, .unset] []))
        refine GoesW.step (fun _ hr_ => XS.iconst X55.here hx rfl (hb hby at_128) hr_) ?_
        show GoesW p ee below s _ _ _ _ _ (T55.setTop (mkF m 129 #[.val (.int p1), .val (.int p2), .val (.int p3), .val (.int p4), .val (.int (2 : Int32)), .val (.int (Int32.ofNat k4)), .val (.int (Int32.ofNat k7)), .val (.int (Int32.ofNat k10)), .val (.ref b47), .unset, .unset, .unset] [(.int (0 : Int32))]))
        refine GoesW.step (fun _ hr_ => XS.istore X55.here hx rfl (hb hby at_129) rfl  (l' := #[.val (.int p1), .val (.int p2), .val (.int p3), .val (.int p4), .val (.int (2 : Int32)), .val (.int (Int32.ofNat k4)), .val (.int (Int32.ofNat k7)), .val (.int (Int32.ofNat k10)), .val (.ref b47), .val (.int (0 : Int32)), .unset, .unset]) rfl hr_) ?_
        show GoesW p ee below s _ _ _ _ _ (T55.setTop (mkF m 131 #[.val (.int p1), .val (.int p2), .val (.int p3), .val (.int p4), .val (.int (2 : Int32)), .val (.int (Int32.ofNat k4)), .val (.int (Int32.ofNat k7)), .val (.int (Int32.ofNat k10)), .val (.ref b47), .val (.int (0 : Int32)), .unset, .unset] []))
        refine GoesW.step (fun _ hr_ => XS.goto X55.here hx rfl (pc0 := 131) (pc' := 185) rfl (hb hby at_131) (by decide) (by decide) hr_) ?_
        show GoesW p ee below s _ _ _ _ _ (T55.setTop (mkF m 185 #[.val (.int p1), .val (.int p2), .val (.int p3), .val (.int p4), .val (.int (2 : Int32)), .val (.int (Int32.ofNat k4)), .val (.int (Int32.ofNat k7)), .val (.int (Int32.ofNat k10)), .val (.ref b47), .val (.int (0 : Int32)), .unset, .unset] []))
        obtain ⟨T58, h58, X58, e58, E58, A58, D58, -, st58⟩ := newO X55 hx hZ hown (hw _ (List.mem_of_getElem? (i := 39) rfl)) (hw _ (List.mem_of_getElem? (i := 6) rfl)) (hw _ (List.mem_of_getElem? (i := 5) rfl)) e55 (g := (mkF m 185 #[.val (.int p1), .val (.int p2), .val (.int p3), .val (.int p4), .val (.int (2 : Int32)), .val (.int (Int32.ofNat k4)), .val (.int (Int32.ofNat k7)), .val (.int (Int32.ofNat k10)), .val (.ref b47), .val (.int (0 : Int32)), .unset, .unset] [])) rfl (hb hby at_185) (by decide) (by decide)
        obtain ⟨b58, g_b58⟩ : ∃ z, z = h52.size := ⟨_, rfl⟩
        have ne_b47_b58 : b47 ≠ b58 := Nat.ne_of_lt (Nat.lt_of_lt_of_le A_b47.lt (Nat.le_of_eq g_b58.symm))
        have ge_b58 : n0 ≤ b58 := Nat.le_trans Zp53 (Nat.le_of_eq g_b58.symm)
        rw [← g_b58] at A58 D58 st58
        have A_b47 := A_b47.ext E58
        have Zp59 := Nat.le_trans Zp53 E58.1
        have sf_b47 := Safe.ext E58 C.chv sf_b47
        have sf_b58 := Safe.ext E58 C.chv (Safe.new (Nat.le_of_eq g_b58.symm))
        have C := C.ext E58
        have OO := OO.ext E58
        refine GoesW.step st58 ?_
        have E_b58 := A58
        have F_value_b58 : Fld Z h58 b58 "java/lang/String" "value" "[B" .null := D58 (Or.inr (hw _ (List.mem_of_getElem? (i := 8) rfl))) (ty := (.array .byte)) (by decide)
        have F_coder_b58 : Fld Z h58 b58 "java/lang/String" "coder" "B" (.int (0 : Int32)) := D58 (Or.inr (hw _ (List.mem_of_getElem? (i := 9) rfl))) (ty := .byte) (by decide)
        show GoesW p ee below s _ _ _ _ _ (T58.setTop (mkF m 188 #[.val (.int p1), .val (.int p2), .val (.int p3), .val (.int p4), .val (.int (2 : Int32)), .val (.int (Int32.ofNat k4)), .val (.int (Int32.ofNat k7)), .val (.int (Int32.ofNat k10)), .val (.ref b47), .val (.int (0 : Int32)), .unset, .unset] [(.ref b58)]))
        refine GoesW.step (fun _ hr_ => XS.dup X58.here hx rfl (hb hby at_188) rfl rfl hr_) ?_
        show GoesW p ee below s _ _ _ _ _ (T58.setTop (mkF m 189 #[.val (.int p1), .val (.int p2), .val (.int p3), .val (.int p4), .val (.int (2 : Int32)), .val (.int (Int32.ofNat k4)), .val (.int (Int32.ofNat k7)), .val (.int (Int32.ofNat k10)), .val (.ref b47), .val (.int (0 : Int32)), .unset, .unset] [(.ref b58), (.ref b58)]))
        refine GoesW.step (fun _ hr_ => XS.aload X58.here hx rfl (hb hby at_189) rfl rfl hr_) ?_
        show GoesW p ee below s _ _ _ _ _ (T58.setTop (mkF m 191 #[.val (.int p1), .val (.int p2), .val (.int p3), .val (.int p4), .val (.int (2 : Int32)), .val (.int (Int32.ofNat k4)), .val (.int (Int32.ofNat k7)), .val (.int (Int32.ofNat k10)), .val (.ref b47), .val (.int (0 : Int32)), .unset, .unset] [(.ref b47), (.ref b58), (.ref b58)]))
        have A_b47 : OA Z h58 b47 .char 2 (fun i => .int (Int32.ofNat ([k4, k7].getD i 0))) := A_b47.congr (fun i hi => by match i, hi with | 0, _ => exact congrArg Value.int (own_charnar k4 (Nat.lt_trans hk4 (by decide))) | 1, _ => exact congrArg Value.int (own_charnar k7 (Nat.lt_trans hk7 (by decide))) | i + 2, hi => omega)
        have hlat : ∀ j, j < 2 → [k4, k7].getD j 0 < 256 := fun j hj => by match j, hj with | 0, _ => exact hk4 | 1, _ => exact hk7 | j + 2, hj => omega
        have hcs : ∀ j, j < 2 → [k4, k7].getD j 0 < 65536 := fun j hj => Nat.lt_trans (hlat j hj) (by decide)
        have lt_b47 := A_b47.lt
        have lt_b58 := E_b58.lt
        obtain ⟨v60, T60, L60, X60, hQ60, st60⟩ := own_callN X58 hx hZ (y := (⟨"java/lang/String", "<init>", "([C)V"⟩ : MethodName)) rfl hown (hw _ (List.mem_of_getElem? (i := 40) rfl)) (hw _ (List.mem_of_getElem? (i := 41) rfl)) (hw _ (List.mem_of_getElem? (i := 5) rfl)) (hw _ (List.mem_of_getElem? (i := 42) rfl)) (by decide) (a := b58) (argsL := [(.ref b47)]) (rm_sin1 l Z a0 hw [] cs fm b58 b47 2 (fun i => [k4, k7].getD i 0) _ _ h58 n0 Zp59 ST OO (by decide) (by decide) hcs hlat ge_b58 (Ne.symm ne_b47_b58) E_b58 F_value_b58 F_coder_b58 A_b47) e58 (W := 1) (by decide) (by decide) (by decide) (by decide) (g := (mkF m 191 #[.val (.int p1), .val (.int p2), .val (.int p3), .val (.int p4), .val (.int (2 : Int32)), .val (.int (Int32.ofNat k4)), .val (.int (Int32.ofNat k7)), .val (.int (Int32.ofNat k10)), .val (.ref b47), .val (.int (0 : Int32)), .unset, .unset] [(.ref b47), (.ref b58), (.ref b58)])) rfl (by rw [hml]; rfl) (rest := [(.ref b58)]) (lenOf pd_14 rfl) rfl (by show 2 * 0 + _ ≤ _; exact Nat.le_of_eq rfl) (hb hby at_191)
        refine GoesW.step st60 ?_
        obtain ⟨rfl, N60, Kc60, b60, u, sz60, Ei60, Fv60, Fc60, A_b60, hlu, hlu2⟩ := hQ60
        have N61 := Fr.app N56 N60
        obtain ⟨h60, e60⟩ : ∃ h', T60.heap = h' := ⟨_, rfl⟩
        rw [e60] at Kc60 Ei60 Fv60 Fc60 A_b60
        have A_b47 := A_b47.keep Kc60 (ninS ne_b47_b58 nin0)
        have hsk := (sfS sf_b58 sf0)
        have sf_b47 := Safe.keep Kc60 hsk C.chv sf_b47
        have sf_b58 := Safe.keep Kc60 hsk C.chv sf_b58
        have C := C.keep Kc60 hsk
        have OO := OO.keep Kc60 (allS ge_b58 all0)
        have Zp62 := Nat.le_trans Zp59 Kc60.1
        have ge_b60 : n0 ≤ b60 := Nat.le_trans Zp59 sz60
        have ne_b47_b60 : b47 ≠ b60 := Nat.ne_of_lt (Nat.lt_of_lt_of_le lt_b47 sz60)
        have ne_b58_b60 : b58 ≠ b60 := Nat.ne_of_lt (Nat.lt_of_lt_of_le lt_b58 sz60)
        have hu : u = false := by
          cases u
          · rfl
          · obtain ⟨j, hj, hjj⟩ := hlu2 rfl
            exact absurd (hlat j hj) (Nat.not_lt.mpr hjj)
        subst hu
        show GoesW p ee below s _ _ _ _ _ (T60.setTop (mkF m 194 #[.val (.int p1), .val (.int p2), .val (.int p3), .val (.int p4), .val (.int (2 : Int32)), .val (.int (Int32.ofNat k4)), .val (.int (Int32.ofNat k7)), .val (.int (Int32.ofNat k10)), .val (.ref b47), .val (.int (0 : Int32)), .unset, .unset] [(.ref b58)]))
        refine GoesW.step (fun _ hr_ => XS.astore X60.here hx rfl (hb hby at_194) rfl rfl (l' := #[.val (.int p1), .val (.int p2), .val (.int p3), .val (.int p4), .val (.int (2 : Int32)), .val (.int (Int32.ofNat k4)), .val (.int (Int32.ofNat k7)), .val (.int (Int32.ofNat k10)), .val (.ref b47), .val (.int (0 : Int32)), .val (.ref b58), .unset]) rfl hr_) ?_
        show GoesW p ee below s _ _ _ _ _ (T60.setTop (mkF m 196 #[.val (.int p1), .val (.int p2), .val (.int p3), .val (.int p4), .val (.int (2 : Int32)), .val (.int (Int32.ofNat k4)), .val (.int (Int32.ofNat k7)), .val (.int (Int32.ofNat k10)), .val (.ref b47), .val (.int (0 : Int32)), .val (.ref b58), .unset] []))
        refine GoesW.step (fun _ hr_ => XS.aload X60.here hx rfl (hb hby at_196) rfl rfl hr_) ?_
        show GoesW p ee below s _ _ _ _ _ (T60.setTop (mkF m 198 #[.val (.int p1), .val (.int p2), .val (.int p3), .val (.int p4), .val (.int (2 : Int32)), .val (.int (Int32.ofNat k4)), .val (.int (Int32.ofNat k7)), .val (.int (Int32.ofNat k10)), .val (.ref b47), .val (.int (0 : Int32)), .val (.ref b58), .unset] [(.ref b58)]))
        have lt_b47 := A_b47.lt
        have lt_b58 := Ei60.lt
        have lt_b60 := A_b60.lt
        obtain ⟨v63, T63, L63, X63, hQ63, st63⟩ := own_callS X60 hx hZ (y := (⟨"com/example/landshut/landshut/NodeIds", "isValid", "(Ljava/lang/String;)Z"⟩ : MethodName)) hown (hw _ (List.mem_of_getElem? (i := 51) rfl)) (hw _ (List.mem_of_getElem? (i := 52) rfl)) (hw _ (List.mem_of_getElem? (i := 53) rfl)) (hw _ (List.mem_of_getElem? (i := 54) rfl)) (by decide) (argsL := [(.ref b58)]) (rm_isv l Z a0 hw [] cs fm b58 b60 2 (fun i => [k4, k7].getD i 0) h60 n0 Zp62 ST OO (by omega) Ei60 Fv60 Fc60 A_b60 hcs hlu) e60 (W := 0) (by decide) (by decide) (by decide) (by decide) (g := (mkF m 198 #[.val (.int p1), .val (.int p2), .val (.int p3), .val (.int p4), .val (.int (2 : Int32)), .val (.int (Int32.ofNat k4)), .val (.int (Int32.ofNat k7)), .val (.int (Int32.ofNat k10)), .val (.ref b47), .val (.int (0 : Int32)), .val (.ref b58), .unset] [(.ref b58)])) rfl (by rw [hml]; rfl) (rest := []) (lenOf pd_13 rfl) rfl (by show 2 * 0 + _ ≤ _; exact Nat.le_of_eq rfl) (hb hby at_198)
        refine GoesW.step st63 ?_
        obtain ⟨⟨r63, rfl, hr63⟩, N63, e63⟩ := hQ63
        have N64 := Fr.app N61 N63
        show GoesW p ee below s _ _ _ _ _ (T63.setTop (mkF m 201 #[.val (.int p1), .val (.int p2), .val (.int p3), .val (.int p4), .val (.int (2 : Int32)), .val (.int (Int32.ofNat k4)), .val (.int (Int32.ofNat k7)), .val (.int (Int32.ofNat k10)), .val (.ref b47), .val (.int (0 : Int32)), .val (.ref b58), .unset] [(.int r63)]))
        refine GoesW.step (fun _ hr_ => XS.iload X63.here hx rfl (hb hby at_201) rfl  hr_) ?_
        show GoesW p ee below s _ _ _ _ _ (T63.setTop (mkF m 203 #[.val (.int p1), .val (.int p2), .val (.int p3), .val (.int p4), .val (.int (2 : Int32)), .val (.int (Int32.ofNat k4)), .val (.int (Int32.ofNat k7)), .val (.int (Int32.ofNat k10)), .val (.ref b47), .val (.int (0 : Int32)), .val (.ref b58), .unset] [(.int (0 : Int32)), (.int r63)]))
        refine GoesW.step (fun _ hr_ => XS.icmpYes X63.here hx rfl (pc0 := 203) (pc' := 208) rfl (hb hby at_203) rfl (teq (by
          rcases hr63 with ⟨-, q⟩ | ⟨q, -⟩
          · exact absurd (q.2.2 0 (by decide)) hn113_57
          · exact q)).1 (by decide) (by decide) hr_) ?_
        show GoesW p ee below s _ _ _ _ _ (T63.setTop (mkF m 208 #[.val (.int p1), .val (.int p2), .val (.int p3), .val (.int p4), .val (.int (2 : Int32)), .val (.int (Int32.ofNat k4)), .val (.int (Int32.ofNat k7)), .val (.int (Int32.ofNat k10)), .val (.ref b47), .val (.int (0 : Int32)), .val (.ref b58), .unset] []))
        refine GoesW.step (fun _ hr_ => XS.iload X63.here hx rfl (hb hby at_208) rfl  hr_) ?_
        show GoesW p ee below s _ _ _ _ _ (T63.setTop (mkF m 210 #[.val (.int p1), .val (.int p2), .val (.int p3), .val (.int p4), .val (.int (2 : Int32)), .val (.int (Int32.ofNat k4)), .val (.int (Int32.ofNat k7)), .val (.int (Int32.ofNat k10)), .val (.ref b47), .val (.int (0 : Int32)), .val (.ref b58), .unset] [(.int (0 : Int32))]))
        refine GoesW.step (fun _ hr_ => XS.ifNo X63.here hx rfl (hb hby at_210) rfl ((if0 _ _).trans (teq (by decide)).2) hr_) ?_
        show GoesW p ee below s _ _ _ _ _ (T63.setTop (mkF m 213 #[.val (.int p1), .val (.int p2), .val (.int p3), .val (.int p4), .val (.int (2 : Int32)), .val (.int (Int32.ofNat k4)), .val (.int (Int32.ofNat k7)), .val (.int (Int32.ofNat k10)), .val (.ref b47), .val (.int (0 : Int32)), .val (.ref b58), .unset] []))
        refine GoesW.step (fun _ hr_ => XS.iconst X63.here hx rfl (hb hby at_213) hr_) ?_
        show GoesW p ee below s _ _ _ _ _ (T63.setTop (mkF m 214 #[.val (.int p1), .val (.int p2), .val (.int p3), .val (.int p4), .val (.int (2 : Int32)), .val (.int (Int32.ofNat k4)), .val (.int (Int32.ofNat k7)), .val (.int (Int32.ofNat k10)), .val (.ref b47), .val (.int (0 : Int32)), .val (.ref b58), .unset] [(.int (1 : Int32))]))
        refine GoesW.retZ X63 hx hZ hEL C e63 Bd.notSynchronized Bd.returns (by simp) rfl (hb hby at_214) (by decide) (by decide) ?_
        exact ⟨rfl, N64⟩
      · refine GoesW.step (fun _ hr_ => XS.ifNo X55.here hx rfl (hb hby at_113) rfl ((if0 _ _).trans (feq (fun z => hn113_57 (own_if0.mp z))).1) hr_) ?_
        show GoesW p ee below s _ _ _ _ _ (T55.setTop (mkF m 116 #[.val (.int p1), .val (.int p2), .val (.int p3), .val (.int p4), .val (.int (2 : Int32)), .val (.int (Int32.ofNat k4)), .val (.int (Int32.ofNat k7)), .val (.int (Int32.ofNat k10)), .val (.ref b47), .unset, .unset, .unset] []))
        refine GoesW.step (fun _ hr_ => XS.iload X55.here hx rfl (hb hby at_116) rfl  hr_) ?_
        show GoesW p ee below s _ _ _ _ _ (T55.setTop (mkF m 118 #[.val (.int p1), .val (.int p2), .val (.int p3), .val (.int p4), .val (.int (2 : Int32)), .val (.int (Int32.ofNat k4)), .val (.int (Int32.ofNat k7)), .val (.int (Int32.ofNat k10)), .val (.ref b47), .unset, .unset, .unset] [(.int (Int32.ofNat k7))]))
        have lt_b47 := A_b47.lt
        obtain ⟨v65, T65, L65, X65, hQ65, st65⟩ := own_callS X55 hx hZ (y := (⟨"com/example/landshut/landshut/NodeIdsCheckPinLaw", "ok", "(C)Z"⟩ : MethodName)) hown (hw _ (List.mem_of_getElem? (i := 63) rfl)) (hw _ (List.mem_of_getElem? (i := 64) rfl)) (hw _ (List.mem_of_getElem? (i := 2) rfl)) (hw _ (List.mem_of_getElem? (i := 65) rfl)) (by decide) (argsL := [(.int (Int32.ofNat k7))]) (rm_ok l Z a0 hw [] k7 h52 n0 Zp53 (Nat.lt_trans hk7 (by decide))) e55 (W := 0) (by decide) (by decide) (by decide) (by decide) (g := (mkF m 118 #[.val (.int p1), .val (.int p2), .val (.int p3), .val (.int p4), .val (.int (2 : Int32)), .val (.int (Int32.ofNat k4)), .val (.int (Int32.ofNat k7)), .val (.int (Int32.ofNat k10)), .val (.ref b47), .unset, .unset, .unset] [(.int (Int32.ofNat k7))])) rfl (by rw [hml]; rfl) (rest := []) (lenOf pd_11 rfl) rfl (by show 2 * 0 + _ ≤ _; exact Nat.le_of_eq rfl) (hb hby at_118)
        refine GoesW.step st65 ?_
        obtain ⟨rfl, N65, e65⟩ := hQ65
        have N66 := Fr.app N56 N65
        show GoesW p ee below s _ _ _ _ _ (T65.setTop (mkF m 121 #[.val (.int p1), .val (.int p2), .val (.int p3), .val (.int p4), .val (.int (2 : Int32)), .val (.int (Int32.ofNat k4)), .val (.int (Int32.ofNat k7)), .val (.int (Int32.ofNat k10)), .val (.ref b47), .unset, .unset, .unset] [(.int (if own_idc k7 then (1 : Int32) else 0))]))
        by_cases hn121_67 : ¬ own_idc k7
        · refine GoesW.step (fun _ hr_ => XS.ifYes X65.here hx rfl (pc0 := 121) (pc' := 128) rfl (hb hby at_121) rfl ((if0 _ _).trans (teq (own_if0.mpr hn121_67)).1) (by decide) (by decide) hr_) ?_
          show GoesW p ee below s _ _ _ _ _ (T65.setTop (mkF m 128 #[.val (.int p1), .val (.int p2), .val (.int p3), .val (.int p4), .val (.int (2 : Int32)), .val (.int (Int32.ofNat k4)), .val (.int (Int32.ofNat k7)), .val (.int (Int32.ofNat k10)), .val (.ref b47), .unset, .unset, .unset] []))
          refine GoesW.step (fun _ hr_ => XS.iconst X65.here hx rfl (hb hby at_128) hr_) ?_
          show GoesW p ee below s _ _ _ _ _ (T65.setTop (mkF m 129 #[.val (.int p1), .val (.int p2), .val (.int p3), .val (.int p4), .val (.int (2 : Int32)), .val (.int (Int32.ofNat k4)), .val (.int (Int32.ofNat k7)), .val (.int (Int32.ofNat k10)), .val (.ref b47), .unset, .unset, .unset] [(.int (0 : Int32))]))
          refine GoesW.step (fun _ hr_ => XS.istore X65.here hx rfl (hb hby at_129) rfl  (l' := #[.val (.int p1), .val (.int p2), .val (.int p3), .val (.int p4), .val (.int (2 : Int32)), .val (.int (Int32.ofNat k4)), .val (.int (Int32.ofNat k7)), .val (.int (Int32.ofNat k10)), .val (.ref b47), .val (.int (0 : Int32)), .unset, .unset]) rfl hr_) ?_
          show GoesW p ee below s _ _ _ _ _ (T65.setTop (mkF m 131 #[.val (.int p1), .val (.int p2), .val (.int p3), .val (.int p4), .val (.int (2 : Int32)), .val (.int (Int32.ofNat k4)), .val (.int (Int32.ofNat k7)), .val (.int (Int32.ofNat k10)), .val (.ref b47), .val (.int (0 : Int32)), .unset, .unset] []))
          refine GoesW.step (fun _ hr_ => XS.goto X65.here hx rfl (pc0 := 131) (pc' := 185) rfl (hb hby at_131) (by decide) (by decide) hr_) ?_
          show GoesW p ee below s _ _ _ _ _ (T65.setTop (mkF m 185 #[.val (.int p1), .val (.int p2), .val (.int p3), .val (.int p4), .val (.int (2 : Int32)), .val (.int (Int32.ofNat k4)), .val (.int (Int32.ofNat k7)), .val (.int (Int32.ofNat k10)), .val (.ref b47), .val (.int (0 : Int32)), .unset, .unset] []))
          obtain ⟨T68, h68, X68, e68, E68, A68, D68, -, st68⟩ := newO X65 hx hZ hown (hw _ (List.mem_of_getElem? (i := 39) rfl)) (hw _ (List.mem_of_getElem? (i := 6) rfl)) (hw _ (List.mem_of_getElem? (i := 5) rfl)) e65 (g := (mkF m 185 #[.val (.int p1), .val (.int p2), .val (.int p3), .val (.int p4), .val (.int (2 : Int32)), .val (.int (Int32.ofNat k4)), .val (.int (Int32.ofNat k7)), .val (.int (Int32.ofNat k10)), .val (.ref b47), .val (.int (0 : Int32)), .unset, .unset] [])) rfl (hb hby at_185) (by decide) (by decide)
          obtain ⟨b68, g_b68⟩ : ∃ z, z = h52.size := ⟨_, rfl⟩
          have ne_b47_b68 : b47 ≠ b68 := Nat.ne_of_lt (Nat.lt_of_lt_of_le A_b47.lt (Nat.le_of_eq g_b68.symm))
          have ge_b68 : n0 ≤ b68 := Nat.le_trans Zp53 (Nat.le_of_eq g_b68.symm)
          rw [← g_b68] at A68 D68 st68
          have A_b47 := A_b47.ext E68
          have Zp69 := Nat.le_trans Zp53 E68.1
          have sf_b47 := Safe.ext E68 C.chv sf_b47
          have sf_b68 := Safe.ext E68 C.chv (Safe.new (Nat.le_of_eq g_b68.symm))
          have C := C.ext E68
          have OO := OO.ext E68
          refine GoesW.step st68 ?_
          have E_b68 := A68
          have F_value_b68 : Fld Z h68 b68 "java/lang/String" "value" "[B" .null := D68 (Or.inr (hw _ (List.mem_of_getElem? (i := 8) rfl))) (ty := (.array .byte)) (by decide)
          have F_coder_b68 : Fld Z h68 b68 "java/lang/String" "coder" "B" (.int (0 : Int32)) := D68 (Or.inr (hw _ (List.mem_of_getElem? (i := 9) rfl))) (ty := .byte) (by decide)
          show GoesW p ee below s _ _ _ _ _ (T68.setTop (mkF m 188 #[.val (.int p1), .val (.int p2), .val (.int p3), .val (.int p4), .val (.int (2 : Int32)), .val (.int (Int32.ofNat k4)), .val (.int (Int32.ofNat k7)), .val (.int (Int32.ofNat k10)), .val (.ref b47), .val (.int (0 : Int32)), .unset, .unset] [(.ref b68)]))
          refine GoesW.step (fun _ hr_ => XS.dup X68.here hx rfl (hb hby at_188) rfl rfl hr_) ?_
          show GoesW p ee below s _ _ _ _ _ (T68.setTop (mkF m 189 #[.val (.int p1), .val (.int p2), .val (.int p3), .val (.int p4), .val (.int (2 : Int32)), .val (.int (Int32.ofNat k4)), .val (.int (Int32.ofNat k7)), .val (.int (Int32.ofNat k10)), .val (.ref b47), .val (.int (0 : Int32)), .unset, .unset] [(.ref b68), (.ref b68)]))
          refine GoesW.step (fun _ hr_ => XS.aload X68.here hx rfl (hb hby at_189) rfl rfl hr_) ?_
          show GoesW p ee below s _ _ _ _ _ (T68.setTop (mkF m 191 #[.val (.int p1), .val (.int p2), .val (.int p3), .val (.int p4), .val (.int (2 : Int32)), .val (.int (Int32.ofNat k4)), .val (.int (Int32.ofNat k7)), .val (.int (Int32.ofNat k10)), .val (.ref b47), .val (.int (0 : Int32)), .unset, .unset] [(.ref b47), (.ref b68), (.ref b68)]))
          have A_b47 : OA Z h68 b47 .char 2 (fun i => .int (Int32.ofNat ([k4, k7].getD i 0))) := A_b47.congr (fun i hi => by match i, hi with | 0, _ => exact congrArg Value.int (own_charnar k4 (Nat.lt_trans hk4 (by decide))) | 1, _ => exact congrArg Value.int (own_charnar k7 (Nat.lt_trans hk7 (by decide))) | i + 2, hi => omega)
          have hlat : ∀ j, j < 2 → [k4, k7].getD j 0 < 256 := fun j hj => by match j, hj with | 0, _ => exact hk4 | 1, _ => exact hk7 | j + 2, hj => omega
          have hcs : ∀ j, j < 2 → [k4, k7].getD j 0 < 65536 := fun j hj => Nat.lt_trans (hlat j hj) (by decide)
          have lt_b47 := A_b47.lt
          have lt_b68 := E_b68.lt
          obtain ⟨v70, T70, L70, X70, hQ70, st70⟩ := own_callN X68 hx hZ (y := (⟨"java/lang/String", "<init>", "([C)V"⟩ : MethodName)) rfl hown (hw _ (List.mem_of_getElem? (i := 40) rfl)) (hw _ (List.mem_of_getElem? (i := 41) rfl)) (hw _ (List.mem_of_getElem? (i := 5) rfl)) (hw _ (List.mem_of_getElem? (i := 42) rfl)) (by decide) (a := b68) (argsL := [(.ref b47)]) (rm_sin1 l Z a0 hw [] cs fm b68 b47 2 (fun i => [k4, k7].getD i 0) _ _ h68 n0 Zp69 ST OO (by decide) (by decide) hcs hlat ge_b68 (Ne.symm ne_b47_b68) E_b68 F_value_b68 F_coder_b68 A_b47) e68 (W := 1) (by decide) (by decide) (by decide) (by decide) (g := (mkF m 191 #[.val (.int p1), .val (.int p2), .val (.int p3), .val (.int p4), .val (.int (2 : Int32)), .val (.int (Int32.ofNat k4)), .val (.int (Int32.ofNat k7)), .val (.int (Int32.ofNat k10)), .val (.ref b47), .val (.int (0 : Int32)), .unset, .unset] [(.ref b47), (.ref b68), (.ref b68)])) rfl (by rw [hml]; rfl) (rest := [(.ref b68)]) (lenOf pd_14 rfl) rfl (by show 2 * 0 + _ ≤ _; exact Nat.le_of_eq rfl) (hb hby at_191)
          refine GoesW.step st70 ?_
          obtain ⟨rfl, N70, Kc70, b70, u, sz70, Ei70, Fv70, Fc70, A_b70, hlu, hlu2⟩ := hQ70
          have N71 := Fr.app N66 N70
          obtain ⟨h70, e70⟩ : ∃ h', T70.heap = h' := ⟨_, rfl⟩
          rw [e70] at Kc70 Ei70 Fv70 Fc70 A_b70
          have A_b47 := A_b47.keep Kc70 (ninS ne_b47_b68 nin0)
          have hsk := (sfS sf_b68 sf0)
          have sf_b47 := Safe.keep Kc70 hsk C.chv sf_b47
          have sf_b68 := Safe.keep Kc70 hsk C.chv sf_b68
          have C := C.keep Kc70 hsk
          have OO := OO.keep Kc70 (allS ge_b68 all0)
          have Zp72 := Nat.le_trans Zp69 Kc70.1
          have ge_b70 : n0 ≤ b70 := Nat.le_trans Zp69 sz70
          have ne_b47_b70 : b47 ≠ b70 := Nat.ne_of_lt (Nat.lt_of_lt_of_le lt_b47 sz70)
          have ne_b68_b70 : b68 ≠ b70 := Nat.ne_of_lt (Nat.lt_of_lt_of_le lt_b68 sz70)
          have hu : u = false := by
            cases u
            · rfl
            · obtain ⟨j, hj, hjj⟩ := hlu2 rfl
              exact absurd (hlat j hj) (Nat.not_lt.mpr hjj)
          subst hu
          show GoesW p ee below s _ _ _ _ _ (T70.setTop (mkF m 194 #[.val (.int p1), .val (.int p2), .val (.int p3), .val (.int p4), .val (.int (2 : Int32)), .val (.int (Int32.ofNat k4)), .val (.int (Int32.ofNat k7)), .val (.int (Int32.ofNat k10)), .val (.ref b47), .val (.int (0 : Int32)), .unset, .unset] [(.ref b68)]))
          refine GoesW.step (fun _ hr_ => XS.astore X70.here hx rfl (hb hby at_194) rfl rfl (l' := #[.val (.int p1), .val (.int p2), .val (.int p3), .val (.int p4), .val (.int (2 : Int32)), .val (.int (Int32.ofNat k4)), .val (.int (Int32.ofNat k7)), .val (.int (Int32.ofNat k10)), .val (.ref b47), .val (.int (0 : Int32)), .val (.ref b68), .unset]) rfl hr_) ?_
          show GoesW p ee below s _ _ _ _ _ (T70.setTop (mkF m 196 #[.val (.int p1), .val (.int p2), .val (.int p3), .val (.int p4), .val (.int (2 : Int32)), .val (.int (Int32.ofNat k4)), .val (.int (Int32.ofNat k7)), .val (.int (Int32.ofNat k10)), .val (.ref b47), .val (.int (0 : Int32)), .val (.ref b68), .unset] []))
          refine GoesW.step (fun _ hr_ => XS.aload X70.here hx rfl (hb hby at_196) rfl rfl hr_) ?_
          show GoesW p ee below s _ _ _ _ _ (T70.setTop (mkF m 198 #[.val (.int p1), .val (.int p2), .val (.int p3), .val (.int p4), .val (.int (2 : Int32)), .val (.int (Int32.ofNat k4)), .val (.int (Int32.ofNat k7)), .val (.int (Int32.ofNat k10)), .val (.ref b47), .val (.int (0 : Int32)), .val (.ref b68), .unset] [(.ref b68)]))
          have lt_b47 := A_b47.lt
          have lt_b68 := Ei70.lt
          have lt_b70 := A_b70.lt
          obtain ⟨v73, T73, L73, X73, hQ73, st73⟩ := own_callS X70 hx hZ (y := (⟨"com/example/landshut/landshut/NodeIds", "isValid", "(Ljava/lang/String;)Z"⟩ : MethodName)) hown (hw _ (List.mem_of_getElem? (i := 51) rfl)) (hw _ (List.mem_of_getElem? (i := 52) rfl)) (hw _ (List.mem_of_getElem? (i := 53) rfl)) (hw _ (List.mem_of_getElem? (i := 54) rfl)) (by decide) (argsL := [(.ref b68)]) (rm_isv l Z a0 hw [] cs fm b68 b70 2 (fun i => [k4, k7].getD i 0) h70 n0 Zp72 ST OO (by omega) Ei70 Fv70 Fc70 A_b70 hcs hlu) e70 (W := 0) (by decide) (by decide) (by decide) (by decide) (g := (mkF m 198 #[.val (.int p1), .val (.int p2), .val (.int p3), .val (.int p4), .val (.int (2 : Int32)), .val (.int (Int32.ofNat k4)), .val (.int (Int32.ofNat k7)), .val (.int (Int32.ofNat k10)), .val (.ref b47), .val (.int (0 : Int32)), .val (.ref b68), .unset] [(.ref b68)])) rfl (by rw [hml]; rfl) (rest := []) (lenOf pd_13 rfl) rfl (by show 2 * 0 + _ ≤ _; exact Nat.le_of_eq rfl) (hb hby at_198)
          refine GoesW.step st73 ?_
          obtain ⟨⟨r73, rfl, hr73⟩, N73, e73⟩ := hQ73
          have N74 := Fr.app N71 N73
          show GoesW p ee below s _ _ _ _ _ (T73.setTop (mkF m 201 #[.val (.int p1), .val (.int p2), .val (.int p3), .val (.int p4), .val (.int (2 : Int32)), .val (.int (Int32.ofNat k4)), .val (.int (Int32.ofNat k7)), .val (.int (Int32.ofNat k10)), .val (.ref b47), .val (.int (0 : Int32)), .val (.ref b68), .unset] [(.int r73)]))
          refine GoesW.step (fun _ hr_ => XS.iload X73.here hx rfl (hb hby at_201) rfl  hr_) ?_
          show GoesW p ee below s _ _ _ _ _ (T73.setTop (mkF m 203 #[.val (.int p1), .val (.int p2), .val (.int p3), .val (.int p4), .val (.int (2 : Int32)), .val (.int (Int32.ofNat k4)), .val (.int (Int32.ofNat k7)), .val (.int (Int32.ofNat k10)), .val (.ref b47), .val (.int (0 : Int32)), .val (.ref b68), .unset] [(.int (0 : Int32)), (.int r73)]))
          refine GoesW.step (fun _ hr_ => XS.icmpYes X73.here hx rfl (pc0 := 203) (pc' := 208) rfl (hb hby at_203) rfl (teq (by
            rcases hr73 with ⟨-, q⟩ | ⟨q, -⟩
            · exact absurd (q.2.2 1 (by decide)) hn121_67
            · exact q)).1 (by decide) (by decide) hr_) ?_
          show GoesW p ee below s _ _ _ _ _ (T73.setTop (mkF m 208 #[.val (.int p1), .val (.int p2), .val (.int p3), .val (.int p4), .val (.int (2 : Int32)), .val (.int (Int32.ofNat k4)), .val (.int (Int32.ofNat k7)), .val (.int (Int32.ofNat k10)), .val (.ref b47), .val (.int (0 : Int32)), .val (.ref b68), .unset] []))
          refine GoesW.step (fun _ hr_ => XS.iload X73.here hx rfl (hb hby at_208) rfl  hr_) ?_
          show GoesW p ee below s _ _ _ _ _ (T73.setTop (mkF m 210 #[.val (.int p1), .val (.int p2), .val (.int p3), .val (.int p4), .val (.int (2 : Int32)), .val (.int (Int32.ofNat k4)), .val (.int (Int32.ofNat k7)), .val (.int (Int32.ofNat k10)), .val (.ref b47), .val (.int (0 : Int32)), .val (.ref b68), .unset] [(.int (0 : Int32))]))
          refine GoesW.step (fun _ hr_ => XS.ifNo X73.here hx rfl (hb hby at_210) rfl ((if0 _ _).trans (teq (by decide)).2) hr_) ?_
          show GoesW p ee below s _ _ _ _ _ (T73.setTop (mkF m 213 #[.val (.int p1), .val (.int p2), .val (.int p3), .val (.int p4), .val (.int (2 : Int32)), .val (.int (Int32.ofNat k4)), .val (.int (Int32.ofNat k7)), .val (.int (Int32.ofNat k10)), .val (.ref b47), .val (.int (0 : Int32)), .val (.ref b68), .unset] []))
          refine GoesW.step (fun _ hr_ => XS.iconst X73.here hx rfl (hb hby at_213) hr_) ?_
          show GoesW p ee below s _ _ _ _ _ (T73.setTop (mkF m 214 #[.val (.int p1), .val (.int p2), .val (.int p3), .val (.int p4), .val (.int (2 : Int32)), .val (.int (Int32.ofNat k4)), .val (.int (Int32.ofNat k7)), .val (.int (Int32.ofNat k10)), .val (.ref b47), .val (.int (0 : Int32)), .val (.ref b68), .unset] [(.int (1 : Int32))]))
          refine GoesW.retZ X73 hx hZ hEL C e73 Bd.notSynchronized Bd.returns (by simp) rfl (hb hby at_214) (by decide) (by decide) ?_
          exact ⟨rfl, N74⟩
        · refine GoesW.step (fun _ hr_ => XS.ifNo X65.here hx rfl (hb hby at_121) rfl ((if0 _ _).trans (feq (fun z => hn121_67 (own_if0.mp z))).1) hr_) ?_
          show GoesW p ee below s _ _ _ _ _ (T65.setTop (mkF m 124 #[.val (.int p1), .val (.int p2), .val (.int p3), .val (.int p4), .val (.int (2 : Int32)), .val (.int (Int32.ofNat k4)), .val (.int (Int32.ofNat k7)), .val (.int (Int32.ofNat k10)), .val (.ref b47), .unset, .unset, .unset] []))
          refine GoesW.step (fun _ hr_ => XS.iconst X65.here hx rfl (hb hby at_124) hr_) ?_
          show GoesW p ee below s _ _ _ _ _ (T65.setTop (mkF m 125 #[.val (.int p1), .val (.int p2), .val (.int p3), .val (.int p4), .val (.int (2 : Int32)), .val (.int (Int32.ofNat k4)), .val (.int (Int32.ofNat k7)), .val (.int (Int32.ofNat k10)), .val (.ref b47), .unset, .unset, .unset] [(.int (1 : Int32))]))
          refine GoesW.step (fun _ hr_ => XS.goto X65.here hx rfl (pc0 := 125) (pc' := 129) rfl (hb hby at_125) (by decide) (by decide) hr_) ?_
          show GoesW p ee below s _ _ _ _ _ (T65.setTop (mkF m 129 #[.val (.int p1), .val (.int p2), .val (.int p3), .val (.int p4), .val (.int (2 : Int32)), .val (.int (Int32.ofNat k4)), .val (.int (Int32.ofNat k7)), .val (.int (Int32.ofNat k10)), .val (.ref b47), .unset, .unset, .unset] [(.int (1 : Int32))]))
          refine GoesW.step (fun _ hr_ => XS.istore X65.here hx rfl (hb hby at_129) rfl  (l' := #[.val (.int p1), .val (.int p2), .val (.int p3), .val (.int p4), .val (.int (2 : Int32)), .val (.int (Int32.ofNat k4)), .val (.int (Int32.ofNat k7)), .val (.int (Int32.ofNat k10)), .val (.ref b47), .val (.int (1 : Int32)), .unset, .unset]) rfl hr_) ?_
          show GoesW p ee below s _ _ _ _ _ (T65.setTop (mkF m 131 #[.val (.int p1), .val (.int p2), .val (.int p3), .val (.int p4), .val (.int (2 : Int32)), .val (.int (Int32.ofNat k4)), .val (.int (Int32.ofNat k7)), .val (.int (Int32.ofNat k10)), .val (.ref b47), .val (.int (1 : Int32)), .unset, .unset] []))
          refine GoesW.step (fun _ hr_ => XS.goto X65.here hx rfl (pc0 := 131) (pc' := 185) rfl (hb hby at_131) (by decide) (by decide) hr_) ?_
          show GoesW p ee below s _ _ _ _ _ (T65.setTop (mkF m 185 #[.val (.int p1), .val (.int p2), .val (.int p3), .val (.int p4), .val (.int (2 : Int32)), .val (.int (Int32.ofNat k4)), .val (.int (Int32.ofNat k7)), .val (.int (Int32.ofNat k10)), .val (.ref b47), .val (.int (1 : Int32)), .unset, .unset] []))
          obtain ⟨T75, h75, X75, e75, E75, A75, D75, -, st75⟩ := newO X65 hx hZ hown (hw _ (List.mem_of_getElem? (i := 39) rfl)) (hw _ (List.mem_of_getElem? (i := 6) rfl)) (hw _ (List.mem_of_getElem? (i := 5) rfl)) e65 (g := (mkF m 185 #[.val (.int p1), .val (.int p2), .val (.int p3), .val (.int p4), .val (.int (2 : Int32)), .val (.int (Int32.ofNat k4)), .val (.int (Int32.ofNat k7)), .val (.int (Int32.ofNat k10)), .val (.ref b47), .val (.int (1 : Int32)), .unset, .unset] [])) rfl (hb hby at_185) (by decide) (by decide)
          obtain ⟨b75, g_b75⟩ : ∃ z, z = h52.size := ⟨_, rfl⟩
          have ne_b47_b75 : b47 ≠ b75 := Nat.ne_of_lt (Nat.lt_of_lt_of_le A_b47.lt (Nat.le_of_eq g_b75.symm))
          have ge_b75 : n0 ≤ b75 := Nat.le_trans Zp53 (Nat.le_of_eq g_b75.symm)
          rw [← g_b75] at A75 D75 st75
          have A_b47 := A_b47.ext E75
          have Zp76 := Nat.le_trans Zp53 E75.1
          have sf_b47 := Safe.ext E75 C.chv sf_b47
          have sf_b75 := Safe.ext E75 C.chv (Safe.new (Nat.le_of_eq g_b75.symm))
          have C := C.ext E75
          have OO := OO.ext E75
          refine GoesW.step st75 ?_
          have E_b75 := A75
          have F_value_b75 : Fld Z h75 b75 "java/lang/String" "value" "[B" .null := D75 (Or.inr (hw _ (List.mem_of_getElem? (i := 8) rfl))) (ty := (.array .byte)) (by decide)
          have F_coder_b75 : Fld Z h75 b75 "java/lang/String" "coder" "B" (.int (0 : Int32)) := D75 (Or.inr (hw _ (List.mem_of_getElem? (i := 9) rfl))) (ty := .byte) (by decide)
          show GoesW p ee below s _ _ _ _ _ (T75.setTop (mkF m 188 #[.val (.int p1), .val (.int p2), .val (.int p3), .val (.int p4), .val (.int (2 : Int32)), .val (.int (Int32.ofNat k4)), .val (.int (Int32.ofNat k7)), .val (.int (Int32.ofNat k10)), .val (.ref b47), .val (.int (1 : Int32)), .unset, .unset] [(.ref b75)]))
          refine GoesW.step (fun _ hr_ => XS.dup X75.here hx rfl (hb hby at_188) rfl rfl hr_) ?_
          show GoesW p ee below s _ _ _ _ _ (T75.setTop (mkF m 189 #[.val (.int p1), .val (.int p2), .val (.int p3), .val (.int p4), .val (.int (2 : Int32)), .val (.int (Int32.ofNat k4)), .val (.int (Int32.ofNat k7)), .val (.int (Int32.ofNat k10)), .val (.ref b47), .val (.int (1 : Int32)), .unset, .unset] [(.ref b75), (.ref b75)]))
          refine GoesW.step (fun _ hr_ => XS.aload X75.here hx rfl (hb hby at_189) rfl rfl hr_) ?_
          show GoesW p ee below s _ _ _ _ _ (T75.setTop (mkF m 191 #[.val (.int p1), .val (.int p2), .val (.int p3), .val (.int p4), .val (.int (2 : Int32)), .val (.int (Int32.ofNat k4)), .val (.int (Int32.ofNat k7)), .val (.int (Int32.ofNat k10)), .val (.ref b47), .val (.int (1 : Int32)), .unset, .unset] [(.ref b47), (.ref b75), (.ref b75)]))
          have A_b47 : OA Z h75 b47 .char 2 (fun i => .int (Int32.ofNat ([k4, k7].getD i 0))) := A_b47.congr (fun i hi => by match i, hi with | 0, _ => exact congrArg Value.int (own_charnar k4 (Nat.lt_trans hk4 (by decide))) | 1, _ => exact congrArg Value.int (own_charnar k7 (Nat.lt_trans hk7 (by decide))) | i + 2, hi => omega)
          have hlat : ∀ j, j < 2 → [k4, k7].getD j 0 < 256 := fun j hj => by match j, hj with | 0, _ => exact hk4 | 1, _ => exact hk7 | j + 2, hj => omega
          have hcs : ∀ j, j < 2 → [k4, k7].getD j 0 < 65536 := fun j hj => Nat.lt_trans (hlat j hj) (by decide)
          have lt_b47 := A_b47.lt
          have lt_b75 := E_b75.lt
          obtain ⟨v77, T77, L77, X77, hQ77, st77⟩ := own_callN X75 hx hZ (y := (⟨"java/lang/String", "<init>", "([C)V"⟩ : MethodName)) rfl hown (hw _ (List.mem_of_getElem? (i := 40) rfl)) (hw _ (List.mem_of_getElem? (i := 41) rfl)) (hw _ (List.mem_of_getElem? (i := 5) rfl)) (hw _ (List.mem_of_getElem? (i := 42) rfl)) (by decide) (a := b75) (argsL := [(.ref b47)]) (rm_sin1 l Z a0 hw [] cs fm b75 b47 2 (fun i => [k4, k7].getD i 0) _ _ h75 n0 Zp76 ST OO (by decide) (by decide) hcs hlat ge_b75 (Ne.symm ne_b47_b75) E_b75 F_value_b75 F_coder_b75 A_b47) e75 (W := 1) (by decide) (by decide) (by decide) (by decide) (g := (mkF m 191 #[.val (.int p1), .val (.int p2), .val (.int p3), .val (.int p4), .val (.int (2 : Int32)), .val (.int (Int32.ofNat k4)), .val (.int (Int32.ofNat k7)), .val (.int (Int32.ofNat k10)), .val (.ref b47), .val (.int (1 : Int32)), .unset, .unset] [(.ref b47), (.ref b75), (.ref b75)])) rfl (by rw [hml]; rfl) (rest := [(.ref b75)]) (lenOf pd_14 rfl) rfl (by show 2 * 0 + _ ≤ _; exact Nat.le_of_eq rfl) (hb hby at_191)
          refine GoesW.step st77 ?_
          obtain ⟨rfl, N77, Kc77, b77, u, sz77, Ei77, Fv77, Fc77, A_b77, hlu, hlu2⟩ := hQ77
          have N78 := Fr.app N66 N77
          obtain ⟨h77, e77⟩ : ∃ h', T77.heap = h' := ⟨_, rfl⟩
          rw [e77] at Kc77 Ei77 Fv77 Fc77 A_b77
          have A_b47 := A_b47.keep Kc77 (ninS ne_b47_b75 nin0)
          have hsk := (sfS sf_b75 sf0)
          have sf_b47 := Safe.keep Kc77 hsk C.chv sf_b47
          have sf_b75 := Safe.keep Kc77 hsk C.chv sf_b75
          have C := C.keep Kc77 hsk
          have OO := OO.keep Kc77 (allS ge_b75 all0)
          have Zp79 := Nat.le_trans Zp76 Kc77.1
          have ge_b77 : n0 ≤ b77 := Nat.le_trans Zp76 sz77
          have ne_b47_b77 : b47 ≠ b77 := Nat.ne_of_lt (Nat.lt_of_lt_of_le lt_b47 sz77)
          have ne_b75_b77 : b75 ≠ b77 := Nat.ne_of_lt (Nat.lt_of_lt_of_le lt_b75 sz77)
          have hu : u = false := by
            cases u
            · rfl
            · obtain ⟨j, hj, hjj⟩ := hlu2 rfl
              exact absurd (hlat j hj) (Nat.not_lt.mpr hjj)
          subst hu
          show GoesW p ee below s _ _ _ _ _ (T77.setTop (mkF m 194 #[.val (.int p1), .val (.int p2), .val (.int p3), .val (.int p4), .val (.int (2 : Int32)), .val (.int (Int32.ofNat k4)), .val (.int (Int32.ofNat k7)), .val (.int (Int32.ofNat k10)), .val (.ref b47), .val (.int (1 : Int32)), .unset, .unset] [(.ref b75)]))
          refine GoesW.step (fun _ hr_ => XS.astore X77.here hx rfl (hb hby at_194) rfl rfl (l' := #[.val (.int p1), .val (.int p2), .val (.int p3), .val (.int p4), .val (.int (2 : Int32)), .val (.int (Int32.ofNat k4)), .val (.int (Int32.ofNat k7)), .val (.int (Int32.ofNat k10)), .val (.ref b47), .val (.int (1 : Int32)), .val (.ref b75), .unset]) rfl hr_) ?_
          show GoesW p ee below s _ _ _ _ _ (T77.setTop (mkF m 196 #[.val (.int p1), .val (.int p2), .val (.int p3), .val (.int p4), .val (.int (2 : Int32)), .val (.int (Int32.ofNat k4)), .val (.int (Int32.ofNat k7)), .val (.int (Int32.ofNat k10)), .val (.ref b47), .val (.int (1 : Int32)), .val (.ref b75), .unset] []))
          refine GoesW.step (fun _ hr_ => XS.aload X77.here hx rfl (hb hby at_196) rfl rfl hr_) ?_
          show GoesW p ee below s _ _ _ _ _ (T77.setTop (mkF m 198 #[.val (.int p1), .val (.int p2), .val (.int p3), .val (.int p4), .val (.int (2 : Int32)), .val (.int (Int32.ofNat k4)), .val (.int (Int32.ofNat k7)), .val (.int (Int32.ofNat k10)), .val (.ref b47), .val (.int (1 : Int32)), .val (.ref b75), .unset] [(.ref b75)]))
          have lt_b47 := A_b47.lt
          have lt_b75 := Ei77.lt
          have lt_b77 := A_b77.lt
          obtain ⟨v80, T80, L80, X80, hQ80, st80⟩ := own_callS X77 hx hZ (y := (⟨"com/example/landshut/landshut/NodeIds", "isValid", "(Ljava/lang/String;)Z"⟩ : MethodName)) hown (hw _ (List.mem_of_getElem? (i := 51) rfl)) (hw _ (List.mem_of_getElem? (i := 52) rfl)) (hw _ (List.mem_of_getElem? (i := 53) rfl)) (hw _ (List.mem_of_getElem? (i := 54) rfl)) (by decide) (argsL := [(.ref b75)]) (rm_isv l Z a0 hw [] cs fm b75 b77 2 (fun i => [k4, k7].getD i 0) h77 n0 Zp79 ST OO (by omega) Ei77 Fv77 Fc77 A_b77 hcs hlu) e77 (W := 0) (by decide) (by decide) (by decide) (by decide) (g := (mkF m 198 #[.val (.int p1), .val (.int p2), .val (.int p3), .val (.int p4), .val (.int (2 : Int32)), .val (.int (Int32.ofNat k4)), .val (.int (Int32.ofNat k7)), .val (.int (Int32.ofNat k10)), .val (.ref b47), .val (.int (1 : Int32)), .val (.ref b75), .unset] [(.ref b75)])) rfl (by rw [hml]; rfl) (rest := []) (lenOf pd_13 rfl) rfl (by show 2 * 0 + _ ≤ _; exact Nat.le_of_eq rfl) (hb hby at_198)
          refine GoesW.step st80 ?_
          obtain ⟨⟨r80, rfl, hr80⟩, N80, e80⟩ := hQ80
          have N81 := Fr.app N78 N80
          show GoesW p ee below s _ _ _ _ _ (T80.setTop (mkF m 201 #[.val (.int p1), .val (.int p2), .val (.int p3), .val (.int p4), .val (.int (2 : Int32)), .val (.int (Int32.ofNat k4)), .val (.int (Int32.ofNat k7)), .val (.int (Int32.ofNat k10)), .val (.ref b47), .val (.int (1 : Int32)), .val (.ref b75), .unset] [(.int r80)]))
          refine GoesW.step (fun _ hr_ => XS.iload X80.here hx rfl (hb hby at_201) rfl  hr_) ?_
          show GoesW p ee below s _ _ _ _ _ (T80.setTop (mkF m 203 #[.val (.int p1), .val (.int p2), .val (.int p3), .val (.int p4), .val (.int (2 : Int32)), .val (.int (Int32.ofNat k4)), .val (.int (Int32.ofNat k7)), .val (.int (Int32.ofNat k10)), .val (.ref b47), .val (.int (1 : Int32)), .val (.ref b75), .unset] [(.int (1 : Int32)), (.int r80)]))
          refine GoesW.step (fun _ hr_ => XS.icmpYes X80.here hx rfl (pc0 := 203) (pc' := 208) rfl (hb hby at_203) rfl (teq (by
            rcases hr80 with ⟨q, -⟩ | ⟨-, q⟩
            · exact q
            · exact absurd ⟨by decide, by decide, fun j hj => by match j, hj with | 0, _ => exact Decidable.not_not.mp hn113_57 | 1, _ => exact Decidable.not_not.mp hn121_67 | j + 2, hj => omega⟩ q)).1 (by decide) (by decide) hr_) ?_
          show GoesW p ee below s _ _ _ _ _ (T80.setTop (mkF m 208 #[.val (.int p1), .val (.int p2), .val (.int p3), .val (.int p4), .val (.int (2 : Int32)), .val (.int (Int32.ofNat k4)), .val (.int (Int32.ofNat k7)), .val (.int (Int32.ofNat k10)), .val (.ref b47), .val (.int (1 : Int32)), .val (.ref b75), .unset] []))
          refine GoesW.step (fun _ hr_ => XS.iload X80.here hx rfl (hb hby at_208) rfl  hr_) ?_
          show GoesW p ee below s _ _ _ _ _ (T80.setTop (mkF m 210 #[.val (.int p1), .val (.int p2), .val (.int p3), .val (.int p4), .val (.int (2 : Int32)), .val (.int (Int32.ofNat k4)), .val (.int (Int32.ofNat k7)), .val (.int (Int32.ofNat k10)), .val (.ref b47), .val (.int (1 : Int32)), .val (.ref b75), .unset] [(.int (1 : Int32))]))
          refine GoesW.step (fun _ hr_ => XS.ifYes X80.here hx rfl (pc0 := 210) (pc' := 215) rfl (hb hby at_210) rfl ((if0 _ _).trans (feq (by decide)).2) (by decide) (by decide) hr_) ?_
          show GoesW p ee below s _ _ _ _ _ (T80.setTop (mkF m 215 #[.val (.int p1), .val (.int p2), .val (.int p3), .val (.int p4), .val (.int (2 : Int32)), .val (.int (Int32.ofNat k4)), .val (.int (Int32.ofNat k7)), .val (.int (Int32.ofNat k10)), .val (.ref b47), .val (.int (1 : Int32)), .val (.ref b75), .unset] []))
          refine GoesW.step (fun _ hr_ => XS.aload X80.here hx rfl (hb hby at_215) rfl rfl hr_) ?_
          show GoesW p ee below s _ _ _ _ _ (T80.setTop (mkF m 217 #[.val (.int p1), .val (.int p2), .val (.int p3), .val (.int p4), .val (.int (2 : Int32)), .val (.int (Int32.ofNat k4)), .val (.int (Int32.ofNat k7)), .val (.int (Int32.ofNat k10)), .val (.ref b47), .val (.int (1 : Int32)), .val (.ref b75), .unset] [(.ref b75)]))
          have lt_b47 := A_b47.lt
          have lt_b75 := Ei77.lt
          have lt_b77 := A_b77.lt
          obtain ⟨v82, T82, L82, X82, hQ82, st82⟩ := own_callS X80 hx hZ (y := (⟨"com/example/landshut/landshut/NodeIds", "check", "(Ljava/lang/String;)Ljava/lang/String;"⟩ : MethodName)) hown (hw _ (List.mem_of_getElem? (i := 90) rfl)) (hw _ (List.mem_of_getElem? (i := 91) rfl)) (hw _ (List.mem_of_getElem? (i := 53) rfl)) (hw _ (List.mem_of_getElem? (i := 92) rfl)) (by decide) (argsL := [(.ref b75)]) (rm_chk l Z a0 hw [] cs fm b75 b77 2 (fun i => [k4, k7].getD i 0) h77 n0 Zp79 ST OO (by omega) Ei77 Fv77 Fc77 A_b77 hcs hlu ⟨by decide, by decide, fun j hj => by match j, hj with | 0, _ => exact Decidable.not_not.mp hn113_57 | 1, _ => exact Decidable.not_not.mp hn121_67 | j + 2, hj => omega⟩) e80 (W := 0) (by decide) (by decide) (by decide) (by decide) (g := (mkF m 217 #[.val (.int p1), .val (.int p2), .val (.int p3), .val (.int p4), .val (.int (2 : Int32)), .val (.int (Int32.ofNat k4)), .val (.int (Int32.ofNat k7)), .val (.int (Int32.ofNat k10)), .val (.ref b47), .val (.int (1 : Int32)), .val (.ref b75), .unset] [(.ref b75)])) rfl (by rw [hml]; rfl) (rest := []) (lenOf pd_15 rfl) rfl (by show 2 * 0 + _ ≤ _; exact Nat.le_of_eq rfl) (hb hby at_217)
          refine GoesW.step st82 ?_
          obtain ⟨rfl, N82, e82⟩ := hQ82
          have N83 := Fr.app N81 N82
          show GoesW p ee below s _ _ _ _ _ (T82.setTop (mkF m 220 #[.val (.int p1), .val (.int p2), .val (.int p3), .val (.int p4), .val (.int (2 : Int32)), .val (.int (Int32.ofNat k4)), .val (.int (Int32.ofNat k7)), .val (.int (Int32.ofNat k10)), .val (.ref b47), .val (.int (1 : Int32)), .val (.ref b75), .unset] [(.ref b75)]))
          refine GoesW.step (fun _ hr_ => XS.astore X82.here hx rfl (hb hby at_220) rfl rfl (l' := #[.val (.int p1), .val (.int p2), .val (.int p3), .val (.int p4), .val (.int (2 : Int32)), .val (.int (Int32.ofNat k4)), .val (.int (Int32.ofNat k7)), .val (.int (Int32.ofNat k10)), .val (.ref b47), .val (.int (1 : Int32)), .val (.ref b75), .val (.ref b75)]) rfl hr_) ?_
          show GoesW p ee below s _ _ _ _ _ (T82.setTop (mkF m 222 #[.val (.int p1), .val (.int p2), .val (.int p3), .val (.int p4), .val (.int (2 : Int32)), .val (.int (Int32.ofNat k4)), .val (.int (Int32.ofNat k7)), .val (.int (Int32.ofNat k10)), .val (.ref b47), .val (.int (1 : Int32)), .val (.ref b75), .val (.ref b75)] []))
          refine GoesW.step (fun _ hr_ => XS.aload X82.here hx rfl (hb hby at_222) rfl rfl hr_) ?_
          show GoesW p ee below s _ _ _ _ _ (T82.setTop (mkF m 224 #[.val (.int p1), .val (.int p2), .val (.int p3), .val (.int p4), .val (.int (2 : Int32)), .val (.int (Int32.ofNat k4)), .val (.int (Int32.ofNat k7)), .val (.int (Int32.ofNat k10)), .val (.ref b47), .val (.int (1 : Int32)), .val (.ref b75), .val (.ref b75)] [(.ref b75)]))
          refine GoesW.step (fun _ hr_ => XS.ifnullNo X82.here hx rfl (hb hby at_224) rfl hr_) ?_
          show GoesW p ee below s _ _ _ _ _ (T82.setTop (mkF m 227 #[.val (.int p1), .val (.int p2), .val (.int p3), .val (.int p4), .val (.int (2 : Int32)), .val (.int (Int32.ofNat k4)), .val (.int (Int32.ofNat k7)), .val (.int (Int32.ofNat k10)), .val (.ref b47), .val (.int (1 : Int32)), .val (.ref b75), .val (.ref b75)] []))
          refine GoesW.step (fun _ hr_ => XS.aload X82.here hx rfl (hb hby at_227) rfl rfl hr_) ?_
          show GoesW p ee below s _ _ _ _ _ (T82.setTop (mkF m 229 #[.val (.int p1), .val (.int p2), .val (.int p3), .val (.int p4), .val (.int (2 : Int32)), .val (.int (Int32.ofNat k4)), .val (.int (Int32.ofNat k7)), .val (.int (Int32.ofNat k10)), .val (.ref b47), .val (.int (1 : Int32)), .val (.ref b75), .val (.ref b75)] [(.ref b75)]))
          refine GoesW.step (fun _ hr_ => XS.aload X82.here hx rfl (hb hby at_229) rfl rfl hr_) ?_
          show GoesW p ee below s _ _ _ _ _ (T82.setTop (mkF m 231 #[.val (.int p1), .val (.int p2), .val (.int p3), .val (.int p4), .val (.int (2 : Int32)), .val (.int (Int32.ofNat k4)), .val (.int (Int32.ofNat k7)), .val (.int (Int32.ofNat k10)), .val (.ref b47), .val (.int (1 : Int32)), .val (.ref b75), .val (.ref b75)] [(.ref b75), (.ref b75)]))
          have lt_b47 := A_b47.lt
          have lt_b75 := Ei77.lt
          have lt_b77 := A_b77.lt
          obtain ⟨v84, T84, L84, X84, hQ84, st84⟩ := own_callV X82 hx hZ (y := (⟨"java/lang/String", "equals", "(Ljava/lang/Object;)Z"⟩ : MethodName)) hown (hw _ (List.mem_of_getElem? (i := 94) rfl)) (hw _ (List.mem_of_getElem? (i := 95) rfl)) (hw _ (List.mem_of_getElem? (i := 97) rfl)) (hw _ (List.mem_of_getElem? (i := 96) rfl)) (hw _ (List.mem_of_getElem? (i := 5) rfl)) (hw _ (List.mem_of_getElem? (i := 98) rfl)) (by decide) (a := b75) (argsL := [(.ref b75)]) (rm_eqs l Z a0 hw [] cs fm b75 h77 n0 Zp79 ST OO ) e82 Ei77 (W := 0) (by decide) (by decide) (by decide) (by decide) (g := (mkF m 231 #[.val (.int p1), .val (.int p2), .val (.int p3), .val (.int p4), .val (.int (2 : Int32)), .val (.int (Int32.ofNat k4)), .val (.int (Int32.ofNat k7)), .val (.int (Int32.ofNat k10)), .val (.ref b47), .val (.int (1 : Int32)), .val (.ref b75), .val (.ref b75)] [(.ref b75), (.ref b75)])) rfl (by rw [hml]; rfl) (rest := []) (lenOf pd_16 rfl) rfl (by show 2 * 0 + _ ≤ _; exact Nat.le_of_eq rfl) (hb hby at_231)
          refine GoesW.step st84 ?_
          obtain ⟨rfl, N84, e84⟩ := hQ84
          have N85 := Fr.app N83 N84
          show GoesW p ee below s _ _ _ _ _ (T84.setTop (mkF m 234 #[.val (.int p1), .val (.int p2), .val (.int p3), .val (.int p4), .val (.int (2 : Int32)), .val (.int (Int32.ofNat k4)), .val (.int (Int32.ofNat k7)), .val (.int (Int32.ofNat k10)), .val (.ref b47), .val (.int (1 : Int32)), .val (.ref b75), .val (.ref b75)] [(.int (1 : Int32))]))
          refine GoesW.step (fun _ hr_ => XS.ifNo X84.here hx rfl (hb hby at_234) rfl ((if0 _ _).trans (feq (by decide)).1) hr_) ?_
          show GoesW p ee below s _ _ _ _ _ (T84.setTop (mkF m 237 #[.val (.int p1), .val (.int p2), .val (.int p3), .val (.int p4), .val (.int (2 : Int32)), .val (.int (Int32.ofNat k4)), .val (.int (Int32.ofNat k7)), .val (.int (Int32.ofNat k10)), .val (.ref b47), .val (.int (1 : Int32)), .val (.ref b75), .val (.ref b75)] []))
          refine GoesW.step (fun _ hr_ => XS.iconst X84.here hx rfl (hb hby at_237) hr_) ?_
          show GoesW p ee below s _ _ _ _ _ (T84.setTop (mkF m 238 #[.val (.int p1), .val (.int p2), .val (.int p3), .val (.int p4), .val (.int (2 : Int32)), .val (.int (Int32.ofNat k4)), .val (.int (Int32.ofNat k7)), .val (.int (Int32.ofNat k10)), .val (.ref b47), .val (.int (1 : Int32)), .val (.ref b75), .val (.ref b75)] [(.int (1 : Int32))]))
          refine GoesW.step (fun _ hr_ => XS.goto X84.here hx rfl (pc0 := 238) (pc' := 242) rfl (hb hby at_238) (by decide) (by decide) hr_) ?_
          show GoesW p ee below s _ _ _ _ _ (T84.setTop (mkF m 242 #[.val (.int p1), .val (.int p2), .val (.int p3), .val (.int p4), .val (.int (2 : Int32)), .val (.int (Int32.ofNat k4)), .val (.int (Int32.ofNat k7)), .val (.int (Int32.ofNat k10)), .val (.ref b47), .val (.int (1 : Int32)), .val (.ref b75), .val (.ref b75)] [(.int (1 : Int32))]))
          refine GoesW.retZ X84 hx hZ hEL C e84 Bd.notSynchronized Bd.returns (by simp) rfl (hb hby at_242) (by decide) (by decide) ?_
          exact ⟨rfl, N85⟩
    · show GoesW p ee below s _ _ _ _ _ (T10.setTop (mkF m 45 #[.val (.int p1), .val (.int p2), .val (.int p3), .val (.int p4), .val (.int (3 : Int32)), .val (.int (Int32.ofNat k4)), .val (.int (Int32.ofNat k7)), .val (.int (Int32.ofNat k10)), .unset, .unset, .unset, .unset] []))
      refine GoesW.step (fun _ hr_ => XS.iload X10.here hx rfl (hb hby at_45) rfl  hr_) ?_
      show GoesW p ee below s _ _ _ _ _ (T10.setTop (mkF m 47 #[.val (.int p1), .val (.int p2), .val (.int p3), .val (.int p4), .val (.int (3 : Int32)), .val (.int (Int32.ofNat k4)), .val (.int (Int32.ofNat k7)), .val (.int (Int32.ofNat k10)), .unset, .unset, .unset, .unset] [(.int (3 : Int32))]))
      refine GoesW.step (fun _ hr_ => XS.ifYes X10.here hx rfl (pc0 := 47) (pc' := 61) rfl (hb hby at_47) rfl ((if0 _ _).trans (feq (by decide)).2) (by decide) (by decide) hr_) ?_
      show GoesW p ee below s _ _ _ _ _ (T10.setTop (mkF m 61 #[.val (.int p1), .val (.int p2), .val (.int p3), .val (.int p4), .val (.int (3 : Int32)), .val (.int (Int32.ofNat k4)), .val (.int (Int32.ofNat k7)), .val (.int (Int32.ofNat k10)), .unset, .unset, .unset, .unset] []))
      refine GoesW.step (fun _ hr_ => XS.iload X10.here hx rfl (hb hby at_61) rfl  hr_) ?_
      show GoesW p ee below s _ _ _ _ _ (T10.setTop (mkF m 63 #[.val (.int p1), .val (.int p2), .val (.int p3), .val (.int p4), .val (.int (3 : Int32)), .val (.int (Int32.ofNat k4)), .val (.int (Int32.ofNat k7)), .val (.int (Int32.ofNat k10)), .unset, .unset, .unset, .unset] [(.int (3 : Int32))]))
      refine GoesW.step (fun _ hr_ => XS.iconst X10.here hx rfl (hb hby at_63) hr_) ?_
      show GoesW p ee below s _ _ _ _ _ (T10.setTop (mkF m 64 #[.val (.int p1), .val (.int p2), .val (.int p3), .val (.int p4), .val (.int (3 : Int32)), .val (.int (Int32.ofNat k4)), .val (.int (Int32.ofNat k7)), .val (.int (Int32.ofNat k10)), .unset, .unset, .unset, .unset] [(.int (1 : Int32)), (.int (3 : Int32))]))
      refine GoesW.step (fun _ hr_ => XS.icmpYes X10.here hx rfl (pc0 := 64) (pc' := 87) rfl (hb hby at_64) rfl (feq (by decide)).2 (by decide) (by decide) hr_) ?_
      show GoesW p ee below s _ _ _ _ _ (T10.setTop (mkF m 87 #[.val (.int p1), .val (.int p2), .val (.int p3), .val (.int p4), .val (.int (3 : Int32)), .val (.int (Int32.ofNat k4)), .val (.int (Int32.ofNat k7)), .val (.int (Int32.ofNat k10)), .unset, .unset, .unset, .unset] []))
      refine GoesW.step (fun _ hr_ => XS.iload X10.here hx rfl (hb hby at_87) rfl  hr_) ?_
      show GoesW p ee below s _ _ _ _ _ (T10.setTop (mkF m 89 #[.val (.int p1), .val (.int p2), .val (.int p3), .val (.int p4), .val (.int (3 : Int32)), .val (.int (Int32.ofNat k4)), .val (.int (Int32.ofNat k7)), .val (.int (Int32.ofNat k10)), .unset, .unset, .unset, .unset] [(.int (3 : Int32))]))
      refine GoesW.step (fun _ hr_ => XS.iconst X10.here hx rfl (hb hby at_89) hr_) ?_
      show GoesW p ee below s _ _ _ _ _ (T10.setTop (mkF m 90 #[.val (.int p1), .val (.int p2), .val (.int p3), .val (.int p4), .val (.int (3 : Int32)), .val (.int (Int32.ofNat k4)), .val (.int (Int32.ofNat k7)), .val (.int (Int32.ofNat k10)), .unset, .unset, .unset, .unset] [(.int (2 : Int32)), (.int (3 : Int32))]))
      refine GoesW.step (fun _ hr_ => XS.icmpYes X10.here hx rfl (pc0 := 90) (pc' := 134) rfl (hb hby at_90) rfl (feq (by decide)).2 (by decide) (by decide) hr_) ?_
      show GoesW p ee below s _ _ _ _ _ (T10.setTop (mkF m 134 #[.val (.int p1), .val (.int p2), .val (.int p3), .val (.int p4), .val (.int (3 : Int32)), .val (.int (Int32.ofNat k4)), .val (.int (Int32.ofNat k7)), .val (.int (Int32.ofNat k10)), .unset, .unset, .unset, .unset] []))
      refine GoesW.step (fun _ hr_ => XS.iconst X10.here hx rfl (hb hby at_134) hr_) ?_
      show GoesW p ee below s _ _ _ _ _ (T10.setTop (mkF m 135 #[.val (.int p1), .val (.int p2), .val (.int p3), .val (.int p4), .val (.int (3 : Int32)), .val (.int (Int32.ofNat k4)), .val (.int (Int32.ofNat k7)), .val (.int (Int32.ofNat k10)), .unset, .unset, .unset, .unset] [(.int (3 : Int32))]))
      obtain ⟨T86, h86, X86, e86, E86, A86, st86⟩ := own_newP X10 hx hZ (aty := .char) (hw _ (List.mem_of_getElem? (i := 38) rfl)) e10 (z := (3 : Int32)) (by decide) (n := 3) rfl (cap := 3) (Nat.le_refl _) (by decide) (by decide) (by decide) (g := (mkF m 135 #[.val (.int p1), .val (.int p2), .val (.int p3), .val (.int p4), .val (.int (3 : Int32)), .val (.int (Int32.ofNat k4)), .val (.int (Int32.ofNat k7)), .val (.int (Int32.ofNat k10)), .unset, .unset, .unset, .unset] [(.int (3 : Int32))])) rfl rfl (hb hby at_135)
      obtain ⟨b86, g_b86⟩ : ∃ z, z = h10.size := ⟨_, rfl⟩
      have ge_b86 : n0 ≤ b86 := Nat.le_trans Zp12 (Nat.le_of_eq g_b86.symm)
      rw [← g_b86] at A86 st86
      have Zp87 := Nat.le_trans Zp12 E86.1
      have sf_b86 := Safe.ext E86 C.chv (Safe.new (Nat.le_of_eq g_b86.symm))
      have C := C.ext E86
      have OO := OO.ext E86
      refine GoesW.step st86 ?_
      have A_b86 : OA Z h86 b86 .char 3 (fun _ => (.int 0)) := A86
      show GoesW p ee below s _ _ _ _ _ (T86.setTop (mkF m 137 #[.val (.int p1), .val (.int p2), .val (.int p3), .val (.int p4), .val (.int (3 : Int32)), .val (.int (Int32.ofNat k4)), .val (.int (Int32.ofNat k7)), .val (.int (Int32.ofNat k10)), .unset, .unset, .unset, .unset] [(.ref b86)]))
      refine GoesW.step (fun _ hr_ => XS.dup X86.here hx rfl (hb hby at_137) rfl rfl hr_) ?_
      show GoesW p ee below s _ _ _ _ _ (T86.setTop (mkF m 138 #[.val (.int p1), .val (.int p2), .val (.int p3), .val (.int p4), .val (.int (3 : Int32)), .val (.int (Int32.ofNat k4)), .val (.int (Int32.ofNat k7)), .val (.int (Int32.ofNat k10)), .unset, .unset, .unset, .unset] [(.ref b86), (.ref b86)]))
      refine GoesW.step (fun _ hr_ => XS.iconst X86.here hx rfl (hb hby at_138) hr_) ?_
      show GoesW p ee below s _ _ _ _ _ (T86.setTop (mkF m 139 #[.val (.int p1), .val (.int p2), .val (.int p3), .val (.int p4), .val (.int (3 : Int32)), .val (.int (Int32.ofNat k4)), .val (.int (Int32.ofNat k7)), .val (.int (Int32.ofNat k10)), .unset, .unset, .unset, .unset] [(.int (0 : Int32)), (.ref b86), (.ref b86)]))
      refine GoesW.step (fun _ hr_ => XS.iload X86.here hx rfl (hb hby at_139) rfl  hr_) ?_
      show GoesW p ee below s _ _ _ _ _ (T86.setTop (mkF m 141 #[.val (.int p1), .val (.int p2), .val (.int p3), .val (.int p4), .val (.int (3 : Int32)), .val (.int (Int32.ofNat k4)), .val (.int (Int32.ofNat k7)), .val (.int (Int32.ofNat k10)), .unset, .unset, .unset, .unset] [(.int (Int32.ofNat k4)), (.int (0 : Int32)), (.ref b86), (.ref b86)]))
      obtain ⟨T88, h88, X88, e88, W88, A88, st88⟩ := own_stC X86 hx hZ e86 A_b86 (x := (Int32.ofNat k4)) (j := (0 : Int32)) (by decide) (k := 0) rfl (by decide) (g := (mkF m 141 #[.val (.int p1), .val (.int p2), .val (.int p3), .val (.int p4), .val (.int (3 : Int32)), .val (.int (Int32.ofNat k4)), .val (.int (Int32.ofNat k7)), .val (.int (Int32.ofNat k10)), .unset, .unset, .unset, .unset] [(.int (Int32.ofNat k4)), (.int (0 : Int32)), (.ref b86), (.ref b86)])) rfl rfl (hb hby at_141)
      refine GoesW.step st88 ?_
      have Zp89 := Nat.le_trans Zp87 (Keep.of_wr W88).1
      have N90 := Fr.snoc X88 N11 ge_b86
      have sfw := sf_b86
      have sf_b86 := Safe.wr W88 sfw C.chv sf_b86
      have C := C.wr W88 sfw
      have OO := OO.wr W88 ge_b86
      have A_b86 : OA Z h88 b86 .char 3 (fun i => [(.int (nar .char (Int32.ofNat k4))), (.int 0), (.int 0)].getD i (.int 0)) := A88.congr (fun i hi => by match i, hi with | 0, _ => rfl | 1, _ => rfl | 2, _ => rfl | i + 3, hi => omega)
      show GoesW p ee below s _ _ _ _ _ (T88.setTop (mkF m 142 #[.val (.int p1), .val (.int p2), .val (.int p3), .val (.int p4), .val (.int (3 : Int32)), .val (.int (Int32.ofNat k4)), .val (.int (Int32.ofNat k7)), .val (.int (Int32.ofNat k10)), .unset, .unset, .unset, .unset] [(.ref b86)]))
      refine GoesW.step (fun _ hr_ => XS.dup X88.here hx rfl (hb hby at_142) rfl rfl hr_) ?_
      show GoesW p ee below s _ _ _ _ _ (T88.setTop (mkF m 143 #[.val (.int p1), .val (.int p2), .val (.int p3), .val (.int p4), .val (.int (3 : Int32)), .val (.int (Int32.ofNat k4)), .val (.int (Int32.ofNat k7)), .val (.int (Int32.ofNat k10)), .unset, .unset, .unset, .unset] [(.ref b86), (.ref b86)]))
      refine GoesW.step (fun _ hr_ => XS.iconst X88.here hx rfl (hb hby at_143) hr_) ?_
      show GoesW p ee below s _ _ _ _ _ (T88.setTop (mkF m 144 #[.val (.int p1), .val (.int p2), .val (.int p3), .val (.int p4), .val (.int (3 : Int32)), .val (.int (Int32.ofNat k4)), .val (.int (Int32.ofNat k7)), .val (.int (Int32.ofNat k10)), .unset, .unset, .unset, .unset] [(.int (1 : Int32)), (.ref b86), (.ref b86)]))
      refine GoesW.step (fun _ hr_ => XS.iload X88.here hx rfl (hb hby at_144) rfl  hr_) ?_
      show GoesW p ee below s _ _ _ _ _ (T88.setTop (mkF m 146 #[.val (.int p1), .val (.int p2), .val (.int p3), .val (.int p4), .val (.int (3 : Int32)), .val (.int (Int32.ofNat k4)), .val (.int (Int32.ofNat k7)), .val (.int (Int32.ofNat k10)), .unset, .unset, .unset, .unset] [(.int (Int32.ofNat k7)), (.int (1 : Int32)), (.ref b86), (.ref b86)]))
      obtain ⟨T91, h91, X91, e91, W91, A91, st91⟩ := own_stC X88 hx hZ e88 A_b86 (x := (Int32.ofNat k7)) (j := (1 : Int32)) (by decide) (k := 1) rfl (by decide) (g := (mkF m 146 #[.val (.int p1), .val (.int p2), .val (.int p3), .val (.int p4), .val (.int (3 : Int32)), .val (.int (Int32.ofNat k4)), .val (.int (Int32.ofNat k7)), .val (.int (Int32.ofNat k10)), .unset, .unset, .unset, .unset] [(.int (Int32.ofNat k7)), (.int (1 : Int32)), (.ref b86), (.ref b86)])) rfl rfl (hb hby at_146)
      refine GoesW.step st91 ?_
      have Zp92 := Nat.le_trans Zp89 (Keep.of_wr W91).1
      have N93 := Fr.snoc X91 N90 ge_b86
      have sfw := sf_b86
      have sf_b86 := Safe.wr W91 sfw C.chv sf_b86
      have C := C.wr W91 sfw
      have OO := OO.wr W91 ge_b86
      have A_b86 : OA Z h91 b86 .char 3 (fun i => [(.int (nar .char (Int32.ofNat k4))), (.int (nar .char (Int32.ofNat k7))), (.int 0)].getD i (.int 0)) := A91.congr (fun i hi => by match i, hi with | 0, _ => rfl | 1, _ => rfl | 2, _ => rfl | i + 3, hi => omega)
      show GoesW p ee below s _ _ _ _ _ (T91.setTop (mkF m 147 #[.val (.int p1), .val (.int p2), .val (.int p3), .val (.int p4), .val (.int (3 : Int32)), .val (.int (Int32.ofNat k4)), .val (.int (Int32.ofNat k7)), .val (.int (Int32.ofNat k10)), .unset, .unset, .unset, .unset] [(.ref b86)]))
      refine GoesW.step (fun _ hr_ => XS.dup X91.here hx rfl (hb hby at_147) rfl rfl hr_) ?_
      show GoesW p ee below s _ _ _ _ _ (T91.setTop (mkF m 148 #[.val (.int p1), .val (.int p2), .val (.int p3), .val (.int p4), .val (.int (3 : Int32)), .val (.int (Int32.ofNat k4)), .val (.int (Int32.ofNat k7)), .val (.int (Int32.ofNat k10)), .unset, .unset, .unset, .unset] [(.ref b86), (.ref b86)]))
      refine GoesW.step (fun _ hr_ => XS.iconst X91.here hx rfl (hb hby at_148) hr_) ?_
      show GoesW p ee below s _ _ _ _ _ (T91.setTop (mkF m 149 #[.val (.int p1), .val (.int p2), .val (.int p3), .val (.int p4), .val (.int (3 : Int32)), .val (.int (Int32.ofNat k4)), .val (.int (Int32.ofNat k7)), .val (.int (Int32.ofNat k10)), .unset, .unset, .unset, .unset] [(.int (2 : Int32)), (.ref b86), (.ref b86)]))
      refine GoesW.step (fun _ hr_ => XS.iload X91.here hx rfl (hb hby at_149) rfl  hr_) ?_
      show GoesW p ee below s _ _ _ _ _ (T91.setTop (mkF m 151 #[.val (.int p1), .val (.int p2), .val (.int p3), .val (.int p4), .val (.int (3 : Int32)), .val (.int (Int32.ofNat k4)), .val (.int (Int32.ofNat k7)), .val (.int (Int32.ofNat k10)), .unset, .unset, .unset, .unset] [(.int (Int32.ofNat k10)), (.int (2 : Int32)), (.ref b86), (.ref b86)]))
      obtain ⟨T94, h94, X94, e94, W94, A94, st94⟩ := own_stC X91 hx hZ e91 A_b86 (x := (Int32.ofNat k10)) (j := (2 : Int32)) (by decide) (k := 2) rfl (by decide) (g := (mkF m 151 #[.val (.int p1), .val (.int p2), .val (.int p3), .val (.int p4), .val (.int (3 : Int32)), .val (.int (Int32.ofNat k4)), .val (.int (Int32.ofNat k7)), .val (.int (Int32.ofNat k10)), .unset, .unset, .unset, .unset] [(.int (Int32.ofNat k10)), (.int (2 : Int32)), (.ref b86), (.ref b86)])) rfl rfl (hb hby at_151)
      refine GoesW.step st94 ?_
      have Zp95 := Nat.le_trans Zp92 (Keep.of_wr W94).1
      have N96 := Fr.snoc X94 N93 ge_b86
      have sfw := sf_b86
      have sf_b86 := Safe.wr W94 sfw C.chv sf_b86
      have C := C.wr W94 sfw
      have OO := OO.wr W94 ge_b86
      have A_b86 : OA Z h94 b86 .char 3 (fun i => [(.int (nar .char (Int32.ofNat k4))), (.int (nar .char (Int32.ofNat k7))), (.int (nar .char (Int32.ofNat k10)))].getD i (.int 0)) := A94.congr (fun i hi => by match i, hi with | 0, _ => rfl | 1, _ => rfl | 2, _ => rfl | i + 3, hi => omega)
      show GoesW p ee below s _ _ _ _ _ (T94.setTop (mkF m 152 #[.val (.int p1), .val (.int p2), .val (.int p3), .val (.int p4), .val (.int (3 : Int32)), .val (.int (Int32.ofNat k4)), .val (.int (Int32.ofNat k7)), .val (.int (Int32.ofNat k10)), .unset, .unset, .unset, .unset] [(.ref b86)]))
      refine GoesW.step (fun _ hr_ => XS.astore X94.here hx rfl (hb hby at_152) rfl rfl (l' := #[.val (.int p1), .val (.int p2), .val (.int p3), .val (.int p4), .val (.int (3 : Int32)), .val (.int (Int32.ofNat k4)), .val (.int (Int32.ofNat k7)), .val (.int (Int32.ofNat k10)), .val (.ref b86), .unset, .unset, .unset]) rfl hr_) ?_
      show GoesW p ee below s _ _ _ _ _ (T94.setTop (mkF m 154 #[.val (.int p1), .val (.int p2), .val (.int p3), .val (.int p4), .val (.int (3 : Int32)), .val (.int (Int32.ofNat k4)), .val (.int (Int32.ofNat k7)), .val (.int (Int32.ofNat k10)), .val (.ref b86), .unset, .unset, .unset] []))
      refine GoesW.step (fun _ hr_ => XS.iload X94.here hx rfl (hb hby at_154) rfl  hr_) ?_
      show GoesW p ee below s _ _ _ _ _ (T94.setTop (mkF m 156 #[.val (.int p1), .val (.int p2), .val (.int p3), .val (.int p4), .val (.int (3 : Int32)), .val (.int (Int32.ofNat k4)), .val (.int (Int32.ofNat k7)), .val (.int (Int32.ofNat k10)), .val (.ref b86), .unset, .unset, .unset] [(.int (Int32.ofNat k4))]))
      have lt_b86 := A_b86.lt
      obtain ⟨v97, T97, L97, X97, hQ97, st97⟩ := own_callS X94 hx hZ (y := (⟨"com/example/landshut/landshut/NodeIdsCheckPinLaw", "ok", "(C)Z"⟩ : MethodName)) hown (hw _ (List.mem_of_getElem? (i := 63) rfl)) (hw _ (List.mem_of_getElem? (i := 64) rfl)) (hw _ (List.mem_of_getElem? (i := 2) rfl)) (hw _ (List.mem_of_getElem? (i := 65) rfl)) (by decide) (argsL := [(.int (Int32.ofNat k4))]) (rm_ok l Z a0 hw [] k4 h94 n0 Zp95 (Nat.lt_trans hk4 (by decide))) e94 (W := 0) (by decide) (by decide) (by decide) (by decide) (g := (mkF m 156 #[.val (.int p1), .val (.int p2), .val (.int p3), .val (.int p4), .val (.int (3 : Int32)), .val (.int (Int32.ofNat k4)), .val (.int (Int32.ofNat k7)), .val (.int (Int32.ofNat k10)), .val (.ref b86), .unset, .unset, .unset] [(.int (Int32.ofNat k4))])) rfl (by rw [hml]; rfl) (rest := []) (lenOf pd_11 rfl) rfl (by show 2 * 0 + _ ≤ _; exact Nat.le_of_eq rfl) (hb hby at_156)
      refine GoesW.step st97 ?_
      obtain ⟨rfl, N97, e97⟩ := hQ97
      have N98 := Fr.app N96 N97
      show GoesW p ee below s _ _ _ _ _ (T97.setTop (mkF m 159 #[.val (.int p1), .val (.int p2), .val (.int p3), .val (.int p4), .val (.int (3 : Int32)), .val (.int (Int32.ofNat k4)), .val (.int (Int32.ofNat k7)), .val (.int (Int32.ofNat k10)), .val (.ref b86), .unset, .unset, .unset] [(.int (if own_idc k4 then (1 : Int32) else 0))]))
      by_cases hn159_99 : ¬ own_idc k4
      · refine GoesW.step (fun _ hr_ => XS.ifYes X97.here hx rfl (pc0 := 159) (pc' := 182) rfl (hb hby at_159) rfl ((if0 _ _).trans (teq (own_if0.mpr hn159_99)).1) (by decide) (by decide) hr_) ?_
        show GoesW p ee below s _ _ _ _ _ (T97.setTop (mkF m 182 #[.val (.int p1), .val (.int p2), .val (.int p3), .val (.int p4), .val (.int (3 : Int32)), .val (.int (Int32.ofNat k4)), .val (.int (Int32.ofNat k7)), .val (.int (Int32.ofNat k10)), .val (.ref b86), .unset, .unset, .unset] []))
        refine GoesW.step (fun _ hr_ => XS.iconst X97.here hx rfl (hb hby at_182) hr_) ?_
        show GoesW p ee below s _ _ _ _ _ (T97.setTop (mkF m 183 #[.val (.int p1), .val (.int p2), .val (.int p3), .val (.int p4), .val (.int (3 : Int32)), .val (.int (Int32.ofNat k4)), .val (.int (Int32.ofNat k7)), .val (.int (Int32.ofNat k10)), .val (.ref b86), .unset, .unset, .unset] [(.int (0 : Int32))]))
        refine GoesW.step (fun _ hr_ => XS.istore X97.here hx rfl (hb hby at_183) rfl  (l' := #[.val (.int p1), .val (.int p2), .val (.int p3), .val (.int p4), .val (.int (3 : Int32)), .val (.int (Int32.ofNat k4)), .val (.int (Int32.ofNat k7)), .val (.int (Int32.ofNat k10)), .val (.ref b86), .val (.int (0 : Int32)), .unset, .unset]) rfl hr_) ?_
        show GoesW p ee below s _ _ _ _ _ (T97.setTop (mkF m 185 #[.val (.int p1), .val (.int p2), .val (.int p3), .val (.int p4), .val (.int (3 : Int32)), .val (.int (Int32.ofNat k4)), .val (.int (Int32.ofNat k7)), .val (.int (Int32.ofNat k10)), .val (.ref b86), .val (.int (0 : Int32)), .unset, .unset] []))
        obtain ⟨T100, h100, X100, e100, E100, A100, D100, -, st100⟩ := newO X97 hx hZ hown (hw _ (List.mem_of_getElem? (i := 39) rfl)) (hw _ (List.mem_of_getElem? (i := 6) rfl)) (hw _ (List.mem_of_getElem? (i := 5) rfl)) e97 (g := (mkF m 185 #[.val (.int p1), .val (.int p2), .val (.int p3), .val (.int p4), .val (.int (3 : Int32)), .val (.int (Int32.ofNat k4)), .val (.int (Int32.ofNat k7)), .val (.int (Int32.ofNat k10)), .val (.ref b86), .val (.int (0 : Int32)), .unset, .unset] [])) rfl (hb hby at_185) (by decide) (by decide)
        obtain ⟨b100, g_b100⟩ : ∃ z, z = h94.size := ⟨_, rfl⟩
        have ne_b86_b100 : b86 ≠ b100 := Nat.ne_of_lt (Nat.lt_of_lt_of_le A_b86.lt (Nat.le_of_eq g_b100.symm))
        have ge_b100 : n0 ≤ b100 := Nat.le_trans Zp95 (Nat.le_of_eq g_b100.symm)
        rw [← g_b100] at A100 D100 st100
        have A_b86 := A_b86.ext E100
        have Zp101 := Nat.le_trans Zp95 E100.1
        have sf_b86 := Safe.ext E100 C.chv sf_b86
        have sf_b100 := Safe.ext E100 C.chv (Safe.new (Nat.le_of_eq g_b100.symm))
        have C := C.ext E100
        have OO := OO.ext E100
        refine GoesW.step st100 ?_
        have E_b100 := A100
        have F_value_b100 : Fld Z h100 b100 "java/lang/String" "value" "[B" .null := D100 (Or.inr (hw _ (List.mem_of_getElem? (i := 8) rfl))) (ty := (.array .byte)) (by decide)
        have F_coder_b100 : Fld Z h100 b100 "java/lang/String" "coder" "B" (.int (0 : Int32)) := D100 (Or.inr (hw _ (List.mem_of_getElem? (i := 9) rfl))) (ty := .byte) (by decide)
        show GoesW p ee below s _ _ _ _ _ (T100.setTop (mkF m 188 #[.val (.int p1), .val (.int p2), .val (.int p3), .val (.int p4), .val (.int (3 : Int32)), .val (.int (Int32.ofNat k4)), .val (.int (Int32.ofNat k7)), .val (.int (Int32.ofNat k10)), .val (.ref b86), .val (.int (0 : Int32)), .unset, .unset] [(.ref b100)]))
        refine GoesW.step (fun _ hr_ => XS.dup X100.here hx rfl (hb hby at_188) rfl rfl hr_) ?_
        show GoesW p ee below s _ _ _ _ _ (T100.setTop (mkF m 189 #[.val (.int p1), .val (.int p2), .val (.int p3), .val (.int p4), .val (.int (3 : Int32)), .val (.int (Int32.ofNat k4)), .val (.int (Int32.ofNat k7)), .val (.int (Int32.ofNat k10)), .val (.ref b86), .val (.int (0 : Int32)), .unset, .unset] [(.ref b100), (.ref b100)]))
        refine GoesW.step (fun _ hr_ => XS.aload X100.here hx rfl (hb hby at_189) rfl rfl hr_) ?_
        show GoesW p ee below s _ _ _ _ _ (T100.setTop (mkF m 191 #[.val (.int p1), .val (.int p2), .val (.int p3), .val (.int p4), .val (.int (3 : Int32)), .val (.int (Int32.ofNat k4)), .val (.int (Int32.ofNat k7)), .val (.int (Int32.ofNat k10)), .val (.ref b86), .val (.int (0 : Int32)), .unset, .unset] [(.ref b86), (.ref b100), (.ref b100)]))
        have A_b86 : OA Z h100 b86 .char 3 (fun i => .int (Int32.ofNat ([k4, k7, k10].getD i 0))) := A_b86.congr (fun i hi => by match i, hi with | 0, _ => exact congrArg Value.int (own_charnar k4 (Nat.lt_trans hk4 (by decide))) | 1, _ => exact congrArg Value.int (own_charnar k7 (Nat.lt_trans hk7 (by decide))) | 2, _ => exact congrArg Value.int (own_charnar k10 (Nat.lt_trans hk10 (by decide))) | i + 3, hi => omega)
        have hlat : ∀ j, j < 3 → [k4, k7, k10].getD j 0 < 256 := fun j hj => by match j, hj with | 0, _ => exact hk4 | 1, _ => exact hk7 | 2, _ => exact hk10 | j + 3, hj => omega
        have hcs : ∀ j, j < 3 → [k4, k7, k10].getD j 0 < 65536 := fun j hj => Nat.lt_trans (hlat j hj) (by decide)
        have lt_b86 := A_b86.lt
        have lt_b100 := E_b100.lt
        obtain ⟨v102, T102, L102, X102, hQ102, st102⟩ := own_callN X100 hx hZ (y := (⟨"java/lang/String", "<init>", "([C)V"⟩ : MethodName)) rfl hown (hw _ (List.mem_of_getElem? (i := 40) rfl)) (hw _ (List.mem_of_getElem? (i := 41) rfl)) (hw _ (List.mem_of_getElem? (i := 5) rfl)) (hw _ (List.mem_of_getElem? (i := 42) rfl)) (by decide) (a := b100) (argsL := [(.ref b86)]) (rm_sin1 l Z a0 hw [] cs fm b100 b86 3 (fun i => [k4, k7, k10].getD i 0) _ _ h100 n0 Zp101 ST OO (by decide) (by decide) hcs hlat ge_b100 (Ne.symm ne_b86_b100) E_b100 F_value_b100 F_coder_b100 A_b86) e100 (W := 1) (by decide) (by decide) (by decide) (by decide) (g := (mkF m 191 #[.val (.int p1), .val (.int p2), .val (.int p3), .val (.int p4), .val (.int (3 : Int32)), .val (.int (Int32.ofNat k4)), .val (.int (Int32.ofNat k7)), .val (.int (Int32.ofNat k10)), .val (.ref b86), .val (.int (0 : Int32)), .unset, .unset] [(.ref b86), (.ref b100), (.ref b100)])) rfl (by rw [hml]; rfl) (rest := [(.ref b100)]) (lenOf pd_14 rfl) rfl (by show 2 * 0 + _ ≤ _; exact Nat.le_of_eq rfl) (hb hby at_191)
        refine GoesW.step st102 ?_
        obtain ⟨rfl, N102, Kc102, b102, u, sz102, Ei102, Fv102, Fc102, A_b102, hlu, hlu2⟩ := hQ102
        have N103 := Fr.app N98 N102
        obtain ⟨h102, e102⟩ : ∃ h', T102.heap = h' := ⟨_, rfl⟩
        rw [e102] at Kc102 Ei102 Fv102 Fc102 A_b102
        have A_b86 := A_b86.keep Kc102 (ninS ne_b86_b100 nin0)
        have hsk := (sfS sf_b100 sf0)
        have sf_b86 := Safe.keep Kc102 hsk C.chv sf_b86
        have sf_b100 := Safe.keep Kc102 hsk C.chv sf_b100
        have C := C.keep Kc102 hsk
        have OO := OO.keep Kc102 (allS ge_b100 all0)
        have Zp104 := Nat.le_trans Zp101 Kc102.1
        have ge_b102 : n0 ≤ b102 := Nat.le_trans Zp101 sz102
        have ne_b86_b102 : b86 ≠ b102 := Nat.ne_of_lt (Nat.lt_of_lt_of_le lt_b86 sz102)
        have ne_b100_b102 : b100 ≠ b102 := Nat.ne_of_lt (Nat.lt_of_lt_of_le lt_b100 sz102)
        have hu : u = false := by
          cases u
          · rfl
          · obtain ⟨j, hj, hjj⟩ := hlu2 rfl
            exact absurd (hlat j hj) (Nat.not_lt.mpr hjj)
        subst hu
        show GoesW p ee below s _ _ _ _ _ (T102.setTop (mkF m 194 #[.val (.int p1), .val (.int p2), .val (.int p3), .val (.int p4), .val (.int (3 : Int32)), .val (.int (Int32.ofNat k4)), .val (.int (Int32.ofNat k7)), .val (.int (Int32.ofNat k10)), .val (.ref b86), .val (.int (0 : Int32)), .unset, .unset] [(.ref b100)]))
        refine GoesW.step (fun _ hr_ => XS.astore X102.here hx rfl (hb hby at_194) rfl rfl (l' := #[.val (.int p1), .val (.int p2), .val (.int p3), .val (.int p4), .val (.int (3 : Int32)), .val (.int (Int32.ofNat k4)), .val (.int (Int32.ofNat k7)), .val (.int (Int32.ofNat k10)), .val (.ref b86), .val (.int (0 : Int32)), .val (.ref b100), .unset]) rfl hr_) ?_
        show GoesW p ee below s _ _ _ _ _ (T102.setTop (mkF m 196 #[.val (.int p1), .val (.int p2), .val (.int p3), .val (.int p4), .val (.int (3 : Int32)), .val (.int (Int32.ofNat k4)), .val (.int (Int32.ofNat k7)), .val (.int (Int32.ofNat k10)), .val (.ref b86), .val (.int (0 : Int32)), .val (.ref b100), .unset] []))
        refine GoesW.step (fun _ hr_ => XS.aload X102.here hx rfl (hb hby at_196) rfl rfl hr_) ?_
        show GoesW p ee below s _ _ _ _ _ (T102.setTop (mkF m 198 #[.val (.int p1), .val (.int p2), .val (.int p3), .val (.int p4), .val (.int (3 : Int32)), .val (.int (Int32.ofNat k4)), .val (.int (Int32.ofNat k7)), .val (.int (Int32.ofNat k10)), .val (.ref b86), .val (.int (0 : Int32)), .val (.ref b100), .unset] [(.ref b100)]))
        have lt_b86 := A_b86.lt
        have lt_b100 := Ei102.lt
        have lt_b102 := A_b102.lt
        obtain ⟨v105, T105, L105, X105, hQ105, st105⟩ := own_callS X102 hx hZ (y := (⟨"com/example/landshut/landshut/NodeIds", "isValid", "(Ljava/lang/String;)Z"⟩ : MethodName)) hown (hw _ (List.mem_of_getElem? (i := 51) rfl)) (hw _ (List.mem_of_getElem? (i := 52) rfl)) (hw _ (List.mem_of_getElem? (i := 53) rfl)) (hw _ (List.mem_of_getElem? (i := 54) rfl)) (by decide) (argsL := [(.ref b100)]) (rm_isv l Z a0 hw [] cs fm b100 b102 3 (fun i => [k4, k7, k10].getD i 0) h102 n0 Zp104 ST OO (by omega) Ei102 Fv102 Fc102 A_b102 hcs hlu) e102 (W := 0) (by decide) (by decide) (by decide) (by decide) (g := (mkF m 198 #[.val (.int p1), .val (.int p2), .val (.int p3), .val (.int p4), .val (.int (3 : Int32)), .val (.int (Int32.ofNat k4)), .val (.int (Int32.ofNat k7)), .val (.int (Int32.ofNat k10)), .val (.ref b86), .val (.int (0 : Int32)), .val (.ref b100), .unset] [(.ref b100)])) rfl (by rw [hml]; rfl) (rest := []) (lenOf pd_13 rfl) rfl (by show 2 * 0 + _ ≤ _; exact Nat.le_of_eq rfl) (hb hby at_198)
        refine GoesW.step st105 ?_
        obtain ⟨⟨r105, rfl, hr105⟩, N105, e105⟩ := hQ105
        have N106 := Fr.app N103 N105
        show GoesW p ee below s _ _ _ _ _ (T105.setTop (mkF m 201 #[.val (.int p1), .val (.int p2), .val (.int p3), .val (.int p4), .val (.int (3 : Int32)), .val (.int (Int32.ofNat k4)), .val (.int (Int32.ofNat k7)), .val (.int (Int32.ofNat k10)), .val (.ref b86), .val (.int (0 : Int32)), .val (.ref b100), .unset] [(.int r105)]))
        refine GoesW.step (fun _ hr_ => XS.iload X105.here hx rfl (hb hby at_201) rfl  hr_) ?_
        show GoesW p ee below s _ _ _ _ _ (T105.setTop (mkF m 203 #[.val (.int p1), .val (.int p2), .val (.int p3), .val (.int p4), .val (.int (3 : Int32)), .val (.int (Int32.ofNat k4)), .val (.int (Int32.ofNat k7)), .val (.int (Int32.ofNat k10)), .val (.ref b86), .val (.int (0 : Int32)), .val (.ref b100), .unset] [(.int (0 : Int32)), (.int r105)]))
        refine GoesW.step (fun _ hr_ => XS.icmpYes X105.here hx rfl (pc0 := 203) (pc' := 208) rfl (hb hby at_203) rfl (teq (by
          rcases hr105 with ⟨-, q⟩ | ⟨q, -⟩
          · exact absurd (q.2.2 0 (by decide)) hn159_99
          · exact q)).1 (by decide) (by decide) hr_) ?_
        show GoesW p ee below s _ _ _ _ _ (T105.setTop (mkF m 208 #[.val (.int p1), .val (.int p2), .val (.int p3), .val (.int p4), .val (.int (3 : Int32)), .val (.int (Int32.ofNat k4)), .val (.int (Int32.ofNat k7)), .val (.int (Int32.ofNat k10)), .val (.ref b86), .val (.int (0 : Int32)), .val (.ref b100), .unset] []))
        refine GoesW.step (fun _ hr_ => XS.iload X105.here hx rfl (hb hby at_208) rfl  hr_) ?_
        show GoesW p ee below s _ _ _ _ _ (T105.setTop (mkF m 210 #[.val (.int p1), .val (.int p2), .val (.int p3), .val (.int p4), .val (.int (3 : Int32)), .val (.int (Int32.ofNat k4)), .val (.int (Int32.ofNat k7)), .val (.int (Int32.ofNat k10)), .val (.ref b86), .val (.int (0 : Int32)), .val (.ref b100), .unset] [(.int (0 : Int32))]))
        refine GoesW.step (fun _ hr_ => XS.ifNo X105.here hx rfl (hb hby at_210) rfl ((if0 _ _).trans (teq (by decide)).2) hr_) ?_
        show GoesW p ee below s _ _ _ _ _ (T105.setTop (mkF m 213 #[.val (.int p1), .val (.int p2), .val (.int p3), .val (.int p4), .val (.int (3 : Int32)), .val (.int (Int32.ofNat k4)), .val (.int (Int32.ofNat k7)), .val (.int (Int32.ofNat k10)), .val (.ref b86), .val (.int (0 : Int32)), .val (.ref b100), .unset] []))
        refine GoesW.step (fun _ hr_ => XS.iconst X105.here hx rfl (hb hby at_213) hr_) ?_
        show GoesW p ee below s _ _ _ _ _ (T105.setTop (mkF m 214 #[.val (.int p1), .val (.int p2), .val (.int p3), .val (.int p4), .val (.int (3 : Int32)), .val (.int (Int32.ofNat k4)), .val (.int (Int32.ofNat k7)), .val (.int (Int32.ofNat k10)), .val (.ref b86), .val (.int (0 : Int32)), .val (.ref b100), .unset] [(.int (1 : Int32))]))
        refine GoesW.retZ X105 hx hZ hEL C e105 Bd.notSynchronized Bd.returns (by simp) rfl (hb hby at_214) (by decide) (by decide) ?_
        exact ⟨rfl, N106⟩
      · refine GoesW.step (fun _ hr_ => XS.ifNo X97.here hx rfl (hb hby at_159) rfl ((if0 _ _).trans (feq (fun z => hn159_99 (own_if0.mp z))).1) hr_) ?_
        show GoesW p ee below s _ _ _ _ _ (T97.setTop (mkF m 162 #[.val (.int p1), .val (.int p2), .val (.int p3), .val (.int p4), .val (.int (3 : Int32)), .val (.int (Int32.ofNat k4)), .val (.int (Int32.ofNat k7)), .val (.int (Int32.ofNat k10)), .val (.ref b86), .unset, .unset, .unset] []))
        refine GoesW.step (fun _ hr_ => XS.iload X97.here hx rfl (hb hby at_162) rfl  hr_) ?_
        show GoesW p ee below s _ _ _ _ _ (T97.setTop (mkF m 164 #[.val (.int p1), .val (.int p2), .val (.int p3), .val (.int p4), .val (.int (3 : Int32)), .val (.int (Int32.ofNat k4)), .val (.int (Int32.ofNat k7)), .val (.int (Int32.ofNat k10)), .val (.ref b86), .unset, .unset, .unset] [(.int (Int32.ofNat k7))]))
        have lt_b86 := A_b86.lt
        obtain ⟨v107, T107, L107, X107, hQ107, st107⟩ := own_callS X97 hx hZ (y := (⟨"com/example/landshut/landshut/NodeIdsCheckPinLaw", "ok", "(C)Z"⟩ : MethodName)) hown (hw _ (List.mem_of_getElem? (i := 63) rfl)) (hw _ (List.mem_of_getElem? (i := 64) rfl)) (hw _ (List.mem_of_getElem? (i := 2) rfl)) (hw _ (List.mem_of_getElem? (i := 65) rfl)) (by decide) (argsL := [(.int (Int32.ofNat k7))]) (rm_ok l Z a0 hw [] k7 h94 n0 Zp95 (Nat.lt_trans hk7 (by decide))) e97 (W := 0) (by decide) (by decide) (by decide) (by decide) (g := (mkF m 164 #[.val (.int p1), .val (.int p2), .val (.int p3), .val (.int p4), .val (.int (3 : Int32)), .val (.int (Int32.ofNat k4)), .val (.int (Int32.ofNat k7)), .val (.int (Int32.ofNat k10)), .val (.ref b86), .unset, .unset, .unset] [(.int (Int32.ofNat k7))])) rfl (by rw [hml]; rfl) (rest := []) (lenOf pd_11 rfl) rfl (by show 2 * 0 + _ ≤ _; exact Nat.le_of_eq rfl) (hb hby at_164)
        refine GoesW.step st107 ?_
        obtain ⟨rfl, N107, e107⟩ := hQ107
        have N108 := Fr.app N98 N107
        show GoesW p ee below s _ _ _ _ _ (T107.setTop (mkF m 167 #[.val (.int p1), .val (.int p2), .val (.int p3), .val (.int p4), .val (.int (3 : Int32)), .val (.int (Int32.ofNat k4)), .val (.int (Int32.ofNat k7)), .val (.int (Int32.ofNat k10)), .val (.ref b86), .unset, .unset, .unset] [(.int (if own_idc k7 then (1 : Int32) else 0))]))
        by_cases hn167_109 : ¬ own_idc k7
        · refine GoesW.step (fun _ hr_ => XS.ifYes X107.here hx rfl (pc0 := 167) (pc' := 182) rfl (hb hby at_167) rfl ((if0 _ _).trans (teq (own_if0.mpr hn167_109)).1) (by decide) (by decide) hr_) ?_
          show GoesW p ee below s _ _ _ _ _ (T107.setTop (mkF m 182 #[.val (.int p1), .val (.int p2), .val (.int p3), .val (.int p4), .val (.int (3 : Int32)), .val (.int (Int32.ofNat k4)), .val (.int (Int32.ofNat k7)), .val (.int (Int32.ofNat k10)), .val (.ref b86), .unset, .unset, .unset] []))
          refine GoesW.step (fun _ hr_ => XS.iconst X107.here hx rfl (hb hby at_182) hr_) ?_
          show GoesW p ee below s _ _ _ _ _ (T107.setTop (mkF m 183 #[.val (.int p1), .val (.int p2), .val (.int p3), .val (.int p4), .val (.int (3 : Int32)), .val (.int (Int32.ofNat k4)), .val (.int (Int32.ofNat k7)), .val (.int (Int32.ofNat k10)), .val (.ref b86), .unset, .unset, .unset] [(.int (0 : Int32))]))
          refine GoesW.step (fun _ hr_ => XS.istore X107.here hx rfl (hb hby at_183) rfl  (l' := #[.val (.int p1), .val (.int p2), .val (.int p3), .val (.int p4), .val (.int (3 : Int32)), .val (.int (Int32.ofNat k4)), .val (.int (Int32.ofNat k7)), .val (.int (Int32.ofNat k10)), .val (.ref b86), .val (.int (0 : Int32)), .unset, .unset]) rfl hr_) ?_
          show GoesW p ee below s _ _ _ _ _ (T107.setTop (mkF m 185 #[.val (.int p1), .val (.int p2), .val (.int p3), .val (.int p4), .val (.int (3 : Int32)), .val (.int (Int32.ofNat k4)), .val (.int (Int32.ofNat k7)), .val (.int (Int32.ofNat k10)), .val (.ref b86), .val (.int (0 : Int32)), .unset, .unset] []))
          obtain ⟨T110, h110, X110, e110, E110, A110, D110, -, st110⟩ := newO X107 hx hZ hown (hw _ (List.mem_of_getElem? (i := 39) rfl)) (hw _ (List.mem_of_getElem? (i := 6) rfl)) (hw _ (List.mem_of_getElem? (i := 5) rfl)) e107 (g := (mkF m 185 #[.val (.int p1), .val (.int p2), .val (.int p3), .val (.int p4), .val (.int (3 : Int32)), .val (.int (Int32.ofNat k4)), .val (.int (Int32.ofNat k7)), .val (.int (Int32.ofNat k10)), .val (.ref b86), .val (.int (0 : Int32)), .unset, .unset] [])) rfl (hb hby at_185) (by decide) (by decide)
          obtain ⟨b110, g_b110⟩ : ∃ z, z = h94.size := ⟨_, rfl⟩
          have ne_b86_b110 : b86 ≠ b110 := Nat.ne_of_lt (Nat.lt_of_lt_of_le A_b86.lt (Nat.le_of_eq g_b110.symm))
          have ge_b110 : n0 ≤ b110 := Nat.le_trans Zp95 (Nat.le_of_eq g_b110.symm)
          rw [← g_b110] at A110 D110 st110
          have A_b86 := A_b86.ext E110
          have Zp111 := Nat.le_trans Zp95 E110.1
          have sf_b86 := Safe.ext E110 C.chv sf_b86
          have sf_b110 := Safe.ext E110 C.chv (Safe.new (Nat.le_of_eq g_b110.symm))
          have C := C.ext E110
          have OO := OO.ext E110
          refine GoesW.step st110 ?_
          have E_b110 := A110
          have F_value_b110 : Fld Z h110 b110 "java/lang/String" "value" "[B" .null := D110 (Or.inr (hw _ (List.mem_of_getElem? (i := 8) rfl))) (ty := (.array .byte)) (by decide)
          have F_coder_b110 : Fld Z h110 b110 "java/lang/String" "coder" "B" (.int (0 : Int32)) := D110 (Or.inr (hw _ (List.mem_of_getElem? (i := 9) rfl))) (ty := .byte) (by decide)
          show GoesW p ee below s _ _ _ _ _ (T110.setTop (mkF m 188 #[.val (.int p1), .val (.int p2), .val (.int p3), .val (.int p4), .val (.int (3 : Int32)), .val (.int (Int32.ofNat k4)), .val (.int (Int32.ofNat k7)), .val (.int (Int32.ofNat k10)), .val (.ref b86), .val (.int (0 : Int32)), .unset, .unset] [(.ref b110)]))
          refine GoesW.step (fun _ hr_ => XS.dup X110.here hx rfl (hb hby at_188) rfl rfl hr_) ?_
          show GoesW p ee below s _ _ _ _ _ (T110.setTop (mkF m 189 #[.val (.int p1), .val (.int p2), .val (.int p3), .val (.int p4), .val (.int (3 : Int32)), .val (.int (Int32.ofNat k4)), .val (.int (Int32.ofNat k7)), .val (.int (Int32.ofNat k10)), .val (.ref b86), .val (.int (0 : Int32)), .unset, .unset] [(.ref b110), (.ref b110)]))
          refine GoesW.step (fun _ hr_ => XS.aload X110.here hx rfl (hb hby at_189) rfl rfl hr_) ?_
          show GoesW p ee below s _ _ _ _ _ (T110.setTop (mkF m 191 #[.val (.int p1), .val (.int p2), .val (.int p3), .val (.int p4), .val (.int (3 : Int32)), .val (.int (Int32.ofNat k4)), .val (.int (Int32.ofNat k7)), .val (.int (Int32.ofNat k10)), .val (.ref b86), .val (.int (0 : Int32)), .unset, .unset] [(.ref b86), (.ref b110), (.ref b110)]))
          have A_b86 : OA Z h110 b86 .char 3 (fun i => .int (Int32.ofNat ([k4, k7, k10].getD i 0))) := A_b86.congr (fun i hi => by match i, hi with | 0, _ => exact congrArg Value.int (own_charnar k4 (Nat.lt_trans hk4 (by decide))) | 1, _ => exact congrArg Value.int (own_charnar k7 (Nat.lt_trans hk7 (by decide))) | 2, _ => exact congrArg Value.int (own_charnar k10 (Nat.lt_trans hk10 (by decide))) | i + 3, hi => omega)
          have hlat : ∀ j, j < 3 → [k4, k7, k10].getD j 0 < 256 := fun j hj => by match j, hj with | 0, _ => exact hk4 | 1, _ => exact hk7 | 2, _ => exact hk10 | j + 3, hj => omega
          have hcs : ∀ j, j < 3 → [k4, k7, k10].getD j 0 < 65536 := fun j hj => Nat.lt_trans (hlat j hj) (by decide)
          have lt_b86 := A_b86.lt
          have lt_b110 := E_b110.lt
          obtain ⟨v112, T112, L112, X112, hQ112, st112⟩ := own_callN X110 hx hZ (y := (⟨"java/lang/String", "<init>", "([C)V"⟩ : MethodName)) rfl hown (hw _ (List.mem_of_getElem? (i := 40) rfl)) (hw _ (List.mem_of_getElem? (i := 41) rfl)) (hw _ (List.mem_of_getElem? (i := 5) rfl)) (hw _ (List.mem_of_getElem? (i := 42) rfl)) (by decide) (a := b110) (argsL := [(.ref b86)]) (rm_sin1 l Z a0 hw [] cs fm b110 b86 3 (fun i => [k4, k7, k10].getD i 0) _ _ h110 n0 Zp111 ST OO (by decide) (by decide) hcs hlat ge_b110 (Ne.symm ne_b86_b110) E_b110 F_value_b110 F_coder_b110 A_b86) e110 (W := 1) (by decide) (by decide) (by decide) (by decide) (g := (mkF m 191 #[.val (.int p1), .val (.int p2), .val (.int p3), .val (.int p4), .val (.int (3 : Int32)), .val (.int (Int32.ofNat k4)), .val (.int (Int32.ofNat k7)), .val (.int (Int32.ofNat k10)), .val (.ref b86), .val (.int (0 : Int32)), .unset, .unset] [(.ref b86), (.ref b110), (.ref b110)])) rfl (by rw [hml]; rfl) (rest := [(.ref b110)]) (lenOf pd_14 rfl) rfl (by show 2 * 0 + _ ≤ _; exact Nat.le_of_eq rfl) (hb hby at_191)
          refine GoesW.step st112 ?_
          obtain ⟨rfl, N112, Kc112, b112, u, sz112, Ei112, Fv112, Fc112, A_b112, hlu, hlu2⟩ := hQ112
          have N113 := Fr.app N108 N112
          obtain ⟨h112, e112⟩ : ∃ h', T112.heap = h' := ⟨_, rfl⟩
          rw [e112] at Kc112 Ei112 Fv112 Fc112 A_b112
          have A_b86 := A_b86.keep Kc112 (ninS ne_b86_b110 nin0)
          have hsk := (sfS sf_b110 sf0)
          have sf_b86 := Safe.keep Kc112 hsk C.chv sf_b86
          have sf_b110 := Safe.keep Kc112 hsk C.chv sf_b110
          have C := C.keep Kc112 hsk
          have OO := OO.keep Kc112 (allS ge_b110 all0)
          have Zp114 := Nat.le_trans Zp111 Kc112.1
          have ge_b112 : n0 ≤ b112 := Nat.le_trans Zp111 sz112
          have ne_b86_b112 : b86 ≠ b112 := Nat.ne_of_lt (Nat.lt_of_lt_of_le lt_b86 sz112)
          have ne_b110_b112 : b110 ≠ b112 := Nat.ne_of_lt (Nat.lt_of_lt_of_le lt_b110 sz112)
          have hu : u = false := by
            cases u
            · rfl
            · obtain ⟨j, hj, hjj⟩ := hlu2 rfl
              exact absurd (hlat j hj) (Nat.not_lt.mpr hjj)
          subst hu
          show GoesW p ee below s _ _ _ _ _ (T112.setTop (mkF m 194 #[.val (.int p1), .val (.int p2), .val (.int p3), .val (.int p4), .val (.int (3 : Int32)), .val (.int (Int32.ofNat k4)), .val (.int (Int32.ofNat k7)), .val (.int (Int32.ofNat k10)), .val (.ref b86), .val (.int (0 : Int32)), .unset, .unset] [(.ref b110)]))
          refine GoesW.step (fun _ hr_ => XS.astore X112.here hx rfl (hb hby at_194) rfl rfl (l' := #[.val (.int p1), .val (.int p2), .val (.int p3), .val (.int p4), .val (.int (3 : Int32)), .val (.int (Int32.ofNat k4)), .val (.int (Int32.ofNat k7)), .val (.int (Int32.ofNat k10)), .val (.ref b86), .val (.int (0 : Int32)), .val (.ref b110), .unset]) rfl hr_) ?_
          show GoesW p ee below s _ _ _ _ _ (T112.setTop (mkF m 196 #[.val (.int p1), .val (.int p2), .val (.int p3), .val (.int p4), .val (.int (3 : Int32)), .val (.int (Int32.ofNat k4)), .val (.int (Int32.ofNat k7)), .val (.int (Int32.ofNat k10)), .val (.ref b86), .val (.int (0 : Int32)), .val (.ref b110), .unset] []))
          refine GoesW.step (fun _ hr_ => XS.aload X112.here hx rfl (hb hby at_196) rfl rfl hr_) ?_
          show GoesW p ee below s _ _ _ _ _ (T112.setTop (mkF m 198 #[.val (.int p1), .val (.int p2), .val (.int p3), .val (.int p4), .val (.int (3 : Int32)), .val (.int (Int32.ofNat k4)), .val (.int (Int32.ofNat k7)), .val (.int (Int32.ofNat k10)), .val (.ref b86), .val (.int (0 : Int32)), .val (.ref b110), .unset] [(.ref b110)]))
          have lt_b86 := A_b86.lt
          have lt_b110 := Ei112.lt
          have lt_b112 := A_b112.lt
          obtain ⟨v115, T115, L115, X115, hQ115, st115⟩ := own_callS X112 hx hZ (y := (⟨"com/example/landshut/landshut/NodeIds", "isValid", "(Ljava/lang/String;)Z"⟩ : MethodName)) hown (hw _ (List.mem_of_getElem? (i := 51) rfl)) (hw _ (List.mem_of_getElem? (i := 52) rfl)) (hw _ (List.mem_of_getElem? (i := 53) rfl)) (hw _ (List.mem_of_getElem? (i := 54) rfl)) (by decide) (argsL := [(.ref b110)]) (rm_isv l Z a0 hw [] cs fm b110 b112 3 (fun i => [k4, k7, k10].getD i 0) h112 n0 Zp114 ST OO (by omega) Ei112 Fv112 Fc112 A_b112 hcs hlu) e112 (W := 0) (by decide) (by decide) (by decide) (by decide) (g := (mkF m 198 #[.val (.int p1), .val (.int p2), .val (.int p3), .val (.int p4), .val (.int (3 : Int32)), .val (.int (Int32.ofNat k4)), .val (.int (Int32.ofNat k7)), .val (.int (Int32.ofNat k10)), .val (.ref b86), .val (.int (0 : Int32)), .val (.ref b110), .unset] [(.ref b110)])) rfl (by rw [hml]; rfl) (rest := []) (lenOf pd_13 rfl) rfl (by show 2 * 0 + _ ≤ _; exact Nat.le_of_eq rfl) (hb hby at_198)
          refine GoesW.step st115 ?_
          obtain ⟨⟨r115, rfl, hr115⟩, N115, e115⟩ := hQ115
          have N116 := Fr.app N113 N115
          show GoesW p ee below s _ _ _ _ _ (T115.setTop (mkF m 201 #[.val (.int p1), .val (.int p2), .val (.int p3), .val (.int p4), .val (.int (3 : Int32)), .val (.int (Int32.ofNat k4)), .val (.int (Int32.ofNat k7)), .val (.int (Int32.ofNat k10)), .val (.ref b86), .val (.int (0 : Int32)), .val (.ref b110), .unset] [(.int r115)]))
          refine GoesW.step (fun _ hr_ => XS.iload X115.here hx rfl (hb hby at_201) rfl  hr_) ?_
          show GoesW p ee below s _ _ _ _ _ (T115.setTop (mkF m 203 #[.val (.int p1), .val (.int p2), .val (.int p3), .val (.int p4), .val (.int (3 : Int32)), .val (.int (Int32.ofNat k4)), .val (.int (Int32.ofNat k7)), .val (.int (Int32.ofNat k10)), .val (.ref b86), .val (.int (0 : Int32)), .val (.ref b110), .unset] [(.int (0 : Int32)), (.int r115)]))
          refine GoesW.step (fun _ hr_ => XS.icmpYes X115.here hx rfl (pc0 := 203) (pc' := 208) rfl (hb hby at_203) rfl (teq (by
            rcases hr115 with ⟨-, q⟩ | ⟨q, -⟩
            · exact absurd (q.2.2 1 (by decide)) hn167_109
            · exact q)).1 (by decide) (by decide) hr_) ?_
          show GoesW p ee below s _ _ _ _ _ (T115.setTop (mkF m 208 #[.val (.int p1), .val (.int p2), .val (.int p3), .val (.int p4), .val (.int (3 : Int32)), .val (.int (Int32.ofNat k4)), .val (.int (Int32.ofNat k7)), .val (.int (Int32.ofNat k10)), .val (.ref b86), .val (.int (0 : Int32)), .val (.ref b110), .unset] []))
          refine GoesW.step (fun _ hr_ => XS.iload X115.here hx rfl (hb hby at_208) rfl  hr_) ?_
          show GoesW p ee below s _ _ _ _ _ (T115.setTop (mkF m 210 #[.val (.int p1), .val (.int p2), .val (.int p3), .val (.int p4), .val (.int (3 : Int32)), .val (.int (Int32.ofNat k4)), .val (.int (Int32.ofNat k7)), .val (.int (Int32.ofNat k10)), .val (.ref b86), .val (.int (0 : Int32)), .val (.ref b110), .unset] [(.int (0 : Int32))]))
          refine GoesW.step (fun _ hr_ => XS.ifNo X115.here hx rfl (hb hby at_210) rfl ((if0 _ _).trans (teq (by decide)).2) hr_) ?_
          show GoesW p ee below s _ _ _ _ _ (T115.setTop (mkF m 213 #[.val (.int p1), .val (.int p2), .val (.int p3), .val (.int p4), .val (.int (3 : Int32)), .val (.int (Int32.ofNat k4)), .val (.int (Int32.ofNat k7)), .val (.int (Int32.ofNat k10)), .val (.ref b86), .val (.int (0 : Int32)), .val (.ref b110), .unset] []))
          refine GoesW.step (fun _ hr_ => XS.iconst X115.here hx rfl (hb hby at_213) hr_) ?_
          show GoesW p ee below s _ _ _ _ _ (T115.setTop (mkF m 214 #[.val (.int p1), .val (.int p2), .val (.int p3), .val (.int p4), .val (.int (3 : Int32)), .val (.int (Int32.ofNat k4)), .val (.int (Int32.ofNat k7)), .val (.int (Int32.ofNat k10)), .val (.ref b86), .val (.int (0 : Int32)), .val (.ref b110), .unset] [(.int (1 : Int32))]))
          refine GoesW.retZ X115 hx hZ hEL C e115 Bd.notSynchronized Bd.returns (by simp) rfl (hb hby at_214) (by decide) (by decide) ?_
          exact ⟨rfl, N116⟩
        · refine GoesW.step (fun _ hr_ => XS.ifNo X107.here hx rfl (hb hby at_167) rfl ((if0 _ _).trans (feq (fun z => hn167_109 (own_if0.mp z))).1) hr_) ?_
          show GoesW p ee below s _ _ _ _ _ (T107.setTop (mkF m 170 #[.val (.int p1), .val (.int p2), .val (.int p3), .val (.int p4), .val (.int (3 : Int32)), .val (.int (Int32.ofNat k4)), .val (.int (Int32.ofNat k7)), .val (.int (Int32.ofNat k10)), .val (.ref b86), .unset, .unset, .unset] []))
          refine GoesW.step (fun _ hr_ => XS.iload X107.here hx rfl (hb hby at_170) rfl  hr_) ?_
          show GoesW p ee below s _ _ _ _ _ (T107.setTop (mkF m 172 #[.val (.int p1), .val (.int p2), .val (.int p3), .val (.int p4), .val (.int (3 : Int32)), .val (.int (Int32.ofNat k4)), .val (.int (Int32.ofNat k7)), .val (.int (Int32.ofNat k10)), .val (.ref b86), .unset, .unset, .unset] [(.int (Int32.ofNat k10))]))
          have lt_b86 := A_b86.lt
          obtain ⟨v117, T117, L117, X117, hQ117, st117⟩ := own_callS X107 hx hZ (y := (⟨"com/example/landshut/landshut/NodeIdsCheckPinLaw", "ok", "(C)Z"⟩ : MethodName)) hown (hw _ (List.mem_of_getElem? (i := 63) rfl)) (hw _ (List.mem_of_getElem? (i := 64) rfl)) (hw _ (List.mem_of_getElem? (i := 2) rfl)) (hw _ (List.mem_of_getElem? (i := 65) rfl)) (by decide) (argsL := [(.int (Int32.ofNat k10))]) (rm_ok l Z a0 hw [] k10 h94 n0 Zp95 (Nat.lt_trans hk10 (by decide))) e107 (W := 0) (by decide) (by decide) (by decide) (by decide) (g := (mkF m 172 #[.val (.int p1), .val (.int p2), .val (.int p3), .val (.int p4), .val (.int (3 : Int32)), .val (.int (Int32.ofNat k4)), .val (.int (Int32.ofNat k7)), .val (.int (Int32.ofNat k10)), .val (.ref b86), .unset, .unset, .unset] [(.int (Int32.ofNat k10))])) rfl (by rw [hml]; rfl) (rest := []) (lenOf pd_11 rfl) rfl (by show 2 * 0 + _ ≤ _; exact Nat.le_of_eq rfl) (hb hby at_172)
          refine GoesW.step st117 ?_
          obtain ⟨rfl, N117, e117⟩ := hQ117
          have N118 := Fr.app N108 N117
          show GoesW p ee below s _ _ _ _ _ (T117.setTop (mkF m 175 #[.val (.int p1), .val (.int p2), .val (.int p3), .val (.int p4), .val (.int (3 : Int32)), .val (.int (Int32.ofNat k4)), .val (.int (Int32.ofNat k7)), .val (.int (Int32.ofNat k10)), .val (.ref b86), .unset, .unset, .unset] [(.int (if own_idc k10 then (1 : Int32) else 0))]))
          by_cases hn175_119 : ¬ own_idc k10
          · refine GoesW.step (fun _ hr_ => XS.ifYes X117.here hx rfl (pc0 := 175) (pc' := 182) rfl (hb hby at_175) rfl ((if0 _ _).trans (teq (own_if0.mpr hn175_119)).1) (by decide) (by decide) hr_) ?_
            show GoesW p ee below s _ _ _ _ _ (T117.setTop (mkF m 182 #[.val (.int p1), .val (.int p2), .val (.int p3), .val (.int p4), .val (.int (3 : Int32)), .val (.int (Int32.ofNat k4)), .val (.int (Int32.ofNat k7)), .val (.int (Int32.ofNat k10)), .val (.ref b86), .unset, .unset, .unset] []))
            refine GoesW.step (fun _ hr_ => XS.iconst X117.here hx rfl (hb hby at_182) hr_) ?_
            show GoesW p ee below s _ _ _ _ _ (T117.setTop (mkF m 183 #[.val (.int p1), .val (.int p2), .val (.int p3), .val (.int p4), .val (.int (3 : Int32)), .val (.int (Int32.ofNat k4)), .val (.int (Int32.ofNat k7)), .val (.int (Int32.ofNat k10)), .val (.ref b86), .unset, .unset, .unset] [(.int (0 : Int32))]))
            refine GoesW.step (fun _ hr_ => XS.istore X117.here hx rfl (hb hby at_183) rfl  (l' := #[.val (.int p1), .val (.int p2), .val (.int p3), .val (.int p4), .val (.int (3 : Int32)), .val (.int (Int32.ofNat k4)), .val (.int (Int32.ofNat k7)), .val (.int (Int32.ofNat k10)), .val (.ref b86), .val (.int (0 : Int32)), .unset, .unset]) rfl hr_) ?_
            show GoesW p ee below s _ _ _ _ _ (T117.setTop (mkF m 185 #[.val (.int p1), .val (.int p2), .val (.int p3), .val (.int p4), .val (.int (3 : Int32)), .val (.int (Int32.ofNat k4)), .val (.int (Int32.ofNat k7)), .val (.int (Int32.ofNat k10)), .val (.ref b86), .val (.int (0 : Int32)), .unset, .unset] []))
            obtain ⟨T120, h120, X120, e120, E120, A120, D120, -, st120⟩ := newO X117 hx hZ hown (hw _ (List.mem_of_getElem? (i := 39) rfl)) (hw _ (List.mem_of_getElem? (i := 6) rfl)) (hw _ (List.mem_of_getElem? (i := 5) rfl)) e117 (g := (mkF m 185 #[.val (.int p1), .val (.int p2), .val (.int p3), .val (.int p4), .val (.int (3 : Int32)), .val (.int (Int32.ofNat k4)), .val (.int (Int32.ofNat k7)), .val (.int (Int32.ofNat k10)), .val (.ref b86), .val (.int (0 : Int32)), .unset, .unset] [])) rfl (hb hby at_185) (by decide) (by decide)
            obtain ⟨b120, g_b120⟩ : ∃ z, z = h94.size := ⟨_, rfl⟩
            have ne_b86_b120 : b86 ≠ b120 := Nat.ne_of_lt (Nat.lt_of_lt_of_le A_b86.lt (Nat.le_of_eq g_b120.symm))
            have ge_b120 : n0 ≤ b120 := Nat.le_trans Zp95 (Nat.le_of_eq g_b120.symm)
            rw [← g_b120] at A120 D120 st120
            have A_b86 := A_b86.ext E120
            have Zp121 := Nat.le_trans Zp95 E120.1
            have sf_b86 := Safe.ext E120 C.chv sf_b86
            have sf_b120 := Safe.ext E120 C.chv (Safe.new (Nat.le_of_eq g_b120.symm))
            have C := C.ext E120
            have OO := OO.ext E120
            refine GoesW.step st120 ?_
            have E_b120 := A120
            have F_value_b120 : Fld Z h120 b120 "java/lang/String" "value" "[B" .null := D120 (Or.inr (hw _ (List.mem_of_getElem? (i := 8) rfl))) (ty := (.array .byte)) (by decide)
            have F_coder_b120 : Fld Z h120 b120 "java/lang/String" "coder" "B" (.int (0 : Int32)) := D120 (Or.inr (hw _ (List.mem_of_getElem? (i := 9) rfl))) (ty := .byte) (by decide)
            show GoesW p ee below s _ _ _ _ _ (T120.setTop (mkF m 188 #[.val (.int p1), .val (.int p2), .val (.int p3), .val (.int p4), .val (.int (3 : Int32)), .val (.int (Int32.ofNat k4)), .val (.int (Int32.ofNat k7)), .val (.int (Int32.ofNat k10)), .val (.ref b86), .val (.int (0 : Int32)), .unset, .unset] [(.ref b120)]))
            refine GoesW.step (fun _ hr_ => XS.dup X120.here hx rfl (hb hby at_188) rfl rfl hr_) ?_
            show GoesW p ee below s _ _ _ _ _ (T120.setTop (mkF m 189 #[.val (.int p1), .val (.int p2), .val (.int p3), .val (.int p4), .val (.int (3 : Int32)), .val (.int (Int32.ofNat k4)), .val (.int (Int32.ofNat k7)), .val (.int (Int32.ofNat k10)), .val (.ref b86), .val (.int (0 : Int32)), .unset, .unset] [(.ref b120), (.ref b120)]))
            refine GoesW.step (fun _ hr_ => XS.aload X120.here hx rfl (hb hby at_189) rfl rfl hr_) ?_
            show GoesW p ee below s _ _ _ _ _ (T120.setTop (mkF m 191 #[.val (.int p1), .val (.int p2), .val (.int p3), .val (.int p4), .val (.int (3 : Int32)), .val (.int (Int32.ofNat k4)), .val (.int (Int32.ofNat k7)), .val (.int (Int32.ofNat k10)), .val (.ref b86), .val (.int (0 : Int32)), .unset, .unset] [(.ref b86), (.ref b120), (.ref b120)]))
            have A_b86 : OA Z h120 b86 .char 3 (fun i => .int (Int32.ofNat ([k4, k7, k10].getD i 0))) := A_b86.congr (fun i hi => by match i, hi with | 0, _ => exact congrArg Value.int (own_charnar k4 (Nat.lt_trans hk4 (by decide))) | 1, _ => exact congrArg Value.int (own_charnar k7 (Nat.lt_trans hk7 (by decide))) | 2, _ => exact congrArg Value.int (own_charnar k10 (Nat.lt_trans hk10 (by decide))) | i + 3, hi => omega)
            have hlat : ∀ j, j < 3 → [k4, k7, k10].getD j 0 < 256 := fun j hj => by match j, hj with | 0, _ => exact hk4 | 1, _ => exact hk7 | 2, _ => exact hk10 | j + 3, hj => omega
            have hcs : ∀ j, j < 3 → [k4, k7, k10].getD j 0 < 65536 := fun j hj => Nat.lt_trans (hlat j hj) (by decide)
            have lt_b86 := A_b86.lt
            have lt_b120 := E_b120.lt
            obtain ⟨v122, T122, L122, X122, hQ122, st122⟩ := own_callN X120 hx hZ (y := (⟨"java/lang/String", "<init>", "([C)V"⟩ : MethodName)) rfl hown (hw _ (List.mem_of_getElem? (i := 40) rfl)) (hw _ (List.mem_of_getElem? (i := 41) rfl)) (hw _ (List.mem_of_getElem? (i := 5) rfl)) (hw _ (List.mem_of_getElem? (i := 42) rfl)) (by decide) (a := b120) (argsL := [(.ref b86)]) (rm_sin1 l Z a0 hw [] cs fm b120 b86 3 (fun i => [k4, k7, k10].getD i 0) _ _ h120 n0 Zp121 ST OO (by decide) (by decide) hcs hlat ge_b120 (Ne.symm ne_b86_b120) E_b120 F_value_b120 F_coder_b120 A_b86) e120 (W := 1) (by decide) (by decide) (by decide) (by decide) (g := (mkF m 191 #[.val (.int p1), .val (.int p2), .val (.int p3), .val (.int p4), .val (.int (3 : Int32)), .val (.int (Int32.ofNat k4)), .val (.int (Int32.ofNat k7)), .val (.int (Int32.ofNat k10)), .val (.ref b86), .val (.int (0 : Int32)), .unset, .unset] [(.ref b86), (.ref b120), (.ref b120)])) rfl (by rw [hml]; rfl) (rest := [(.ref b120)]) (lenOf pd_14 rfl) rfl (by show 2 * 0 + _ ≤ _; exact Nat.le_of_eq rfl) (hb hby at_191)
            refine GoesW.step st122 ?_
            obtain ⟨rfl, N122, Kc122, b122, u, sz122, Ei122, Fv122, Fc122, A_b122, hlu, hlu2⟩ := hQ122
            have N123 := Fr.app N118 N122
            obtain ⟨h122, e122⟩ : ∃ h', T122.heap = h' := ⟨_, rfl⟩
            rw [e122] at Kc122 Ei122 Fv122 Fc122 A_b122
            have A_b86 := A_b86.keep Kc122 (ninS ne_b86_b120 nin0)
            have hsk := (sfS sf_b120 sf0)
            have sf_b86 := Safe.keep Kc122 hsk C.chv sf_b86
            have sf_b120 := Safe.keep Kc122 hsk C.chv sf_b120
            have C := C.keep Kc122 hsk
            have OO := OO.keep Kc122 (allS ge_b120 all0)
            have Zp124 := Nat.le_trans Zp121 Kc122.1
            have ge_b122 : n0 ≤ b122 := Nat.le_trans Zp121 sz122
            have ne_b86_b122 : b86 ≠ b122 := Nat.ne_of_lt (Nat.lt_of_lt_of_le lt_b86 sz122)
            have ne_b120_b122 : b120 ≠ b122 := Nat.ne_of_lt (Nat.lt_of_lt_of_le lt_b120 sz122)
            have hu : u = false := by
              cases u
              · rfl
              · obtain ⟨j, hj, hjj⟩ := hlu2 rfl
                exact absurd (hlat j hj) (Nat.not_lt.mpr hjj)
            subst hu
            show GoesW p ee below s _ _ _ _ _ (T122.setTop (mkF m 194 #[.val (.int p1), .val (.int p2), .val (.int p3), .val (.int p4), .val (.int (3 : Int32)), .val (.int (Int32.ofNat k4)), .val (.int (Int32.ofNat k7)), .val (.int (Int32.ofNat k10)), .val (.ref b86), .val (.int (0 : Int32)), .unset, .unset] [(.ref b120)]))
            refine GoesW.step (fun _ hr_ => XS.astore X122.here hx rfl (hb hby at_194) rfl rfl (l' := #[.val (.int p1), .val (.int p2), .val (.int p3), .val (.int p4), .val (.int (3 : Int32)), .val (.int (Int32.ofNat k4)), .val (.int (Int32.ofNat k7)), .val (.int (Int32.ofNat k10)), .val (.ref b86), .val (.int (0 : Int32)), .val (.ref b120), .unset]) rfl hr_) ?_
            show GoesW p ee below s _ _ _ _ _ (T122.setTop (mkF m 196 #[.val (.int p1), .val (.int p2), .val (.int p3), .val (.int p4), .val (.int (3 : Int32)), .val (.int (Int32.ofNat k4)), .val (.int (Int32.ofNat k7)), .val (.int (Int32.ofNat k10)), .val (.ref b86), .val (.int (0 : Int32)), .val (.ref b120), .unset] []))
            refine GoesW.step (fun _ hr_ => XS.aload X122.here hx rfl (hb hby at_196) rfl rfl hr_) ?_
            show GoesW p ee below s _ _ _ _ _ (T122.setTop (mkF m 198 #[.val (.int p1), .val (.int p2), .val (.int p3), .val (.int p4), .val (.int (3 : Int32)), .val (.int (Int32.ofNat k4)), .val (.int (Int32.ofNat k7)), .val (.int (Int32.ofNat k10)), .val (.ref b86), .val (.int (0 : Int32)), .val (.ref b120), .unset] [(.ref b120)]))
            have lt_b86 := A_b86.lt
            have lt_b120 := Ei122.lt
            have lt_b122 := A_b122.lt
            obtain ⟨v125, T125, L125, X125, hQ125, st125⟩ := own_callS X122 hx hZ (y := (⟨"com/example/landshut/landshut/NodeIds", "isValid", "(Ljava/lang/String;)Z"⟩ : MethodName)) hown (hw _ (List.mem_of_getElem? (i := 51) rfl)) (hw _ (List.mem_of_getElem? (i := 52) rfl)) (hw _ (List.mem_of_getElem? (i := 53) rfl)) (hw _ (List.mem_of_getElem? (i := 54) rfl)) (by decide) (argsL := [(.ref b120)]) (rm_isv l Z a0 hw [] cs fm b120 b122 3 (fun i => [k4, k7, k10].getD i 0) h122 n0 Zp124 ST OO (by omega) Ei122 Fv122 Fc122 A_b122 hcs hlu) e122 (W := 0) (by decide) (by decide) (by decide) (by decide) (g := (mkF m 198 #[.val (.int p1), .val (.int p2), .val (.int p3), .val (.int p4), .val (.int (3 : Int32)), .val (.int (Int32.ofNat k4)), .val (.int (Int32.ofNat k7)), .val (.int (Int32.ofNat k10)), .val (.ref b86), .val (.int (0 : Int32)), .val (.ref b120), .unset] [(.ref b120)])) rfl (by rw [hml]; rfl) (rest := []) (lenOf pd_13 rfl) rfl (by show 2 * 0 + _ ≤ _; exact Nat.le_of_eq rfl) (hb hby at_198)
            refine GoesW.step st125 ?_
            obtain ⟨⟨r125, rfl, hr125⟩, N125, e125⟩ := hQ125
            have N126 := Fr.app N123 N125
            show GoesW p ee below s _ _ _ _ _ (T125.setTop (mkF m 201 #[.val (.int p1), .val (.int p2), .val (.int p3), .val (.int p4), .val (.int (3 : Int32)), .val (.int (Int32.ofNat k4)), .val (.int (Int32.ofNat k7)), .val (.int (Int32.ofNat k10)), .val (.ref b86), .val (.int (0 : Int32)), .val (.ref b120), .unset] [(.int r125)]))
            refine GoesW.step (fun _ hr_ => XS.iload X125.here hx rfl (hb hby at_201) rfl  hr_) ?_
            show GoesW p ee below s _ _ _ _ _ (T125.setTop (mkF m 203 #[.val (.int p1), .val (.int p2), .val (.int p3), .val (.int p4), .val (.int (3 : Int32)), .val (.int (Int32.ofNat k4)), .val (.int (Int32.ofNat k7)), .val (.int (Int32.ofNat k10)), .val (.ref b86), .val (.int (0 : Int32)), .val (.ref b120), .unset] [(.int (0 : Int32)), (.int r125)]))
            refine GoesW.step (fun _ hr_ => XS.icmpYes X125.here hx rfl (pc0 := 203) (pc' := 208) rfl (hb hby at_203) rfl (teq (by
              rcases hr125 with ⟨-, q⟩ | ⟨q, -⟩
              · exact absurd (q.2.2 2 (by decide)) hn175_119
              · exact q)).1 (by decide) (by decide) hr_) ?_
            show GoesW p ee below s _ _ _ _ _ (T125.setTop (mkF m 208 #[.val (.int p1), .val (.int p2), .val (.int p3), .val (.int p4), .val (.int (3 : Int32)), .val (.int (Int32.ofNat k4)), .val (.int (Int32.ofNat k7)), .val (.int (Int32.ofNat k10)), .val (.ref b86), .val (.int (0 : Int32)), .val (.ref b120), .unset] []))
            refine GoesW.step (fun _ hr_ => XS.iload X125.here hx rfl (hb hby at_208) rfl  hr_) ?_
            show GoesW p ee below s _ _ _ _ _ (T125.setTop (mkF m 210 #[.val (.int p1), .val (.int p2), .val (.int p3), .val (.int p4), .val (.int (3 : Int32)), .val (.int (Int32.ofNat k4)), .val (.int (Int32.ofNat k7)), .val (.int (Int32.ofNat k10)), .val (.ref b86), .val (.int (0 : Int32)), .val (.ref b120), .unset] [(.int (0 : Int32))]))
            refine GoesW.step (fun _ hr_ => XS.ifNo X125.here hx rfl (hb hby at_210) rfl ((if0 _ _).trans (teq (by decide)).2) hr_) ?_
            show GoesW p ee below s _ _ _ _ _ (T125.setTop (mkF m 213 #[.val (.int p1), .val (.int p2), .val (.int p3), .val (.int p4), .val (.int (3 : Int32)), .val (.int (Int32.ofNat k4)), .val (.int (Int32.ofNat k7)), .val (.int (Int32.ofNat k10)), .val (.ref b86), .val (.int (0 : Int32)), .val (.ref b120), .unset] []))
            refine GoesW.step (fun _ hr_ => XS.iconst X125.here hx rfl (hb hby at_213) hr_) ?_
            show GoesW p ee below s _ _ _ _ _ (T125.setTop (mkF m 214 #[.val (.int p1), .val (.int p2), .val (.int p3), .val (.int p4), .val (.int (3 : Int32)), .val (.int (Int32.ofNat k4)), .val (.int (Int32.ofNat k7)), .val (.int (Int32.ofNat k10)), .val (.ref b86), .val (.int (0 : Int32)), .val (.ref b120), .unset] [(.int (1 : Int32))]))
            refine GoesW.retZ X125 hx hZ hEL C e125 Bd.notSynchronized Bd.returns (by simp) rfl (hb hby at_214) (by decide) (by decide) ?_
            exact ⟨rfl, N126⟩
          · refine GoesW.step (fun _ hr_ => XS.ifNo X117.here hx rfl (hb hby at_175) rfl ((if0 _ _).trans (feq (fun z => hn175_119 (own_if0.mp z))).1) hr_) ?_
            show GoesW p ee below s _ _ _ _ _ (T117.setTop (mkF m 178 #[.val (.int p1), .val (.int p2), .val (.int p3), .val (.int p4), .val (.int (3 : Int32)), .val (.int (Int32.ofNat k4)), .val (.int (Int32.ofNat k7)), .val (.int (Int32.ofNat k10)), .val (.ref b86), .unset, .unset, .unset] []))
            refine GoesW.step (fun _ hr_ => XS.iconst X117.here hx rfl (hb hby at_178) hr_) ?_
            show GoesW p ee below s _ _ _ _ _ (T117.setTop (mkF m 179 #[.val (.int p1), .val (.int p2), .val (.int p3), .val (.int p4), .val (.int (3 : Int32)), .val (.int (Int32.ofNat k4)), .val (.int (Int32.ofNat k7)), .val (.int (Int32.ofNat k10)), .val (.ref b86), .unset, .unset, .unset] [(.int (1 : Int32))]))
            refine GoesW.step (fun _ hr_ => XS.goto X117.here hx rfl (pc0 := 179) (pc' := 183) rfl (hb hby at_179) (by decide) (by decide) hr_) ?_
            show GoesW p ee below s _ _ _ _ _ (T117.setTop (mkF m 183 #[.val (.int p1), .val (.int p2), .val (.int p3), .val (.int p4), .val (.int (3 : Int32)), .val (.int (Int32.ofNat k4)), .val (.int (Int32.ofNat k7)), .val (.int (Int32.ofNat k10)), .val (.ref b86), .unset, .unset, .unset] [(.int (1 : Int32))]))
            refine GoesW.step (fun _ hr_ => XS.istore X117.here hx rfl (hb hby at_183) rfl  (l' := #[.val (.int p1), .val (.int p2), .val (.int p3), .val (.int p4), .val (.int (3 : Int32)), .val (.int (Int32.ofNat k4)), .val (.int (Int32.ofNat k7)), .val (.int (Int32.ofNat k10)), .val (.ref b86), .val (.int (1 : Int32)), .unset, .unset]) rfl hr_) ?_
            show GoesW p ee below s _ _ _ _ _ (T117.setTop (mkF m 185 #[.val (.int p1), .val (.int p2), .val (.int p3), .val (.int p4), .val (.int (3 : Int32)), .val (.int (Int32.ofNat k4)), .val (.int (Int32.ofNat k7)), .val (.int (Int32.ofNat k10)), .val (.ref b86), .val (.int (1 : Int32)), .unset, .unset] []))
            obtain ⟨T127, h127, X127, e127, E127, A127, D127, -, st127⟩ := newO X117 hx hZ hown (hw _ (List.mem_of_getElem? (i := 39) rfl)) (hw _ (List.mem_of_getElem? (i := 6) rfl)) (hw _ (List.mem_of_getElem? (i := 5) rfl)) e117 (g := (mkF m 185 #[.val (.int p1), .val (.int p2), .val (.int p3), .val (.int p4), .val (.int (3 : Int32)), .val (.int (Int32.ofNat k4)), .val (.int (Int32.ofNat k7)), .val (.int (Int32.ofNat k10)), .val (.ref b86), .val (.int (1 : Int32)), .unset, .unset] [])) rfl (hb hby at_185) (by decide) (by decide)
            obtain ⟨b127, g_b127⟩ : ∃ z, z = h94.size := ⟨_, rfl⟩
            have ne_b86_b127 : b86 ≠ b127 := Nat.ne_of_lt (Nat.lt_of_lt_of_le A_b86.lt (Nat.le_of_eq g_b127.symm))
            have ge_b127 : n0 ≤ b127 := Nat.le_trans Zp95 (Nat.le_of_eq g_b127.symm)
            rw [← g_b127] at A127 D127 st127
            have A_b86 := A_b86.ext E127
            have Zp128 := Nat.le_trans Zp95 E127.1
            have sf_b86 := Safe.ext E127 C.chv sf_b86
            have sf_b127 := Safe.ext E127 C.chv (Safe.new (Nat.le_of_eq g_b127.symm))
            have C := C.ext E127
            have OO := OO.ext E127
            refine GoesW.step st127 ?_
            have E_b127 := A127
            have F_value_b127 : Fld Z h127 b127 "java/lang/String" "value" "[B" .null := D127 (Or.inr (hw _ (List.mem_of_getElem? (i := 8) rfl))) (ty := (.array .byte)) (by decide)
            have F_coder_b127 : Fld Z h127 b127 "java/lang/String" "coder" "B" (.int (0 : Int32)) := D127 (Or.inr (hw _ (List.mem_of_getElem? (i := 9) rfl))) (ty := .byte) (by decide)
            show GoesW p ee below s _ _ _ _ _ (T127.setTop (mkF m 188 #[.val (.int p1), .val (.int p2), .val (.int p3), .val (.int p4), .val (.int (3 : Int32)), .val (.int (Int32.ofNat k4)), .val (.int (Int32.ofNat k7)), .val (.int (Int32.ofNat k10)), .val (.ref b86), .val (.int (1 : Int32)), .unset, .unset] [(.ref b127)]))
            refine GoesW.step (fun _ hr_ => XS.dup X127.here hx rfl (hb hby at_188) rfl rfl hr_) ?_
            show GoesW p ee below s _ _ _ _ _ (T127.setTop (mkF m 189 #[.val (.int p1), .val (.int p2), .val (.int p3), .val (.int p4), .val (.int (3 : Int32)), .val (.int (Int32.ofNat k4)), .val (.int (Int32.ofNat k7)), .val (.int (Int32.ofNat k10)), .val (.ref b86), .val (.int (1 : Int32)), .unset, .unset] [(.ref b127), (.ref b127)]))
            refine GoesW.step (fun _ hr_ => XS.aload X127.here hx rfl (hb hby at_189) rfl rfl hr_) ?_
            show GoesW p ee below s _ _ _ _ _ (T127.setTop (mkF m 191 #[.val (.int p1), .val (.int p2), .val (.int p3), .val (.int p4), .val (.int (3 : Int32)), .val (.int (Int32.ofNat k4)), .val (.int (Int32.ofNat k7)), .val (.int (Int32.ofNat k10)), .val (.ref b86), .val (.int (1 : Int32)), .unset, .unset] [(.ref b86), (.ref b127), (.ref b127)]))
            have A_b86 : OA Z h127 b86 .char 3 (fun i => .int (Int32.ofNat ([k4, k7, k10].getD i 0))) := A_b86.congr (fun i hi => by match i, hi with | 0, _ => exact congrArg Value.int (own_charnar k4 (Nat.lt_trans hk4 (by decide))) | 1, _ => exact congrArg Value.int (own_charnar k7 (Nat.lt_trans hk7 (by decide))) | 2, _ => exact congrArg Value.int (own_charnar k10 (Nat.lt_trans hk10 (by decide))) | i + 3, hi => omega)
            have hlat : ∀ j, j < 3 → [k4, k7, k10].getD j 0 < 256 := fun j hj => by match j, hj with | 0, _ => exact hk4 | 1, _ => exact hk7 | 2, _ => exact hk10 | j + 3, hj => omega
            have hcs : ∀ j, j < 3 → [k4, k7, k10].getD j 0 < 65536 := fun j hj => Nat.lt_trans (hlat j hj) (by decide)
            have lt_b86 := A_b86.lt
            have lt_b127 := E_b127.lt
            obtain ⟨v129, T129, L129, X129, hQ129, st129⟩ := own_callN X127 hx hZ (y := (⟨"java/lang/String", "<init>", "([C)V"⟩ : MethodName)) rfl hown (hw _ (List.mem_of_getElem? (i := 40) rfl)) (hw _ (List.mem_of_getElem? (i := 41) rfl)) (hw _ (List.mem_of_getElem? (i := 5) rfl)) (hw _ (List.mem_of_getElem? (i := 42) rfl)) (by decide) (a := b127) (argsL := [(.ref b86)]) (rm_sin1 l Z a0 hw [] cs fm b127 b86 3 (fun i => [k4, k7, k10].getD i 0) _ _ h127 n0 Zp128 ST OO (by decide) (by decide) hcs hlat ge_b127 (Ne.symm ne_b86_b127) E_b127 F_value_b127 F_coder_b127 A_b86) e127 (W := 1) (by decide) (by decide) (by decide) (by decide) (g := (mkF m 191 #[.val (.int p1), .val (.int p2), .val (.int p3), .val (.int p4), .val (.int (3 : Int32)), .val (.int (Int32.ofNat k4)), .val (.int (Int32.ofNat k7)), .val (.int (Int32.ofNat k10)), .val (.ref b86), .val (.int (1 : Int32)), .unset, .unset] [(.ref b86), (.ref b127), (.ref b127)])) rfl (by rw [hml]; rfl) (rest := [(.ref b127)]) (lenOf pd_14 rfl) rfl (by show 2 * 0 + _ ≤ _; exact Nat.le_of_eq rfl) (hb hby at_191)
            refine GoesW.step st129 ?_
            obtain ⟨rfl, N129, Kc129, b129, u, sz129, Ei129, Fv129, Fc129, A_b129, hlu, hlu2⟩ := hQ129
            have N130 := Fr.app N118 N129
            obtain ⟨h129, e129⟩ : ∃ h', T129.heap = h' := ⟨_, rfl⟩
            rw [e129] at Kc129 Ei129 Fv129 Fc129 A_b129
            have A_b86 := A_b86.keep Kc129 (ninS ne_b86_b127 nin0)
            have hsk := (sfS sf_b127 sf0)
            have sf_b86 := Safe.keep Kc129 hsk C.chv sf_b86
            have sf_b127 := Safe.keep Kc129 hsk C.chv sf_b127
            have C := C.keep Kc129 hsk
            have OO := OO.keep Kc129 (allS ge_b127 all0)
            have Zp131 := Nat.le_trans Zp128 Kc129.1
            have ge_b129 : n0 ≤ b129 := Nat.le_trans Zp128 sz129
            have ne_b86_b129 : b86 ≠ b129 := Nat.ne_of_lt (Nat.lt_of_lt_of_le lt_b86 sz129)
            have ne_b127_b129 : b127 ≠ b129 := Nat.ne_of_lt (Nat.lt_of_lt_of_le lt_b127 sz129)
            have hu : u = false := by
              cases u
              · rfl
              · obtain ⟨j, hj, hjj⟩ := hlu2 rfl
                exact absurd (hlat j hj) (Nat.not_lt.mpr hjj)
            subst hu
            show GoesW p ee below s _ _ _ _ _ (T129.setTop (mkF m 194 #[.val (.int p1), .val (.int p2), .val (.int p3), .val (.int p4), .val (.int (3 : Int32)), .val (.int (Int32.ofNat k4)), .val (.int (Int32.ofNat k7)), .val (.int (Int32.ofNat k10)), .val (.ref b86), .val (.int (1 : Int32)), .unset, .unset] [(.ref b127)]))
            refine GoesW.step (fun _ hr_ => XS.astore X129.here hx rfl (hb hby at_194) rfl rfl (l' := #[.val (.int p1), .val (.int p2), .val (.int p3), .val (.int p4), .val (.int (3 : Int32)), .val (.int (Int32.ofNat k4)), .val (.int (Int32.ofNat k7)), .val (.int (Int32.ofNat k10)), .val (.ref b86), .val (.int (1 : Int32)), .val (.ref b127), .unset]) rfl hr_) ?_
            show GoesW p ee below s _ _ _ _ _ (T129.setTop (mkF m 196 #[.val (.int p1), .val (.int p2), .val (.int p3), .val (.int p4), .val (.int (3 : Int32)), .val (.int (Int32.ofNat k4)), .val (.int (Int32.ofNat k7)), .val (.int (Int32.ofNat k10)), .val (.ref b86), .val (.int (1 : Int32)), .val (.ref b127), .unset] []))
            refine GoesW.step (fun _ hr_ => XS.aload X129.here hx rfl (hb hby at_196) rfl rfl hr_) ?_
            show GoesW p ee below s _ _ _ _ _ (T129.setTop (mkF m 198 #[.val (.int p1), .val (.int p2), .val (.int p3), .val (.int p4), .val (.int (3 : Int32)), .val (.int (Int32.ofNat k4)), .val (.int (Int32.ofNat k7)), .val (.int (Int32.ofNat k10)), .val (.ref b86), .val (.int (1 : Int32)), .val (.ref b127), .unset] [(.ref b127)]))
            have lt_b86 := A_b86.lt
            have lt_b127 := Ei129.lt
            have lt_b129 := A_b129.lt
            obtain ⟨v132, T132, L132, X132, hQ132, st132⟩ := own_callS X129 hx hZ (y := (⟨"com/example/landshut/landshut/NodeIds", "isValid", "(Ljava/lang/String;)Z"⟩ : MethodName)) hown (hw _ (List.mem_of_getElem? (i := 51) rfl)) (hw _ (List.mem_of_getElem? (i := 52) rfl)) (hw _ (List.mem_of_getElem? (i := 53) rfl)) (hw _ (List.mem_of_getElem? (i := 54) rfl)) (by decide) (argsL := [(.ref b127)]) (rm_isv l Z a0 hw [] cs fm b127 b129 3 (fun i => [k4, k7, k10].getD i 0) h129 n0 Zp131 ST OO (by omega) Ei129 Fv129 Fc129 A_b129 hcs hlu) e129 (W := 0) (by decide) (by decide) (by decide) (by decide) (g := (mkF m 198 #[.val (.int p1), .val (.int p2), .val (.int p3), .val (.int p4), .val (.int (3 : Int32)), .val (.int (Int32.ofNat k4)), .val (.int (Int32.ofNat k7)), .val (.int (Int32.ofNat k10)), .val (.ref b86), .val (.int (1 : Int32)), .val (.ref b127), .unset] [(.ref b127)])) rfl (by rw [hml]; rfl) (rest := []) (lenOf pd_13 rfl) rfl (by show 2 * 0 + _ ≤ _; exact Nat.le_of_eq rfl) (hb hby at_198)
            refine GoesW.step st132 ?_
            obtain ⟨⟨r132, rfl, hr132⟩, N132, e132⟩ := hQ132
            have N133 := Fr.app N130 N132
            show GoesW p ee below s _ _ _ _ _ (T132.setTop (mkF m 201 #[.val (.int p1), .val (.int p2), .val (.int p3), .val (.int p4), .val (.int (3 : Int32)), .val (.int (Int32.ofNat k4)), .val (.int (Int32.ofNat k7)), .val (.int (Int32.ofNat k10)), .val (.ref b86), .val (.int (1 : Int32)), .val (.ref b127), .unset] [(.int r132)]))
            refine GoesW.step (fun _ hr_ => XS.iload X132.here hx rfl (hb hby at_201) rfl  hr_) ?_
            show GoesW p ee below s _ _ _ _ _ (T132.setTop (mkF m 203 #[.val (.int p1), .val (.int p2), .val (.int p3), .val (.int p4), .val (.int (3 : Int32)), .val (.int (Int32.ofNat k4)), .val (.int (Int32.ofNat k7)), .val (.int (Int32.ofNat k10)), .val (.ref b86), .val (.int (1 : Int32)), .val (.ref b127), .unset] [(.int (1 : Int32)), (.int r132)]))
            refine GoesW.step (fun _ hr_ => XS.icmpYes X132.here hx rfl (pc0 := 203) (pc' := 208) rfl (hb hby at_203) rfl (teq (by
              rcases hr132 with ⟨q, -⟩ | ⟨-, q⟩
              · exact q
              · exact absurd ⟨by decide, by decide, fun j hj => by match j, hj with | 0, _ => exact Decidable.not_not.mp hn159_99 | 1, _ => exact Decidable.not_not.mp hn167_109 | 2, _ => exact Decidable.not_not.mp hn175_119 | j + 3, hj => omega⟩ q)).1 (by decide) (by decide) hr_) ?_
            show GoesW p ee below s _ _ _ _ _ (T132.setTop (mkF m 208 #[.val (.int p1), .val (.int p2), .val (.int p3), .val (.int p4), .val (.int (3 : Int32)), .val (.int (Int32.ofNat k4)), .val (.int (Int32.ofNat k7)), .val (.int (Int32.ofNat k10)), .val (.ref b86), .val (.int (1 : Int32)), .val (.ref b127), .unset] []))
            refine GoesW.step (fun _ hr_ => XS.iload X132.here hx rfl (hb hby at_208) rfl  hr_) ?_
            show GoesW p ee below s _ _ _ _ _ (T132.setTop (mkF m 210 #[.val (.int p1), .val (.int p2), .val (.int p3), .val (.int p4), .val (.int (3 : Int32)), .val (.int (Int32.ofNat k4)), .val (.int (Int32.ofNat k7)), .val (.int (Int32.ofNat k10)), .val (.ref b86), .val (.int (1 : Int32)), .val (.ref b127), .unset] [(.int (1 : Int32))]))
            refine GoesW.step (fun _ hr_ => XS.ifYes X132.here hx rfl (pc0 := 210) (pc' := 215) rfl (hb hby at_210) rfl ((if0 _ _).trans (feq (by decide)).2) (by decide) (by decide) hr_) ?_
            show GoesW p ee below s _ _ _ _ _ (T132.setTop (mkF m 215 #[.val (.int p1), .val (.int p2), .val (.int p3), .val (.int p4), .val (.int (3 : Int32)), .val (.int (Int32.ofNat k4)), .val (.int (Int32.ofNat k7)), .val (.int (Int32.ofNat k10)), .val (.ref b86), .val (.int (1 : Int32)), .val (.ref b127), .unset] []))
            refine GoesW.step (fun _ hr_ => XS.aload X132.here hx rfl (hb hby at_215) rfl rfl hr_) ?_
            show GoesW p ee below s _ _ _ _ _ (T132.setTop (mkF m 217 #[.val (.int p1), .val (.int p2), .val (.int p3), .val (.int p4), .val (.int (3 : Int32)), .val (.int (Int32.ofNat k4)), .val (.int (Int32.ofNat k7)), .val (.int (Int32.ofNat k10)), .val (.ref b86), .val (.int (1 : Int32)), .val (.ref b127), .unset] [(.ref b127)]))
            have lt_b86 := A_b86.lt
            have lt_b127 := Ei129.lt
            have lt_b129 := A_b129.lt
            obtain ⟨v134, T134, L134, X134, hQ134, st134⟩ := own_callS X132 hx hZ (y := (⟨"com/example/landshut/landshut/NodeIds", "check", "(Ljava/lang/String;)Ljava/lang/String;"⟩ : MethodName)) hown (hw _ (List.mem_of_getElem? (i := 90) rfl)) (hw _ (List.mem_of_getElem? (i := 91) rfl)) (hw _ (List.mem_of_getElem? (i := 53) rfl)) (hw _ (List.mem_of_getElem? (i := 92) rfl)) (by decide) (argsL := [(.ref b127)]) (rm_chk l Z a0 hw [] cs fm b127 b129 3 (fun i => [k4, k7, k10].getD i 0) h129 n0 Zp131 ST OO (by omega) Ei129 Fv129 Fc129 A_b129 hcs hlu ⟨by decide, by decide, fun j hj => by match j, hj with | 0, _ => exact Decidable.not_not.mp hn159_99 | 1, _ => exact Decidable.not_not.mp hn167_109 | 2, _ => exact Decidable.not_not.mp hn175_119 | j + 3, hj => omega⟩) e132 (W := 0) (by decide) (by decide) (by decide) (by decide) (g := (mkF m 217 #[.val (.int p1), .val (.int p2), .val (.int p3), .val (.int p4), .val (.int (3 : Int32)), .val (.int (Int32.ofNat k4)), .val (.int (Int32.ofNat k7)), .val (.int (Int32.ofNat k10)), .val (.ref b86), .val (.int (1 : Int32)), .val (.ref b127), .unset] [(.ref b127)])) rfl (by rw [hml]; rfl) (rest := []) (lenOf pd_15 rfl) rfl (by show 2 * 0 + _ ≤ _; exact Nat.le_of_eq rfl) (hb hby at_217)
            refine GoesW.step st134 ?_
            obtain ⟨rfl, N134, e134⟩ := hQ134
            have N135 := Fr.app N133 N134
            show GoesW p ee below s _ _ _ _ _ (T134.setTop (mkF m 220 #[.val (.int p1), .val (.int p2), .val (.int p3), .val (.int p4), .val (.int (3 : Int32)), .val (.int (Int32.ofNat k4)), .val (.int (Int32.ofNat k7)), .val (.int (Int32.ofNat k10)), .val (.ref b86), .val (.int (1 : Int32)), .val (.ref b127), .unset] [(.ref b127)]))
            refine GoesW.step (fun _ hr_ => XS.astore X134.here hx rfl (hb hby at_220) rfl rfl (l' := #[.val (.int p1), .val (.int p2), .val (.int p3), .val (.int p4), .val (.int (3 : Int32)), .val (.int (Int32.ofNat k4)), .val (.int (Int32.ofNat k7)), .val (.int (Int32.ofNat k10)), .val (.ref b86), .val (.int (1 : Int32)), .val (.ref b127), .val (.ref b127)]) rfl hr_) ?_
            show GoesW p ee below s _ _ _ _ _ (T134.setTop (mkF m 222 #[.val (.int p1), .val (.int p2), .val (.int p3), .val (.int p4), .val (.int (3 : Int32)), .val (.int (Int32.ofNat k4)), .val (.int (Int32.ofNat k7)), .val (.int (Int32.ofNat k10)), .val (.ref b86), .val (.int (1 : Int32)), .val (.ref b127), .val (.ref b127)] []))
            refine GoesW.step (fun _ hr_ => XS.aload X134.here hx rfl (hb hby at_222) rfl rfl hr_) ?_
            show GoesW p ee below s _ _ _ _ _ (T134.setTop (mkF m 224 #[.val (.int p1), .val (.int p2), .val (.int p3), .val (.int p4), .val (.int (3 : Int32)), .val (.int (Int32.ofNat k4)), .val (.int (Int32.ofNat k7)), .val (.int (Int32.ofNat k10)), .val (.ref b86), .val (.int (1 : Int32)), .val (.ref b127), .val (.ref b127)] [(.ref b127)]))
            refine GoesW.step (fun _ hr_ => XS.ifnullNo X134.here hx rfl (hb hby at_224) rfl hr_) ?_
            show GoesW p ee below s _ _ _ _ _ (T134.setTop (mkF m 227 #[.val (.int p1), .val (.int p2), .val (.int p3), .val (.int p4), .val (.int (3 : Int32)), .val (.int (Int32.ofNat k4)), .val (.int (Int32.ofNat k7)), .val (.int (Int32.ofNat k10)), .val (.ref b86), .val (.int (1 : Int32)), .val (.ref b127), .val (.ref b127)] []))
            refine GoesW.step (fun _ hr_ => XS.aload X134.here hx rfl (hb hby at_227) rfl rfl hr_) ?_
            show GoesW p ee below s _ _ _ _ _ (T134.setTop (mkF m 229 #[.val (.int p1), .val (.int p2), .val (.int p3), .val (.int p4), .val (.int (3 : Int32)), .val (.int (Int32.ofNat k4)), .val (.int (Int32.ofNat k7)), .val (.int (Int32.ofNat k10)), .val (.ref b86), .val (.int (1 : Int32)), .val (.ref b127), .val (.ref b127)] [(.ref b127)]))
            refine GoesW.step (fun _ hr_ => XS.aload X134.here hx rfl (hb hby at_229) rfl rfl hr_) ?_
            show GoesW p ee below s _ _ _ _ _ (T134.setTop (mkF m 231 #[.val (.int p1), .val (.int p2), .val (.int p3), .val (.int p4), .val (.int (3 : Int32)), .val (.int (Int32.ofNat k4)), .val (.int (Int32.ofNat k7)), .val (.int (Int32.ofNat k10)), .val (.ref b86), .val (.int (1 : Int32)), .val (.ref b127), .val (.ref b127)] [(.ref b127), (.ref b127)]))
            have lt_b86 := A_b86.lt
            have lt_b127 := Ei129.lt
            have lt_b129 := A_b129.lt
            obtain ⟨v136, T136, L136, X136, hQ136, st136⟩ := own_callV X134 hx hZ (y := (⟨"java/lang/String", "equals", "(Ljava/lang/Object;)Z"⟩ : MethodName)) hown (hw _ (List.mem_of_getElem? (i := 94) rfl)) (hw _ (List.mem_of_getElem? (i := 95) rfl)) (hw _ (List.mem_of_getElem? (i := 97) rfl)) (hw _ (List.mem_of_getElem? (i := 96) rfl)) (hw _ (List.mem_of_getElem? (i := 5) rfl)) (hw _ (List.mem_of_getElem? (i := 98) rfl)) (by decide) (a := b127) (argsL := [(.ref b127)]) (rm_eqs l Z a0 hw [] cs fm b127 h129 n0 Zp131 ST OO ) e134 Ei129 (W := 0) (by decide) (by decide) (by decide) (by decide) (g := (mkF m 231 #[.val (.int p1), .val (.int p2), .val (.int p3), .val (.int p4), .val (.int (3 : Int32)), .val (.int (Int32.ofNat k4)), .val (.int (Int32.ofNat k7)), .val (.int (Int32.ofNat k10)), .val (.ref b86), .val (.int (1 : Int32)), .val (.ref b127), .val (.ref b127)] [(.ref b127), (.ref b127)])) rfl (by rw [hml]; rfl) (rest := []) (lenOf pd_16 rfl) rfl (by show 2 * 0 + _ ≤ _; exact Nat.le_of_eq rfl) (hb hby at_231)
            refine GoesW.step st136 ?_
            obtain ⟨rfl, N136, e136⟩ := hQ136
            have N137 := Fr.app N135 N136
            show GoesW p ee below s _ _ _ _ _ (T136.setTop (mkF m 234 #[.val (.int p1), .val (.int p2), .val (.int p3), .val (.int p4), .val (.int (3 : Int32)), .val (.int (Int32.ofNat k4)), .val (.int (Int32.ofNat k7)), .val (.int (Int32.ofNat k10)), .val (.ref b86), .val (.int (1 : Int32)), .val (.ref b127), .val (.ref b127)] [(.int (1 : Int32))]))
            refine GoesW.step (fun _ hr_ => XS.ifNo X136.here hx rfl (hb hby at_234) rfl ((if0 _ _).trans (feq (by decide)).1) hr_) ?_
            show GoesW p ee below s _ _ _ _ _ (T136.setTop (mkF m 237 #[.val (.int p1), .val (.int p2), .val (.int p3), .val (.int p4), .val (.int (3 : Int32)), .val (.int (Int32.ofNat k4)), .val (.int (Int32.ofNat k7)), .val (.int (Int32.ofNat k10)), .val (.ref b86), .val (.int (1 : Int32)), .val (.ref b127), .val (.ref b127)] []))
            refine GoesW.step (fun _ hr_ => XS.iconst X136.here hx rfl (hb hby at_237) hr_) ?_
            show GoesW p ee below s _ _ _ _ _ (T136.setTop (mkF m 238 #[.val (.int p1), .val (.int p2), .val (.int p3), .val (.int p4), .val (.int (3 : Int32)), .val (.int (Int32.ofNat k4)), .val (.int (Int32.ofNat k7)), .val (.int (Int32.ofNat k10)), .val (.ref b86), .val (.int (1 : Int32)), .val (.ref b127), .val (.ref b127)] [(.int (1 : Int32))]))
            refine GoesW.step (fun _ hr_ => XS.goto X136.here hx rfl (pc0 := 238) (pc' := 242) rfl (hb hby at_238) (by decide) (by decide) hr_) ?_
            show GoesW p ee below s _ _ _ _ _ (T136.setTop (mkF m 242 #[.val (.int p1), .val (.int p2), .val (.int p3), .val (.int p4), .val (.int (3 : Int32)), .val (.int (Int32.ofNat k4)), .val (.int (Int32.ofNat k7)), .val (.int (Int32.ofNat k10)), .val (.ref b86), .val (.int (1 : Int32)), .val (.ref b127), .val (.ref b127)] [(.int (1 : Int32))]))
            refine GoesW.retZ X136 hx hZ hEL C e136 Bd.notSynchronized Bd.returns (by simp) rfl (hb hby at_242) (by decide) (by decide) ?_
            exact ⟨rfl, N137⟩
theorem own_eqi {args : Array Value} {s : State} {t : Term} {k : Int32} (h : (Cond.eq t (.int k)).value args s none s [] = some true) : t.eval args s none [] s = some (.int k) := by
  obtain ⟨u, v, h1, h2, h3, h4⟩ := cmp_v (Or.inl h)
  have e2 : (Term.int k).eval args s none [] s = some (.int k) := Term.int_eval _
  rw [e2] at h2
  obtain rfl := Option.some.inj h2
  obtain ⟨z, rfl⟩ := h4
  have q : (Cond.eq t (.int k)).value args s none s [] = some (decide (z = k)) := by simp [Cond.value, h1, e2]
  have := gotT q h
  subst this
  exact h1
theorem own_ne0 {args : Array Value} {s : State} {t : Term} {z k : Int32} (ev : t.eval args s none [] s = some (.int z)) (h : (Cond.not (Cond.eq t (.int k))).value args s none s [] = some true) : z ≠ k := by
  have e2 : (Term.int k).eval args s none [] s = some (.int k) := Term.int_eval _
  have q : (Cond.eq t (.int k)).value args s none s [] = some (decide (z = k)) := by simp [Cond.value, ev, e2]
  have := not_v h
  exact gotF q this
set_option maxRecDepth 65536 in
set_option maxHeartbeats 40000000 in
theorem comes_1 {Post : Tables → Env → Array Value → State → Outcome → State → Prop} (hpost : ∀ tb e args s v u, (limb_1_1.after args s (.returned v) u = true ∧ limb_1_2.after args s (.returned v) u = true ∧ True) → ReturnedEndW s (.returned v) u (Jvm.fieldLocs frame_1_writes args s ++ Jvm.arrayLocs frame_1_arrays args s ++ Jvm.staticLocs frame_1_statics s) 24 2176 → Post tb e args s (.returned v) u) :
    ArmFor flags0 classFile x code maxLocals ret World_1 tables_1 room_1 Calls_1 rest_1 Pre_1 Post := by
  intro l hfl _ _ p e ha hc hk s m args below hf hA hF happ hP
  obtain ⟨hcalls, hrest, hpre⟩ := hP
  obtain ⟨-, -, -, hnamed, -, -, -, hat⟩ := (Spec.applies_iff hf).mp happ
  obtain ⟨hg, hn⟩ := and_e (Cond.before_iff.mp (show (Jvm.Cond.and given_1 narrow_1).before args s = true from hpre))
  obtain ⟨hcount, r0⟩ := and_e hg
  obtain ⟨k0, r1⟩ := and_e r0
  obtain ⟨k1, r2⟩ := and_e r1
  obtain ⟨k2, k3⟩ := and_e r2
  obtain ⟨w0, w1, w2, w3, rfl⟩ : ∃ w0 w1 w2 w3 : Value, args = #[w0, w1, w2, w3] := by
    have hs : args.size = 4 := by simpa [Cond.value, given_1] using hcount
    obtain ⟨L⟩ := args
    match L, hs with
    | [w0, w1, w2, w3], _ => exact ⟨w0, w1, w2, w3, rfl⟩
  have hw := fun d (hd : d ∈ tables_1) => atoms_spec (ws := Jvm.Cond.code x code maxLocals ret :: tables_1) hat d (List.mem_cons_of_mem _ hd)
  obtain ⟨i0, ei0⟩ := is_v k0
  obtain rfl : w0 = (.int i0) := Option.some.inj ei0
  obtain ⟨i1, ei1⟩ := is_v k1
  obtain rfl : w1 = (.int i1) := Option.some.inj ei1
  obtain ⟨i2, ei2⟩ := is_v k2
  obtain rfl : w2 = (.int i2) := Option.some.inj ei2
  obtain ⟨i3, ei3⟩ := is_v k3
  obtain rfl : w3 = (.int i3) := Option.some.inj ei3
  obtain ⟨hsets, hown0⟩ := atoms_of _ (rest_1_c_eq ▸ (show rest_1_c.before _ s = true from hrest))
  obtain ⟨cs, ecs⟩ := is_v (Cond.before_iff.mp (hsets _ (List.mem_of_getElem? (i := 1) rfl)))
  have Scs := Sta.start ecs (Or.inl (hsets _ (List.mem_of_getElem? (i := 0) rfl)))
  have cs0 : cs ≠ 0 := own_ne0 ecs (Cond.before_iff.mp (hsets _ (List.mem_of_getElem? (i := 2) rfl)))
  obtain ⟨fm, efm, hfm⟩ := isR_v (Cond.before_iff.mp (hsets _ (List.mem_of_getElem? (i := 8) rfl)))
  have Sfm := Sta.start efm (Or.inl (hsets _ (List.mem_of_getElem? (i := 7) rfl)))
  have ST : own_ST s cs fm := ⟨Scs, cs0, Sfm, hfm, trivial⟩
  have hcw := hsets _ (List.mem_of_getElem? (i := 2) rfl)
  obtain ⟨n, o, h1, h2, h3, _, L, rfl, ⟨rfl, N⟩, -, hq⟩ := rm_law l s _ hw tables_1 i0 i1 i2 i3 cs fm s.heap s.heap.size (Nat.le_refl _) ST (Old.start s) p e ha hc hk s m _ below hf ((Spec.applies_iff_loose hf).mp happ).1 ⟨rfl, State.Warmed39.refl s, rfl, CHv.start (own_EW hw) hcalls.1 hcw (hw _ (List.mem_of_getElem? (i := 7) rfl)) (hw _ (List.mem_of_getElem? (i := 6) rfl)), fun _ q => nomatch q⟩ trivial
  refine ⟨n, _, h1, h2, h3, hpost _ _ _ _ _ _ ⟨Cond.after_iff.mpr rfl, Cond.after_iff.mpr (eq_i res_at (Term.int_eval (1)) rfl), trivial⟩ ⟨hq.1, hq.2.1, hq.2.2.1, (hq.2.2.2.sift fun y hy => Or.inr (N y hy)).mono (by decide) (by decide)⟩⟩
theorem main_1_1 : Claimed_1_1 := comes_1 fun _ _ _ _ _ _ h hF => ⟨h.1, hF⟩
theorem main_1_2 : Claimed_1_2 := comes_1 fun _ _ _ _ _ _ h hF => ⟨h.2.1, hF⟩
end Jvm.Pilot.@@N@@
namespace Jvm.Pilot.@@N@@
open Jvm Jvm.ClassFile Sem Op Lib Jvm.Free Jvm.Stand Jvm.Pilot.@@N@@.Jvm.D
/-! MADE BY PROGRAM (witnessworld.py) out of the Statement's table words and the real class files: 20 classes; the members and pool entries that the words name. The judged class is class 1, her method 3. -/
namespace start1
open Jvm.ClassFile
def u (s : String) : CpInfo := .utf8 (stringToUtf16 s)
/-- a pool by its gaps: so many unusable entries, then the entry; so many at the end -/
def gap : Nat → List CpInfo → List CpInfo
  | 0, r => r
  | n + 1, r => .unusable :: gap n r
def poolList (es : List (Nat × CpInfo)) (last : Nat) : List CpInfo := es.foldr (fun e r => gap e.1 (e.2 :: r)) (gap last [])
def pool (es : List (Nat × CpInfo)) (last : Nat) : Array CpInfo := ⟨poolList es last⟩
def fileOf (pool : Array CpInfo) (this : Nat) (attrs : Array Attribute := #[]) (ms : Array MethodInfo := #[]) (fl : Nat := 33) (sup : Nat := 0) (ifs : Array Nat := #[]) (fds : Array FieldInfo := #[]) : ClassFile where
  minorVersion := 0
  majorVersion := 65
  constantPool := pool
  accessFlags := fl
  thisClass := this
  superClass := sup
  interfaces := ifs
  fields := fds
  methods := ms
  attributes := attrs
def plain (name : String) (sup : Option ClassId) : Class where
  name := name
  kind := .ordinary
  loader := none
  accessFlags := 33
  super := sup
  interfaces := #[]
  cf := none
  fields := #[]
  methods := #[]
  instanceTypes := #[]
  staticTypes := #[]
  resolved := #[]
  callSites := []
  init := .initialized
  statics := none
  mirror := none

def pool0 : Array CpInfo := pool [(5, u "<init>"), (0, u "()V"), (1, .class_ 10), (1, u "java/lang/Object")] 113

def k0c0 : Code := { maxStack := 0, maxLocals := 1, code := object_method_1_code, exceptionTable := #[], attributes := #[] }
def k0m0 : Method := { name := "<init>", desc := "()V", sig := { parameters := [], returnType := none }, accessFlags := 1, code := some k0c0 }
/-- java/lang/Object -/
def k0 : Class := { plain "java/lang/Object" none with
  accessFlags := 33
  interfaces := #[]
  cf := some (fileOf pool0 8 #[] #[{ accessFlags := 1, nameIndex := 5, descriptorIndex := 6, attributes := #[] }] 33 0 #[] #[])
  fields := #[]
  methods := #[k0m0]
  instanceTypes := #[]
  staticTypes := #[]
  resolved := Array.replicate 124 none
  statics := none }

def pool1 : Array CpInfo := pool [(2, .class_ 4), (1, u "java/lang/Object"), (0, u "<init>"), (0, u "()V"), (0, .string 8), (0, u "ABCDEFGHIJKLMNOPQRSTUVWXYZabcdefghijklmnopqrstuvwxyz0123456789._:-"), (0, .integer 2147483647), (0, .methodref 11 12), (0, .class_ 13), (0, .nameAndType 14 15), (0, u "java/lang/String"), (0, u "charAt"), (0, u "(I)C"), (0, .methodref 17 18), (0, .class_ 19), (0, .nameAndType 20 21), (0, u "com/example/landshut/landshut/NodeIds"), (0, u "isValid"), (0, u "(Ljava/lang/String;)Z"), (0, .methodref 23 24), (0, .class_ 25), (0, .nameAndType 26 15), (0, u "com/example/landshut/landshut/NodeIdsCheckPinLaw"), (0, u "pick"), (0, .methodref 23 28), (0, .nameAndType 29 30), (0, u "ok"), (0, u "(C)Z"), (0, .methodref 11 32), (0, .nameAndType 5 33), (0, u "([C)V"), (0, .methodref 17 35), (0, .nameAndType 36 37), (0, u "check"), (0, u "(Ljava/lang/String;)Ljava/lang/String;"), (0, .methodref 11 39), (0, .nameAndType 40 41), (0, u "equals"), (0, u "(Ljava/lang/Object;)Z"), (3, u "law"), (0, u "(IIII)Z")] 4

def k1m0 : Method := { name := "<init>", desc := "()V", sig := { parameters := [], returnType := none }, accessFlags := 2, code := none }
def k1c1 : Code := { maxStack := 3, maxLocals := 2, code := method_2_code, exceptionTable := #[], attributes := #[] }
def k1m1 : Method := { name := "pick", desc := "(I)C", sig := { parameters := [.int], returnType := some .char }, accessFlags := 10, code := some k1c1 }
def k1c2 : Code := { maxStack := 2, maxLocals := 1, code := method_3_code, exceptionTable := #[], attributes := #[] }
def k1m2 : Method := { name := "ok", desc := "(C)Z", sig := { parameters := [.char], returnType := some .boolean }, accessFlags := 10, code := some k1c2 }
def k1c3 : Code := { maxStack := 4, maxLocals := 12, code := code, exceptionTable := #[], attributes := #[] }
def k1m3 : Method := { name := "law", desc := "(IIII)Z", sig := { parameters := [.int, .int, .int, .int], returnType := some .boolean }, accessFlags := 9, code := some k1c3 }
/-- com/example/landshut/landshut/NodeIdsCheckPinLaw -/
def k1 : Class := { plain "com/example/landshut/landshut/NodeIdsCheckPinLaw" (some 0) with
  accessFlags := 49
  interfaces := #[]
  cf := some (fileOf pool1 23 #[] #[{ accessFlags := 2, nameIndex := 5, descriptorIndex := 6, attributes := #[] }, { accessFlags := 10, nameIndex := 26, descriptorIndex := 15, attributes := #[] }, { accessFlags := 10, nameIndex := 29, descriptorIndex := 30, attributes := #[] }, { accessFlags := 9, nameIndex := 45, descriptorIndex := 46, attributes := #[] }] 49 2 #[] #[])
  fields := #[]
  methods := #[k1m0, k1m1, k1m2, k1m3]
  instanceTypes := #[]
  staticTypes := #[]
  resolved := Array.replicate 51 none
  statics := none }

def pool2 : Array CpInfo := pool [(1, .class_ 2), (0, u "java/io/Serializable"), (0, .class_ 4), (0, u "java/lang/Object")] 2

/-- java/io/Serializable -/
def k2 : Class := { plain "java/io/Serializable" (some 0) with
  accessFlags := 1537
  interfaces := #[]
  cf := some (fileOf pool2 1 #[] #[] 1537 3 #[] #[])
  fields := #[]
  methods := #[]
  instanceTypes := #[]
  staticTypes := #[]
  resolved := Array.replicate 7 none
  statics := none }

def pool3 : Array CpInfo := pool [(1, .class_ 2), (0, u "java/lang/Comparable"), (0, .class_ 4), (0, u "java/lang/Object")] 7

/-- java/lang/Comparable -/
def k3 : Class := { plain "java/lang/Comparable" (some 0) with
  accessFlags := 1537
  interfaces := #[]
  cf := some (fileOf pool3 1 #[] #[] 1537 3 #[] #[])
  fields := #[]
  methods := #[]
  instanceTypes := #[]
  staticTypes := #[]
  resolved := Array.replicate 12 none
  statics := none }

def pool4 : Array CpInfo := pool [(2, .class_ 4), (1, u "java/lang/CharSequence"), (42, .class_ 48), (0, u "java/lang/CharSequence$1CodePointIterator"), (10, .class_ 60), (0, u "java/lang/CharSequence$1CharIterator"), (5, .class_ 67), (0, u "java/lang/Object")] 63

/-- java/lang/CharSequence -/
def k4 : Class := { plain "java/lang/CharSequence" (some 0) with
  accessFlags := 1537
  interfaces := #[]
  cf := some (fileOf pool4 2 #[.nestMembers #[47, 59]] #[] 1537 66 #[] #[])
  fields := #[]
  methods := #[]
  instanceTypes := #[]
  staticTypes := #[]
  resolved := Array.replicate 131 none
  statics := none }

def pool5 : Array CpInfo := pool [(1, .class_ 2), (0, u "java/lang/constant/Constable"), (0, .class_ 4), (0, u "java/lang/Object")] 6

/-- java/lang/constant/Constable -/
def k5 : Class := { plain "java/lang/constant/Constable" (some 0) with
  accessFlags := 1537
  interfaces := #[]
  cf := some (fileOf pool5 1 #[] #[] 1537 3 #[] #[])
  fields := #[]
  methods := #[]
  instanceTypes := #[]
  staticTypes := #[]
  resolved := Array.replicate 11 none
  statics := none }

def pool6 : Array CpInfo := pool [(1, .class_ 2), (0, u "java/lang/constant/ConstantDesc"), (0, .class_ 4), (0, u "java/lang/Object")] 32

/-- java/lang/constant/ConstantDesc -/
def k6 : Class := { plain "java/lang/constant/ConstantDesc" (some 0) with
  accessFlags := 1537
  interfaces := #[]
  cf := some (fileOf pool6 1 #[] #[] 1537 3 #[] #[])
  fields := #[]
  methods := #[]
  instanceTypes := #[]
  staticTypes := #[]
  resolved := Array.replicate 37 none
  statics := none }

def pool7 : Array CpInfo := pool [(1, .methodref 2 3), (0, .class_ 4), (0, .nameAndType 5 6), (0, u "java/lang/Object"), (0, u "<init>"), (0, u "()V"), (0, .string 8), (0, u ""), (0, .fieldref 10 11), (0, .class_ 12), (0, .nameAndType 13 14), (0, u "java/lang/String"), (0, u "value"), (0, u "[B"), (0, .fieldref 10 16), (0, .nameAndType 17 18), (0, u "coder"), (0, u "B"), (2, u "hash"), (0, u "I"), (2, u "hashIsZero"), (0, u "Z"), (0, .methodref 10 28), (0, .nameAndType 5 29), (0, u "([CIILjava/lang/Void;)V"), (8, .fieldref 10 39), (0, .nameAndType 40 26), (0, u "COMPACT_STRINGS"), (1, .class_ 44), (1, u "java/lang/StringUTF16"), (0, u "compress"), (1, .methodref 42 48), (0, .nameAndType 49 50), (0, u "coderFromArrayLen"), (0, u "([BI)B"), (56, .class_ 109), (1, u "java/lang/StringLatin1"), (32, u "()Z"), (34, .methodref 42 178), (0, .nameAndType 45 179), (0, u "([CII)[B"), (154, u "()I"), (0, .methodref 10 336), (0, .nameAndType 17 337), (0, u "()B"), (25, u "([BI)C"), (27, u "(II)V"), (35, u "(I)C"), (64, .methodref 10 493), (0, .nameAndType 494 142), (0, u "isLatin1"), (0, .methodref 107 496), (0, .nameAndType 497 363), (0, u "charAt"), (3, u "checkIndex"), (5, u "length"), (35, u "equals"), (29, u "(Ljava/lang/Object;)Z"), (1, .class_ 576), (0, u "java/lang/CharSequence"), (22, u "CASE_INSENSITIVE_ORDER"), (0, u "Ljava/util/Comparator;"), (91, u "isEmpty"), (317, u "([C)V"), (42, .fieldref 1054 1055), (0, .class_ 1056), (0, .nameAndType 1057 1058), (0, u "jdk/internal/util/Preconditions"), (0, u "SIOOBE_FORMATTER"), (0, u "Ljava/util/function/BiFunction;"), (0, .methodref 1054 1060), (0, .nameAndType 501 1061), (0, u "(IILjava/util/function/BiFunction;)I"), (39, u "serialPersistentFields"), (0, u "[Ljava/io/ObjectStreamField;"), (0, .class_ 1104), (0, u "java/lang/String$CaseInsensitiveComparator"), (1, .class_ 1107), (0, u "java/io/Serializable"), (0, .class_ 1109), (0, u "java/lang/Comparable"), (0, .class_ 1111), (0, u "java/lang/constant/Constable"), (0, .class_ 1113), (0, u "java/lang/constant/ConstantDesc"), (2, u "serialVersionUID"), (0, u "J"), (3, u "REPL"), (0, u "C"), (2, u "LATIN1"), (1, u "UTF16")] 323

def k7m0 : Method := { name := "<init>", desc := "()V", sig := { parameters := [], returnType := none }, accessFlags := 1, code := none }
def k7c1 : Code := { maxStack := 5, maxLocals := 2, code := jdk_42_method_3_code, exceptionTable := #[], attributes := #[] }
def k7m1 : Method := { name := "<init>", desc := "([C)V", sig := { parameters := [(.array .char)], returnType := none }, accessFlags := 1, code := some k7c1 }
def k7c2 : Code := { maxStack := 2, maxLocals := 1, code := jdk_42_method_54_code, exceptionTable := #[], attributes := #[] }
def k7m2 : Method := { name := "length", desc := "()I", sig := { parameters := [], returnType := some .int }, accessFlags := 1, code := some k7c2 }
def k7c3 : Code := { maxStack := 1, maxLocals := 1, code := jdk_42_method_55_code, exceptionTable := #[], attributes := #[] }
def k7m3 : Method := { name := "isEmpty", desc := "()Z", sig := { parameters := [], returnType := some .boolean }, accessFlags := 1, code := some k7c3 }
def k7c4 : Code := { maxStack := 2, maxLocals := 2, code := jdk_42_method_56_code, exceptionTable := #[], attributes := #[] }
def k7m4 : Method := { name := "charAt", desc := "(I)C", sig := { parameters := [.int], returnType := some .char }, accessFlags := 1, code := some k7c4 }
def k7c5 : Code := { maxStack := 2, maxLocals := 3, code := jdk_42_method_66_code, exceptionTable := #[], attributes := #[] }
def k7m5 : Method := { name := "equals", desc := "(Ljava/lang/Object;)Z", sig := { parameters := [(.object "java/lang/Object")], returnType := some .boolean }, accessFlags := 1, code := some k7c5 }
def k7c6 : Code := { maxStack := 4, maxLocals := 6, code := jdk_42_method_149_code, exceptionTable := #[], attributes := #[] }
def k7m6 : Method := { name := "<init>", desc := "([CIILjava/lang/Void;)V", sig := { parameters := [(.array .char), .int, .int, (.object "java/lang/Void")], returnType := none }, accessFlags := 2, code := some k7c6 }
def k7c7 : Code := { maxStack := 1, maxLocals := 1, code := jdk_42_method_152_code, exceptionTable := #[], attributes := #[] }
def k7m7 : Method := { name := "coder", desc := "()B", sig := { parameters := [], returnType := some .byte }, accessFlags := 0, code := some k7c7 }
def k7c8 : Code := { maxStack := 1, maxLocals := 1, code := jdk_42_method_154_code, exceptionTable := #[], attributes := #[] }
def k7m8 : Method := { name := "isLatin1", desc := "()Z", sig := { parameters := [], returnType := some .boolean }, accessFlags := 0, code := some k7c8 }
def k7c9 : Code := { maxStack := 3, maxLocals := 2, code := jdk_42_method_155_code, exceptionTable := #[], attributes := #[] }
def k7m9 : Method := { name := "checkIndex", desc := "(II)V", sig := { parameters := [.int, .int], returnType := none }, accessFlags := 8, code := some k7c9 }
/-- java/lang/String -/
def k7 : Class := { plain "java/lang/String" (some 0) with
  accessFlags := 49
  interfaces := #[2, 3, 4, 5, 6]
  cf := some (fileOf pool7 10 #[.nestMembers #[1103]] #[{ accessFlags := 1, nameIndex := 5, descriptorIndex := 6, attributes := #[] }, { accessFlags := 1, nameIndex := 5, descriptorIndex := 1010, attributes := #[] }, { accessFlags := 1, nameIndex := 507, descriptorIndex := 334, attributes := #[] }, { accessFlags := 1, nameIndex := 692, descriptorIndex := 142, attributes := #[] }, { accessFlags := 1, nameIndex := 497, descriptorIndex := 427, attributes := #[] }, { accessFlags := 1, nameIndex := 543, descriptorIndex := 573, attributes := #[] }, { accessFlags := 2, nameIndex := 5, descriptorIndex := 29, attributes := #[] }, { accessFlags := 0, nameIndex := 17, descriptorIndex := 337, attributes := #[] }, { accessFlags := 0, nameIndex := 494, descriptorIndex := 142, attributes := #[] }, { accessFlags := 8, nameIndex := 501, descriptorIndex := 391, attributes := #[] }] 49 2 #[1106, 1108, 575, 1110, 1112] #[{ accessFlags := 18, nameIndex := 13, descriptorIndex := 14, attributes := #[] }, { accessFlags := 18, nameIndex := 17, descriptorIndex := 18, attributes := #[] }, { accessFlags := 2, nameIndex := 21, descriptorIndex := 22, attributes := #[] }, { accessFlags := 2, nameIndex := 25, descriptorIndex := 26, attributes := #[] }, { accessFlags := 26, nameIndex := 1116, descriptorIndex := 1117, attributes := #[] }, { accessFlags := 24, nameIndex := 40, descriptorIndex := 26, attributes := #[] }, { accessFlags := 26, nameIndex := 1101, descriptorIndex := 1102, attributes := #[] }, { accessFlags := 26, nameIndex := 1121, descriptorIndex := 1122, attributes := #[] }, { accessFlags := 25, nameIndex := 599, descriptorIndex := 600, attributes := #[] }, { accessFlags := 24, nameIndex := 1125, descriptorIndex := 18, attributes := #[] }, { accessFlags := 24, nameIndex := 1127, descriptorIndex := 18, attributes := #[] }])
  fields := #[{ name := "value", type := (.array .byte), accessFlags := 18, slot := 0, constantValue := 0 }, { name := "coder", type := .byte, accessFlags := 18, slot := 1, constantValue := 0 }, { name := "hash", type := .int, accessFlags := 2, slot := 2, constantValue := 0 }, { name := "hashIsZero", type := .boolean, accessFlags := 2, slot := 3, constantValue := 0 }, { name := "serialVersionUID", type := .long, accessFlags := 26, slot := 0, constantValue := 0 }, { name := "COMPACT_STRINGS", type := .boolean, accessFlags := 24, slot := 1, constantValue := 0 }, { name := "serialPersistentFields", type := (.array (.object "java/io/ObjectStreamField")), accessFlags := 26, slot := 2, constantValue := 0 }, { name := "REPL", type := .char, accessFlags := 26, slot := 3, constantValue := 0 }, { name := "CASE_INSENSITIVE_ORDER", type := (.object "java/util/Comparator"), accessFlags := 25, slot := 4, constantValue := 0 }, { name := "LATIN1", type := .byte, accessFlags := 24, slot := 5, constantValue := 0 }, { name := "UTF16", type := .byte, accessFlags := 24, slot := 6, constantValue := 0 }]
  methods := #[k7m0, k7m1, k7m2, k7m3, k7m4, k7m5, k7m6, k7m7, k7m8, k7m9]
  instanceTypes := #[(.array .byte), .byte, .int, .boolean]
  staticTypes := #[.long, .boolean, (.array (.object "java/io/ObjectStreamField")), .char, (.object "java/util/Comparator"), .byte, .byte]
  resolved := Array.replicate 1451 none
  statics := some 0 }

def pool8 : Array CpInfo := pool [(1, .class_ 2), (0, u "java/lang/String"), (1, .class_ 6), (1, u "java/lang/Object"), (0, u "<init>"), (0, u "()V"), (0, .methodref 1 10), (0, .nameAndType 11 12), (0, u "checkIndex"), (0, u "(II)V"), (1, .class_ 16), (1, u "java/lang/StringLatin1"), (36, u "([BI)C"), (67, u "$assertionsDisabled"), (0, u "Z"), (98, .class_ 223), (1, u "java/lang/StringLatin1$LinesSpliterator"), (28, u "charAt"), (137, .class_ 391), (0, u "java/lang/StringLatin1$CharsSpliterator")] 3

def k8m0 : Method := { name := "<init>", desc := "()V", sig := { parameters := [], returnType := none }, accessFlags := 0, code := none }
def k8c1 : Code := { maxStack := 2, maxLocals := 2, code := jdk_43_method_2_code, exceptionTable := #[], attributes := #[] }
def k8m1 : Method := { name := "charAt", desc := "([BI)C", sig := { parameters := [(.array .byte), .int], returnType := some .char }, accessFlags := 9, code := some k8c1 }
/-- java/lang/StringLatin1 -/
def k8 : Class := { plain "java/lang/StringLatin1" (some 0) with
  accessFlags := 48
  interfaces := #[]
  cf := some (fileOf pool8 14 #[.nestMembers #[390, 221]] #[{ accessFlags := 0, nameIndex := 7, descriptorIndex := 8, attributes := #[] }, { accessFlags := 9, nameIndex := 252, descriptorIndex := 53, attributes := #[] }] 48 4 #[] #[{ accessFlags := 4120, nameIndex := 121, descriptorIndex := 122, attributes := #[] }])
  fields := #[{ name := "$assertionsDisabled", type := .boolean, accessFlags := 4120, slot := 0, constantValue := 0 }]
  methods := #[k8m0, k8m1]
  instanceTypes := #[]
  staticTypes := #[.boolean]
  resolved := Array.replicate 395 none
  statics := none }

def pool9 : Array CpInfo := pool [(2, .class_ 4), (1, u "java/lang/Object"), (0, u "<init>"), (0, u "()V"), (17, .class_ 26), (1, u "jdk/internal/util/Preconditions"), (6, u "checkIndex"), (21, .class_ 56), (0, u "jdk/internal/util/Preconditions$4"), (57, .class_ 115), (0, u "jdk/internal/util/Preconditions$1"), (7, u "SIOOBE_FORMATTER"), (0, u "Ljava/util/function/BiFunction;"), (0, .class_ 126), (0, u "jdk/internal/util/Preconditions$2"), (3, u "AIOOBE_FORMATTER"), (0, .class_ 132), (0, u "jdk/internal/util/Preconditions$3"), (3, u "IOOBE_FORMATTER"), (41, u "(IILjava/util/function/BiFunction;)I")] 15

def k9m0 : Method := { name := "<init>", desc := "()V", sig := { parameters := [], returnType := none }, accessFlags := 1, code := none }
def k9c1 : Code := { maxStack := 3, maxLocals := 3, code := jdk_41_method_11_code, exceptionTable := #[], attributes := #[] }
def k9m1 : Method := { name := "checkIndex", desc := "(IILjava/util/function/BiFunction;)I", sig := { parameters := [.int, .int, (.object "java/util/function/BiFunction")], returnType := some .int }, accessFlags := 9, code := some k9c1 }
/-- jdk/internal/util/Preconditions -/
def k9 : Class := { plain "jdk/internal/util/Preconditions" (some 0) with
  accessFlags := 33
  interfaces := #[]
  cf := some (fileOf pool9 24 #[.nestMembers #[55, 131, 125, 114]] #[{ accessFlags := 1, nameIndex := 5, descriptorIndex := 6, attributes := #[] }, { accessFlags := 9, nameIndex := 33, descriptorIndex := 178, attributes := #[] }] 33 2 #[] #[{ accessFlags := 25, nameIndex := 123, descriptorIndex := 124, attributes := #[] }, { accessFlags := 25, nameIndex := 130, descriptorIndex := 124, attributes := #[] }, { accessFlags := 25, nameIndex := 136, descriptorIndex := 124, attributes := #[] }])
  fields := #[{ name := "SIOOBE_FORMATTER", type := (.object "java/util/function/BiFunction"), accessFlags := 25, slot := 0, constantValue := 0 }, { name := "AIOOBE_FORMATTER", type := (.object "java/util/function/BiFunction"), accessFlags := 25, slot := 1, constantValue := 0 }, { name := "IOOBE_FORMATTER", type := (.object "java/util/function/BiFunction"), accessFlags := 25, slot := 2, constantValue := 0 }]
  methods := #[k9m0, k9m1]
  instanceTypes := #[]
  staticTypes := #[(.object "java/util/function/BiFunction"), (.object "java/util/function/BiFunction"), (.object "java/util/function/BiFunction")]
  resolved := Array.replicate 194 none
  statics := some 1 }

def pool10 : Array CpInfo := pool [(2, .class_ 4), (1, u "java/lang/Object"), (0, u "<init>"), (0, u "()V"), (0, .class_ 8), (0, u "com/example/landshut/landshut/NodeIds"), (0, .methodref 7 10), (0, .nameAndType 11 12), (0, u "isName"), (0, u "(Ljava/lang/String;I)Z"), (0, .methodref 7 14), (0, .nameAndType 15 16), (0, u "isValid"), (0, u "(Ljava/lang/String;)Z"), (4, u "INVALID"), (0, u "Ljava/lang/String;"), (7, .methodref 31 32), (0, .class_ 33), (0, .nameAndType 34 35), (0, u "java/lang/String"), (0, u "isEmpty"), (0, u "()Z"), (0, .methodref 31 37), (0, .nameAndType 38 39), (0, u "length"), (0, u "()I"), (0, .methodref 31 41), (0, .nameAndType 42 43), (0, u "charAt"), (0, u "(I)C"), (0, .methodref 7 45), (0, .nameAndType 46 47), (0, u "isIdChar"), (0, u "(C)Z"), (5, u "RULE"), (2, u "(Ljava/lang/String;)Ljava/lang/String;"), (0, u "MAX_LENGTH"), (0, u "I"), (4, u "check")] 21

def k10m0 : Method := { name := "<init>", desc := "()V", sig := { parameters := [], returnType := none }, accessFlags := 2, code := none }
def k10c1 : Code := { maxStack := 2, maxLocals := 1, code := prog_3_method_2_code, exceptionTable := #[], attributes := #[] }
def k10m1 : Method := { name := "isValid", desc := "(Ljava/lang/String;)Z", sig := { parameters := [(.object "java/lang/String")], returnType := some .boolean }, accessFlags := 9, code := some k10c1 }
def k10c2 : Code := { maxStack := 3, maxLocals := 1, code := prog_3_method_3_code, exceptionTable := #[], attributes := #[] }
def k10m2 : Method := { name := "check", desc := "(Ljava/lang/String;)Ljava/lang/String;", sig := { parameters := [(.object "java/lang/String")], returnType := some (.object "java/lang/String") }, accessFlags := 9, code := some k10c2 }
def k10c3 : Code := { maxStack := 2, maxLocals := 3, code := prog_3_method_5_code, exceptionTable := #[], attributes := #[] }
def k10m3 : Method := { name := "isName", desc := "(Ljava/lang/String;I)Z", sig := { parameters := [(.object "java/lang/String"), .int], returnType := some .boolean }, accessFlags := 8, code := some k10c3 }
def k10c4 : Code := { maxStack := 2, maxLocals := 1, code := prog_3_method_6_code, exceptionTable := #[], attributes := #[] }
def k10m4 : Method := { name := "isIdChar", desc := "(C)Z", sig := { parameters := [.char], returnType := some .boolean }, accessFlags := 10, code := some k10c4 }
/-- com/example/landshut/landshut/NodeIds -/
def k10 : Class := { plain "com/example/landshut/landshut/NodeIds" (some 0) with
  accessFlags := 49
  interfaces := #[]
  cf := some (fileOf pool10 7 #[] #[{ accessFlags := 2, nameIndex := 5, descriptorIndex := 6, attributes := #[] }, { accessFlags := 9, nameIndex := 15, descriptorIndex := 16, attributes := #[] }, { accessFlags := 9, nameIndex := 63, descriptorIndex := 56, attributes := #[] }, { accessFlags := 8, nameIndex := 11, descriptorIndex := 12, attributes := #[] }, { accessFlags := 10, nameIndex := 46, descriptorIndex := 47, attributes := #[] }] 49 2 #[] #[{ accessFlags := 25, nameIndex := 57, descriptorIndex := 58, attributes := #[] }, { accessFlags := 25, nameIndex := 53, descriptorIndex := 22, attributes := #[] }, { accessFlags := 25, nameIndex := 21, descriptorIndex := 22, attributes := #[] }])
  fields := #[{ name := "MAX_LENGTH", type := .int, accessFlags := 25, slot := 0, constantValue := 0 }, { name := "RULE", type := (.object "java/lang/String"), accessFlags := 25, slot := 1, constantValue := 0 }, { name := "INVALID", type := (.object "java/lang/String"), accessFlags := 25, slot := 2, constantValue := 0 }]
  methods := #[k10m0, k10m1, k10m2, k10m3, k10m4]
  instanceTypes := #[]
  staticTypes := #[.int, (.object "java/lang/String"), (.object "java/lang/String")]
  resolved := Array.replicate 85 none
  statics := none }

def pool11 : Array CpInfo := pool [(6, .class_ 8), (1, u "java/lang/Object"), (0, u "<init>"), (0, u "()V"), (1, .class_ 14), (1, u "java/lang/StringUTF16"), (31, u "$assertionsDisabled"), (0, u "Z"), (13, u "HI_BYTE_SHIFT"), (0, u "I"), (2, u "LO_BYTE_SHIFT"), (49, .methodref 12 116), (0, .nameAndType 117 118), (0, u "compress"), (0, u "([CI[BII)I"), (3, u "([CII)[B"), (138, u "coderFromArrayLen"), (0, u "([BI)B"), (106, .class_ 371), (1, u "java/lang/StringUTF16$LinesSpliterator"), (58, u "MAX_LENGTH"), (196, .class_ 628), (0, u "java/lang/StringUTF16$CodePointsSpliterator"), (0, .class_ 630), (0, u "java/lang/StringUTF16$CharsSpliterator")] 4

def k11m0 : Method := { name := "<init>", desc := "()V", sig := { parameters := [], returnType := none }, accessFlags := 0, code := none }
def k11c1 : Code := { maxStack := 2, maxLocals := 2, code := jdk_52_method_15_code, exceptionTable := #[], attributes := #[] }
def k11m1 : Method := { name := "coderFromArrayLen", desc := "([BI)B", sig := { parameters := [(.array .byte), .int], returnType := some .byte }, accessFlags := 8, code := some k11c1 }
def k11c2 : Code := { maxStack := 5, maxLocals := 6, code := jdk_52_method_16_code, exceptionTable := #[], attributes := #[] }
def k11m2 : Method := { name := "compress", desc := "([CII)[B", sig := { parameters := [(.array .char), .int, .int], returnType := some (.array .byte) }, accessFlags := 9, code := some k11c2 }
def k11c3 : Code := { maxStack := 3, maxLocals := 7, code := jdk_52_method_21_code, exceptionTable := #[], attributes := #[] }
def k11m3 : Method := { name := "compress", desc := "([CI[BII)I", sig := { parameters := [(.array .char), .int, (.array .byte), .int, .int], returnType := some .int }, accessFlags := 9, code := some k11c3 }
/-- java/lang/StringUTF16 -/
def k11 : Class := { plain "java/lang/StringUTF16" (some 0) with
  accessFlags := 48
  interfaces := #[]
  cf := some (fileOf pool11 12 #[.nestMembers #[627, 629, 369]] #[{ accessFlags := 0, nameIndex := 9, descriptorIndex := 10, attributes := #[] }, { accessFlags := 8, nameIndex := 261, descriptorIndex := 262, attributes := #[] }, { accessFlags := 9, nameIndex := 117, descriptorIndex := 122, attributes := #[] }, { accessFlags := 9, nameIndex := 117, descriptorIndex := 118, attributes := #[] }] 48 6 #[] #[{ accessFlags := 26, nameIndex := 61, descriptorIndex := 62, attributes := #[] }, { accessFlags := 26, nameIndex := 65, descriptorIndex := 62, attributes := #[] }, { accessFlags := 24, nameIndex := 430, descriptorIndex := 62, attributes := #[] }, { accessFlags := 4120, nameIndex := 46, descriptorIndex := 47, attributes := #[] }])
  fields := #[{ name := "HI_BYTE_SHIFT", type := .int, accessFlags := 26, slot := 0, constantValue := 0 }, { name := "LO_BYTE_SHIFT", type := .int, accessFlags := 26, slot := 1, constantValue := 0 }, { name := "MAX_LENGTH", type := .int, accessFlags := 24, slot := 2, constantValue := 0 }, { name := "$assertionsDisabled", type := .boolean, accessFlags := 4120, slot := 3, constantValue := 0 }]
  methods := #[k11m0, k11m1, k11m2, k11m3]
  instanceTypes := #[]
  staticTypes := #[.int, .int, .int, .boolean]
  resolved := Array.replicate 635 none
  statics := none }

def pool12 : Array CpInfo := pool [(9, u "<init>"), (6, .class_ 18), (1, u "java/lang/Object"), (0, u "()V"), (1, .class_ 23), (1, u "jdk/internal/util/ArraysSupport"), (0, u "LOG2_ARRAY_LONG_INDEX_SCALE"), (0, u "I"), (2, u "U"), (0, u "Ljdk/internal/misc/Unsafe;"), (8, u "BIG_ENDIAN"), (0, u "Z"), (8, u "LOG2_BYTE_BIT_SIZE"), (4, u "LOG2_ARRAY_INT_INDEX_SCALE"), (54, u "JLA"), (0, u "Ljdk/internal/access/JavaLangAccess;"), (11, u "LOG2_ARRAY_BOOLEAN_INDEX_SCALE"), (9, u "LOG2_ARRAY_BYTE_INDEX_SCALE"), (5, u "LOG2_ARRAY_CHAR_INDEX_SCALE"), (5, u "LOG2_ARRAY_SHORT_INDEX_SCALE"), (18, u "LOG2_ARRAY_FLOAT_INDEX_SCALE"), (24, u "LOG2_ARRAY_DOUBLE_INDEX_SCALE"), (89, u "T_BOOLEAN"), (2, u "T_CHAR"), (1, u "T_FLOAT"), (1, u "T_DOUBLE"), (1, u "T_BYTE"), (1, u "T_SHORT"), (1, u "T_INT"), (1, u "T_LONG"), (1, u "SOFT_MAX_ARRAY_LENGTH")] 83

def k12m0 : Method := { name := "<init>", desc := "()V", sig := { parameters := [], returnType := none }, accessFlags := 2, code := none }
/-- jdk/internal/util/ArraysSupport -/
def k12 : Class := { plain "jdk/internal/util/ArraysSupport" (some 0) with
  accessFlags := 33
  interfaces := #[]
  cf := some (fileOf pool12 21 #[] #[{ accessFlags := 2, nameIndex := 9, descriptorIndex := 19, attributes := #[] }] 33 16 #[] #[{ accessFlags := 24, nameIndex := 28, descriptorIndex := 29, attributes := #[] }, { accessFlags := 26, nameIndex := 38, descriptorIndex := 39, attributes := #[] }, { accessFlags := 25, nameIndex := 121, descriptorIndex := 25, attributes := #[] }, { accessFlags := 25, nameIndex := 131, descriptorIndex := 25, attributes := #[] }, { accessFlags := 25, nameIndex := 137, descriptorIndex := 25, attributes := #[] }, { accessFlags := 25, nameIndex := 143, descriptorIndex := 25, attributes := #[] }, { accessFlags := 25, nameIndex := 53, descriptorIndex := 25, attributes := #[] }, { accessFlags := 25, nameIndex := 24, descriptorIndex := 25, attributes := #[] }, { accessFlags := 25, nameIndex := 162, descriptorIndex := 25, attributes := #[] }, { accessFlags := 25, nameIndex := 187, descriptorIndex := 25, attributes := #[] }, { accessFlags := 26, nameIndex := 48, descriptorIndex := 25, attributes := #[] }, { accessFlags := 25, nameIndex := 277, descriptorIndex := 25, attributes := #[] }, { accessFlags := 25, nameIndex := 280, descriptorIndex := 25, attributes := #[] }, { accessFlags := 25, nameIndex := 282, descriptorIndex := 25, attributes := #[] }, { accessFlags := 25, nameIndex := 284, descriptorIndex := 25, attributes := #[] }, { accessFlags := 25, nameIndex := 286, descriptorIndex := 25, attributes := #[] }, { accessFlags := 25, nameIndex := 288, descriptorIndex := 25, attributes := #[] }, { accessFlags := 25, nameIndex := 290, descriptorIndex := 25, attributes := #[] }, { accessFlags := 25, nameIndex := 292, descriptorIndex := 25, attributes := #[] }, { accessFlags := 26, nameIndex := 108, descriptorIndex := 109, attributes := #[] }, { accessFlags := 25, nameIndex := 294, descriptorIndex := 25, attributes := #[] }])
  fields := #[{ name := "U", type := (.object "jdk/internal/misc/Unsafe"), accessFlags := 24, slot := 0, constantValue := 0 }, { name := "BIG_ENDIAN", type := .boolean, accessFlags := 26, slot := 1, constantValue := 0 }, { name := "LOG2_ARRAY_BOOLEAN_INDEX_SCALE", type := .int, accessFlags := 25, slot := 2, constantValue := 0 }, { name := "LOG2_ARRAY_BYTE_INDEX_SCALE", type := .int, accessFlags := 25, slot := 3, constantValue := 0 }, { name := "LOG2_ARRAY_CHAR_INDEX_SCALE", type := .int, accessFlags := 25, slot := 4, constantValue := 0 }, { name := "LOG2_ARRAY_SHORT_INDEX_SCALE", type := .int, accessFlags := 25, slot := 5, constantValue := 0 }, { name := "LOG2_ARRAY_INT_INDEX_SCALE", type := .int, accessFlags := 25, slot := 6, constantValue := 0 }, { name := "LOG2_ARRAY_LONG_INDEX_SCALE", type := .int, accessFlags := 25, slot := 7, constantValue := 0 }, { name := "LOG2_ARRAY_FLOAT_INDEX_SCALE", type := .int, accessFlags := 25, slot := 8, constantValue := 0 }, { name := "LOG2_ARRAY_DOUBLE_INDEX_SCALE", type := .int, accessFlags := 25, slot := 9, constantValue := 0 }, { name := "LOG2_BYTE_BIT_SIZE", type := .int, accessFlags := 26, slot := 10, constantValue := 0 }, { name := "T_BOOLEAN", type := .int, accessFlags := 25, slot := 11, constantValue := 0 }, { name := "T_CHAR", type := .int, accessFlags := 25, slot := 12, constantValue := 0 }, { name := "T_FLOAT", type := .int, accessFlags := 25, slot := 13, constantValue := 0 }, { name := "T_DOUBLE", type := .int, accessFlags := 25, slot := 14, constantValue := 0 }, { name := "T_BYTE", type := .int, accessFlags := 25, slot := 15, constantValue := 0 }, { name := "T_SHORT", type := .int, accessFlags := 25, slot := 16, constantValue := 0 }, { name := "T_INT", type := .int, accessFlags := 25, slot := 17, constantValue := 0 }, { name := "T_LONG", type := .int, accessFlags := 25, slot := 18, constantValue := 0 }, { name := "JLA", type := (.object "jdk/internal/access/JavaLangAccess"), accessFlags := 26, slot := 19, constantValue := 0 }, { name := "SOFT_MAX_ARRAY_LENGTH", type := .int, accessFlags := 25, slot := 20, constantValue := 0 }]
  methods := #[k12m0]
  instanceTypes := #[]
  staticTypes := #[(.object "jdk/internal/misc/Unsafe"), .boolean, .int, .int, .int, .int, .int, .int, .int, .int, .int, .int, .int, .int, .int, .int, .int, .int, .int, (.object "jdk/internal/access/JavaLangAccess"), .int]
  resolved := Array.replicate 378 none
  statics := none }

def pool13 : Array CpInfo := pool [(1, u "java/lang/Cloneable"), (0, .class_ 1), (0, u "java/lang/Object"), (0, .class_ 3)] 3

/-- java/lang/Cloneable -/
def k13 : Class := { plain "java/lang/Cloneable" (some 0) with
  accessFlags := 1537
  interfaces := #[]
  cf := some (fileOf pool13 2 #[] #[] 1537 4 #[] #[])
  fields := #[]
  methods := #[]
  instanceTypes := #[]
  staticTypes := #[]
  resolved := Array.replicate 8 none
  statics := none }

/-- the primitive byte -/
def k14 : Class := { plain "byte" none with kind := .primitive 'B', accessFlags := 0x411 }
/-- [B -/
def k15 : Class := { plain "[B" (some 0) with kind := .array 14 .byte, interfaces := #[13, 2], accessFlags := 1041 }

/-- the primitive char -/
def k16 : Class := { plain "char" none with kind := .primitive 'C', accessFlags := 0x411 }
/-- [C -/
def k17 : Class := { plain "[C" (some 0) with kind := .array 16 .char, interfaces := #[13, 2], accessFlags := 1041 }

/-- the primitive int -/
def k18 : Class := { plain "int" none with kind := .primitive 'I', accessFlags := 0x411 }
/-- [I -/
def k19 : Class := { plain "[I" (some 0) with kind := .array 18 .int, interfaces := #[13, 2], accessFlags := 1041 }

def heap : Heap := #[{ cls := 7, slots := #[.long 0, .int 1, .null, .int 0, .null, .int 0, .int 0], vm := .statics 7 },
  { cls := 9, slots := #[.null, .null, .null], vm := .statics 9 }]
def classes : Array Class := #[k0, k1, k2, k3, k4, k5, k6, k7, k8, k9, k10, k11, k12, k13, k14, k15, k16, k17, k18, k19]
def interned : List (Array UInt16 × Addr) := []
def slotsUsed : Nat := 10
def theMethod : MethodId := ⟨1, 3⟩
def args0 : Array Value := #[.int 2, .int 66, .int 67, .int 68]
def aboutOver (below : List Frame) : State where
  vm := { classes := classes, interned := interned.toArray }
  heap := heap
  slotsUsed := slotsUsed
  threads := #[{ frames := .invoking theMethod args0 :: below }]
def below0 : List Frame := [.native { method := ⟨0, 0⟩, args := #[] }]
def about1 : State := aboutOver below0
def p0 : Program := .bare "" "" ""
def e0 : Env := launch0.env 0 0 0
theorem w_frames : about1.frames = Frame.invoking theMethod args0 :: below0 := rfl
set_option maxRecDepth 65536 in
theorem w_args : argsFit about1.vm theMethod args0 = true := by decide +kernel
set_option maxRecDepth 65536 in
theorem w_heap : heapFits about1 = true := by decide +kernel
set_option maxRecDepth 65536 in
theorem w_runnable : about1.curStatus? = some .runnable := by decide +kernel
set_option maxRecDepth 65536 in
theorem w_alone : about1.alone = true := by decide +kernel
set_option maxRecDepth 65536 in
theorem w_named : about1.methodNamed? x = some theMethod := by decide +kernel
set_option maxRecDepth 65536 in
theorem w_hears : about1.hears theMethod below0 = true := by decide +kernel
set_option maxRecDepth 65536 in
theorem w_ripe : about1.ripe theMethod args0 below0 = true := by decide +kernel
theorem w_running : about1.status = .running := rfl
set_option maxRecDepth 65536 in
theorem w_room : about1.hasRoom e0.platform room_1 = true :=
  launch0.hasRoom_least _ room_1 (by decide +kernel) (by decide +kernel) (by decide +kernel) (by decide +kernel) (by decide +kernel) (by decide +kernel)
theorem allAtoms_all (ts : List Jvm.Cond) (a : Array Jvm.Value) (st : Jvm.State) : (allAtoms ts).before a st = ts.all (fun c => c.before a st) := by
  induction ts with
  | nil => rfl
  | cons c t ih =>
    show (Jvm.Cond.and c (allAtoms t)).before a st = _
    rw [Jvm.Cond.before_and, ih, List.all_cons]
def words1 : List Jvm.Cond := Jvm.Cond.code x code maxLocals ret :: tables_1
/-- a 'code' word, met by the world's own term for the bytes: nothing is compared byte by byte -/
theorem code_word {y : MethodName} {bytes : ByteArray} {mx : Nat} {rt : Option FieldType} {a : Array Value} {s : State} {m : MethodId} {meth : Method} {c : Code} (h1 : s.methodNamed? y = some m) (h2 : s.vm.method? m = some meth) (h3 : meth.code = some c) (h4 : c.code = bytes)
    (h5 : (c.maxLocals == mx && c.exceptionTable.isEmpty && decide (c.maxStack ≤ mostOperands) && decide (meth.sig.returnType = rt) && !meth.locks && decide (parseMethodDescriptor y.desc = some meth.sig)) = true) : (Jvm.Cond.code y bytes mx rt).before a s = true := by
  simp only [Bool.and_eq_true, beq_iff_eq, Bool.not_eq_true', decide_eq_true_eq] at h5
  obtain ⟨⟨⟨⟨⟨g1, g2⟩, g3⟩, g4⟩, g5⟩, g6⟩ := h5
  simp [Cond.before, Cond.holds, Cond.value, h1, h2, h3, h4, g1, g2, g3, g4, g5, g6]
def isCode : Jvm.Cond → Bool
  | .code _ _ _ _ => true
  | _ => false
theorem all_split {L : List Jvm.Cond} {P : Jvm.Cond → Bool} (h1 : L.all (fun c => isCode c || P c) = true) (h2 : ∀ c ∈ L.filter isCode, P c = true) : L.all P = true := by
  refine List.all_eq_true.mpr fun c hc => ?_
  have h := List.all_eq_true.mp h1 c hc
  rcases Bool.eq_false_or_eq_true (isCode c) with hi | hi
  · exact h2 c (List.mem_filter.mpr ⟨hc, hi⟩)
  · simpa [hi] using h
set_option maxRecDepth 65536 in
theorem w_c0 : (Jvm.Cond.code x code maxLocals ret).before args0 about1 = true := code_word (m := ⟨1, 3⟩) (meth := k1m3) (c := k1c3) (by decide +kernel) rfl rfl rfl (by decide +kernel)
set_option maxRecDepth 65536 in
theorem w_c1 : (Jvm.Cond.code ({ cls := "com/example/landshut/landshut/NodeIdsCheckPinLaw", name := "pick", desc := "(I)C" } : Jvm.MethodName) method_2_code (2 : Nat) (Option.some Jvm.ClassFile.FieldType.char)).before args0 about1 = true := code_word (m := ⟨1, 1⟩) (meth := k1m1) (c := k1c1) (by decide +kernel) rfl rfl rfl (by decide +kernel)
set_option maxRecDepth 65536 in
theorem w_c2 : (Jvm.Cond.code ({ cls := "java/lang/String", name := "charAt", desc := "(I)C" } : Jvm.MethodName) jdk_42_method_56_code (2 : Nat) (Option.some Jvm.ClassFile.FieldType.char)).before args0 about1 = true := code_word (m := ⟨7, 4⟩) (meth := k7m4) (c := k7c4) (by decide +kernel) rfl rfl rfl (by decide +kernel)
set_option maxRecDepth 65536 in
theorem w_c3 : (Jvm.Cond.code ({ cls := "java/lang/String", name := "isLatin1", desc := "()Z" } : Jvm.MethodName) jdk_42_method_154_code (1 : Nat) (Option.some Jvm.ClassFile.FieldType.boolean)).before args0 about1 = true := code_word (m := ⟨7, 8⟩) (meth := k7m8) (c := k7c8) (by decide +kernel) rfl rfl rfl (by decide +kernel)
set_option maxRecDepth 65536 in
theorem w_c4 : (Jvm.Cond.code ({ cls := "java/lang/StringLatin1", name := "charAt", desc := "([BI)C" } : Jvm.MethodName) jdk_43_method_2_code (2 : Nat) (Option.some Jvm.ClassFile.FieldType.char)).before args0 about1 = true := code_word (m := ⟨8, 1⟩) (meth := k8m1) (c := k8c1) (by decide +kernel) rfl rfl rfl (by decide +kernel)
set_option maxRecDepth 65536 in
theorem w_c5 : (Jvm.Cond.code ({ cls := "java/lang/String", name := "checkIndex", desc := "(II)V" } : Jvm.MethodName) jdk_42_method_155_code (2 : Nat) (Option.none : Option Jvm.ClassFile.FieldType)).before args0 about1 = true := code_word (m := ⟨7, 9⟩) (meth := k7m9) (c := k7c9) (by decide +kernel) rfl rfl rfl (by decide +kernel)
set_option maxRecDepth 65536 in
theorem w_c6 : (Jvm.Cond.code ({ cls := "jdk/internal/util/Preconditions", name := "checkIndex", desc := "(IILjava/util/function/BiFunction;)I" } : Jvm.MethodName) jdk_41_method_11_code (3 : Nat) (Option.some Jvm.ClassFile.FieldType.int)).before args0 about1 = true := code_word (m := ⟨9, 1⟩) (meth := k9m1) (c := k9c1) (by decide +kernel) rfl rfl rfl (by decide +kernel)
set_option maxRecDepth 65536 in
theorem w_c7 : (Jvm.Cond.code ({ cls := "java/lang/String", name := "<init>", desc := "([C)V" } : Jvm.MethodName) jdk_42_method_3_code (2 : Nat) (Option.none : Option Jvm.ClassFile.FieldType)).before args0 about1 = true := code_word (m := ⟨7, 1⟩) (meth := k7m1) (c := k7c1) (by decide +kernel) rfl rfl rfl (by decide +kernel)
set_option maxRecDepth 65536 in
theorem w_c8 : (Jvm.Cond.code ({ cls := "java/lang/String", name := "<init>", desc := "([CIILjava/lang/Void;)V" } : Jvm.MethodName) jdk_42_method_149_code (6 : Nat) (Option.none : Option Jvm.ClassFile.FieldType)).before args0 about1 = true := code_word (m := ⟨7, 6⟩) (meth := k7m6) (c := k7c6) (by decide +kernel) rfl rfl rfl (by decide +kernel)
set_option maxRecDepth 65536 in
theorem w_c9 : (Jvm.Cond.code ({ cls := "java/lang/Object", name := "<init>", desc := "()V" } : Jvm.MethodName) object_method_1_code (1 : Nat) (Option.none : Option Jvm.ClassFile.FieldType)).before args0 about1 = true := code_word (m := ⟨0, 0⟩) (meth := k0m0) (c := k0c0) (by decide +kernel) rfl rfl rfl (by decide +kernel)
set_option maxRecDepth 65536 in
theorem w_c10 : (Jvm.Cond.code ({ cls := "com/example/landshut/landshut/NodeIds", name := "isValid", desc := "(Ljava/lang/String;)Z" } : Jvm.MethodName) prog_3_method_2_code (1 : Nat) (Option.some Jvm.ClassFile.FieldType.boolean)).before args0 about1 = true := code_word (m := ⟨10, 1⟩) (meth := k10m1) (c := k10c1) (by decide +kernel) rfl rfl rfl (by decide +kernel)
set_option maxRecDepth 65536 in
theorem w_c11 : (Jvm.Cond.code ({ cls := "com/example/landshut/landshut/NodeIds", name := "isName", desc := "(Ljava/lang/String;I)Z" } : Jvm.MethodName) prog_3_method_5_code (3 : Nat) (Option.some Jvm.ClassFile.FieldType.boolean)).before args0 about1 = true := code_word (m := ⟨10, 3⟩) (meth := k10m3) (c := k10c3) (by decide +kernel) rfl rfl rfl (by decide +kernel)
set_option maxRecDepth 65536 in
theorem w_c12 : (Jvm.Cond.code ({ cls := "java/lang/String", name := "isEmpty", desc := "()Z" } : Jvm.MethodName) jdk_42_method_55_code (1 : Nat) (Option.some Jvm.ClassFile.FieldType.boolean)).before args0 about1 = true := code_word (m := ⟨7, 3⟩) (meth := k7m3) (c := k7c3) (by decide +kernel) rfl rfl rfl (by decide +kernel)
set_option maxRecDepth 65536 in
theorem w_c13 : (Jvm.Cond.code ({ cls := "com/example/landshut/landshut/NodeIdsCheckPinLaw", name := "ok", desc := "(C)Z" } : Jvm.MethodName) method_3_code (1 : Nat) (Option.some Jvm.ClassFile.FieldType.boolean)).before args0 about1 = true := code_word (m := ⟨1, 2⟩) (meth := k1m2) (c := k1c2) (by decide +kernel) rfl rfl rfl (by decide +kernel)
set_option maxRecDepth 65536 in
theorem w_c14 : (Jvm.Cond.code ({ cls := "java/lang/StringUTF16", name := "compress", desc := "([CII)[B" } : Jvm.MethodName) jdk_52_method_16_code (6 : Nat) (Option.some (Jvm.ClassFile.FieldType.array Jvm.ClassFile.FieldType.byte))).before args0 about1 = true := code_word (m := ⟨11, 2⟩) (meth := k11m2) (c := k11c2) (by decide +kernel) rfl rfl rfl (by decide +kernel)
set_option maxRecDepth 65536 in
theorem w_c15 : (Jvm.Cond.code ({ cls := "java/lang/StringUTF16", name := "compress", desc := "([CI[BII)I" } : Jvm.MethodName) jdk_52_method_21_code (7 : Nat) (Option.some Jvm.ClassFile.FieldType.int)).before args0 about1 = true := code_word (m := ⟨11, 3⟩) (meth := k11m3) (c := k11c3) (by decide +kernel) rfl rfl rfl (by decide +kernel)
set_option maxRecDepth 65536 in
theorem w_c16 : (Jvm.Cond.code ({ cls := "java/lang/StringUTF16", name := "coderFromArrayLen", desc := "([BI)B" } : Jvm.MethodName) jdk_52_method_15_code (2 : Nat) (Option.some Jvm.ClassFile.FieldType.byte)).before args0 about1 = true := code_word (m := ⟨11, 1⟩) (meth := k11m1) (c := k11c1) (by decide +kernel) rfl rfl rfl (by decide +kernel)
set_option maxRecDepth 65536 in
theorem w_c17 : (Jvm.Cond.code ({ cls := "java/lang/String", name := "length", desc := "()I" } : Jvm.MethodName) jdk_42_method_54_code (1 : Nat) (Option.some Jvm.ClassFile.FieldType.int)).before args0 about1 = true := code_word (m := ⟨7, 2⟩) (meth := k7m2) (c := k7c2) (by decide +kernel) rfl rfl rfl (by decide +kernel)
set_option maxRecDepth 65536 in
theorem w_c18 : (Jvm.Cond.code ({ cls := "java/lang/String", name := "coder", desc := "()B" } : Jvm.MethodName) jdk_42_method_152_code (1 : Nat) (Option.some Jvm.ClassFile.FieldType.byte)).before args0 about1 = true := code_word (m := ⟨7, 7⟩) (meth := k7m7) (c := k7c7) (by decide +kernel) rfl rfl rfl (by decide +kernel)
set_option maxRecDepth 65536 in
theorem w_c19 : (Jvm.Cond.code ({ cls := "com/example/landshut/landshut/NodeIds", name := "isIdChar", desc := "(C)Z" } : Jvm.MethodName) prog_3_method_6_code (1 : Nat) (Option.some Jvm.ClassFile.FieldType.boolean)).before args0 about1 = true := code_word (m := ⟨10, 4⟩) (meth := k10m4) (c := k10c4) (by decide +kernel) rfl rfl rfl (by decide +kernel)
set_option maxRecDepth 65536 in
theorem w_c20 : (Jvm.Cond.code ({ cls := "com/example/landshut/landshut/NodeIds", name := "check", desc := "(Ljava/lang/String;)Ljava/lang/String;" } : Jvm.MethodName) prog_3_method_3_code (1 : Nat) (Option.some (Jvm.ClassFile.FieldType.object "java/lang/String"))).before args0 about1 = true := code_word (m := ⟨10, 2⟩) (meth := k10m2) (c := k10c2) (by decide +kernel) rfl rfl rfl (by decide +kernel)
set_option maxRecDepth 65536 in
theorem w_c21 : (Jvm.Cond.code ({ cls := "java/lang/String", name := "equals", desc := "(Ljava/lang/Object;)Z" } : Jvm.MethodName) jdk_42_method_66_code (3 : Nat) (Option.some Jvm.ClassFile.FieldType.boolean)).before args0 about1 = true := code_word (m := ⟨7, 5⟩) (meth := k7m5) (c := k7c5) (by decide +kernel) rfl rfl rfl (by decide +kernel)
def codes1 : List Jvm.Cond := [Jvm.Cond.code x code maxLocals ret, Jvm.Cond.code ({ cls := "com/example/landshut/landshut/NodeIdsCheckPinLaw", name := "pick", desc := "(I)C" } : Jvm.MethodName) method_2_code (2 : Nat) (Option.some Jvm.ClassFile.FieldType.char), Jvm.Cond.code ({ cls := "java/lang/String", name := "charAt", desc := "(I)C" } : Jvm.MethodName) jdk_42_method_56_code (2 : Nat) (Option.some Jvm.ClassFile.FieldType.char), Jvm.Cond.code ({ cls := "java/lang/String", name := "isLatin1", desc := "()Z" } : Jvm.MethodName) jdk_42_method_154_code (1 : Nat) (Option.some Jvm.ClassFile.FieldType.boolean), Jvm.Cond.code ({ cls := "java/lang/StringLatin1", name := "charAt", desc := "([BI)C" } : Jvm.MethodName) jdk_43_method_2_code (2 : Nat) (Option.some Jvm.ClassFile.FieldType.char), Jvm.Cond.code ({ cls := "java/lang/String", name := "checkIndex", desc := "(II)V" } : Jvm.MethodName) jdk_42_method_155_code (2 : Nat) (Option.none : Option Jvm.ClassFile.FieldType), Jvm.Cond.code ({ cls := "jdk/internal/util/Preconditions", name := "checkIndex", desc := "(IILjava/util/function/BiFunction;)I" } : Jvm.MethodName) jdk_41_method_11_code (3 : Nat) (Option.some Jvm.ClassFile.FieldType.int), Jvm.Cond.code ({ cls := "java/lang/String", name := "<init>", desc := "([C)V" } : Jvm.MethodName) jdk_42_method_3_code (2 : Nat) (Option.none : Option Jvm.ClassFile.FieldType), Jvm.Cond.code ({ cls := "java/lang/String", name := "<init>", desc := "([CIILjava/lang/Void;)V" } : Jvm.MethodName) jdk_42_method_149_code (6 : Nat) (Option.none : Option Jvm.ClassFile.FieldType), Jvm.Cond.code ({ cls := "java/lang/Object", name := "<init>", desc := "()V" } : Jvm.MethodName) object_method_1_code (1 : Nat) (Option.none : Option Jvm.ClassFile.FieldType), Jvm.Cond.code ({ cls := "com/example/landshut/landshut/NodeIds", name := "isValid", desc := "(Ljava/lang/String;)Z" } : Jvm.MethodName) prog_3_method_2_code (1 : Nat) (Option.some Jvm.ClassFile.FieldType.boolean), Jvm.Cond.code ({ cls := "com/example/landshut/landshut/NodeIds", name := "isName", desc := "(Ljava/lang/String;I)Z" } : Jvm.MethodName) prog_3_method_5_code (3 : Nat) (Option.some Jvm.ClassFile.FieldType.boolean), Jvm.Cond.code ({ cls := "java/lang/String", name := "isEmpty", desc := "()Z" } : Jvm.MethodName) jdk_42_method_55_code (1 : Nat) (Option.some Jvm.ClassFile.FieldType.boolean), Jvm.Cond.code ({ cls := "com/example/landshut/landshut/NodeIdsCheckPinLaw", name := "ok", desc := "(C)Z" } : Jvm.MethodName) method_3_code (1 : Nat) (Option.some Jvm.ClassFile.FieldType.boolean), Jvm.Cond.code ({ cls := "java/lang/StringUTF16", name := "compress", desc := "([CII)[B" } : Jvm.MethodName) jdk_52_method_16_code (6 : Nat) (Option.some (Jvm.ClassFile.FieldType.array Jvm.ClassFile.FieldType.byte)), Jvm.Cond.code ({ cls := "java/lang/StringUTF16", name := "compress", desc := "([CI[BII)I" } : Jvm.MethodName) jdk_52_method_21_code (7 : Nat) (Option.some Jvm.ClassFile.FieldType.int), Jvm.Cond.code ({ cls := "java/lang/StringUTF16", name := "coderFromArrayLen", desc := "([BI)B" } : Jvm.MethodName) jdk_52_method_15_code (2 : Nat) (Option.some Jvm.ClassFile.FieldType.byte), Jvm.Cond.code ({ cls := "java/lang/String", name := "length", desc := "()I" } : Jvm.MethodName) jdk_42_method_54_code (1 : Nat) (Option.some Jvm.ClassFile.FieldType.int), Jvm.Cond.code ({ cls := "java/lang/String", name := "coder", desc := "()B" } : Jvm.MethodName) jdk_42_method_152_code (1 : Nat) (Option.some Jvm.ClassFile.FieldType.byte), Jvm.Cond.code ({ cls := "com/example/landshut/landshut/NodeIds", name := "isIdChar", desc := "(C)Z" } : Jvm.MethodName) prog_3_method_6_code (1 : Nat) (Option.some Jvm.ClassFile.FieldType.boolean), Jvm.Cond.code ({ cls := "com/example/landshut/landshut/NodeIds", name := "check", desc := "(Ljava/lang/String;)Ljava/lang/String;" } : Jvm.MethodName) prog_3_method_3_code (1 : Nat) (Option.some (Jvm.ClassFile.FieldType.object "java/lang/String")), Jvm.Cond.code ({ cls := "java/lang/String", name := "equals", desc := "(Ljava/lang/Object;)Z" } : Jvm.MethodName) jdk_42_method_66_code (3 : Nat) (Option.some Jvm.ClassFile.FieldType.boolean)]
set_option maxRecDepth 65536 in
theorem codes_eq : words1.filter isCode = codes1 := rfl
theorem w_codes : ∀ c ∈ words1.filter isCode, c.before args0 about1 = true := by
  rw [codes_eq]
  intro c hc
  simp only [codes1, List.mem_cons, List.not_mem_nil, or_false] at hc
  rcases hc with rfl | rfl | rfl | rfl | rfl | rfl | rfl | rfl | rfl | rfl | rfl | rfl | rfl | rfl | rfl | rfl | rfl | rfl | rfl | rfl | rfl | rfl
  · exact w_c0
  · exact w_c1
  · exact w_c2
  · exact w_c3
  · exact w_c4
  · exact w_c5
  · exact w_c6
  · exact w_c7
  · exact w_c8
  · exact w_c9
  · exact w_c10
  · exact w_c11
  · exact w_c12
  · exact w_c13
  · exact w_c14
  · exact w_c15
  · exact w_c16
  · exact w_c17
  · exact w_c18
  · exact w_c19
  · exact w_c20
  · exact w_c21
set_option maxRecDepth 65536 in
theorem w_t1 : (words1.take 24).all (fun c => isCode c || c.before args0 about1) = true := by decide +kernel
set_option maxRecDepth 65536 in
theorem w_t2 : ((words1.drop 24).take 24).all (fun c => isCode c || c.before args0 about1) = true := by decide +kernel
set_option maxRecDepth 65536 in
theorem w_t3 : (((words1.drop 24).drop 24).take 24).all (fun c => isCode c || c.before args0 about1) = true := by decide +kernel
set_option maxRecDepth 65536 in
theorem w_t4 : ((((words1.drop 24).drop 24).drop 24).take 24).all (fun c => isCode c || c.before args0 about1) = true := by decide +kernel
set_option maxRecDepth 65536 in
theorem w_t5 : ((((words1.drop 24).drop 24).drop 24).drop 24).all (fun c => isCode c || c.before args0 about1) = true := by decide +kernel
theorem w_tables : (allAtoms (Jvm.Cond.code x code maxLocals ret :: tables_1)).before args0 about1 = true := by
  rw [allAtoms_all]
  show words1.all (fun c => c.before args0 about1) = true
  refine all_split ?_ w_codes
  rw [← List.take_append_drop 24 words1, List.all_append, w_t1, ← List.take_append_drop 24 (words1.drop 24), List.all_append, w_t2, ← List.take_append_drop 24 ((words1.drop 24).drop 24), List.all_append, w_t3, ← List.take_append_drop 24 (((words1.drop 24).drop 24).drop 24), List.all_append, w_t4, w_t5]
  rfl
set_option maxRecDepth 65536 in
theorem w_rest : rest_1_c.before args0 about1 = true := by decide +kernel
set_option maxRecDepth 65536 in
theorem w_case : (Jvm.Cond.and given_1 narrow_1).before args0 about1 = true := by decide +kernel
set_option maxRecDepth 65536 in
theorem w_consts : constsHeld consts_1 about1 := Jvm.Lit.constsHeldB_iff.mp (by decide +kernel)
theorem w_applies : (headSpec (Jvm.Cond.code x code maxLocals ret :: tables_1) room_1).applies x e0.platform about1 = true :=
  (Spec.applies_iff w_frames).mpr ⟨w_running, w_runnable, w_alone, w_named, w_hears, w_ripe, w_room, w_tables⟩
theorem atStart : AtStart classFile x code maxLocals ret World_1 tables_1 room_1 Calls_1 rest_1 Pre_1 launch0 p0 e0 about1 theMethod args0 below0 :=
  ⟨lists_1, trivial, launch0.admits_env _ _ _, launch0.least_env, fairChoices_fair.cas, fairChoices_fair.clock, w_frames, w_args, w_heap, w_applies, ⟨w_consts, trivial⟩, w_rest, w_case⟩
end start1
theorem witness_1 : WitnessClaimed_1 := ⟨start1.p0, start1.e0, start1.about1, start1.theMethod, start1.args0, start1.below0, start1.atStart⟩
end Jvm.Pilot.@@N@@
