import JvmDerived
import JvmDerived.Pilot.@@N@@Statement
import JvmDerived.Pilot.@@N@@Code
set_option linter.unusedVariables false
set_option linter.unusedSimpArgs false
namespace Jvm.Pilot.@@N@@
open Jvm Jvm.ClassFile Sem Op Lib Jvm.Free Jvm.Stand Jvm.LawKit Jvm.RoadKit Bundle Jvm.Pilot.@@N@@.Jvm.D
section OwnNums
theorem own_toInt (n : Nat) (h : n < 2 ^ 31) : (Int32.ofNat n).toInt = n := Int32.toInt_ofNat_of_lt h
theorem own_eq {x : Int32} {n : Nat} (h : n < 2 ^ 31) (e : x.toInt = n) : x = Int32.ofNat n := by rw [← Int32.toInt_inj, own_toInt n h, e]
theorem own_ltN (a b : Nat) (ha : a < 2 ^ 31) (hb : b < 2 ^ 31) : Int32.ofNat a < Int32.ofNat b ↔ a < b := by
  rw [Int32.lt_iff_toInt_lt, own_toInt a ha, own_toInt b hb]; omega
theorem own_eqN (a b : Nat) (ha : a < 2 ^ 31) (hb : b < 2 ^ 31) : Int32.ofNat a = Int32.ofNat b ↔ a = b := by
  rw [← Int32.toInt_inj, own_toInt a ha, own_toInt b hb]; omega
theorem own_addN (a b : Nat) : Int32.ofNat a + Int32.ofNat b = Int32.ofNat (a + b) := (Int32.ofNat_add a b).symm
theorem own_subI (a b : Nat) (ha : a < 2 ^ 31) (hb : b < 2 ^ 31) : (Int32.ofNat a - Int32.ofNat b).toInt = (a : Int) - b := by
  rw [Int32.toInt_sub, own_toInt a ha, own_toInt b hb]
  exact Int.bmod_eq_of_le (by omega) (by omega)
theorem own_subN (a b : Nat) (ha : a < 2 ^ 31) (hb : b ≤ a) : Int32.ofNat a - Int32.ofNat b = Int32.ofNat (a - b) :=
  own_eq (by omega) (by rw [own_subI a b ha (by omega)]; omega)
theorem own_clamp (a : Nat) (ha : a < 2 ^ 31) : (Int32.ofNat a).toNatClampNeg = a := by
  show (Int32.ofNat a).toInt.toNat = a
  rw [own_toInt a ha]; rfl
theorem own_nneg (a : Nat) (ha : a < 2 ^ 31) : ¬ Int32.ofNat a < 0 := by
  rw [Int32.lt_iff_toInt_lt, own_toInt a ha]
  have : (0 : Int32).toInt = 0 := rfl
  omega
theorem own_ixs (a b : Nat) (ha : a < 2 ^ 31) (hb : b ≤ a) : ¬ (Int32.ofNat a - Int32.ofNat b < 0) ∧ (Int32.ofNat a - Int32.ofNat b).toNatClampNeg = a - b := by
  rw [own_subN a b ha hb]; exact ⟨own_nneg _ (by omega), own_clamp _ (by omega)⟩
theorem own_ixa (a b : Nat) (ha : a + b < 2 ^ 31) : ¬ (Int32.ofNat a + Int32.ofNat b < 0) ∧ (Int32.ofNat a + Int32.ofNat b).toNatClampNeg = a + b := by
  rw [own_addN]; exact ⟨own_nneg _ ha, own_clamp _ ha⟩
/-- a small natural behind a mask and a remainder -/
theorem own_small (x : Int32) (k : Nat) (hk0 : 0 < k) (hk : k < 2 ^ 31) : ∃ n : Nat, n < k ∧ (x &&& 2147483647) % Int32.ofNat k = Int32.ofNat n := by
  obtain ⟨q1, q2⟩ := c_and x 2147483647 (by decide)
  obtain ⟨c1, -⟩ := c_irem (x &&& 2147483647) (Int32.ofNat k) k (own_toInt k hk)
  have h1 := c1 q1
  have h2 := Int.emod_nonneg (x &&& 2147483647).toInt (b := (k : Int)) (by omega)
  have h3 := Int.emod_lt_of_pos (x &&& 2147483647).toInt (b := (k : Int)) (by omega)
  exact ⟨((x &&& 2147483647) % Int32.ofNat k).toInt.toNat, by omega, own_eq (by omega) (by omega)⟩
/-- a small natural behind a mask -/
theorem own_masked (x : Int32) (k : Nat) (hk : k < 2 ^ 31) : ∃ n : Nat, n ≤ k ∧ x &&& Int32.ofNat k = Int32.ofNat n := by
  have h0 := own_toInt k hk
  obtain ⟨q1, q2⟩ := c_and x (Int32.ofNat k) (by omega)
  exact ⟨(x &&& Int32.ofNat k).toInt.toNat, by omega, own_eq (by omega) (by omega)⟩
theorem own_cmp (x y : Int64) : XT.cmpL x y = 0 ↔ x = y := lw_eq x y
theorem own_cmplt (x y : Int64) : XT.cmpL x y < 0 ↔ x < y := lw_lt x y
theorem own_cmpgt (x y : Int64) : 0 < XT.cmpL x y ↔ y < x := lw_gt x y
end OwnNums
section OwnLayer
variable {p : Program} {l : Launch} {e : Env} {R : Room} {s : State} {m : MethodId} {args : Array Value} {below : List Frame} {meth : Method} {c : Code} {T : State} {locs : List Loc} {cells slots : Nat} {Z : State} {a0 : Array Value} {h h' : Heap}
/-- from U the run comes to a return of which Q tells (value, heap, written places), within rc cells and rs slots -/
def Goes (p : Program) (e : Env) (below : List Frame) (s : State) (rc rs : Nat) (Q : Option Value → Heap → List Loc → Prop) (U : State) : Prop :=
  ∃ t o, Steps p.tables e below U t ∧ t.status = .running ∧ Ended t below o ∧ ∃ v L, o = .returned v ∧ Q v t.heap L ∧ FrameEnd s o t L rc rs
theorem Goes.step {rc rs : Nat} {Q : Option Value → Heap → List Loc → Prop} {U V : State} (st : ∀ t, Steps p.tables e below V t → Steps p.tables e below U t) (k : Goes p e below s rc rs Q V) : Goes p e below s rc rs Q U := by
  obtain ⟨t, o, k1, k2⟩ := k
  exact ⟨t, o, st t k1, k2⟩
theorem Goes.ret {rc rs : Nat} {Q : Option Value → Heap → List Loc → Prop} (X : Stand p l e R s m args below meth c T locs cells slots) (hx : p.tables.exec = Jvm.exec) (hlk : meth.locks = false) {pc : Nat} {Ls : Array Slot} {w : Value} {t : FieldType} {i : Instr} {rest : List Value} (hret : meth.sig.returnType = some t) (hn : narrow t w = w)
    (hi : (i = .ireturn ∧ (t = .int ∨ t = .boolean ∨ t = .byte ∨ t = .char ∨ t = .short) ∧ ∃ z, w = .int z) ∨ (i = .lreturn ∧ t = .long ∧ ∃ z, w = .long z) ∨ (i = .dreturn ∧ t = .double ∧ ∃ z, w = .double z) ∨ (i = .freturn ∧ t = .float ∧ ∃ z, w = .float z) ∨ (i = .areturn ∧ t.isReference = true ∧ w.isRef = true))
    (hd : decode c.code pc = .ok (i, 1)) (hc : cells ≤ rc) (hs : slots ≤ rs) (hQ : Q (some w) T.heap locs) : Goes p e below s rc rs Q (T.setTop (mkF m pc Ls (w :: rest))) := by
  obtain ⟨fs, hr, hrun, hended, hW, hsame⟩ := X.leave (v := some w) (fun h => by rw [hret] at h; cases h) hlk
  exact ⟨_, _, retOut X hx hret hn hi hd hr, hrun, hended, _, _, rfl, hQ, ⟨_, rfl⟩, hW, hsame.mono hc hs⟩
theorem Goes.retI {rc rs : Nat} {Q : Option Value → Heap → List Loc → Prop} (X : Stand p l e R s m args below meth c T locs cells slots) (hx : p.tables.exec = Jvm.exec) (hlk : meth.locks = false) {pc : Nat} {Ls : Array Slot} {z : Int32} {rest : List Value} (hret : meth.sig.returnType = some .int)
    (hd : decode c.code pc = .ok (.ireturn, 1)) (hc : cells ≤ rc) (hs : slots ≤ rs) (hQ : Q (some (.int z)) T.heap locs) : Goes p e below s rc rs Q (T.setTop (mkF m pc Ls (.int z :: rest))) :=
  Goes.ret X hx hlk hret rfl (Or.inl ⟨rfl, Or.inl rfl, _, rfl⟩) hd hc hs hQ
theorem Goes.retZ {rc rs : Nat} {Q : Option Value → Heap → List Loc → Prop} (X : Stand p l e R s m args below meth c T locs cells slots) (hx : p.tables.exec = Jvm.exec) (hlk : meth.locks = false) {pc : Nat} {Ls : Array Slot} {z : Int32} {t : FieldType} {rest : List Value} (hret : meth.sig.returnType = some t)
    (ht : t = .boolean ∨ t = .byte ∨ t = .char ∨ t = .short) (hn : narrow t (.int z) = .int z)
    (hd : decode c.code pc = .ok (.ireturn, 1)) (hc : cells ≤ rc) (hs : slots ≤ rs) (hQ : Q (some (.int z)) T.heap locs) : Goes p e below s rc rs Q (T.setTop (mkF m pc Ls (.int z :: rest))) :=
  Goes.ret X hx hlk hret hn (Or.inl ⟨rfl, Or.inr ht, _, rfl⟩) hd hc hs hQ
theorem Goes.retJ {rc rs : Nat} {Q : Option Value → Heap → List Loc → Prop} (X : Stand p l e R s m args below meth c T locs cells slots) (hx : p.tables.exec = Jvm.exec) (hlk : meth.locks = false) {pc : Nat} {Ls : Array Slot} {z : Int64} {rest : List Value} (hret : meth.sig.returnType = some .long)
    (hd : decode c.code pc = .ok (.lreturn, 1)) (hc : cells ≤ rc) (hs : slots ≤ rs) (hQ : Q (some (.long z)) T.heap locs) : Goes p e below s rc rs Q (T.setTop (mkF m pc Ls (.long z :: rest))) :=
  Goes.ret X hx hlk hret rfl (Or.inr (Or.inl ⟨rfl, rfl, _, rfl⟩)) hd hc hs hQ
theorem own_narrow_ref {t : FieldType} {w : Value} (hw : w.isRef = true) : narrow t w = w := by
  cases w <;> simp [Value.isRef] at hw <;> cases t <;> rfl
theorem Goes.retA {rc rs : Nat} {Q : Option Value → Heap → List Loc → Prop} (X : Stand p l e R s m args below meth c T locs cells slots) (hx : p.tables.exec = Jvm.exec) (hlk : meth.locks = false) {pc : Nat} {Ls : Array Slot} {w : Value} {t : FieldType} {rest : List Value} (hret : meth.sig.returnType = some t)
    (ht : t.isReference = true) (hw : w.isRef = true)
    (hd : decode c.code pc = .ok (.areturn, 1)) (hc : cells ≤ rc) (hs : slots ≤ rs) (hQ : Q (some w) T.heap locs) : Goes p e below s rc rs Q (T.setTop (mkF m pc Ls (w :: rest))) :=
  Goes.ret X hx hlk hret (own_narrow_ref hw) (Or.inr (Or.inr (Or.inr (Or.inr ⟨rfl, ht, hw⟩)))) hd hc hs hQ
theorem Goes.retV {rc rs : Nat} {Q : Option Value → Heap → List Loc → Prop} (X : Stand p l e R s m args below meth c T locs cells slots) (hx : p.tables.exec = Jvm.exec) (hlk : meth.locks = false) {pc : Nat} {Ls : Array Slot} (hret : meth.sig.returnType = none)
    (hd : decode c.code pc = .ok (.return_, 1)) (hc : cells ≤ rc) (hs : slots ≤ rs) (hQ : Q none T.heap locs) : Goes p e below s rc rs Q (T.setTop (mkF m pc Ls [])) := by
  obtain ⟨fs, hr, hrun, hended, hW, hsame⟩ := X.leave (v := none) (fun _ => rfl) hlk
  exact ⟨_, _, X.returnOut hx hret hd hr, hrun, hended, _, _, rfl, hQ, ⟨_, rfl⟩, hW, hsame.mono hc hs⟩
/-- a static call by its contract -/
theorem own_callS (X : Stand p l e R s m args below meth c T locs cells slots) (hx : p.tables.exec = Jvm.exec) (hZ : Z.Warmed39 s.vm) {own : String} {index : Nat} {y : MethodName} {bytes : ByteArray} {maxL : Nat} {ret : Option FieldType} (hown : s.vm.findClass own = some m.cls)
    (w1 : (Cond.methodLink own index y).before a0 Z = true) (w2 : (Cond.static y).before a0 Z = true) (w3 : (Cond.initialized y.cls).before a0 Z = true) (w4 : (Cond.code y bytes maxL ret).before a0 Z = true) (hy : y.cls ≠ "java/lang/invoke/MethodHandle" ∧ y.cls ≠ "java/lang/invoke/VarHandle")
    {rm : Room} {argsL : List Value} {Q : Option Value → Heap → List Loc → Prop}
    (hM : MetFree l y (head1 [Cond.code y bytes maxL ret] rm) (fun a U => a = argsL.toArray ∧ Z.Warmed39 U.vm ∧ U.heap = h) (fun _ _ _ _ _ => True) (fun _ U o U' => ∃ v L, o = .returned v ∧ Q v U'.heap L ∧ FrameEnd U o U' L rm.cells rm.slots))
    (eT : T.heap = h) {W : Nat} (hf : rm.frames + 1 ≤ R.frames) (hl : W + (maxL + 11) + rm.locals ≤ R.locals) (hc : cells + rm.cells ≤ R.cells) (hsl : slots + rm.slots ≤ R.slots)
    {g : JFrame} (hg : g.method = m) (hsize : g.locals.size = c.maxLocals) {rest : List Value} (hlen : ∀ sig, parseMethodDescriptor y.desc = some sig → argsL.length = sig.parameters.length)
    (hstack : g.stack = argsL.reverse ++ rest) (hW : 2 * g.monitorRoom + (rest.map fun v => v.category).sum ≤ W) (hdg : decode c.code g.pc = .ok (.invokestatic index, 3)) :
    ∃ (v : Option Value) (T' : State) (L : List Loc), Stand p l e R s m args below meth c T' (locs ++ L) (cells + rm.cells) (slots + rm.slots) ∧ Q v T'.heap L ∧
      ∀ t, Steps p.tables e below (T'.setTop { g with pc := g.pc + 3, stack := v.toList ++ rest }) t → Steps p.tables e below (T.setTop g) t := by
  obtain ⟨v, _, ⟨U, Ls, k, n⟩, -, X', ⟨Lc, hQ, l1, y1, z1⟩, st⟩ := Jvm.LawKit.callS X hx (y := y) hown (mvT hZ w1) (mvT hZ w2) (mvT hZ w3) (mvT hZ w4) hy (backOf (W := W) hM hZ w4 w3 hf hl) hg hsize (argsL := argsL) (rest := rest) hlen hstack hW hdg (fun _ _ => ⟨rfl, eT, hc, hsl⟩)
  dsimp only [Pt.U, Pt.locs, Pt.cells, Pt.slots] at X' l1 y1 z1 st hQ
  subst l1 y1 z1
  exact ⟨v, U, Lc, X', hQ, st⟩
/-- a constructor's call by its contract -/
theorem own_callN (X : Stand p l e R s m args below meth c T locs cells slots) (hx : p.tables.exec = Jvm.exec) (hZ : Z.Warmed39 s.vm) {own : String} {index : Nat} {y : MethodName} {bytes : ByteArray} {maxL : Nat} (hy1 : y.name = "<init>") (hown : s.vm.findClass own = some m.cls)
    (w1 : (Cond.methodLink own index y).before a0 Z = true) (w2 : (Cond.instanceMethod y).before a0 Z = true) (w3 : (Cond.initialized y.cls).before a0 Z = true) (w4 : (Cond.code y bytes maxL none).before a0 Z = true) (hy : y.cls ≠ "java/lang/invoke/MethodHandle" ∧ y.cls ≠ "java/lang/invoke/VarHandle")
    {rm : Room} {a : Addr} {argsL : List Value} {Q : Option Value → Heap → List Loc → Prop}
    (hM : MetFree l y (head1 [Cond.code y bytes maxL none] rm) (fun b U => b = (.ref a :: argsL).toArray ∧ Z.Warmed39 U.vm ∧ U.heap = h) (fun _ _ _ _ _ => True) (fun _ U o U' => ∃ v L, o = .returned v ∧ Q v U'.heap L ∧ FrameEnd U o U' L rm.cells rm.slots))
    (eT : T.heap = h) {W : Nat} (hf : rm.frames + 1 ≤ R.frames) (hl : W + (maxL + 11) + rm.locals ≤ R.locals) (hc : cells + rm.cells ≤ R.cells) (hsl : slots + rm.slots ≤ R.slots)
    {g : JFrame} (hg : g.method = m) (hsize : g.locals.size = c.maxLocals) {rest : List Value} (hlen : ∀ sig, parseMethodDescriptor y.desc = some sig → argsL.length = sig.parameters.length)
    (hstack : g.stack = argsL.reverse ++ .ref a :: rest) (hW : 2 * g.monitorRoom + (rest.map fun v => v.category).sum ≤ W) (hdg : decode c.code g.pc = .ok (.invokespecial index, 3)) :
    ∃ (v : Option Value) (T' : State) (L : List Loc), Stand p l e R s m args below meth c T' (locs ++ L) (cells + rm.cells) (slots + rm.slots) ∧ Q v T'.heap L ∧
      ∀ t, Steps p.tables e below (T'.setTop { g with pc := g.pc + 3, stack := v.toList ++ rest }) t → Steps p.tables e below (T.setTop g) t := by
  obtain ⟨v, _, ⟨U, Ls, k, n⟩, -, X', ⟨Lc, hQ, l1, y1, z1⟩, st⟩ := X.specialBack hx (y := y) hy1 hown (mvT hZ w1) (mvT hZ w2) (mvT hZ w4) hy (backOf (W := W) hM hZ w4 w3 hf hl) hg hsize (Steps.refl _) (a := a) (argsL := argsL) (rest := rest) hlen hstack hW hdg (fun _ _ => ⟨rfl, eT, hc, hsl⟩)
  dsimp only [Pt.U, Pt.locs, Pt.cells, Pt.slots] at X' l1 y1 z1 st hQ
  subst l1 y1 z1
  exact ⟨v, U, Lc, X', hQ, fun t k => st.trans k⟩
/-- an instance method's call by its contract -/
theorem own_callV (X : Stand p l e R s m args below meth c T locs cells slots) (hx : p.tables.exec = Jvm.exec) (hZ : Z.Warmed39 s.vm) {own C : String} {index : Nat} {y : MethodName} {bytes : ByteArray} {maxL : Nat} {ret : Option FieldType} (hown : s.vm.findClass own = some m.cls)
    (w1 : (Cond.methodLink own index y).before a0 Z = true) (w2 : (Cond.declares y).before a0 Z = true) (w5 : (Cond.selects C y y).before a0 Z = true) (w6 : (Cond.instanceMethod y).before a0 Z = true) (w3 : (Cond.initialized y.cls).before a0 Z = true) (w4 : (Cond.code y bytes maxL ret).before a0 Z = true) (hy : y.cls ≠ "java/lang/invoke/MethodHandle" ∧ y.cls ≠ "java/lang/invoke/VarHandle")
    {rm : Room} {a : Addr} {argsL : List Value} {Q : Option Value → Heap → List Loc → Prop}
    (hM : MetFree l y (head1 [Cond.code y bytes maxL ret] rm) (fun b U => b = (.ref a :: argsL).toArray ∧ Z.Warmed39 U.vm ∧ U.heap = h) (fun _ _ _ _ _ => True) (fun _ U o U' => ∃ v L, o = .returned v ∧ Q v U'.heap L ∧ FrameEnd U o U' L rm.cells rm.slots))
    (eT : T.heap = h) (E : Exa Z h a C) {W : Nat} (hf : rm.frames + 1 ≤ R.frames) (hl : W + (maxL + 11) + rm.locals ≤ R.locals) (hc : cells + rm.cells ≤ R.cells) (hsl : slots + rm.slots ≤ R.slots)
    {g : JFrame} (hg : g.method = m) (hsize : g.locals.size = c.maxLocals) {rest : List Value} (hlen : ∀ sig, parseMethodDescriptor y.desc = some sig → argsL.length = sig.parameters.length)
    (hstack : g.stack = argsL.reverse ++ .ref a :: rest) (hW : 2 * g.monitorRoom + (rest.map fun v => v.category).sum ≤ W) (hdg : decode c.code g.pc = .ok (.invokevirtual index, 3)) :
    ∃ (v : Option Value) (T' : State) (L : List Loc), Stand p l e R s m args below meth c T' (locs ++ L) (cells + rm.cells) (slots + rm.slots) ∧ Q v T'.heap L ∧
      ∀ t, Steps p.tables e below (T'.setTop { g with pc := g.pc + 3, stack := v.toList ++ rest }) t → Steps p.tables e below (T.setTop g) t := by
  obtain ⟨cB, kB, qa, qb, qc⟩ := isOf hZ eT E
  obtain ⟨v, _, ⟨U, Ls, k, n⟩, -, X', ⟨Lc, hQ, l1, y1, z1⟩, st⟩ := X.virtualBack hx (y := y) (z := y) hown (mvT hZ w1) (mvT hZ w2) (notFace_of_selects (args := #[]) (mvT hZ w5)) (mvT hZ w5) (mvT hZ w6) hy (backOf (W := W) hM hZ w4 w3 hf hl) qa qc hg hsize (Steps.refl _) (argsL := argsL) (rest := rest) hlen hstack hW hdg (fun _ _ => ⟨rfl, eT, hc, hsl⟩)
  dsimp only [Pt.U, Pt.locs, Pt.cells, Pt.slots] at X' l1 y1 z1 st hQ
  subst l1 y1 z1
  exact ⟨v, U, Lc, X', hQ, fun t k => st.trans k⟩
/-- an interface method's call by its contract -/
theorem own_callI (X : Stand p l e R s m args below meth c T locs cells slots) (hx : p.tables.exec = Jvm.exec) (hZ : Z.Warmed39 s.vm) {own C : String} {index count : Nat} {xi z : MethodName} {bytes : ByteArray} {maxL : Nat} {ret : Option FieldType} (hown : s.vm.findClass own = some m.cls)
    (w1 : (Cond.methodLink own index xi).before a0 Z = true) (w2 : (Cond.declares xi).before a0 Z = true) (w7 : (Cond.interfaceMethod xi.cls xi.cls xi.name xi.desc).before a0 Z = true) (w5 : (Cond.selects C xi z).before a0 Z = true) (w6 : (Cond.instanceMethod z).before a0 Z = true) (w8 : (Cond.publicMethod z).before a0 Z = true) (w9 : (Cond.unhidden C xi.name xi.desc).before a0 Z = true) (w10 : (Cond.castable C xi.cls).before a0 Z = true)
    (hfa : ((Cond.interfaceMethod xi.cls xi.cls xi.name xi.desc).onTables && (Cond.interfaceMethod xi.cls xi.cls xi.name xi.desc).keepsFace) = true) (w3 : (Cond.initialized z.cls).before a0 Z = true) (w4 : (Cond.code z bytes maxL ret).before a0 Z = true) (hy : xi.cls ≠ "java/lang/invoke/MethodHandle" ∧ xi.cls ≠ "java/lang/invoke/VarHandle")
    {rm : Room} {a : Addr} {argsL : List Value} {Q : Option Value → Heap → List Loc → Prop}
    (hM : MetFree l z (head1 [Cond.code z bytes maxL ret] rm) (fun b U => b = (.ref a :: argsL).toArray ∧ Z.Warmed39 U.vm ∧ U.heap = h) (fun _ _ _ _ _ => True) (fun _ U o U' => ∃ v L, o = .returned v ∧ Q v U'.heap L ∧ FrameEnd U o U' L rm.cells rm.slots))
    (eT : T.heap = h) (E : Exa Z h a C) {W : Nat} (hf : rm.frames + 1 ≤ R.frames) (hl : W + (maxL + 11) + rm.locals ≤ R.locals) (hc : cells + rm.cells ≤ R.cells) (hsl : slots + rm.slots ≤ R.slots)
    {g : JFrame} (hg : g.method = m) (hsize : g.locals.size = c.maxLocals) {rest : List Value} (hlen : ∀ sig, parseMethodDescriptor xi.desc = some sig → argsL.length = sig.parameters.length)
    (hstack : g.stack = argsL.reverse ++ .ref a :: rest) (hW : 2 * g.monitorRoom + (rest.map fun v => v.category).sum ≤ W) (hdg : decode c.code g.pc = .ok (.invokeinterface index count, 5)) :
    ∃ (v : Option Value) (T' : State) (L : List Loc), Stand p l e R s m args below meth c T' (locs ++ L) (cells + rm.cells) (slots + rm.slots) ∧ Q v T'.heap L ∧
      ∀ t, Steps p.tables e below (T'.setTop { g with pc := g.pc + 5, stack := v.toList ++ rest }) t → Steps p.tables e below (T.setTop g) t := by
  obtain ⟨cB, kB, qa, qb, qc⟩ := isOf hZ eT E
  obtain ⟨v, _, ⟨U, Ls, k, n⟩, -, X', ⟨Lc, hQ, l1, y1, z1⟩, st⟩ := X.interfaceBack hx (xi := xi) (y := z) hown (mvT hZ w1) (mvT hZ w2) (mvT hZ w7 hfa) (mvT hZ w5) (mvT hZ w6) (mvT hZ w8) (mvT hZ w9) (mvT hZ w10) hy (backOf (W := W) hM hZ w4 w3 hf hl) qa qb qc hg hsize (Steps.refl _) (argsL := argsL) (rest := rest) hlen hstack hW hdg (fun _ _ => ⟨rfl, eT, hc, hsl⟩)
  dsimp only [Pt.U, Pt.locs, Pt.cells, Pt.slots] at X' l1 y1 z1 st hQ
  subst l1 y1 z1
  exact ⟨v, U, Lc, X', hQ, fun t k => st.trans k⟩
/-- an array: of n places, place j holds f j -/
def OA (Z : State) (h : Heap) (a : Addr) (ty : FieldType) (n : Nat) (f : Nat → Value) : Prop :=
  ∃ c : Cell, Arr Z h a c ty ∧ c.slots.size = n ∧ n < 2 ^ 31 ∧ ∀ j, j < n → c.slots[j]? = some (f j) ∧ fits ty (f j) = true
variable {a b : Addr} {ty : FieldType} {n k sl : Nat} {f f' : Nat → Value} {v w : Value} {j : Int32} {ws : List Addr}
theorem OA.ext (A : OA Z h a ty n f) (E : Ext h h') : OA Z h' a ty n f := by obtain ⟨c, A, r⟩ := A; exact ⟨c, A.ext E, r⟩
theorem OA.other (A : OA Z h b ty n f) (W : Wr h h' a sl v) (q : b ≠ a) : OA Z h' b ty n f := by obtain ⟨c, A, r⟩ := A; exact ⟨c, A.other W q, r⟩
theorem OA.keep (A : OA Z h a ty n f) (K : Keep h h' ws) (q : a ∉ ws) : OA Z h' a ty n f := by obtain ⟨c, A, r⟩ := A; exact ⟨c, ⟨K.2.1 a c A.1 q, A.2⟩, r⟩
theorem OA.lt (A : OA Z h a ty n f) : a < h.size := by obtain ⟨c, A, -⟩ := A; exact A.lt
theorem OA.congr (A : OA Z h a ty n f) (q : ∀ j, j < n → f j = f' j) : OA Z h a ty n f' := by
  obtain ⟨c, A, r1, r2, H⟩ := A
  exact ⟨c, A, r1, r2, fun j hj => by rw [← q j hj]; exact H j hj⟩
theorem OA.new {cA : ClassId} {z : Int32} (A : Arr Z h a (newA cA ty z) ty) (hf : fits ty (defaultValue ty) = true) (e : z.toNatClampNeg = n) : OA Z h a ty n (fun _ => defaultValue ty) := by
  refine ⟨_, A, by rw [sz_new]; exact e, ?_, fun j hj => ⟨?_, hf⟩⟩
  · have := z.toInt_lt
    have h2 : z.toNatClampNeg = z.toInt.toNat := rfl
    omega
  · simp [newA, e, hj]
theorem OA.set (A : OA Z h a ty n f) (W : Wr h h' a j.toNatClampNeg v) (e : j.toNatClampNeg = k) (hv : fits ty v = true) : OA Z h' a ty n (fun i => if i = k then v else f i) := by
  obtain ⟨c, A, r1, r2, H⟩ := A
  refine ⟨_, A.same W, by rw [sz_set]; exact r1, r2, fun i hi => ?_⟩
  obtain ⟨H1, H2⟩ := H i hi
  subst e
  by_cases q : i = j.toNatClampNeg
  · subst q
    dsimp only
    rw [if_pos rfl]
    exact ⟨by simp [Cell.setSlot, r1, hi], hv⟩
  · dsimp only
    rw [if_neg q]
    refine ⟨?_, H2⟩
    rw [← H1]
    simp [Cell.setSlot, Array.getElem?_setIfInBounds, Ne.symm q]
theorem OA.at (A : OA Z h a ty n f) (hj : ¬ j < 0) (e : j.toNatClampNeg = k) (hk : k < n) : ∃ c : Cell, Arr Z h a c ty ∧ ¬ (j < 0 ∨ c.slots.size ≤ j.toNatClampNeg) ∧ c.slots[j.toNatClampNeg]? = some (f k) ∧ fits ty (f k) = true := by
  obtain ⟨c, A, r1, r2, H⟩ := A
  obtain ⟨H1, H2⟩ := H k hk
  refine ⟨c, A, ?_, by rw [e]; exact H1, H2⟩
  rintro (q | q)
  · exact hj q
  · omega
theorem OA.fits (A : OA Z h a ty n f) (hk : k < n) : fits ty (f k) = true := by
  obtain ⟨c, A, r1, r2, H⟩ := A
  exact (H k hk).2
theorem own_alen (X : Stand p l e R s m args below meth c T locs cells slots) (hx : p.tables.exec = Jvm.exec) (hZ : Z.Warmed39 s.vm) (eT : T.heap = h) (A : OA Z h a ty n f) {z : Int32} (hz : z = n.toInt32)
    {g : JFrame} (hg : g.method = m) {rest : List Value} (hs : g.stack = .ref a :: rest) (hd : decode c.code g.pc = .ok (.arraylength, 1)) :
    ∀ t, Steps p.tables e below (T.setTop { g with pc := g.pc + 1, stack := .int z :: rest }) t → Steps p.tables e below (T.setTop g) t := by
  obtain ⟨cl, A, r1, r2, H⟩ := A
  intro t k
  refine X.arraylength hx (by rw [eT]; exact A.1) (State.isArrayOf_alike hZ.alike A.2.1) hg hs hd t ?_
  rw [r1, ← hz]
  exact k
theorem own_iaload (X : Stand p l e R s m args below meth c T locs cells slots) (hx : p.tables.exec = Jvm.exec) (hZ : Z.Warmed39 s.vm) (eT : T.heap = h) (A : OA Z h a .int n f) (hj : ¬ j < 0) (ek : j.toNatClampNeg = k) (hk : k < n) (hv : f k = v)
    {g : JFrame} (hg : g.method = m) {rest : List Value} (hs : g.stack = .int j :: .ref a :: rest) (hd : decode c.code g.pc = .ok (.iaload, 1)) :
    ∀ t, Steps p.tables e below (T.setTop { g with pc := g.pc + 1, stack := v :: rest }) t → Steps p.tables e below (T.setTop g) t := by
  obtain ⟨cl, A, q1, q2, q3⟩ := A.at hj ek hk
  subst hv
  exact fun t k => X.iaload hx (by rw [eT]; exact A.1) (State.isArrayOf_alike hZ.alike A.2.1) A.2.2 q1 q2 hg hs hd t k
theorem own_laload (X : Stand p l e R s m args below meth c T locs cells slots) (hx : p.tables.exec = Jvm.exec) (hZ : Z.Warmed39 s.vm) (eT : T.heap = h) (A : OA Z h a .long n f) (hj : ¬ j < 0) (ek : j.toNatClampNeg = k) (hk : k < n) (hv : f k = v)
    {g : JFrame} (hg : g.method = m) {rest : List Value} (hs : g.stack = .int j :: .ref a :: rest) (hd : decode c.code g.pc = .ok (.laload, 1)) :
    ∀ t, Steps p.tables e below (T.setTop { g with pc := g.pc + 1, stack := v :: rest }) t → Steps p.tables e below (T.setTop g) t := by
  obtain ⟨cl, A, q1, q2, q3⟩ := A.at hj ek hk
  subst hv
  exact fun t k => X.laload hx (by rw [eT]; exact A.1) (State.isArrayOf_alike hZ.alike A.2.1) A.2.2 q1 q2 hg hs hd t k
theorem own_caload (X : Stand p l e R s m args below meth c T locs cells slots) (hx : p.tables.exec = Jvm.exec) (hZ : Z.Warmed39 s.vm) (eT : T.heap = h) (A : OA Z h a .char n f) (hj : ¬ j < 0) (ek : j.toNatClampNeg = k) (hk : k < n) (hv : f k = v)
    {g : JFrame} (hg : g.method = m) {rest : List Value} (hs : g.stack = .int j :: .ref a :: rest) (hd : decode c.code g.pc = .ok (.caload, 1)) :
    ∀ t, Steps p.tables e below (T.setTop { g with pc := g.pc + 1, stack := v :: rest }) t → Steps p.tables e below (T.setTop g) t := by
  obtain ⟨cl, A, q1, q2, q3⟩ := A.at hj ek hk
  subst hv
  exact fun t k => X.caload hx (by rw [eT]; exact A.1) (State.isArrayOf_alike hZ.alike A.2.1) A.2.2 q1 q2 hg hs hd t k
theorem own_baload (X : Stand p l e R s m args below meth c T locs cells slots) (hx : p.tables.exec = Jvm.exec) (hZ : Z.Warmed39 s.vm) (eT : T.heap = h) (A : OA Z h a .byte n f) (hj : ¬ j < 0) (ek : j.toNatClampNeg = k) (hk : k < n) (hv : f k = v)
    {g : JFrame} (hg : g.method = m) {rest : List Value} (hs : g.stack = .int j :: .ref a :: rest) (hd : decode c.code g.pc = .ok (.baload, 1)) :
    ∀ t, Steps p.tables e below (T.setTop { g with pc := g.pc + 1, stack := v :: rest }) t → Steps p.tables e below (T.setTop g) t := by
  obtain ⟨cl, A, q1, q2, q3⟩ := A.at hj ek hk
  subst hv
  exact fun t k => X.baloadBytes hx (by rw [eT]; exact A.1) (State.isArrayOf_alike hZ.alike A.2.1) A.2.2 q1 q2 hg hs hd t k
theorem own_aaload (X : Stand p l e R s m args below meth c T locs cells slots) (hx : p.tables.exec = Jvm.exec) (hZ : Z.Warmed39 s.vm) (eT : T.heap = h) (A : OA Z h a ty n f) (hty : ty.isReference = true) (hj : ¬ j < 0) (ek : j.toNatClampNeg = k) (hk : k < n) (hv : f k = v)
    {g : JFrame} (hg : g.method = m) {rest : List Value} (hs : g.stack = .int j :: .ref a :: rest) (hd : decode c.code g.pc = .ok (.aaload, 1)) :
    ∀ t, Steps p.tables e below (T.setTop { g with pc := g.pc + 1, stack := v :: rest }) t → Steps p.tables e below (T.setTop g) t := by
  obtain ⟨cl, A, q1, q2, q3⟩ := A.at hj ek hk
  subst hv
  exact fun t k => X.aaload hx (by rw [eT]; exact A.1) (State.isArrayOf_alike hZ.alike A.2.1) hty A.2.2 q1 q2 hg hs hd t k
/-- stores: the new heap, the array's new values -/
theorem own_stI (X : Stand p l e R s m args below meth c T locs cells slots) (hx : p.tables.exec = Jvm.exec) (hZ : Z.Warmed39 s.vm) (eT : T.heap = h) (A : OA Z h a .int n f) {x : Int32} (hj : ¬ j < 0) (ek : j.toNatClampNeg = k) (hk : k < n)
    {g : JFrame} (hg : g.method = m) {rest : List Value} (hs : g.stack = .int x :: .int j :: .ref a :: rest) (hd : decode c.code g.pc = .ok (.iastore, 1)) :
    ∃ T' h', Stand p l e R s m args below meth c T' (locs ++ [⟨a, j.toNatClampNeg⟩]) cells slots ∧ T'.heap = h' ∧ Wr h h' a j.toNatClampNeg (.int x) ∧ OA Z h' a .int n (fun i => if i = k then .int x else f i) ∧
      ∀ t, Steps p.tables e below (T'.setTop { g with pc := g.pc + 1, stack := rest }) t → Steps p.tables e below (T.setTop g) t := by
  obtain ⟨cl, A', q1, q2, q3⟩ := A.at hj ek hk
  obtain ⟨T', h', X', e', W', st⟩ := stI X hx hZ eT A' q1 hg hs hd
  exact ⟨T', h', X', e', W', A.set W' ek rfl, st⟩
theorem own_stJ (X : Stand p l e R s m args below meth c T locs cells slots) (hx : p.tables.exec = Jvm.exec) (hZ : Z.Warmed39 s.vm) (eT : T.heap = h) (A : OA Z h a .long n f) {x : Int64} (hj : ¬ j < 0) (ek : j.toNatClampNeg = k) (hk : k < n)
    {g : JFrame} (hg : g.method = m) {rest : List Value} (hs : g.stack = .long x :: .int j :: .ref a :: rest) (hd : decode c.code g.pc = .ok (.lastore, 1)) :
    ∃ T' h', Stand p l e R s m args below meth c T' (locs ++ [⟨a, j.toNatClampNeg⟩]) cells slots ∧ T'.heap = h' ∧ Wr h h' a j.toNatClampNeg (.long x) ∧ OA Z h' a .long n (fun i => if i = k then .long x else f i) ∧
      ∀ t, Steps p.tables e below (T'.setTop { g with pc := g.pc + 1, stack := rest }) t → Steps p.tables e below (T.setTop g) t := by
  obtain ⟨cl, A', q1, q2, q3⟩ := A.at hj ek hk
  obtain ⟨T', h', X', e', W', st⟩ := stJ X hx hZ eT A' q1 hg hs hd
  exact ⟨T', h', X', e', W', A.set W' ek rfl, st⟩
theorem own_stB (X : Stand p l e R s m args below meth c T locs cells slots) (hx : p.tables.exec = Jvm.exec) (hZ : Z.Warmed39 s.vm) (eT : T.heap = h) (A : OA Z h a .byte n f) {x : Int32} (hj : ¬ j < 0) (ek : j.toNatClampNeg = k) (hk : k < n)
    {g : JFrame} (hg : g.method = m) {rest : List Value} (hs : g.stack = .int x :: .int j :: .ref a :: rest) (hd : decode c.code g.pc = .ok (.bastore, 1)) :
    ∃ T' h', Stand p l e R s m args below meth c T' (locs ++ [⟨a, j.toNatClampNeg⟩]) cells slots ∧ T'.heap = h' ∧ Wr h h' a j.toNatClampNeg (.int (nar .byte x)) ∧ OA Z h' a .byte n (fun i => if i = k then .int (nar .byte x) else f i) ∧
      ∀ t, Steps p.tables e below (T'.setTop { g with pc := g.pc + 1, stack := rest }) t → Steps p.tables e below (T.setTop g) t := by
  obtain ⟨cl, A', q1, q2, q3⟩ := A.at hj ek hk
  obtain ⟨T', h', X', e', W', st⟩ := stB X hx hZ eT A' q1 hg hs hd
  exact ⟨T', h', X', e', W', A.set W' ek (fits_nar_byte _), st⟩
theorem own_stC (X : Stand p l e R s m args below meth c T locs cells slots) (hx : p.tables.exec = Jvm.exec) (hZ : Z.Warmed39 s.vm) (eT : T.heap = h) (A : OA Z h a .char n f) {x : Int32} (hj : ¬ j < 0) (ek : j.toNatClampNeg = k) (hk : k < n)
    {g : JFrame} (hg : g.method = m) {rest : List Value} (hs : g.stack = .int x :: .int j :: .ref a :: rest) (hd : decode c.code g.pc = .ok (.castore, 1)) :
    ∃ T' h', Stand p l e R s m args below meth c T' (locs ++ [⟨a, j.toNatClampNeg⟩]) cells slots ∧ T'.heap = h' ∧ Wr h h' a j.toNatClampNeg (.int (nar .char x)) ∧ OA Z h' a .char n (fun i => if i = k then .int (nar .char x) else f i) ∧
      ∀ t, Steps p.tables e below (T'.setTop { g with pc := g.pc + 1, stack := rest }) t → Steps p.tables e below (T.setTop g) t := by
  obtain ⟨cl, A', q1, q2, q3⟩ := A.at hj ek hk
  obtain ⟨T', h', X', e', W', st⟩ := stC X hx hZ eT A' q1 hg hs hd
  exact ⟨T', h', X', e', W', A.set W' ek (fits_nar_char _), st⟩
theorem own_newP (X : Stand p l e R s m args below meth c T locs cells slots) (hx : p.tables.exec = Jvm.exec) (hZ : Z.Warmed39 s.vm) {aty : ArrayType} (w : (Cond.arrayClass (newarray.typeOf aty)).before a0 Z = true) (eT : T.heap = h) {z : Int32} (hz : ¬ z < 0) (en : z.toNatClampNeg = n) {cap : Nat} (hcap : n ≤ cap) (hb : cap * 8 ≤ 536870912) (hc : cells + 1 ≤ R.cells) (hl : slots + cap ≤ R.slots)
    {g : JFrame} (hg : g.method = m) {rest : List Value} (hs : g.stack = .int z :: rest) (hd : decode c.code g.pc = .ok (.newarray aty, 2)) :
    ∃ T' h', Stand p l e R s m args below meth c T' locs (cells + 1) (slots + cap) ∧ T'.heap = h' ∧ Ext h h' ∧ OA Z h' h.size (newarray.typeOf aty) n (fun _ => defaultValue (newarray.typeOf aty)) ∧
      ∀ t, Steps p.tables e below (T'.setTop { g with pc := g.pc + 2, stack := .ref h.size :: rest }) t → Steps p.tables e below (T.setTop g) t := by
  obtain ⟨T', h', cA, X', e', E', A', st⟩ := newP X hx hZ w eT hg hd hs hz (cap := cap) (en ▸ hcap) hb hc hl
  exact ⟨T', h', X', e', E', OA.new A' (by cases aty <;> rfl) en, st⟩
theorem OA.arv (A : OA Z h a ty n f) (d : Value) : ∃ k, Arv Z h a k ty (Int32.ofNat n) ((List.range n).map f) d := by
  obtain ⟨c, A, r1, r2, H⟩ := A
  have q : ∀ i, i < n → ((List.range n).map f).getD i d = f i := fun i hi => by simp [hi]
  exact ⟨c.cls, c, A, rfl, by rw [own_clamp n r2]; exact r1, own_nneg n r2, fun i hi => by rw [q i (by omega)]; exact (H i (by omega)).1, fun i hi => by rw [q i (by omega)]; exact (H i (by omega)).2⟩
theorem OA.of_arv {k : ClassId} {vs : List Value} {d : Value} {z : Int32} (A : Arv Z h a k ty z vs d) (e : z.toNatClampNeg = n) (q : ∀ i, i < n → vs.getD i d = f i) : OA Z h a ty n f := by
  obtain ⟨c, A, r1, r2, r3, H, G⟩ := A
  refine ⟨c, A, by omega, ?_, fun i hi => ?_⟩
  · have := z.toInt_lt
    have h2 : z.toNatClampNeg = z.toInt.toNat := rfl
    omega
  · rw [← q i hi]
    exact ⟨H i (by omega), G i (by omega)⟩
theorem own_spliced (vd us : List Value) (d : Value) (dp m : Nat) (hu : us.length = m) (hl : dp + m ≤ vd.length) (i : Nat) : (vd.take dp ++ us ++ vd.drop (dp + m)).getD i d = if dp ≤ i ∧ i < dp + m then us.getD (i - dp) d else vd.getD i d := by
  have h1 : (vd.take dp).length = dp := by rw [List.length_take]; omega
  by_cases c1 : i < dp
  · rw [if_neg (by omega)]
    simp only [List.getD_eq_getElem?_getD]
    rw [List.append_assoc, List.getElem?_append_left (by omega), List.getElem?_take_of_lt c1]
  · by_cases c2 : i < dp + m
    · rw [if_pos ⟨by omega, c2⟩]
      simp only [List.getD_eq_getElem?_getD]
      rw [List.append_assoc, List.getElem?_append_right (by omega), h1, List.getElem?_append_left (by omega)]
    · rw [if_neg (by omega)]
      simp only [List.getD_eq_getElem?_getD]
      rw [List.getElem?_append_right (by rw [List.length_append]; omega), List.getElem?_drop, List.length_append, h1, hu]
      have e : dp + m + (i - (dp + m)) = i := by omega
      rw [e]
/-- System.arraycopy between arrays of one primitive kind -/
theorem own_copy (X : Stand p l e R s m args below meth c T locs cells slots) (hx : p.tables.exec = Jvm.exec) (hZ : Z.Warmed39 s.vm) {own : String} {index : Nat} (hown : s.vm.findClass own = some m.cls)
    (w1 : (Cond.methodLink own index Jvm.Stand.acN).before a0 Z = true) (w2 : (Cond.native Jvm.Stand.acN).before a0 Z = true) (w3 : (Cond.static Jvm.Stand.acN).before a0 Z = true) (w4 : (Cond.initialized "java/lang/System").before a0 Z = true) (eT : T.heap = h)
    {n' sp dp nn : Nat} (A : OA Z h a ty n f) (B : OA Z h b ty n' f') (hty : refKind ty = false) (h1 : sp + nn ≤ n) (h2 : dp + nn ≤ n') {n0 : Nat} (N : Fr n0 locs) (ge : n0 ≤ b)
    {g : JFrame} (hg : g.method = m) (hsize : g.locals.size = c.maxLocals) {rest : List Value} (hs : g.stack = .int (Int32.ofNat nn) :: .int (Int32.ofNat dp) :: .ref b :: .int (Int32.ofNat sp) :: .ref a :: rest) (hd : decode c.code g.pc = .ok (.invokestatic index, 3))
    (hf : 1 ≤ R.frames) {W : Nat} (hW : 2 * g.monitorRoom + (rest.map fun v => v.category).sum ≤ W) (hlo : W + 18 ≤ R.locals) :
    ∃ T' h' L, Stand p l e R s m args below meth c T' L cells slots ∧ T'.heap = h' ∧ Fr n0 L ∧ Keep h h' [b] ∧ OA Z h' b ty n' (fun i => if dp ≤ i ∧ i < dp + nn then f (sp + (i - dp)) else f' i) ∧
      ∀ t, Steps p.tables e below (T'.setTop { g with pc := g.pc + 3, stack := rest }) t → Steps p.tables e below (T.setTop g) t := by
  have hn : n < 2 ^ 31 := by obtain ⟨c, A, r1, r2, H⟩ := A; exact r2
  have hn' : n' < 2 ^ 31 := by obtain ⟨c, A, r1, r2, H⟩ := B; exact r2
  obtain ⟨k, A'⟩ := A.arv (.int 0)
  obtain ⟨k', B'⟩ := B.arv (.int 0)
  have c1 := own_clamp sp (by omega)
  have c2 := own_clamp dp (by omega)
  have c3 := own_clamp nn (by omega)
  obtain ⟨T', h', L, X', e', N', K', A2, st⟩ := cpA X hx hZ hown w1 w2 w3 w4 eT A' B' (Or.inl ⟨rfl, hty⟩) (own_nneg sp (by omega)) (own_nneg dp (by omega)) (own_nneg nn (by omega)) (by rw [c1, c3, own_clamp n hn]; exact h1) (by rw [c2, c3, own_clamp n' hn']; exact h2) rfl (by rw [c2, c3]; simpa using h2) N ge hg hsize hs hd hf hW hlo
  refine ⟨T', h', L, X', e', N', K', OA.of_arv A2 (own_clamp n' hn') (fun i hi => ?_), st⟩
  rw [c1, c2, c3, own_spliced _ _ _ _ _ (by simp) (by simpa using h2)]
  by_cases q : dp ≤ i ∧ i < dp + nn
  · rw [if_pos q, if_pos q]
    have q3 : i - dp < nn := by omega
    have q4 : sp + (i - dp) < n := by omega
    simp [q3, q4]
  · rw [if_neg q, if_neg q]
    simp [hi]
/-- an array of references of class C: of n places, place j holds f j -/
def OR (Z : State) (h : Heap) (a : Addr) (C : String) (n : Nat) (f : Nat → Value) : Prop :=
  ∃ c : Cell, Arr Z h a c (.object C) ∧ Ovr Z c.cls C ∧ c.slots.size = n ∧ n < 2 ^ 31 ∧ ∀ j, j < n → c.slots[j]? = some (f j) ∧ (f j).isRef = true
variable {C : String}
theorem OR.ext (A : OR Z h a C n f) (E : Ext h h') : OR Z h' a C n f := by obtain ⟨c, A, r⟩ := A; exact ⟨c, A.ext E, r⟩
theorem OR.other (A : OR Z h b C n f) (W : Wr h h' a sl v) (q : b ≠ a) : OR Z h' b C n f := by obtain ⟨c, A, r⟩ := A; exact ⟨c, A.other W q, r⟩
theorem OR.keep (A : OR Z h a C n f) (K : Keep h h' ws) (q : a ∉ ws) : OR Z h' a C n f := by obtain ⟨c, A, r⟩ := A; exact ⟨c, ⟨K.2.1 a c A.1 q, A.2⟩, r⟩
theorem OR.lt (A : OR Z h a C n f) : a < h.size := by obtain ⟨c, A, -⟩ := A; exact A.lt
theorem OR.congr (A : OR Z h a C n f) (q : ∀ j, j < n → f j = f' j) : OR Z h a C n f' := by
  obtain ⟨c, A, o, r1, r2, H⟩ := A
  exact ⟨c, A, o, r1, r2, fun j hj => by rw [← q j hj]; exact H j hj⟩
theorem own_newR (X : Stand p l e R s m args below meth c T locs cells slots) (hx : p.tables.exec = Jvm.exec) (hZ : Z.Warmed39 s.vm) {own : String} {index : Nat} (hown : s.vm.findClass own = some m.cls) (w1 : (Cond.classLink own index C).before a0 Z = true) (w2 : (Cond.arrayOver (.object C)).before a0 Z = true) (eT : T.heap = h) {z : Int32} (hz : ¬ z < 0) (en : z.toNatClampNeg = n) {cap : Nat} (hcap : n ≤ cap) (hb : cap * 8 ≤ 536870912) (hc : cells + 1 ≤ R.cells) (hl : slots + cap ≤ R.slots)
    {g : JFrame} (hg : g.method = m) {rest : List Value} (hs : g.stack = .int z :: rest) (hd : decode c.code g.pc = .ok (.anewarray index, 3)) :
    ∃ T' h', Stand p l e R s m args below meth c T' locs (cells + 1) (slots + cap) ∧ T'.heap = h' ∧ Ext h h' ∧ OR Z h' h.size C n (fun _ => .null) ∧
      ∀ t, Steps p.tables e below (T'.setTop { g with pc := g.pc + 3, stack := .ref h.size :: rest }) t → Steps p.tables e below (T.setTop g) t := by
  obtain ⟨T', h', cA, X', e', E', A', O', st⟩ := newR X hx hZ hown w1 w2 eT hg hd hs hz (cap := cap) (en ▸ hcap) hb hc hl
  refine ⟨T', h', X', e', E', ⟨_, A', O', by rw [sz_new]; exact en, ?_, fun j hj => ⟨?_, rfl⟩⟩, st⟩
  · have := z.toInt_lt
    have h2 : z.toNatClampNeg = z.toInt.toNat := rfl
    omega
  · simp [newA, en, hj, defaultValue]
theorem own_stR (X : Stand p l e R s m args below meth c T locs cells slots) (hx : p.tables.exec = Jvm.exec) (hZ : Z.Warmed39 s.vm) (eT : T.heap = h) (A : OR Z h a C n f) {y : Addr} (I : Ins Z h y C true) (hj : ¬ j < 0) (ek : j.toNatClampNeg = k) (hk : k < n)
    {g : JFrame} (hg : g.method = m) {rest : List Value} (hs : g.stack = .ref y :: .int j :: .ref a :: rest) (hd : decode c.code g.pc = .ok (.aastore, 1)) :
    ∃ T' h', Stand p l e R s m args below meth c T' (locs ++ [⟨a, j.toNatClampNeg⟩]) cells slots ∧ T'.heap = h' ∧ Wr h h' a j.toNatClampNeg (.ref y) ∧ OR Z h' a C n (fun i => if i = k then .ref y else f i) ∧
      ∀ t, Steps p.tables e below (T'.setTop { g with pc := g.pc + 1, stack := rest }) t → Steps p.tables e below (T.setTop g) t := by
  obtain ⟨cl, A', O', r1, r2, H⟩ := A
  have q1 : ¬ (j < 0 ∨ cl.slots.size ≤ j.toNatClampNeg) := by
    rintro (q | q)
    · exact hj q
    · omega
  obtain ⟨T', h', X', e', W', st⟩ := stR X hx hZ eT A' q1 rfl (Sto.of A' O' I) hg hs hd
  refine ⟨T', h', X', e', W', ⟨_, A'.same W', O', by rw [sz_set]; exact r1, r2, fun i hi => ?_⟩, st⟩
  obtain ⟨H1, H2⟩ := H i hi
  subst ek
  by_cases q : i = j.toNatClampNeg
  · subst q
    dsimp only
    rw [if_pos rfl]
    exact ⟨by simp [Cell.setSlot, r1, hi], rfl⟩
  · dsimp only
    rw [if_neg q]
    refine ⟨?_, H2⟩
    rw [← H1]
    simp [Cell.setSlot, Array.getElem?_setIfInBounds, Ne.symm q]
theorem own_raload (X : Stand p l e R s m args below meth c T locs cells slots) (hx : p.tables.exec = Jvm.exec) (hZ : Z.Warmed39 s.vm) (eT : T.heap = h) (A : OR Z h a C n f) (hj : ¬ j < 0) (ek : j.toNatClampNeg = k) (hk : k < n) (hv : f k = v)
    {g : JFrame} (hg : g.method = m) {rest : List Value} (hs : g.stack = .int j :: .ref a :: rest) (hd : decode c.code g.pc = .ok (.aaload, 1)) :
    ∀ t, Steps p.tables e below (T.setTop { g with pc := g.pc + 1, stack := v :: rest }) t → Steps p.tables e below (T.setTop g) t := by
  obtain ⟨cl, A', O', r1, r2, H⟩ := A
  have q1 : ¬ (j < 0 ∨ cl.slots.size ≤ j.toNatClampNeg) := by
    rintro (q | q)
    · exact hj q
    · omega
  subst hv
  exact fun t k' => X.aaload hx (by rw [eT]; exact A'.1) (State.isArrayOf_alike hZ.alike A'.2.1) rfl A'.2.2 q1 (by rw [ek]; exact (H k hk).1) hg hs hd t k'
theorem own_fits_ref {t : FieldType} {w : Value} (ht : t.isReference = true) (hw : w.isRef = true) : fits t w = true := by
  cases w <;> simp [Value.isRef] at hw <;> cases t <;> first | rfl | (simp [FieldType.isReference] at ht)
end OwnLayer
def own_S (Z : State) (h : Heap) (K : Nat → Addr) : Prop := Sta Z h "com/example/orbweaver/orbweaver/idl/Definition$Kind" "MODULE" "Lcom/example/orbweaver/orbweaver/idl/Definition$Kind;" (.ref (K 0)) ∧ Sta Z h "com/example/orbweaver/orbweaver/idl/Definition$Kind" "INTERFACE" "Lcom/example/orbweaver/orbweaver/idl/Definition$Kind;" (.ref (K 1)) ∧ Sta Z h "com/example/orbweaver/orbweaver/idl/Definition$Kind" "VALUETYPE" "Lcom/example/orbweaver/orbweaver/idl/Definition$Kind;" (.ref (K 2)) ∧ Sta Z h "com/example/orbweaver/orbweaver/idl/Definition$Kind" "STRUCT" "Lcom/example/orbweaver/orbweaver/idl/Definition$Kind;" (.ref (K 3)) ∧ Sta Z h "com/example/orbweaver/orbweaver/idl/Definition$Kind" "UNION" "Lcom/example/orbweaver/orbweaver/idl/Definition$Kind;" (.ref (K 4)) ∧ Sta Z h "com/example/orbweaver/orbweaver/idl/Definition$Kind" "ENUM" "Lcom/example/orbweaver/orbweaver/idl/Definition$Kind;" (.ref (K 5)) ∧ Sta Z h "com/example/orbweaver/orbweaver/idl/Definition$Kind" "EXCEPTION" "Lcom/example/orbweaver/orbweaver/idl/Definition$Kind;" (.ref (K 6)) ∧ Sta Z h "com/example/orbweaver/orbweaver/idl/Definition$Kind" "TYPEDEF" "Lcom/example/orbweaver/orbweaver/idl/Definition$Kind;" (.ref (K 7)) ∧ Sta Z h "com/example/orbweaver/orbweaver/idl/Definition$Kind" "CONST" "Lcom/example/orbweaver/orbweaver/idl/Definition$Kind;" (.ref (K 8)) ∧ Sta Z h "com/example/orbweaver/orbweaver/idl/Definition$Kind" "ATTRIBUTE" "Lcom/example/orbweaver/orbweaver/idl/Definition$Kind;" (.ref (K 9)) ∧ Sta Z h "com/example/orbweaver/orbweaver/idl/Definition$Kind" "OPERATION" "Lcom/example/orbweaver/orbweaver/idl/Definition$Kind;" (.ref (K 10)) ∧ Sta Z h "com/example/orbweaver/orbweaver/idl/Definition$Kind" "PUBLIC" "Lcom/example/orbweaver/orbweaver/idl/Definition$Kind;" (.ref (K 11)) ∧ Sta Z h "com/example/orbweaver/orbweaver/idl/Definition$Kind" "PRIVATE" "Lcom/example/orbweaver/orbweaver/idl/Definition$Kind;" (.ref (K 12)) ∧ Sta Z h "com/example/orbweaver/orbweaver/idl/Definition$Kind" "FACTORY" "Lcom/example/orbweaver/orbweaver/idl/Definition$Kind;" (.ref (K 13)) ∧ Sta Z h "com/example/orbweaver/orbweaver/idl/Definition$Kind" "NATIVE" "Lcom/example/orbweaver/orbweaver/idl/Definition$Kind;" (.ref (K 14)) ∧ Sta Z h "com/example/orbweaver/orbweaver/idl/Definition$Kind" "ENUMERATOR" "Lcom/example/orbweaver/orbweaver/idl/Definition$Kind;" (.ref (K 15))
def own_ix (i : Int32) : Nat := if i = (0 : Int32) then 0 else if i = (1 : Int32) then 1 else if i = (2 : Int32) then 2 else if i = (3 : Int32) then 3 else if i = (4 : Int32) then 4 else if i = (5 : Int32) then 5 else if i = (6 : Int32) then 6 else if i = (7 : Int32) then 7 else if i = (8 : Int32) then 8 else if i = (9 : Int32) then 9 else if i = (10 : Int32) then 10 else if i = (11 : Int32) then 11 else if i = (12 : Int32) then 12 else if i = (13 : Int32) then 13 else if i = (14 : Int32) then 14 else 15
theorem ef_kindOf (m : MethodId) (x0 : Int32) : entryFrame m #[(.int x0)] 1 = mkF m 0 #[.val (.int x0)] [] := by first | (simp [entryFrame, mkF, argsToLocals, Value.category]; done) | rfl
theorem pn_com_example_orbweaver_orbweaver_idl_KindHasRepositoryIdPinLaw : plainName "com/example/orbweaver/orbweaver/idl/KindHasRepositoryIdPinLaw" = true := by first | (simp [plainName, overriddenIn]; done) | decide +kernel
theorem d_method_2_code_0 : decode method_2_code 0 = .ok (.iload_n 0, 1) := by decide +kernel
theorem d_method_2_code_1 : decode method_2_code 1 = .ok (.ifCond .ne 7, 3) := by decide +kernel
theorem d_method_2_code_4 : decode method_2_code 4 = .ok (.getstatic 7, 3) := by decide +kernel
theorem d_method_2_code_7 : decode method_2_code 7 = .ok (.areturn, 1) := by decide +kernel
theorem d_method_2_code_8 : decode method_2_code 8 = .ok (.iload_n 0, 1) := by decide +kernel
theorem d_method_2_code_9 : decode method_2_code 9 = .ok (.iconst 1, 1) := by decide +kernel
theorem d_method_2_code_10 : decode method_2_code 10 = .ok (.if_icmp .ne 7, 3) := by decide +kernel
theorem d_method_2_code_13 : decode method_2_code 13 = .ok (.getstatic 13, 3) := by decide +kernel
theorem d_method_2_code_16 : decode method_2_code 16 = .ok (.areturn, 1) := by decide +kernel
theorem d_method_2_code_17 : decode method_2_code 17 = .ok (.iload_n 0, 1) := by decide +kernel
theorem d_method_2_code_18 : decode method_2_code 18 = .ok (.iconst 2, 1) := by decide +kernel
theorem d_method_2_code_19 : decode method_2_code 19 = .ok (.if_icmp .ne 7, 3) := by decide +kernel
theorem d_method_2_code_22 : decode method_2_code 22 = .ok (.getstatic 16, 3) := by decide +kernel
theorem d_method_2_code_25 : decode method_2_code 25 = .ok (.areturn, 1) := by decide +kernel
theorem d_method_2_code_26 : decode method_2_code 26 = .ok (.iload_n 0, 1) := by decide +kernel
theorem d_method_2_code_27 : decode method_2_code 27 = .ok (.iconst 3, 1) := by decide +kernel
theorem d_method_2_code_28 : decode method_2_code 28 = .ok (.if_icmp .ne 7, 3) := by decide +kernel
theorem d_method_2_code_31 : decode method_2_code 31 = .ok (.getstatic 19, 3) := by decide +kernel
theorem d_method_2_code_34 : decode method_2_code 34 = .ok (.areturn, 1) := by decide +kernel
theorem d_method_2_code_35 : decode method_2_code 35 = .ok (.iload_n 0, 1) := by decide +kernel
theorem d_method_2_code_36 : decode method_2_code 36 = .ok (.iconst 4, 1) := by decide +kernel
theorem d_method_2_code_37 : decode method_2_code 37 = .ok (.if_icmp .ne 7, 3) := by decide +kernel
theorem d_method_2_code_40 : decode method_2_code 40 = .ok (.getstatic 22, 3) := by decide +kernel
theorem d_method_2_code_43 : decode method_2_code 43 = .ok (.areturn, 1) := by decide +kernel
theorem d_method_2_code_44 : decode method_2_code 44 = .ok (.iload_n 0, 1) := by decide +kernel
theorem d_method_2_code_45 : decode method_2_code 45 = .ok (.iconst 5, 1) := by decide +kernel
theorem d_method_2_code_46 : decode method_2_code 46 = .ok (.if_icmp .ne 7, 3) := by decide +kernel
theorem d_method_2_code_49 : decode method_2_code 49 = .ok (.getstatic 25, 3) := by decide +kernel
theorem d_method_2_code_52 : decode method_2_code 52 = .ok (.areturn, 1) := by decide +kernel
theorem d_method_2_code_53 : decode method_2_code 53 = .ok (.iload_n 0, 1) := by decide +kernel
theorem d_method_2_code_54 : decode method_2_code 54 = .ok (.bipush 6, 2) := by decide +kernel
theorem d_method_2_code_56 : decode method_2_code 56 = .ok (.if_icmp .ne 7, 3) := by decide +kernel
theorem d_method_2_code_59 : decode method_2_code 59 = .ok (.getstatic 28, 3) := by decide +kernel
theorem d_method_2_code_62 : decode method_2_code 62 = .ok (.areturn, 1) := by decide +kernel
theorem d_method_2_code_63 : decode method_2_code 63 = .ok (.iload_n 0, 1) := by decide +kernel
theorem d_method_2_code_64 : decode method_2_code 64 = .ok (.bipush 7, 2) := by decide +kernel
theorem d_method_2_code_66 : decode method_2_code 66 = .ok (.if_icmp .ne 7, 3) := by decide +kernel
theorem d_method_2_code_69 : decode method_2_code 69 = .ok (.getstatic 31, 3) := by decide +kernel
theorem d_method_2_code_72 : decode method_2_code 72 = .ok (.areturn, 1) := by decide +kernel
theorem d_method_2_code_73 : decode method_2_code 73 = .ok (.iload_n 0, 1) := by decide +kernel
theorem d_method_2_code_74 : decode method_2_code 74 = .ok (.bipush 8, 2) := by decide +kernel
theorem d_method_2_code_76 : decode method_2_code 76 = .ok (.if_icmp .ne 7, 3) := by decide +kernel
theorem d_method_2_code_79 : decode method_2_code 79 = .ok (.getstatic 34, 3) := by decide +kernel
theorem d_method_2_code_82 : decode method_2_code 82 = .ok (.areturn, 1) := by decide +kernel
theorem d_method_2_code_83 : decode method_2_code 83 = .ok (.iload_n 0, 1) := by decide +kernel
theorem d_method_2_code_84 : decode method_2_code 84 = .ok (.bipush 9, 2) := by decide +kernel
theorem d_method_2_code_86 : decode method_2_code 86 = .ok (.if_icmp .ne 7, 3) := by decide +kernel
theorem d_method_2_code_89 : decode method_2_code 89 = .ok (.getstatic 37, 3) := by decide +kernel
theorem d_method_2_code_92 : decode method_2_code 92 = .ok (.areturn, 1) := by decide +kernel
theorem d_method_2_code_93 : decode method_2_code 93 = .ok (.iload_n 0, 1) := by decide +kernel
theorem d_method_2_code_94 : decode method_2_code 94 = .ok (.bipush 10, 2) := by decide +kernel
theorem d_method_2_code_96 : decode method_2_code 96 = .ok (.if_icmp .ne 7, 3) := by decide +kernel
theorem d_method_2_code_99 : decode method_2_code 99 = .ok (.getstatic 40, 3) := by decide +kernel
theorem d_method_2_code_102 : decode method_2_code 102 = .ok (.areturn, 1) := by decide +kernel
theorem d_method_2_code_103 : decode method_2_code 103 = .ok (.iload_n 0, 1) := by decide +kernel
theorem d_method_2_code_104 : decode method_2_code 104 = .ok (.bipush 11, 2) := by decide +kernel
theorem d_method_2_code_106 : decode method_2_code 106 = .ok (.if_icmp .ne 7, 3) := by decide +kernel
theorem d_method_2_code_109 : decode method_2_code 109 = .ok (.getstatic 43, 3) := by decide +kernel
theorem d_method_2_code_112 : decode method_2_code 112 = .ok (.areturn, 1) := by decide +kernel
theorem d_method_2_code_113 : decode method_2_code 113 = .ok (.iload_n 0, 1) := by decide +kernel
theorem d_method_2_code_114 : decode method_2_code 114 = .ok (.bipush 12, 2) := by decide +kernel
theorem d_method_2_code_116 : decode method_2_code 116 = .ok (.if_icmp .ne 7, 3) := by decide +kernel
theorem d_method_2_code_119 : decode method_2_code 119 = .ok (.getstatic 46, 3) := by decide +kernel
theorem d_method_2_code_122 : decode method_2_code 122 = .ok (.areturn, 1) := by decide +kernel
theorem d_method_2_code_123 : decode method_2_code 123 = .ok (.iload_n 0, 1) := by decide +kernel
theorem d_method_2_code_124 : decode method_2_code 124 = .ok (.bipush 13, 2) := by decide +kernel
theorem d_method_2_code_126 : decode method_2_code 126 = .ok (.if_icmp .ne 7, 3) := by decide +kernel
theorem d_method_2_code_129 : decode method_2_code 129 = .ok (.getstatic 49, 3) := by decide +kernel
theorem d_method_2_code_132 : decode method_2_code 132 = .ok (.areturn, 1) := by decide +kernel
theorem d_method_2_code_133 : decode method_2_code 133 = .ok (.iload_n 0, 1) := by decide +kernel
theorem d_method_2_code_134 : decode method_2_code 134 = .ok (.bipush 14, 2) := by decide +kernel
theorem d_method_2_code_136 : decode method_2_code 136 = .ok (.if_icmp .ne 7, 3) := by decide +kernel
theorem d_method_2_code_139 : decode method_2_code 139 = .ok (.getstatic 52, 3) := by decide +kernel
theorem d_method_2_code_142 : decode method_2_code 142 = .ok (.areturn, 1) := by decide +kernel
theorem d_method_2_code_143 : decode method_2_code 143 = .ok (.getstatic 55, 3) := by decide +kernel
theorem d_method_2_code_146 : decode method_2_code 146 = .ok (.areturn, 1) := by decide +kernel
def Q_kindOf (Z : State) (p1 : Int32) (K : Nat → Addr) (h0 : Heap) (n0 : Nat) (v : Option Value) (h : Heap) (L : List Loc) : Prop := v = some (.ref (K (own_ix p1))) ∧ Fr n0 L ∧ h = h0
set_option maxRecDepth 65536 in
set_option maxHeartbeats 40000000 in
theorem rm_kindOf (l : Launch) (Z : State) (a0 : Array Value) (hw : ∀ d ∈ tables_1, d.before a0 Z = true) (ws : List Jvm.Cond) (p1 : Int32) (K : Nat → Addr) (h0 : Heap) (n0 : Nat) (Z0 : n0 ≤ h0.size) (SS : own_S Z h0 K) :
    MetFree l (⟨"com/example/orbweaver/orbweaver/idl/KindHasRepositoryIdPinLaw", "kindOf", "(I)Lcom/example/orbweaver/orbweaver/idl/Definition$Kind;"⟩ : MethodName) (head1 (Jvm.Cond.code (⟨"com/example/orbweaver/orbweaver/idl/KindHasRepositoryIdPinLaw", "kindOf", "(I)Lcom/example/orbweaver/orbweaver/idl/Definition$Kind;"⟩ : MethodName) method_2_code 1 (some (.object "com/example/orbweaver/orbweaver/idl/Definition$Kind")) :: ws) ({ frames := 0, cells := 0, slots := 0, locals := 0 } : Room)) (fun a U => a = #[(.int p1)] ∧ Z.Warmed39 U.vm ∧ U.heap = h0) (fun _ _ _ _ _ => True) (fun _ U o U' => ∃ v L, o = .returned v ∧ Q_kindOf Z p1 K h0 n0 v U'.heap L ∧ FrameEnd U o U' L ({ frames := 0, cells := 0, slots := 0, locals := 0 } : Room).cells ({ frames := 0, cells := 0, slots := 0, locals := 0 } : Room).slots) := by
  refine MetFree.of_bodySF (plainFor_of_name pn_com_example_orbweaver_orbweaver_idl_KindHasRepositoryIdPinLaw) hisR ?_
  intro p ee s m args below meth cc s₁ Bd hml0 hP hK
  obtain ⟨rfl, hZ, hh⟩ := hP
  have hx := Bd.exec
  have hby := Bd.bytes
  have hml : cc.maxLocals = 1 := hml0
  have hown : s.vm.findClass "com/example/orbweaver/orbweaver/idl/KindHasRepositoryIdPinLaw" = some m.cls := findClass_of_methodNamed Bd.named
  have hnm := (name_of_methodNamed Bd.named Bd.method).1
  have X0 : Stand p l ee ({ frames := 0, cells := 0, slots := 0, locals := 0 } : Room) s m #[(.int p1)] below meth cc s₁ [] 0 0 := Stand.of_body Bd
  have e0 : s₁.heap = h0 := by rw [← hh, Bd.state]; rfl
  have N0 := Fr.nil n0
  show Goes p ee below s ({ frames := 0, cells := 0, slots := 0, locals := 0 } : Room).cells ({ frames := 0, cells := 0, slots := 0, locals := 0 } : Room).slots (Q_kindOf Z p1 K h0 n0) (s₁.setTop (entryFrame m #[(.int p1)] 1))
  refine Goes.step (fun _ hr_ => castTop (ef_kindOf m p1) hr_) ?_
  show Goes p ee below s _ _ _ (s₁.setTop (mkF m 0 #[.val (.int p1)] []))
  refine Goes.step (fun _ hr_ => XS.iloadN X0.here hx rfl (hb hby d_method_2_code_0) rfl  hr_) ?_
  show Goes p ee below s _ _ _ (s₁.setTop (mkF m 1 #[.val (.int p1)] [(.int p1)]))
  by_cases hc1_1 : p1 = (0 : Int32)
  · refine Goes.step (fun _ hr_ => XS.ifNo X0.here hx rfl (hb hby d_method_2_code_1) rfl ((if0 _ _).trans (teq hc1_1).2) hr_) ?_
    show Goes p ee below s _ _ _ (s₁.setTop (mkF m 4 #[.val (.int p1)] []))
    obtain ⟨T2, X2, e2, st2⟩ := getS X0 hx hZ (host := "") hown (hw _ (List.mem_of_getElem? (i := 4) rfl)) Via.refl e0 SS.1 (g := (mkF m 4 #[.val (.int p1)] [])) rfl (hb hby d_method_2_code_4)
    refine Goes.step st2 ?_
    show Goes p ee below s _ _ _ (T2.setTop (mkF m 7 #[.val (.int p1)] [(.ref (K 0))]))
    refine Goes.retA X2 hx Bd.notSynchronized Bd.returns rfl rfl (hb hby d_method_2_code_7) (by decide) (by decide) ?_
    refine ⟨?_, N0, e2⟩
    simp [own_ix, hc1_1]
  · refine Goes.step (fun _ hr_ => XS.ifYes X0.here hx rfl (pc0 := 1) (pc' := 8) rfl (hb hby d_method_2_code_1) rfl ((if0 _ _).trans (feq hc1_1).2) (by decide) (by decide) hr_) ?_
    show Goes p ee below s _ _ _ (s₁.setTop (mkF m 8 #[.val (.int p1)] []))
    refine Goes.step (fun _ hr_ => XS.iloadN X0.here hx rfl (hb hby d_method_2_code_8) rfl  hr_) ?_
    show Goes p ee below s _ _ _ (s₁.setTop (mkF m 9 #[.val (.int p1)] [(.int p1)]))
    refine Goes.step (fun _ hr_ => XS.iconst X0.here hx rfl (hb hby d_method_2_code_9) hr_) ?_
    show Goes p ee below s _ _ _ (s₁.setTop (mkF m 10 #[.val (.int p1)] [(.int (1 : Int32)), (.int p1)]))
    by_cases hc10_3 : p1 = (1 : Int32)
    · refine Goes.step (fun _ hr_ => XS.icmpNo X0.here hx rfl (hb hby d_method_2_code_10) rfl (teq hc10_3).2 hr_) ?_
      show Goes p ee below s _ _ _ (s₁.setTop (mkF m 13 #[.val (.int p1)] []))
      obtain ⟨T4, X4, e4, st4⟩ := getS X0 hx hZ (host := "") hown (hw _ (List.mem_of_getElem? (i := 34) rfl)) Via.refl e0 SS.2.1 (g := (mkF m 13 #[.val (.int p1)] [])) rfl (hb hby d_method_2_code_13)
      refine Goes.step st4 ?_
      show Goes p ee below s _ _ _ (T4.setTop (mkF m 16 #[.val (.int p1)] [(.ref (K 1))]))
      refine Goes.retA X4 hx Bd.notSynchronized Bd.returns rfl rfl (hb hby d_method_2_code_16) (by decide) (by decide) ?_
      refine ⟨?_, N0, e4⟩
      simp [own_ix, hc1_1, hc10_3]
    · refine Goes.step (fun _ hr_ => XS.icmpYes X0.here hx rfl (pc0 := 10) (pc' := 17) rfl (hb hby d_method_2_code_10) rfl (feq hc10_3).2 (by decide) (by decide) hr_) ?_
      show Goes p ee below s _ _ _ (s₁.setTop (mkF m 17 #[.val (.int p1)] []))
      refine Goes.step (fun _ hr_ => XS.iloadN X0.here hx rfl (hb hby d_method_2_code_17) rfl  hr_) ?_
      show Goes p ee below s _ _ _ (s₁.setTop (mkF m 18 #[.val (.int p1)] [(.int p1)]))
      refine Goes.step (fun _ hr_ => XS.iconst X0.here hx rfl (hb hby d_method_2_code_18) hr_) ?_
      show Goes p ee below s _ _ _ (s₁.setTop (mkF m 19 #[.val (.int p1)] [(.int (2 : Int32)), (.int p1)]))
      by_cases hc19_5 : p1 = (2 : Int32)
      · refine Goes.step (fun _ hr_ => XS.icmpNo X0.here hx rfl (hb hby d_method_2_code_19) rfl (teq hc19_5).2 hr_) ?_
        show Goes p ee below s _ _ _ (s₁.setTop (mkF m 22 #[.val (.int p1)] []))
        obtain ⟨T6, X6, e6, st6⟩ := getS X0 hx hZ (host := "") hown (hw _ (List.mem_of_getElem? (i := 28) rfl)) Via.refl e0 SS.2.2.1 (g := (mkF m 22 #[.val (.int p1)] [])) rfl (hb hby d_method_2_code_22)
        refine Goes.step st6 ?_
        show Goes p ee below s _ _ _ (T6.setTop (mkF m 25 #[.val (.int p1)] [(.ref (K 2))]))
        refine Goes.retA X6 hx Bd.notSynchronized Bd.returns rfl rfl (hb hby d_method_2_code_25) (by decide) (by decide) ?_
        refine ⟨?_, N0, e6⟩
        simp [own_ix, hc1_1, hc10_3, hc19_5]
      · refine Goes.step (fun _ hr_ => XS.icmpYes X0.here hx rfl (pc0 := 19) (pc' := 26) rfl (hb hby d_method_2_code_19) rfl (feq hc19_5).2 (by decide) (by decide) hr_) ?_
        show Goes p ee below s _ _ _ (s₁.setTop (mkF m 26 #[.val (.int p1)] []))
        refine Goes.step (fun _ hr_ => XS.iloadN X0.here hx rfl (hb hby d_method_2_code_26) rfl  hr_) ?_
        show Goes p ee below s _ _ _ (s₁.setTop (mkF m 27 #[.val (.int p1)] [(.int p1)]))
        refine Goes.step (fun _ hr_ => XS.iconst X0.here hx rfl (hb hby d_method_2_code_27) hr_) ?_
        show Goes p ee below s _ _ _ (s₁.setTop (mkF m 28 #[.val (.int p1)] [(.int (3 : Int32)), (.int p1)]))
        by_cases hc28_7 : p1 = (3 : Int32)
        · refine Goes.step (fun _ hr_ => XS.icmpNo X0.here hx rfl (hb hby d_method_2_code_28) rfl (teq hc28_7).2 hr_) ?_
          show Goes p ee below s _ _ _ (s₁.setTop (mkF m 31 #[.val (.int p1)] []))
          obtain ⟨T8, X8, e8, st8⟩ := getS X0 hx hZ (host := "") hown (hw _ (List.mem_of_getElem? (i := 19) rfl)) Via.refl e0 SS.2.2.2.1 (g := (mkF m 31 #[.val (.int p1)] [])) rfl (hb hby d_method_2_code_31)
          refine Goes.step st8 ?_
          show Goes p ee below s _ _ _ (T8.setTop (mkF m 34 #[.val (.int p1)] [(.ref (K 3))]))
          refine Goes.retA X8 hx Bd.notSynchronized Bd.returns rfl rfl (hb hby d_method_2_code_34) (by decide) (by decide) ?_
          refine ⟨?_, N0, e8⟩
          simp [own_ix, hc1_1, hc10_3, hc19_5, hc28_7]
        · refine Goes.step (fun _ hr_ => XS.icmpYes X0.here hx rfl (pc0 := 28) (pc' := 35) rfl (hb hby d_method_2_code_28) rfl (feq hc28_7).2 (by decide) (by decide) hr_) ?_
          show Goes p ee below s _ _ _ (s₁.setTop (mkF m 35 #[.val (.int p1)] []))
          refine Goes.step (fun _ hr_ => XS.iloadN X0.here hx rfl (hb hby d_method_2_code_35) rfl  hr_) ?_
          show Goes p ee below s _ _ _ (s₁.setTop (mkF m 36 #[.val (.int p1)] [(.int p1)]))
          refine Goes.step (fun _ hr_ => XS.iconst X0.here hx rfl (hb hby d_method_2_code_36) hr_) ?_
          show Goes p ee below s _ _ _ (s₁.setTop (mkF m 37 #[.val (.int p1)] [(.int (4 : Int32)), (.int p1)]))
          by_cases hc37_9 : p1 = (4 : Int32)
          · refine Goes.step (fun _ hr_ => XS.icmpNo X0.here hx rfl (hb hby d_method_2_code_37) rfl (teq hc37_9).2 hr_) ?_
            show Goes p ee below s _ _ _ (s₁.setTop (mkF m 40 #[.val (.int p1)] []))
            obtain ⟨T10, X10, e10, st10⟩ := getS X0 hx hZ (host := "") hown (hw _ (List.mem_of_getElem? (i := 36) rfl)) Via.refl e0 SS.2.2.2.2.1 (g := (mkF m 40 #[.val (.int p1)] [])) rfl (hb hby d_method_2_code_40)
            refine Goes.step st10 ?_
            show Goes p ee below s _ _ _ (T10.setTop (mkF m 43 #[.val (.int p1)] [(.ref (K 4))]))
            refine Goes.retA X10 hx Bd.notSynchronized Bd.returns rfl rfl (hb hby d_method_2_code_43) (by decide) (by decide) ?_
            refine ⟨?_, N0, e10⟩
            simp [own_ix, hc1_1, hc10_3, hc19_5, hc28_7, hc37_9]
          · refine Goes.step (fun _ hr_ => XS.icmpYes X0.here hx rfl (pc0 := 37) (pc' := 44) rfl (hb hby d_method_2_code_37) rfl (feq hc37_9).2 (by decide) (by decide) hr_) ?_
            show Goes p ee below s _ _ _ (s₁.setTop (mkF m 44 #[.val (.int p1)] []))
            refine Goes.step (fun _ hr_ => XS.iloadN X0.here hx rfl (hb hby d_method_2_code_44) rfl  hr_) ?_
            show Goes p ee below s _ _ _ (s₁.setTop (mkF m 45 #[.val (.int p1)] [(.int p1)]))
            refine Goes.step (fun _ hr_ => XS.iconst X0.here hx rfl (hb hby d_method_2_code_45) hr_) ?_
            show Goes p ee below s _ _ _ (s₁.setTop (mkF m 46 #[.val (.int p1)] [(.int (5 : Int32)), (.int p1)]))
            by_cases hc46_11 : p1 = (5 : Int32)
            · refine Goes.step (fun _ hr_ => XS.icmpNo X0.here hx rfl (hb hby d_method_2_code_46) rfl (teq hc46_11).2 hr_) ?_
              show Goes p ee below s _ _ _ (s₁.setTop (mkF m 49 #[.val (.int p1)] []))
              obtain ⟨T12, X12, e12, st12⟩ := getS X0 hx hZ (host := "") hown (hw _ (List.mem_of_getElem? (i := 45) rfl)) Via.refl e0 SS.2.2.2.2.2.1 (g := (mkF m 49 #[.val (.int p1)] [])) rfl (hb hby d_method_2_code_49)
              refine Goes.step st12 ?_
              show Goes p ee below s _ _ _ (T12.setTop (mkF m 52 #[.val (.int p1)] [(.ref (K 5))]))
              refine Goes.retA X12 hx Bd.notSynchronized Bd.returns rfl rfl (hb hby d_method_2_code_52) (by decide) (by decide) ?_
              refine ⟨?_, N0, e12⟩
              simp [own_ix, hc1_1, hc10_3, hc19_5, hc28_7, hc37_9, hc46_11]
            · refine Goes.step (fun _ hr_ => XS.icmpYes X0.here hx rfl (pc0 := 46) (pc' := 53) rfl (hb hby d_method_2_code_46) rfl (feq hc46_11).2 (by decide) (by decide) hr_) ?_
              show Goes p ee below s _ _ _ (s₁.setTop (mkF m 53 #[.val (.int p1)] []))
              refine Goes.step (fun _ hr_ => XS.iloadN X0.here hx rfl (hb hby d_method_2_code_53) rfl  hr_) ?_
              show Goes p ee below s _ _ _ (s₁.setTop (mkF m 54 #[.val (.int p1)] [(.int p1)]))
              refine Goes.step (fun _ hr_ => XS.bipush X0.here hx rfl (hb hby d_method_2_code_54) hr_) ?_
              show Goes p ee below s _ _ _ (s₁.setTop (mkF m 56 #[.val (.int p1)] [(.int (6 : Int32)), (.int p1)]))
              by_cases hc56_13 : p1 = (6 : Int32)
              · refine Goes.step (fun _ hr_ => XS.icmpNo X0.here hx rfl (hb hby d_method_2_code_56) rfl (teq hc56_13).2 hr_) ?_
                show Goes p ee below s _ _ _ (s₁.setTop (mkF m 59 #[.val (.int p1)] []))
                obtain ⟨T14, X14, e14, st14⟩ := getS X0 hx hZ (host := "") hown (hw _ (List.mem_of_getElem? (i := 41) rfl)) Via.refl e0 SS.2.2.2.2.2.2.1 (g := (mkF m 59 #[.val (.int p1)] [])) rfl (hb hby d_method_2_code_59)
                refine Goes.step st14 ?_
                show Goes p ee below s _ _ _ (T14.setTop (mkF m 62 #[.val (.int p1)] [(.ref (K 6))]))
                refine Goes.retA X14 hx Bd.notSynchronized Bd.returns rfl rfl (hb hby d_method_2_code_62) (by decide) (by decide) ?_
                refine ⟨?_, N0, e14⟩
                simp [own_ix, hc1_1, hc10_3, hc19_5, hc28_7, hc37_9, hc46_11, hc56_13]
              · refine Goes.step (fun _ hr_ => XS.icmpYes X0.here hx rfl (pc0 := 56) (pc' := 63) rfl (hb hby d_method_2_code_56) rfl (feq hc56_13).2 (by decide) (by decide) hr_) ?_
                show Goes p ee below s _ _ _ (s₁.setTop (mkF m 63 #[.val (.int p1)] []))
                refine Goes.step (fun _ hr_ => XS.iloadN X0.here hx rfl (hb hby d_method_2_code_63) rfl  hr_) ?_
                show Goes p ee below s _ _ _ (s₁.setTop (mkF m 64 #[.val (.int p1)] [(.int p1)]))
                refine Goes.step (fun _ hr_ => XS.bipush X0.here hx rfl (hb hby d_method_2_code_64) hr_) ?_
                show Goes p ee below s _ _ _ (s₁.setTop (mkF m 66 #[.val (.int p1)] [(.int (7 : Int32)), (.int p1)]))
                by_cases hc66_15 : p1 = (7 : Int32)
                · refine Goes.step (fun _ hr_ => XS.icmpNo X0.here hx rfl (hb hby d_method_2_code_66) rfl (teq hc66_15).2 hr_) ?_
                  show Goes p ee below s _ _ _ (s₁.setTop (mkF m 69 #[.val (.int p1)] []))
                  obtain ⟨T16, X16, e16, st16⟩ := getS X0 hx hZ (host := "") hown (hw _ (List.mem_of_getElem? (i := 26) rfl)) Via.refl e0 SS.2.2.2.2.2.2.2.1 (g := (mkF m 69 #[.val (.int p1)] [])) rfl (hb hby d_method_2_code_69)
                  refine Goes.step st16 ?_
                  show Goes p ee below s _ _ _ (T16.setTop (mkF m 72 #[.val (.int p1)] [(.ref (K 7))]))
                  refine Goes.retA X16 hx Bd.notSynchronized Bd.returns rfl rfl (hb hby d_method_2_code_72) (by decide) (by decide) ?_
                  refine ⟨?_, N0, e16⟩
                  simp [own_ix, hc1_1, hc10_3, hc19_5, hc28_7, hc37_9, hc46_11, hc56_13, hc66_15]
                · refine Goes.step (fun _ hr_ => XS.icmpYes X0.here hx rfl (pc0 := 66) (pc' := 73) rfl (hb hby d_method_2_code_66) rfl (feq hc66_15).2 (by decide) (by decide) hr_) ?_
                  show Goes p ee below s _ _ _ (s₁.setTop (mkF m 73 #[.val (.int p1)] []))
                  refine Goes.step (fun _ hr_ => XS.iloadN X0.here hx rfl (hb hby d_method_2_code_73) rfl  hr_) ?_
                  show Goes p ee below s _ _ _ (s₁.setTop (mkF m 74 #[.val (.int p1)] [(.int p1)]))
                  refine Goes.step (fun _ hr_ => XS.bipush X0.here hx rfl (hb hby d_method_2_code_74) hr_) ?_
                  show Goes p ee below s _ _ _ (s₁.setTop (mkF m 76 #[.val (.int p1)] [(.int (8 : Int32)), (.int p1)]))
                  by_cases hc76_17 : p1 = (8 : Int32)
                  · refine Goes.step (fun _ hr_ => XS.icmpNo X0.here hx rfl (hb hby d_method_2_code_76) rfl (teq hc76_17).2 hr_) ?_
                    show Goes p ee below s _ _ _ (s₁.setTop (mkF m 79 #[.val (.int p1)] []))
                    obtain ⟨T18, X18, e18, st18⟩ := getS X0 hx hZ (host := "") hown (hw _ (List.mem_of_getElem? (i := 32) rfl)) Via.refl e0 SS.2.2.2.2.2.2.2.2.1 (g := (mkF m 79 #[.val (.int p1)] [])) rfl (hb hby d_method_2_code_79)
                    refine Goes.step st18 ?_
                    show Goes p ee below s _ _ _ (T18.setTop (mkF m 82 #[.val (.int p1)] [(.ref (K 8))]))
                    refine Goes.retA X18 hx Bd.notSynchronized Bd.returns rfl rfl (hb hby d_method_2_code_82) (by decide) (by decide) ?_
                    refine ⟨?_, N0, e18⟩
                    simp [own_ix, hc1_1, hc10_3, hc19_5, hc28_7, hc37_9, hc46_11, hc56_13, hc66_15, hc76_17]
                  · refine Goes.step (fun _ hr_ => XS.icmpYes X0.here hx rfl (pc0 := 76) (pc' := 83) rfl (hb hby d_method_2_code_76) rfl (feq hc76_17).2 (by decide) (by decide) hr_) ?_
                    show Goes p ee below s _ _ _ (s₁.setTop (mkF m 83 #[.val (.int p1)] []))
                    refine Goes.step (fun _ hr_ => XS.iloadN X0.here hx rfl (hb hby d_method_2_code_83) rfl  hr_) ?_
                    show Goes p ee below s _ _ _ (s₁.setTop (mkF m 84 #[.val (.int p1)] [(.int p1)]))
                    refine Goes.step (fun _ hr_ => XS.bipush X0.here hx rfl (hb hby d_method_2_code_84) hr_) ?_
                    show Goes p ee below s _ _ _ (s₁.setTop (mkF m 86 #[.val (.int p1)] [(.int (9 : Int32)), (.int p1)]))
                    by_cases hc86_19 : p1 = (9 : Int32)
                    · refine Goes.step (fun _ hr_ => XS.icmpNo X0.here hx rfl (hb hby d_method_2_code_86) rfl (teq hc86_19).2 hr_) ?_
                      show Goes p ee below s _ _ _ (s₁.setTop (mkF m 89 #[.val (.int p1)] []))
                      obtain ⟨T20, X20, e20, st20⟩ := getS X0 hx hZ (host := "") hown (hw _ (List.mem_of_getElem? (i := 43) rfl)) Via.refl e0 SS.2.2.2.2.2.2.2.2.2.1 (g := (mkF m 89 #[.val (.int p1)] [])) rfl (hb hby d_method_2_code_89)
                      refine Goes.step st20 ?_
                      show Goes p ee below s _ _ _ (T20.setTop (mkF m 92 #[.val (.int p1)] [(.ref (K 9))]))
                      refine Goes.retA X20 hx Bd.notSynchronized Bd.returns rfl rfl (hb hby d_method_2_code_92) (by decide) (by decide) ?_
                      refine ⟨?_, N0, e20⟩
                      simp [own_ix, hc1_1, hc10_3, hc19_5, hc28_7, hc37_9, hc46_11, hc56_13, hc66_15, hc76_17, hc86_19]
                    · refine Goes.step (fun _ hr_ => XS.icmpYes X0.here hx rfl (pc0 := 86) (pc' := 93) rfl (hb hby d_method_2_code_86) rfl (feq hc86_19).2 (by decide) (by decide) hr_) ?_
                      show Goes p ee below s _ _ _ (s₁.setTop (mkF m 93 #[.val (.int p1)] []))
                      refine Goes.step (fun _ hr_ => XS.iloadN X0.here hx rfl (hb hby d_method_2_code_93) rfl  hr_) ?_
                      show Goes p ee below s _ _ _ (s₁.setTop (mkF m 94 #[.val (.int p1)] [(.int p1)]))
                      refine Goes.step (fun _ hr_ => XS.bipush X0.here hx rfl (hb hby d_method_2_code_94) hr_) ?_
                      show Goes p ee below s _ _ _ (s₁.setTop (mkF m 96 #[.val (.int p1)] [(.int (10 : Int32)), (.int p1)]))
                      by_cases hc96_21 : p1 = (10 : Int32)
                      · refine Goes.step (fun _ hr_ => XS.icmpNo X0.here hx rfl (hb hby d_method_2_code_96) rfl (teq hc96_21).2 hr_) ?_
                        show Goes p ee below s _ _ _ (s₁.setTop (mkF m 99 #[.val (.int p1)] []))
                        obtain ⟨T22, X22, e22, st22⟩ := getS X0 hx hZ (host := "") hown (hw _ (List.mem_of_getElem? (i := 24) rfl)) Via.refl e0 SS.2.2.2.2.2.2.2.2.2.2.1 (g := (mkF m 99 #[.val (.int p1)] [])) rfl (hb hby d_method_2_code_99)
                        refine Goes.step st22 ?_
                        show Goes p ee below s _ _ _ (T22.setTop (mkF m 102 #[.val (.int p1)] [(.ref (K 10))]))
                        refine Goes.retA X22 hx Bd.notSynchronized Bd.returns rfl rfl (hb hby d_method_2_code_102) (by decide) (by decide) ?_
                        refine ⟨?_, N0, e22⟩
                        simp [own_ix, hc1_1, hc10_3, hc19_5, hc28_7, hc37_9, hc46_11, hc56_13, hc66_15, hc76_17, hc86_19, hc96_21]
                      · refine Goes.step (fun _ hr_ => XS.icmpYes X0.here hx rfl (pc0 := 96) (pc' := 103) rfl (hb hby d_method_2_code_96) rfl (feq hc96_21).2 (by decide) (by decide) hr_) ?_
                        show Goes p ee below s _ _ _ (s₁.setTop (mkF m 103 #[.val (.int p1)] []))
                        refine Goes.step (fun _ hr_ => XS.iloadN X0.here hx rfl (hb hby d_method_2_code_103) rfl  hr_) ?_
                        show Goes p ee below s _ _ _ (s₁.setTop (mkF m 104 #[.val (.int p1)] [(.int p1)]))
                        refine Goes.step (fun _ hr_ => XS.bipush X0.here hx rfl (hb hby d_method_2_code_104) hr_) ?_
                        show Goes p ee below s _ _ _ (s₁.setTop (mkF m 106 #[.val (.int p1)] [(.int (11 : Int32)), (.int p1)]))
                        by_cases hc106_23 : p1 = (11 : Int32)
                        · refine Goes.step (fun _ hr_ => XS.icmpNo X0.here hx rfl (hb hby d_method_2_code_106) rfl (teq hc106_23).2 hr_) ?_
                          show Goes p ee below s _ _ _ (s₁.setTop (mkF m 109 #[.val (.int p1)] []))
                          obtain ⟨T24, X24, e24, st24⟩ := getS X0 hx hZ (host := "") hown (hw _ (List.mem_of_getElem? (i := 30) rfl)) Via.refl e0 SS.2.2.2.2.2.2.2.2.2.2.2.1 (g := (mkF m 109 #[.val (.int p1)] [])) rfl (hb hby d_method_2_code_109)
                          refine Goes.step st24 ?_
                          show Goes p ee below s _ _ _ (T24.setTop (mkF m 112 #[.val (.int p1)] [(.ref (K 11))]))
                          refine Goes.retA X24 hx Bd.notSynchronized Bd.returns rfl rfl (hb hby d_method_2_code_112) (by decide) (by decide) ?_
                          refine ⟨?_, N0, e24⟩
                          simp [own_ix, hc1_1, hc10_3, hc19_5, hc28_7, hc37_9, hc46_11, hc56_13, hc66_15, hc76_17, hc86_19, hc96_21, hc106_23]
                        · refine Goes.step (fun _ hr_ => XS.icmpYes X0.here hx rfl (pc0 := 106) (pc' := 113) rfl (hb hby d_method_2_code_106) rfl (feq hc106_23).2 (by decide) (by decide) hr_) ?_
                          show Goes p ee below s _ _ _ (s₁.setTop (mkF m 113 #[.val (.int p1)] []))
                          refine Goes.step (fun _ hr_ => XS.iloadN X0.here hx rfl (hb hby d_method_2_code_113) rfl  hr_) ?_
                          show Goes p ee below s _ _ _ (s₁.setTop (mkF m 114 #[.val (.int p1)] [(.int p1)]))
                          refine Goes.step (fun _ hr_ => XS.bipush X0.here hx rfl (hb hby d_method_2_code_114) hr_) ?_
                          show Goes p ee below s _ _ _ (s₁.setTop (mkF m 116 #[.val (.int p1)] [(.int (12 : Int32)), (.int p1)]))
                          by_cases hc116_25 : p1 = (12 : Int32)
                          · refine Goes.step (fun _ hr_ => XS.icmpNo X0.here hx rfl (hb hby d_method_2_code_116) rfl (teq hc116_25).2 hr_) ?_
                            show Goes p ee below s _ _ _ (s₁.setTop (mkF m 119 #[.val (.int p1)] []))
                            obtain ⟨T26, X26, e26, st26⟩ := getS X0 hx hZ (host := "") hown (hw _ (List.mem_of_getElem? (i := 38) rfl)) Via.refl e0 SS.2.2.2.2.2.2.2.2.2.2.2.2.1 (g := (mkF m 119 #[.val (.int p1)] [])) rfl (hb hby d_method_2_code_119)
                            refine Goes.step st26 ?_
                            show Goes p ee below s _ _ _ (T26.setTop (mkF m 122 #[.val (.int p1)] [(.ref (K 12))]))
                            refine Goes.retA X26 hx Bd.notSynchronized Bd.returns rfl rfl (hb hby d_method_2_code_122) (by decide) (by decide) ?_
                            refine ⟨?_, N0, e26⟩
                            simp [own_ix, hc1_1, hc10_3, hc19_5, hc28_7, hc37_9, hc46_11, hc56_13, hc66_15, hc76_17, hc86_19, hc96_21, hc106_23, hc116_25]
                          · refine Goes.step (fun _ hr_ => XS.icmpYes X0.here hx rfl (pc0 := 116) (pc' := 123) rfl (hb hby d_method_2_code_116) rfl (feq hc116_25).2 (by decide) (by decide) hr_) ?_
                            show Goes p ee below s _ _ _ (s₁.setTop (mkF m 123 #[.val (.int p1)] []))
                            refine Goes.step (fun _ hr_ => XS.iloadN X0.here hx rfl (hb hby d_method_2_code_123) rfl  hr_) ?_
                            show Goes p ee below s _ _ _ (s₁.setTop (mkF m 124 #[.val (.int p1)] [(.int p1)]))
                            refine Goes.step (fun _ hr_ => XS.bipush X0.here hx rfl (hb hby d_method_2_code_124) hr_) ?_
                            show Goes p ee below s _ _ _ (s₁.setTop (mkF m 126 #[.val (.int p1)] [(.int (13 : Int32)), (.int p1)]))
                            by_cases hc126_27 : p1 = (13 : Int32)
                            · refine Goes.step (fun _ hr_ => XS.icmpNo X0.here hx rfl (hb hby d_method_2_code_126) rfl (teq hc126_27).2 hr_) ?_
                              show Goes p ee below s _ _ _ (s₁.setTop (mkF m 129 #[.val (.int p1)] []))
                              obtain ⟨T28, X28, e28, st28⟩ := getS X0 hx hZ (host := "") hown (hw _ (List.mem_of_getElem? (i := 40) rfl)) Via.refl e0 SS.2.2.2.2.2.2.2.2.2.2.2.2.2.1 (g := (mkF m 129 #[.val (.int p1)] [])) rfl (hb hby d_method_2_code_129)
                              refine Goes.step st28 ?_
                              show Goes p ee below s _ _ _ (T28.setTop (mkF m 132 #[.val (.int p1)] [(.ref (K 13))]))
                              refine Goes.retA X28 hx Bd.notSynchronized Bd.returns rfl rfl (hb hby d_method_2_code_132) (by decide) (by decide) ?_
                              refine ⟨?_, N0, e28⟩
                              simp [own_ix, hc1_1, hc10_3, hc19_5, hc28_7, hc37_9, hc46_11, hc56_13, hc66_15, hc76_17, hc86_19, hc96_21, hc106_23, hc116_25, hc126_27]
                            · refine Goes.step (fun _ hr_ => XS.icmpYes X0.here hx rfl (pc0 := 126) (pc' := 133) rfl (hb hby d_method_2_code_126) rfl (feq hc126_27).2 (by decide) (by decide) hr_) ?_
                              show Goes p ee below s _ _ _ (s₁.setTop (mkF m 133 #[.val (.int p1)] []))
                              refine Goes.step (fun _ hr_ => XS.iloadN X0.here hx rfl (hb hby d_method_2_code_133) rfl  hr_) ?_
                              show Goes p ee below s _ _ _ (s₁.setTop (mkF m 134 #[.val (.int p1)] [(.int p1)]))
                              refine Goes.step (fun _ hr_ => XS.bipush X0.here hx rfl (hb hby d_method_2_code_134) hr_) ?_
                              show Goes p ee below s _ _ _ (s₁.setTop (mkF m 136 #[.val (.int p1)] [(.int (14 : Int32)), (.int p1)]))
                              by_cases hc136_29 : p1 = (14 : Int32)
                              · refine Goes.step (fun _ hr_ => XS.icmpNo X0.here hx rfl (hb hby d_method_2_code_136) rfl (teq hc136_29).2 hr_) ?_
                                show Goes p ee below s _ _ _ (s₁.setTop (mkF m 139 #[.val (.int p1)] []))
                                obtain ⟨T30, X30, e30, st30⟩ := getS X0 hx hZ (host := "") hown (hw _ (List.mem_of_getElem? (i := 21) rfl)) Via.refl e0 SS.2.2.2.2.2.2.2.2.2.2.2.2.2.2.1 (g := (mkF m 139 #[.val (.int p1)] [])) rfl (hb hby d_method_2_code_139)
                                refine Goes.step st30 ?_
                                show Goes p ee below s _ _ _ (T30.setTop (mkF m 142 #[.val (.int p1)] [(.ref (K 14))]))
                                refine Goes.retA X30 hx Bd.notSynchronized Bd.returns rfl rfl (hb hby d_method_2_code_142) (by decide) (by decide) ?_
                                refine ⟨?_, N0, e30⟩
                                simp [own_ix, hc1_1, hc10_3, hc19_5, hc28_7, hc37_9, hc46_11, hc56_13, hc66_15, hc76_17, hc86_19, hc96_21, hc106_23, hc116_25, hc126_27, hc136_29]
                              · refine Goes.step (fun _ hr_ => XS.icmpYes X0.here hx rfl (pc0 := 136) (pc' := 143) rfl (hb hby d_method_2_code_136) rfl (feq hc136_29).2 (by decide) (by decide) hr_) ?_
                                show Goes p ee below s _ _ _ (s₁.setTop (mkF m 143 #[.val (.int p1)] []))
                                obtain ⟨T31, X31, e31, st31⟩ := getS X0 hx hZ (host := "") hown (hw _ (List.mem_of_getElem? (i := 23) rfl)) Via.refl e0 SS.2.2.2.2.2.2.2.2.2.2.2.2.2.2.2 (g := (mkF m 143 #[.val (.int p1)] [])) rfl (hb hby d_method_2_code_143)
                                refine Goes.step st31 ?_
                                show Goes p ee below s _ _ _ (T31.setTop (mkF m 146 #[.val (.int p1)] [(.ref (K 15))]))
                                refine Goes.retA X31 hx Bd.notSynchronized Bd.returns rfl rfl (hb hby d_method_2_code_146) (by decide) (by decide) ?_
                                refine ⟨?_, N0, e31⟩
                                simp [own_ix, hc1_1, hc10_3, hc19_5, hc28_7, hc37_9, hc46_11, hc56_13, hc66_15, hc76_17, hc86_19, hc96_21, hc106_23, hc116_25, hc126_27, hc136_29]
theorem ef_hri (m : MethodId) (x0 : Addr) : entryFrame m #[(.ref x0)] 1 = mkF m 0 #[.val (.ref x0)] [] := by first | (simp [entryFrame, mkF, argsToLocals, Value.category]; done) | rfl
theorem pn_com_example_orbweaver_orbweaver_idl_Definition_Kind : plainName "com/example/orbweaver/orbweaver/idl/Definition$Kind" = true := by first | (simp [plainName, overriddenIn]; done) | decide +kernel
theorem d_prog_24_method_4_code_0 : decode prog_24_method_4_code 0 = .ok (.aload_n 0, 1) := by decide +kernel
theorem d_prog_24_method_4_code_1 : decode prog_24_method_4_code 1 = .ok (.getstatic 49, 3) := by decide +kernel
theorem d_prog_24_method_4_code_4 : decode prog_24_method_4_code 4 = .ok (.if_acmp .eq 14, 3) := by decide +kernel
theorem d_prog_24_method_4_code_18 : decode prog_24_method_4_code 18 = .ok (.iconst 0, 1) := by decide +kernel
theorem d_prog_24_method_4_code_19 : decode prog_24_method_4_code 19 = .ok (.ireturn, 1) := by decide +kernel
theorem d_prog_24_method_4_code_7 : decode prog_24_method_4_code 7 = .ok (.aload_n 0, 1) := by decide +kernel
theorem d_prog_24_method_4_code_8 : decode prog_24_method_4_code 8 = .ok (.getstatic 43, 3) := by decide +kernel
theorem d_prog_24_method_4_code_11 : decode prog_24_method_4_code 11 = .ok (.if_acmp .eq 7, 3) := by decide +kernel
theorem d_prog_24_method_4_code_14 : decode prog_24_method_4_code 14 = .ok (.iconst 1, 1) := by decide +kernel
theorem d_prog_24_method_4_code_15 : decode prog_24_method_4_code 15 = .ok (.goto 4, 3) := by decide +kernel
def Q_hri (Z : State) (a1 : Addr) (K : Nat → Addr) (h0 : Heap) (n0 : Nat) (v : Option Value) (h : Heap) (L : List Loc) : Prop := v = some (.int (if a1 = K 15 then 0 else if a1 = K 13 then 0 else 1)) ∧ Fr n0 L ∧ h = h0
set_option maxRecDepth 65536 in
set_option maxHeartbeats 40000000 in
theorem rm_hri (l : Launch) (Z : State) (a0 : Array Value) (hw : ∀ d ∈ tables_1, d.before a0 Z = true) (ws : List Jvm.Cond) (a1 : Addr) (K : Nat → Addr) (h0 : Heap) (n0 : Nat) (Z0 : n0 ≤ h0.size) (SS : own_S Z h0 K) :
    MetFree l (⟨"com/example/orbweaver/orbweaver/idl/Definition$Kind", "hasRepositoryId", "()Z"⟩ : MethodName) (head1 (Jvm.Cond.code (⟨"com/example/orbweaver/orbweaver/idl/Definition$Kind", "hasRepositoryId", "()Z"⟩ : MethodName) prog_24_method_4_code 1 (some .boolean) :: ws) ({ frames := 0, cells := 0, slots := 0, locals := 0 } : Room)) (fun a U => a = #[(.ref a1)] ∧ Z.Warmed39 U.vm ∧ U.heap = h0) (fun _ _ _ _ _ => True) (fun _ U o U' => ∃ v L, o = .returned v ∧ Q_hri Z a1 K h0 n0 v U'.heap L ∧ FrameEnd U o U' L ({ frames := 0, cells := 0, slots := 0, locals := 0 } : Room).cells ({ frames := 0, cells := 0, slots := 0, locals := 0 } : Room).slots) := by
  refine MetFree.of_bodySF (plainFor_of_name pn_com_example_orbweaver_orbweaver_idl_Definition_Kind) hisR ?_
  intro p ee s m args below meth cc s₁ Bd hml0 hP hK
  obtain ⟨rfl, hZ, hh⟩ := hP
  have hx := Bd.exec
  have hby := Bd.bytes
  have hml : cc.maxLocals = 1 := hml0
  have hown : s.vm.findClass "com/example/orbweaver/orbweaver/idl/Definition$Kind" = some m.cls := findClass_of_methodNamed Bd.named
  have hnm := (name_of_methodNamed Bd.named Bd.method).1
  have X0 : Stand p l ee ({ frames := 0, cells := 0, slots := 0, locals := 0 } : Room) s m #[(.ref a1)] below meth cc s₁ [] 0 0 := Stand.of_body Bd
  have e0 : s₁.heap = h0 := by rw [← hh, Bd.state]; rfl
  have N0 := Fr.nil n0
  show Goes p ee below s ({ frames := 0, cells := 0, slots := 0, locals := 0 } : Room).cells ({ frames := 0, cells := 0, slots := 0, locals := 0 } : Room).slots (Q_hri Z a1 K h0 n0) (s₁.setTop (entryFrame m #[(.ref a1)] 1))
  refine Goes.step (fun _ hr_ => castTop (ef_hri m a1) hr_) ?_
  show Goes p ee below s _ _ _ (s₁.setTop (mkF m 0 #[.val (.ref a1)] []))
  refine Goes.step (fun _ hr_ => XS.aloadN X0.here hx rfl (hb hby d_prog_24_method_4_code_0) rfl rfl hr_) ?_
  show Goes p ee below s _ _ _ (s₁.setTop (mkF m 1 #[.val (.ref a1)] [(.ref a1)]))
  obtain ⟨T1, X1, e1, st1⟩ := getS X0 hx hZ (host := "") hown (hw _ (List.mem_of_getElem? (i := 12) rfl)) Via.refl e0 SS.2.2.2.2.2.2.2.2.2.2.2.2.2.2.2 (g := (mkF m 1 #[.val (.ref a1)] [(.ref a1)])) rfl (hb hby d_prog_24_method_4_code_1)
  refine Goes.step st1 ?_
  show Goes p ee below s _ _ _ (T1.setTop (mkF m 4 #[.val (.ref a1)] [(.ref (K 15)), (.ref a1)]))
  by_cases ha4_2 : a1 = (K 15)
  · refine Goes.step (fun _ hr_ => Jvm.RoadKit.acmp (g := (mkF m 4 #[.val (.ref a1)] [(.ref (K 15)), (.ref a1)])) X1 hx rfl (x := (.ref a1)) (y := (.ref (K 15))) rfl rfl (pc0 := 4) (pc' := 18) (same := true) rfl (hb hby d_prog_24_method_4_code_4) rfl (decide_eq_true (congrArg Value.ref ha4_2)) (by decide) (by decide) hr_) ?_
    show Goes p ee below s _ _ _ (T1.setTop (mkF m 18 #[.val (.ref a1)] []))
    refine Goes.step (fun _ hr_ => XS.iconst X1.here hx rfl (hb hby d_prog_24_method_4_code_18) hr_) ?_
    show Goes p ee below s _ _ _ (T1.setTop (mkF m 19 #[.val (.ref a1)] [(.int (0 : Int32))]))
    refine Goes.retZ X1 hx Bd.notSynchronized Bd.returns (by simp) rfl (hb hby d_prog_24_method_4_code_19) (by decide) (by decide) ?_
    refine ⟨?_, N0, e1⟩
    simp [ha4_2]
  · refine Goes.step (fun _ hr_ => Jvm.RoadKit.acmp (g := (mkF m 4 #[.val (.ref a1)] [(.ref (K 15)), (.ref a1)])) X1 hx rfl (x := (.ref a1)) (y := (.ref (K 15))) rfl rfl (pc0 := 4) (pc' := 7) (same := false) rfl (hb hby d_prog_24_method_4_code_4) rfl (decide_eq_false fun q => ha4_2 (Value.ref.inj q)) (by decide) (by decide) hr_) ?_
    show Goes p ee below s _ _ _ (T1.setTop (mkF m 7 #[.val (.ref a1)] []))
    refine Goes.step (fun _ hr_ => XS.aloadN X1.here hx rfl (hb hby d_prog_24_method_4_code_7) rfl rfl hr_) ?_
    show Goes p ee below s _ _ _ (T1.setTop (mkF m 8 #[.val (.ref a1)] [(.ref a1)]))
    obtain ⟨T3, X3, e3, st3⟩ := getS X1 hx hZ (host := "") hown (hw _ (List.mem_of_getElem? (i := 14) rfl)) Via.refl e1 SS.2.2.2.2.2.2.2.2.2.2.2.2.2.1 (g := (mkF m 8 #[.val (.ref a1)] [(.ref a1)])) rfl (hb hby d_prog_24_method_4_code_8)
    refine Goes.step st3 ?_
    show Goes p ee below s _ _ _ (T3.setTop (mkF m 11 #[.val (.ref a1)] [(.ref (K 13)), (.ref a1)]))
    by_cases ha11_4 : a1 = (K 13)
    · refine Goes.step (fun _ hr_ => Jvm.RoadKit.acmp (g := (mkF m 11 #[.val (.ref a1)] [(.ref (K 13)), (.ref a1)])) X3 hx rfl (x := (.ref a1)) (y := (.ref (K 13))) rfl rfl (pc0 := 11) (pc' := 18) (same := true) rfl (hb hby d_prog_24_method_4_code_11) rfl (decide_eq_true (congrArg Value.ref ha11_4)) (by decide) (by decide) hr_) ?_
      show Goes p ee below s _ _ _ (T3.setTop (mkF m 18 #[.val (.ref a1)] []))
      refine Goes.step (fun _ hr_ => XS.iconst X3.here hx rfl (hb hby d_prog_24_method_4_code_18) hr_) ?_
      show Goes p ee below s _ _ _ (T3.setTop (mkF m 19 #[.val (.ref a1)] [(.int (0 : Int32))]))
      refine Goes.retZ X3 hx Bd.notSynchronized Bd.returns (by simp) rfl (hb hby d_prog_24_method_4_code_19) (by decide) (by decide) ?_
      refine ⟨?_, N0, e3⟩
      simp [ha4_2, ha11_4]
    · refine Goes.step (fun _ hr_ => Jvm.RoadKit.acmp (g := (mkF m 11 #[.val (.ref a1)] [(.ref (K 13)), (.ref a1)])) X3 hx rfl (x := (.ref a1)) (y := (.ref (K 13))) rfl rfl (pc0 := 11) (pc' := 14) (same := false) rfl (hb hby d_prog_24_method_4_code_11) rfl (decide_eq_false fun q => ha11_4 (Value.ref.inj q)) (by decide) (by decide) hr_) ?_
      show Goes p ee below s _ _ _ (T3.setTop (mkF m 14 #[.val (.ref a1)] []))
      refine Goes.step (fun _ hr_ => XS.iconst X3.here hx rfl (hb hby d_prog_24_method_4_code_14) hr_) ?_
      show Goes p ee below s _ _ _ (T3.setTop (mkF m 15 #[.val (.ref a1)] [(.int (1 : Int32))]))
      refine Goes.step (fun _ hr_ => XS.goto X3.here hx rfl (pc0 := 15) (pc' := 19) rfl (hb hby d_prog_24_method_4_code_15) (by decide) (by decide) hr_) ?_
      show Goes p ee below s _ _ _ (T3.setTop (mkF m 19 #[.val (.ref a1)] [(.int (1 : Int32))]))
      refine Goes.retZ X3 hx Bd.notSynchronized Bd.returns (by simp) rfl (hb hby d_prog_24_method_4_code_19) (by decide) (by decide) ?_
      refine ⟨?_, N0, e3⟩
      simp [ha4_2, ha11_4]
theorem ef_expected (m : MethodId) (x0 : Int32) : entryFrame m #[(.int x0)] 1 = mkF m 0 #[.val (.int x0)] [] := by first | (simp [entryFrame, mkF, argsToLocals, Value.category]; done) | rfl
theorem d_method_3_code_0 : decode method_3_code 0 = .ok (.iload_n 0, 1) := by decide +kernel
theorem d_method_3_code_1 : decode method_3_code 1 = .ok (.bipush 13, 2) := by decide +kernel
theorem d_method_3_code_3 : decode method_3_code 3 = .ok (.if_icmp .ne 5, 3) := by decide +kernel
theorem d_method_3_code_6 : decode method_3_code 6 = .ok (.iconst 0, 1) := by decide +kernel
theorem d_method_3_code_7 : decode method_3_code 7 = .ok (.ireturn, 1) := by decide +kernel
theorem d_method_3_code_8 : decode method_3_code 8 = .ok (.iload_n 0, 1) := by decide +kernel
theorem d_method_3_code_9 : decode method_3_code 9 = .ok (.bipush 15, 2) := by decide +kernel
theorem d_method_3_code_11 : decode method_3_code 11 = .ok (.if_icmp .ne 5, 3) := by decide +kernel
theorem d_method_3_code_14 : decode method_3_code 14 = .ok (.iconst 0, 1) := by decide +kernel
theorem d_method_3_code_15 : decode method_3_code 15 = .ok (.ireturn, 1) := by decide +kernel
theorem d_method_3_code_16 : decode method_3_code 16 = .ok (.iconst 1, 1) := by decide +kernel
theorem d_method_3_code_17 : decode method_3_code 17 = .ok (.ireturn, 1) := by decide +kernel
def Q_expected (Z : State) (p1 : Int32) (h0 : Heap) (n0 : Nat) (v : Option Value) (h : Heap) (L : List Loc) : Prop := v = some (.int (if p1 = 13 then 0 else if p1 = 15 then 0 else 1)) ∧ Fr n0 L ∧ h = h0
set_option maxRecDepth 65536 in
set_option maxHeartbeats 40000000 in
theorem rm_expected (l : Launch) (Z : State) (a0 : Array Value) (hw : ∀ d ∈ tables_1, d.before a0 Z = true) (ws : List Jvm.Cond) (p1 : Int32) (h0 : Heap) (n0 : Nat) (Z0 : n0 ≤ h0.size)  :
    MetFree l (⟨"com/example/orbweaver/orbweaver/idl/KindHasRepositoryIdPinLaw", "expected", "(I)Z"⟩ : MethodName) (head1 (Jvm.Cond.code (⟨"com/example/orbweaver/orbweaver/idl/KindHasRepositoryIdPinLaw", "expected", "(I)Z"⟩ : MethodName) method_3_code 1 (some .boolean) :: ws) ({ frames := 0, cells := 0, slots := 0, locals := 0 } : Room)) (fun a U => a = #[(.int p1)] ∧ Z.Warmed39 U.vm ∧ U.heap = h0) (fun _ _ _ _ _ => True) (fun _ U o U' => ∃ v L, o = .returned v ∧ Q_expected Z p1 h0 n0 v U'.heap L ∧ FrameEnd U o U' L ({ frames := 0, cells := 0, slots := 0, locals := 0 } : Room).cells ({ frames := 0, cells := 0, slots := 0, locals := 0 } : Room).slots) := by
  refine MetFree.of_bodySF (plainFor_of_name pn_com_example_orbweaver_orbweaver_idl_KindHasRepositoryIdPinLaw) hisR ?_
  intro p ee s m args below meth cc s₁ Bd hml0 hP hK
  obtain ⟨rfl, hZ, hh⟩ := hP
  have hx := Bd.exec
  have hby := Bd.bytes
  have hml : cc.maxLocals = 1 := hml0
  have hown : s.vm.findClass "com/example/orbweaver/orbweaver/idl/KindHasRepositoryIdPinLaw" = some m.cls := findClass_of_methodNamed Bd.named
  have hnm := (name_of_methodNamed Bd.named Bd.method).1
  have X0 : Stand p l ee ({ frames := 0, cells := 0, slots := 0, locals := 0 } : Room) s m #[(.int p1)] below meth cc s₁ [] 0 0 := Stand.of_body Bd
  have e0 : s₁.heap = h0 := by rw [← hh, Bd.state]; rfl
  have N0 := Fr.nil n0
  show Goes p ee below s ({ frames := 0, cells := 0, slots := 0, locals := 0 } : Room).cells ({ frames := 0, cells := 0, slots := 0, locals := 0 } : Room).slots (Q_expected Z p1 h0 n0) (s₁.setTop (entryFrame m #[(.int p1)] 1))
  refine Goes.step (fun _ hr_ => castTop (ef_expected m p1) hr_) ?_
  show Goes p ee below s _ _ _ (s₁.setTop (mkF m 0 #[.val (.int p1)] []))
  refine Goes.step (fun _ hr_ => XS.iloadN X0.here hx rfl (hb hby d_method_3_code_0) rfl  hr_) ?_
  show Goes p ee below s _ _ _ (s₁.setTop (mkF m 1 #[.val (.int p1)] [(.int p1)]))
  refine Goes.step (fun _ hr_ => XS.bipush X0.here hx rfl (hb hby d_method_3_code_1) hr_) ?_
  show Goes p ee below s _ _ _ (s₁.setTop (mkF m 3 #[.val (.int p1)] [(.int (13 : Int32)), (.int p1)]))
  by_cases hc3_1 : p1 = (13 : Int32)
  · refine Goes.step (fun _ hr_ => XS.icmpNo X0.here hx rfl (hb hby d_method_3_code_3) rfl (teq hc3_1).2 hr_) ?_
    show Goes p ee below s _ _ _ (s₁.setTop (mkF m 6 #[.val (.int p1)] []))
    refine Goes.step (fun _ hr_ => XS.iconst X0.here hx rfl (hb hby d_method_3_code_6) hr_) ?_
    show Goes p ee below s _ _ _ (s₁.setTop (mkF m 7 #[.val (.int p1)] [(.int (0 : Int32))]))
    refine Goes.retZ X0 hx Bd.notSynchronized Bd.returns (by simp) rfl (hb hby d_method_3_code_7) (by decide) (by decide) ?_
    refine ⟨?_, N0, e0⟩
    simp [hc3_1]
  · refine Goes.step (fun _ hr_ => XS.icmpYes X0.here hx rfl (pc0 := 3) (pc' := 8) rfl (hb hby d_method_3_code_3) rfl (feq hc3_1).2 (by decide) (by decide) hr_) ?_
    show Goes p ee below s _ _ _ (s₁.setTop (mkF m 8 #[.val (.int p1)] []))
    refine Goes.step (fun _ hr_ => XS.iloadN X0.here hx rfl (hb hby d_method_3_code_8) rfl  hr_) ?_
    show Goes p ee below s _ _ _ (s₁.setTop (mkF m 9 #[.val (.int p1)] [(.int p1)]))
    refine Goes.step (fun _ hr_ => XS.bipush X0.here hx rfl (hb hby d_method_3_code_9) hr_) ?_
    show Goes p ee below s _ _ _ (s₁.setTop (mkF m 11 #[.val (.int p1)] [(.int (15 : Int32)), (.int p1)]))
    by_cases hc11_2 : p1 = (15 : Int32)
    · refine Goes.step (fun _ hr_ => XS.icmpNo X0.here hx rfl (hb hby d_method_3_code_11) rfl (teq hc11_2).2 hr_) ?_
      show Goes p ee below s _ _ _ (s₁.setTop (mkF m 14 #[.val (.int p1)] []))
      refine Goes.step (fun _ hr_ => XS.iconst X0.here hx rfl (hb hby d_method_3_code_14) hr_) ?_
      show Goes p ee below s _ _ _ (s₁.setTop (mkF m 15 #[.val (.int p1)] [(.int (0 : Int32))]))
      refine Goes.retZ X0 hx Bd.notSynchronized Bd.returns (by simp) rfl (hb hby d_method_3_code_15) (by decide) (by decide) ?_
      refine ⟨?_, N0, e0⟩
      simp [hc3_1, hc11_2]
    · refine Goes.step (fun _ hr_ => XS.icmpYes X0.here hx rfl (pc0 := 11) (pc' := 16) rfl (hb hby d_method_3_code_11) rfl (feq hc11_2).2 (by decide) (by decide) hr_) ?_
      show Goes p ee below s _ _ _ (s₁.setTop (mkF m 16 #[.val (.int p1)] []))
      refine Goes.step (fun _ hr_ => XS.iconst X0.here hx rfl (hb hby d_method_3_code_16) hr_) ?_
      show Goes p ee below s _ _ _ (s₁.setTop (mkF m 17 #[.val (.int p1)] [(.int (1 : Int32))]))
      refine Goes.retZ X0 hx Bd.notSynchronized Bd.returns (by simp) rfl (hb hby d_method_3_code_17) (by decide) (by decide) ?_
      refine ⟨?_, N0, e0⟩
      simp [hc3_1, hc11_2]
theorem own_ix_lt (i : Int32) : own_ix i < 16 := by
  unfold own_ix
  by_cases h0 : i = (0 : Int32)
  · rw [if_pos h0]; decide
  rw [if_neg h0]
  by_cases h1 : i = (1 : Int32)
  · rw [if_pos h1]; decide
  rw [if_neg h1]
  by_cases h2 : i = (2 : Int32)
  · rw [if_pos h2]; decide
  rw [if_neg h2]
  by_cases h3 : i = (3 : Int32)
  · rw [if_pos h3]; decide
  rw [if_neg h3]
  by_cases h4 : i = (4 : Int32)
  · rw [if_pos h4]; decide
  rw [if_neg h4]
  by_cases h5 : i = (5 : Int32)
  · rw [if_pos h5]; decide
  rw [if_neg h5]
  by_cases h6 : i = (6 : Int32)
  · rw [if_pos h6]; decide
  rw [if_neg h6]
  by_cases h7 : i = (7 : Int32)
  · rw [if_pos h7]; decide
  rw [if_neg h7]
  by_cases h8 : i = (8 : Int32)
  · rw [if_pos h8]; decide
  rw [if_neg h8]
  by_cases h9 : i = (9 : Int32)
  · rw [if_pos h9]; decide
  rw [if_neg h9]
  by_cases h10 : i = (10 : Int32)
  · rw [if_pos h10]; decide
  rw [if_neg h10]
  by_cases h11 : i = (11 : Int32)
  · rw [if_pos h11]; decide
  rw [if_neg h11]
  by_cases h12 : i = (12 : Int32)
  · rw [if_pos h12]; decide
  rw [if_neg h12]
  by_cases h13 : i = (13 : Int32)
  · rw [if_pos h13]; decide
  rw [if_neg h13]
  by_cases h14 : i = (14 : Int32)
  · rw [if_pos h14]; decide
  rw [if_neg h14]
  decide
theorem own_mask (x : Int32) : 0 ≤ (x &&& 15).toInt ∧ (x &&& 15).toInt ≤ 15 := c_and x 15 (by decide)
theorem own_lit (i : Int32) (n : Nat) (hn : n < 2 ^ 31) : i = Int32.ofNat n ↔ i.toInt = n := by
  rw [← Int32.toInt_inj, Int32.toInt_ofNat_of_lt hn]
theorem own_ix_eq (i : Int32) (h0 : 0 ≤ i.toInt) (h1 : i.toInt ≤ 15) : own_ix i = i.toInt.toNat := by
  obtain ⟨n, hn⟩ : ∃ n : Nat, i.toInt = n := ⟨i.toInt.toNat, by omega⟩
  have e : i = Int32.ofNat n := (own_lit i n (by omega)).mpr hn
  have hl : n ≤ 15 := by omega
  rw [hn]
  subst e
  clear hn h0 h1
  match n, hl with
  | 0, _ => rfl
  | 1, _ => rfl
  | 2, _ => rfl
  | 3, _ => rfl
  | 4, _ => rfl
  | 5, _ => rfl
  | 6, _ => rfl
  | 7, _ => rfl
  | 8, _ => rfl
  | 9, _ => rfl
  | 10, _ => rfl
  | 11, _ => rfl
  | 12, _ => rfl
  | 13, _ => rfl
  | 14, _ => rfl
  | 15, _ => rfl
  | n + 16, h => omega
theorem own_end (i : Int32) (K : Nat → Addr) (inj : ∀ i j, i < 16 → j < 16 → K i = K j → i = j) (h0 : 0 ≤ i.toInt) (h1 : i.toInt ≤ 15) :
    (if K (own_ix i) = K 15 then (0 : Int32) else if K (own_ix i) = K 13 then 0 else 1) = (if i = 13 then (0 : Int32) else if i = 15 then 0 else 1) := by
  have q := own_ix_eq i h0 h1
  have e15 : (K (own_ix i) = K 15) ↔ i = 15 := by
    constructor
    · intro h
      have := inj _ _ (own_ix_lt i) (by decide) h
      exact (own_lit i 15 (by decide)).mpr (by omega)
    · intro h
      subst h
      rfl
  have e13 : (K (own_ix i) = K 13) ↔ i = 13 := by
    constructor
    · intro h
      have := inj _ _ (own_ix_lt i) (by decide) h
      exact (own_lit i 13 (by decide)).mpr (by omega)
    · intro h
      subst h
      rfl
  simp only [e15, e13]
  by_cases a : i = 15
  · subst a
    rfl
  · by_cases b : i = 13
    · subst b
      rfl
    · simp [a, b]
theorem ef_law (m : MethodId) (x0 : Int32) : entryFrame m #[(.int x0)] maxLocals = mkF m 0 #[.val (.int x0), .unset, .unset] [] := by first | (simp [entryFrame, mkF, argsToLocals, Value.category, maxLocals]; done) | rfl
theorem pd_0 : parseMethodDescriptor "(I)Lcom/example/orbweaver/orbweaver/idl/Definition$Kind;" = some ⟨[.int], some (.object "com/example/orbweaver/orbweaver/idl/Definition$Kind")⟩ := by decide +kernel
theorem pd_1 : parseMethodDescriptor "()Z" = some ⟨[], some .boolean⟩ := by decide +kernel
theorem pd_2 : parseMethodDescriptor "(I)Z" = some ⟨[.int], some .boolean⟩ := by decide +kernel
def Q_law (Z : State) (p1 : Int32) (K : Nat → Addr) (h0 : Heap) (n0 : Nat) (v : Option Value) (h : Heap) (L : List Loc) : Prop := v = some (.int 1) ∧ Fr n0 L
set_option maxRecDepth 65536 in
set_option maxHeartbeats 40000000 in
theorem rm_law (l : Launch) (Z : State) (a0 : Array Value) (hw : ∀ d ∈ tables_1, d.before a0 Z = true) (ws : List Jvm.Cond) (p1 : Int32) (K : Nat → Addr) (h0 : Heap) (n0 : Nat) (Z0 : n0 ≤ h0.size) (SS : own_S Z h0 K) (EE : ∀ j, j < 16 → Exa Z h0 (K j) "com/example/orbweaver/orbweaver/idl/Definition$Kind") (inj : ∀ i j, i < 16 → j < 16 → K i = K j → i = j) :
    MetFree l x (head1 (Jvm.Cond.code x code maxLocals ret :: ws) room_1) (fun a U => a = #[(.int p1)] ∧ Z.Warmed39 U.vm ∧ U.heap = h0) (fun _ _ _ _ _ => True) (fun _ U o U' => ∃ v L, o = .returned v ∧ Q_law Z p1 K h0 n0 v U'.heap L ∧ FrameEnd U o U' L room_1.cells room_1.slots) := by
  refine MetFree.of_bodySF (plainFor_of_name pn_com_example_orbweaver_orbweaver_idl_KindHasRepositoryIdPinLaw) hisR ?_
  intro p ee s m args below meth cc s₁ Bd hml0 hP hK
  obtain ⟨rfl, hZ, hh⟩ := hP
  have hx := Bd.exec
  have hby := Bd.bytes
  have hml : cc.maxLocals = 3 := hml0
  have hown : s.vm.findClass "com/example/orbweaver/orbweaver/idl/KindHasRepositoryIdPinLaw" = some m.cls := findClass_of_methodNamed Bd.named
  have hnm := (name_of_methodNamed Bd.named Bd.method).1
  have X0 : Stand p l ee room_1 s m #[(.int p1)] below meth cc s₁ [] 0 0 := Stand.of_body Bd
  have e0 : s₁.heap = h0 := by rw [← hh, Bd.state]; rfl
  have N0 := Fr.nil n0
  show Goes p ee below s room_1.cells room_1.slots (Q_law Z p1 K h0 n0) (s₁.setTop (entryFrame m #[(.int p1)] maxLocals))
  refine Goes.step (fun _ hr_ => castTop (ef_law m p1) hr_) ?_
  show Goes p ee below s _ _ _ (s₁.setTop (mkF m 0 #[.val (.int p1), .unset, .unset] []))
  refine Goes.step (fun _ hr_ => XS.iloadN X0.here hx rfl (hb hby at_0) rfl  hr_) ?_
  show Goes p ee below s _ _ _ (s₁.setTop (mkF m 1 #[.val (.int p1), .unset, .unset] [(.int p1)]))
  refine Goes.step (fun _ hr_ => XS.bipush X0.here hx rfl (hb hby at_1) hr_) ?_
  show Goes p ee below s _ _ _ (s₁.setTop (mkF m 3 #[.val (.int p1), .unset, .unset] [(.int (15 : Int32)), (.int p1)]))
  refine Goes.step (fun _ hr_ => XS.iand X0.here hx rfl (hb hby at_3) rfl hr_) ?_
  show Goes p ee below s _ _ _ (s₁.setTop (mkF m 4 #[.val (.int p1), .unset, .unset] [(.int (p1 &&& (15 : Int32)))]))
  refine Goes.step (fun _ hr_ => XS.istoreN X0.here hx rfl (hb hby at_4) rfl  (l' := #[.val (.int p1), .val (.int (p1 &&& (15 : Int32))), .unset]) rfl hr_) ?_
  show Goes p ee below s _ _ _ (s₁.setTop (mkF m 5 #[.val (.int p1), .val (.int (p1 &&& (15 : Int32))), .unset] []))
  refine Goes.step (fun _ hr_ => XS.iloadN X0.here hx rfl (hb hby at_5) rfl  hr_) ?_
  show Goes p ee below s _ _ _ (s₁.setTop (mkF m 6 #[.val (.int p1), .val (.int (p1 &&& (15 : Int32))), .unset] [(.int (p1 &&& (15 : Int32)))]))
  obtain ⟨v1, T1, L1, X1, hQ1, st1⟩ := own_callS X0 hx hZ (y := (⟨"com/example/orbweaver/orbweaver/idl/KindHasRepositoryIdPinLaw", "kindOf", "(I)Lcom/example/orbweaver/orbweaver/idl/Definition$Kind;"⟩ : MethodName)) hown (hw _ (List.mem_of_getElem? (i := 0) rfl)) (hw _ (List.mem_of_getElem? (i := 1) rfl)) (hw _ (List.mem_of_getElem? (i := 2) rfl)) (hw _ (List.mem_of_getElem? (i := 3) rfl)) (by decide) (argsL := [(.int (p1 &&& (15 : Int32)))]) (rm_kindOf l Z a0 hw [] (p1 &&& (15 : Int32)) K h0 n0 Z0 SS) e0 (W := 0) (by decide) (by decide) (by decide) (by decide) (g := (mkF m 6 #[.val (.int p1), .val (.int (p1 &&& (15 : Int32))), .unset] [(.int (p1 &&& (15 : Int32)))])) rfl (by rw [hml]; rfl) (rest := []) (lenOf pd_0 rfl) rfl (by show 2 * 0 + _ ≤ _; exact Nat.le_of_eq rfl) (hb hby at_6)
  refine Goes.step st1 ?_
  obtain ⟨rfl, N1, e1⟩ := hQ1
  have N2 := Fr.app N0 N1
  show Goes p ee below s _ _ _ (T1.setTop (mkF m 9 #[.val (.int p1), .val (.int (p1 &&& (15 : Int32))), .unset] [(.ref (K (own_ix (p1 &&& (15 : Int32)))))]))
  refine Goes.step (fun _ hr_ => XS.astoreN X1.here hx rfl (hb hby at_9) rfl rfl (l' := #[.val (.int p1), .val (.int (p1 &&& (15 : Int32))), .val (.ref (K (own_ix (p1 &&& (15 : Int32)))))]) rfl hr_) ?_
  show Goes p ee below s _ _ _ (T1.setTop (mkF m 10 #[.val (.int p1), .val (.int (p1 &&& (15 : Int32))), .val (.ref (K (own_ix (p1 &&& (15 : Int32)))))] []))
  refine Goes.step (fun _ hr_ => XS.aloadN X1.here hx rfl (hb hby at_10) rfl rfl hr_) ?_
  show Goes p ee below s _ _ _ (T1.setTop (mkF m 11 #[.val (.int p1), .val (.int (p1 &&& (15 : Int32))), .val (.ref (K (own_ix (p1 &&& (15 : Int32)))))] [(.ref (K (own_ix (p1 &&& (15 : Int32)))))]))
  have Ek := EE _ (own_ix_lt (p1 &&& (15 : Int32)))
  obtain ⟨v3, T3, L3, X3, hQ3, st3⟩ := own_callV X1 hx hZ (y := (⟨"com/example/orbweaver/orbweaver/idl/Definition$Kind", "hasRepositoryId", "()Z"⟩ : MethodName)) hown (hw _ (List.mem_of_getElem? (i := 7) rfl)) (hw _ (List.mem_of_getElem? (i := 8) rfl)) (hw _ (List.mem_of_getElem? (i := 10) rfl)) (hw _ (List.mem_of_getElem? (i := 9) rfl)) (hw _ (List.mem_of_getElem? (i := 5) rfl)) (hw _ (List.mem_of_getElem? (i := 11) rfl)) (by decide) (a := (K (own_ix (p1 &&& (15 : Int32))))) (argsL := []) (rm_hri l Z a0 hw [] (K (own_ix (p1 &&& (15 : Int32)))) K h0 n0 Z0 SS) e1 Ek (W := 0) (by decide) (by decide) (by decide) (by decide) (g := (mkF m 11 #[.val (.int p1), .val (.int (p1 &&& (15 : Int32))), .val (.ref (K (own_ix (p1 &&& (15 : Int32)))))] [(.ref (K (own_ix (p1 &&& (15 : Int32)))))])) rfl (by rw [hml]; rfl) (rest := []) (lenOf pd_1 rfl) rfl (by show 2 * 0 + _ ≤ _; exact Nat.le_of_eq rfl) (hb hby at_11)
  refine Goes.step st3 ?_
  obtain ⟨rfl, N3, e3⟩ := hQ3
  have N4 := Fr.app N2 N3
  show Goes p ee below s _ _ _ (T3.setTop (mkF m 14 #[.val (.int p1), .val (.int (p1 &&& (15 : Int32))), .val (.ref (K (own_ix (p1 &&& (15 : Int32)))))] [(.int (if (K (own_ix (p1 &&& (15 : Int32)))) = K 15 then (0 : Int32) else if (K (own_ix (p1 &&& (15 : Int32)))) = K 13 then 0 else 1))]))
  refine Goes.step (fun _ hr_ => XS.iloadN X3.here hx rfl (hb hby at_14) rfl  hr_) ?_
  show Goes p ee below s _ _ _ (T3.setTop (mkF m 15 #[.val (.int p1), .val (.int (p1 &&& (15 : Int32))), .val (.ref (K (own_ix (p1 &&& (15 : Int32)))))] [(.int (p1 &&& (15 : Int32))), (.int (if (K (own_ix (p1 &&& (15 : Int32)))) = K 15 then (0 : Int32) else if (K (own_ix (p1 &&& (15 : Int32)))) = K 13 then 0 else 1))]))
  obtain ⟨v5, T5, L5, X5, hQ5, st5⟩ := own_callS X3 hx hZ (y := (⟨"com/example/orbweaver/orbweaver/idl/KindHasRepositoryIdPinLaw", "expected", "(I)Z"⟩ : MethodName)) hown (hw _ (List.mem_of_getElem? (i := 16) rfl)) (hw _ (List.mem_of_getElem? (i := 17) rfl)) (hw _ (List.mem_of_getElem? (i := 2) rfl)) (hw _ (List.mem_of_getElem? (i := 18) rfl)) (by decide) (argsL := [(.int (p1 &&& (15 : Int32)))]) (rm_expected l Z a0 hw [] (p1 &&& (15 : Int32)) h0 n0 Z0 ) e3 (W := 1) (by decide) (by decide) (by decide) (by decide) (g := (mkF m 15 #[.val (.int p1), .val (.int (p1 &&& (15 : Int32))), .val (.ref (K (own_ix (p1 &&& (15 : Int32)))))] [(.int (p1 &&& (15 : Int32))), (.int (if (K (own_ix (p1 &&& (15 : Int32)))) = K 15 then (0 : Int32) else if (K (own_ix (p1 &&& (15 : Int32)))) = K 13 then 0 else 1))])) rfl (by rw [hml]; rfl) (rest := [(.int (if (K (own_ix (p1 &&& (15 : Int32)))) = K 15 then (0 : Int32) else if (K (own_ix (p1 &&& (15 : Int32)))) = K 13 then 0 else 1))]) (lenOf pd_2 rfl) rfl (by show 2 * 0 + _ ≤ _; exact Nat.le_of_eq rfl) (hb hby at_15)
  refine Goes.step st5 ?_
  obtain ⟨rfl, N5, e5⟩ := hQ5
  have N6 := Fr.app N4 N5
  show Goes p ee below s _ _ _ (T5.setTop (mkF m 18 #[.val (.int p1), .val (.int (p1 &&& (15 : Int32))), .val (.ref (K (own_ix (p1 &&& (15 : Int32)))))] [(.int (if (p1 &&& (15 : Int32)) = 13 then (0 : Int32) else if (p1 &&& (15 : Int32)) = 15 then 0 else 1)), (.int (if (K (own_ix (p1 &&& (15 : Int32)))) = K 15 then (0 : Int32) else if (K (own_ix (p1 &&& (15 : Int32)))) = K 13 then 0 else 1))]))
  refine Goes.step (fun _ hr_ => XS.icmpNo X5.here hx rfl (hb hby at_18) rfl (teq (own_end _ K inj (own_mask p1).1 (own_mask p1).2)).2 hr_) ?_
  show Goes p ee below s _ _ _ (T5.setTop (mkF m 21 #[.val (.int p1), .val (.int (p1 &&& (15 : Int32))), .val (.ref (K (own_ix (p1 &&& (15 : Int32)))))] []))
  refine Goes.step (fun _ hr_ => XS.iconst X5.here hx rfl (hb hby at_21) hr_) ?_
  show Goes p ee below s _ _ _ (T5.setTop (mkF m 22 #[.val (.int p1), .val (.int (p1 &&& (15 : Int32))), .val (.ref (K (own_ix (p1 &&& (15 : Int32)))))] [(.int (1 : Int32))]))
  refine Goes.step (fun _ hr_ => XS.goto X5.here hx rfl (pc0 := 22) (pc' := 26) rfl (hb hby at_22) (by decide) (by decide) hr_) ?_
  show Goes p ee below s _ _ _ (T5.setTop (mkF m 26 #[.val (.int p1), .val (.int (p1 &&& (15 : Int32))), .val (.ref (K (own_ix (p1 &&& (15 : Int32)))))] [(.int (1 : Int32))]))
  refine Goes.retZ X5 hx Bd.notSynchronized Bd.returns (by simp) rfl (hb hby at_26) (by decide) (by decide) ?_
  exact ⟨rfl, N6⟩
theorem own_ord {args : Array Value} {s : State} {t : Term} {C n d : String} {x : Addr} {k : Int32} (ev : t.eval args s none [] s = some (.ref x)) (h : (Cond.eq (.field t C n d) (.int k)).value args s none s [] = some true) : Fld s s.heap x C n d (.int k) := by
  obtain ⟨u, v, h1, h2, h3, h4⟩ := cmp_v (Or.inl h)
  have e2 : (Term.int k).eval args s none [] s = some (.int k) := Term.int_eval _
  rw [e2] at h2
  obtain rfl := Option.some.inj h2
  obtain ⟨z, rfl⟩ := h4
  have q : (Cond.eq (.field t C n d) (.int k)).value args s none s [] = some (decide (z = k)) := by simp [Cond.value, h1, e2]
  have := gotT q h
  subst this
  rw [fld_at ev] at h1
  exact Fld.start h1
set_option maxRecDepth 65536 in
set_option maxHeartbeats 40000000 in
theorem comes_1 {Post : Tables → Env → Array Value → State → Outcome → State → Prop} (hpost : ∀ tb e args s v u, (limb_1_1.after args s (.returned v) u = true ∧ limb_1_2.after args s (.returned v) u = true ∧ True) → FrameEnd s (.returned v) u (Jvm.fieldLocs frame_1_writes args s ++ Jvm.arrayLocs frame_1_arrays args s ++ Jvm.staticLocs frame_1_statics s) 0 0 → Post tb e args s (.returned v) u) :
    ArmFor flags0 classFile x code maxLocals ret World_1 tables_1 room_1 Calls_1 rest_1 Pre_1 Post := by
  intro l hfl _ _ p e ha hc hk s m args below hf hA hF happ hP
  obtain ⟨hcalls, hrest, hpre⟩ := hP
  obtain ⟨-, -, -, hnamed, -, -, -, hat⟩ := (Spec.applies_iff hf).mp happ
  obtain ⟨hg, hn⟩ := and_e (Cond.before_iff.mp (show (Jvm.Cond.and given_1 narrow_1).before args s = true from hpre))
  obtain ⟨hcount, k0⟩ := and_e hg
  obtain ⟨w0, rfl⟩ : ∃ w0 : Value, args = #[w0] := by
    have hs : args.size = 1 := by simpa [Cond.value, given_1] using hcount
    obtain ⟨L⟩ := args
    match L, hs with
    | [w0], _ => exact ⟨w0, rfl⟩
  have hw := fun d (hd : d ∈ tables_1) => atoms_spec (ws := Jvm.Cond.code x code maxLocals ret :: tables_1) hat d (List.mem_cons_of_mem _ hd)
  obtain ⟨i0, ei0⟩ := is_v k0
  obtain rfl : w0 = (.int i0) := Option.some.inj ei0
  obtain ⟨c0, n0⟩ := and_e hn
  obtain ⟨c1, n1⟩ := and_e n0
  obtain ⟨c2, n2⟩ := and_e n1
  obtain ⟨c3, n3⟩ := and_e n2
  obtain ⟨c4, n4⟩ := and_e n3
  obtain ⟨c5, n5⟩ := and_e n4
  obtain ⟨c6, n6⟩ := and_e n5
  obtain ⟨c7, n7⟩ := and_e n6
  obtain ⟨c8, n8⟩ := and_e n7
  obtain ⟨c9, n9⟩ := and_e n8
  obtain ⟨c10, n10⟩ := and_e n9
  obtain ⟨c11, n11⟩ := and_e n10
  obtain ⟨c12, n12⟩ := and_e n11
  obtain ⟨c13, n13⟩ := and_e n12
  obtain ⟨c14, n14⟩ := and_e n13
  obtain ⟨c15, n15⟩ := and_e n14
  obtain ⟨c16, n16⟩ := and_e n15
  obtain ⟨c17, n17⟩ := and_e n16
  obtain ⟨c18, n18⟩ := and_e n17
  obtain ⟨c19, n19⟩ := and_e n18
  obtain ⟨c20, n20⟩ := and_e n19
  obtain ⟨c21, n21⟩ := and_e n20
  obtain ⟨c22, n22⟩ := and_e n21
  obtain ⟨c23, n23⟩ := and_e n22
  obtain ⟨c24, n24⟩ := and_e n23
  obtain ⟨c25, n25⟩ := and_e n24
  obtain ⟨c26, n26⟩ := and_e n25
  obtain ⟨c27, n27⟩ := and_e n26
  obtain ⟨c28, n28⟩ := and_e n27
  obtain ⟨c29, n29⟩ := and_e n28
  obtain ⟨c30, n30⟩ := and_e n29
  have c31 := n30
  obtain ⟨x0, v0⟩ := exa_v c0
  have E0 := Exa.start v0 c0
  have S0 := Sta.start v0 (Or.inr ⟨(hw _ (List.mem_of_getElem? (i := 5) rfl)), (hw _ (List.mem_of_getElem? (i := 6) rfl))⟩)
  have F0 : Fld s s.heap x0 "java/lang/Enum" "ordinal" "I" (.int (Int32.ofNat 0)) := own_ord v0 c2
  obtain ⟨x1, v1⟩ := exa_v c20
  have E1 := Exa.start v1 c20
  have S1 := Sta.start v1 (Or.inr ⟨(hw _ (List.mem_of_getElem? (i := 5) rfl)), (hw _ (List.mem_of_getElem? (i := 35) rfl))⟩)
  have F1 : Fld s s.heap x1 "java/lang/Enum" "ordinal" "I" (.int (Int32.ofNat 1)) := own_ord v1 c21
  obtain ⟨x2, v2⟩ := exa_v c14
  have E2 := Exa.start v2 c14
  have S2 := Sta.start v2 (Or.inr ⟨(hw _ (List.mem_of_getElem? (i := 5) rfl)), (hw _ (List.mem_of_getElem? (i := 29) rfl))⟩)
  have F2 : Fld s s.heap x2 "java/lang/Enum" "ordinal" "I" (.int (Int32.ofNat 2)) := own_ord v2 c15
  obtain ⟨x3, v3⟩ := exa_v c6
  have E3 := Exa.start v3 c6
  have S3 := Sta.start v3 (Or.inr ⟨(hw _ (List.mem_of_getElem? (i := 5) rfl)), (hw _ (List.mem_of_getElem? (i := 20) rfl))⟩)
  have F3 : Fld s s.heap x3 "java/lang/Enum" "ordinal" "I" (.int (Int32.ofNat 3)) := own_ord v3 c7
  obtain ⟨x4, v4⟩ := exa_v c22
  have E4 := Exa.start v4 c22
  have S4 := Sta.start v4 (Or.inr ⟨(hw _ (List.mem_of_getElem? (i := 5) rfl)), (hw _ (List.mem_of_getElem? (i := 37) rfl))⟩)
  have F4 : Fld s s.heap x4 "java/lang/Enum" "ordinal" "I" (.int (Int32.ofNat 4)) := own_ord v4 c23
  obtain ⟨x5, v5⟩ := exa_v c30
  have E5 := Exa.start v5 c30
  have S5 := Sta.start v5 (Or.inr ⟨(hw _ (List.mem_of_getElem? (i := 5) rfl)), (hw _ (List.mem_of_getElem? (i := 46) rfl))⟩)
  have F5 : Fld s s.heap x5 "java/lang/Enum" "ordinal" "I" (.int (Int32.ofNat 5)) := own_ord v5 c31
  obtain ⟨x6, v6⟩ := exa_v c26
  have E6 := Exa.start v6 c26
  have S6 := Sta.start v6 (Or.inr ⟨(hw _ (List.mem_of_getElem? (i := 5) rfl)), (hw _ (List.mem_of_getElem? (i := 42) rfl))⟩)
  have F6 : Fld s s.heap x6 "java/lang/Enum" "ordinal" "I" (.int (Int32.ofNat 6)) := own_ord v6 c27
  obtain ⟨x7, v7⟩ := exa_v c12
  have E7 := Exa.start v7 c12
  have S7 := Sta.start v7 (Or.inr ⟨(hw _ (List.mem_of_getElem? (i := 5) rfl)), (hw _ (List.mem_of_getElem? (i := 27) rfl))⟩)
  have F7 : Fld s s.heap x7 "java/lang/Enum" "ordinal" "I" (.int (Int32.ofNat 7)) := own_ord v7 c13
  obtain ⟨x8, v8⟩ := exa_v c18
  have E8 := Exa.start v8 c18
  have S8 := Sta.start v8 (Or.inr ⟨(hw _ (List.mem_of_getElem? (i := 5) rfl)), (hw _ (List.mem_of_getElem? (i := 33) rfl))⟩)
  have F8 : Fld s s.heap x8 "java/lang/Enum" "ordinal" "I" (.int (Int32.ofNat 8)) := own_ord v8 c19
  obtain ⟨x9, v9⟩ := exa_v c28
  have E9 := Exa.start v9 c28
  have S9 := Sta.start v9 (Or.inr ⟨(hw _ (List.mem_of_getElem? (i := 5) rfl)), (hw _ (List.mem_of_getElem? (i := 44) rfl))⟩)
  have F9 : Fld s s.heap x9 "java/lang/Enum" "ordinal" "I" (.int (Int32.ofNat 9)) := own_ord v9 c29
  obtain ⟨x10, v10⟩ := exa_v c10
  have E10 := Exa.start v10 c10
  have S10 := Sta.start v10 (Or.inr ⟨(hw _ (List.mem_of_getElem? (i := 5) rfl)), (hw _ (List.mem_of_getElem? (i := 25) rfl))⟩)
  have F10 : Fld s s.heap x10 "java/lang/Enum" "ordinal" "I" (.int (Int32.ofNat 10)) := own_ord v10 c11
  obtain ⟨x11, v11⟩ := exa_v c16
  have E11 := Exa.start v11 c16
  have S11 := Sta.start v11 (Or.inr ⟨(hw _ (List.mem_of_getElem? (i := 5) rfl)), (hw _ (List.mem_of_getElem? (i := 31) rfl))⟩)
  have F11 : Fld s s.heap x11 "java/lang/Enum" "ordinal" "I" (.int (Int32.ofNat 11)) := own_ord v11 c17
  obtain ⟨x12, v12⟩ := exa_v c24
  have E12 := Exa.start v12 c24
  have S12 := Sta.start v12 (Or.inr ⟨(hw _ (List.mem_of_getElem? (i := 5) rfl)), (hw _ (List.mem_of_getElem? (i := 39) rfl))⟩)
  have F12 : Fld s s.heap x12 "java/lang/Enum" "ordinal" "I" (.int (Int32.ofNat 12)) := own_ord v12 c25
  obtain ⟨x13, v13⟩ := exa_v c4
  have E13 := Exa.start v13 c4
  have S13 := Sta.start v13 (Or.inr ⟨(hw _ (List.mem_of_getElem? (i := 5) rfl)), (hw _ (List.mem_of_getElem? (i := 15) rfl))⟩)
  have F13 : Fld s s.heap x13 "java/lang/Enum" "ordinal" "I" (.int (Int32.ofNat 13)) := own_ord v13 c5
  obtain ⟨x14, v14⟩ := exa_v c8
  have E14 := Exa.start v14 c8
  have S14 := Sta.start v14 (Or.inr ⟨(hw _ (List.mem_of_getElem? (i := 5) rfl)), (hw _ (List.mem_of_getElem? (i := 22) rfl))⟩)
  have F14 : Fld s s.heap x14 "java/lang/Enum" "ordinal" "I" (.int (Int32.ofNat 14)) := own_ord v14 c9
  obtain ⟨x15, v15⟩ := exa_v c1
  have E15 := Exa.start v15 c1
  have S15 := Sta.start v15 (Or.inr ⟨(hw _ (List.mem_of_getElem? (i := 5) rfl)), (hw _ (List.mem_of_getElem? (i := 13) rfl))⟩)
  have F15 : Fld s s.heap x15 "java/lang/Enum" "ordinal" "I" (.int (Int32.ofNat 15)) := own_ord v15 c3
  have OO : ∀ j, j < 16 → Fld s s.heap ([x0, x1, x2, x3, x4, x5, x6, x7, x8, x9, x10, x11, x12, x13, x14, x15].getD j 0) "java/lang/Enum" "ordinal" "I" (.int (Int32.ofNat j)) := fun j hj => by
    match j, hj with
    | 0, _ => exact F0
    | 1, _ => exact F1
    | 2, _ => exact F2
    | 3, _ => exact F3
    | 4, _ => exact F4
    | 5, _ => exact F5
    | 6, _ => exact F6
    | 7, _ => exact F7
    | 8, _ => exact F8
    | 9, _ => exact F9
    | 10, _ => exact F10
    | 11, _ => exact F11
    | 12, _ => exact F12
    | 13, _ => exact F13
    | 14, _ => exact F14
    | 15, _ => exact F15
    | j + 16, h => omega
  have inj : ∀ i j, i < 16 → j < 16 → ([x0, x1, x2, x3, x4, x5, x6, x7, x8, x9, x10, x11, x12, x13, x14, x15].getD i 0) = ([x0, x1, x2, x3, x4, x5, x6, x7, x8, x9, x10, x11, x12, x13, x14, x15].getD j 0) → i = j := fun i j hi hj hh => by
    refine Decidable.byContradiction fun ne => ?_
    refine (Fld.ne (OO i hi) (OO j hj) ?_) hh
    intro q
    have q2 := congrArg Int32.toInt (Value.int.inj q)
    rw [Int32.toInt_ofNat_of_lt (by omega), Int32.toInt_ofNat_of_lt (by omega)] at q2
    omega
  have EE : ∀ j, j < 16 → Exa s s.heap ([x0, x1, x2, x3, x4, x5, x6, x7, x8, x9, x10, x11, x12, x13, x14, x15].getD j 0) "com/example/orbweaver/orbweaver/idl/Definition$Kind" := fun j hj => by
    match j, hj with
    | 0, _ => exact E0
    | 1, _ => exact E1
    | 2, _ => exact E2
    | 3, _ => exact E3
    | 4, _ => exact E4
    | 5, _ => exact E5
    | 6, _ => exact E6
    | 7, _ => exact E7
    | 8, _ => exact E8
    | 9, _ => exact E9
    | 10, _ => exact E10
    | 11, _ => exact E11
    | 12, _ => exact E12
    | 13, _ => exact E13
    | 14, _ => exact E14
    | 15, _ => exact E15
    | j + 16, h => omega
  obtain ⟨n, o, h1, h2, h3, _, L, rfl, ⟨rfl, N⟩, hq⟩ := rm_law l s _ hw tables_1 i0 (fun j => [x0, x1, x2, x3, x4, x5, x6, x7, x8, x9, x10, x11, x12, x13, x14, x15].getD j 0) s.heap s.heap.size (Nat.le_refl _) ⟨S0, S1, S2, S3, S4, S5, S6, S7, S8, S9, S10, S11, S12, S13, S14, S15⟩ EE inj p e ha hc hk s m _ below hf ((Spec.applies_iff_loose hf).mp happ).1 ⟨rfl, State.Warmed39.refl s, rfl⟩ trivial
  refine ⟨n, _, h1, h2, h3, hpost _ _ _ _ _ _ ⟨Cond.after_iff.mpr rfl, Cond.after_iff.mpr (eq_i res_at (Term.int_eval (1)) rfl), trivial⟩ ⟨hq.1, hq.2.1, (hq.2.2.sift fun y hy => Or.inr (N y hy)).mono (by decide) (by decide)⟩⟩
theorem main_1_1 : Claimed_1_1 := comes_1 fun _ _ _ _ _ _ h hF => ⟨h.1, hF⟩
theorem main_1_2 : Claimed_1_2 := comes_1 fun _ _ _ _ _ _ h hF => ⟨h.2.1, hF⟩
end Jvm.Pilot.@@N@@
namespace Jvm.Pilot.@@N@@
open Jvm Jvm.ClassFile Sem Op Lib Jvm.Free Jvm.Stand Jvm.Pilot.@@N@@.Jvm.D
/-! MADE BY PROGRAM (witnessworld.py) out of the Statement's table words and the real class files: 12 classes; the members and pool entries that the words name. The judged class is class 1, her method 3. -/
namespace start1
open Jvm.ClassFile
def u (s : String) : CpInfo := .utf8 (stringToUtf16 s)
/-- a pool by its gaps: so many unusable entries, then the entry; so many at the end -/
def gap : Nat → List CpInfo → List CpInfo
  | 0, r => r
  | n + 1, r => .unusable :: gap n r
def poolList (es : List (Nat × CpInfo)) (last : Nat) : List CpInfo := es.foldr (fun e r => gap e.1 (e.2 :: r)) (gap last [])
def pool (es : List (Nat × CpInfo)) (last : Nat) : Array CpInfo := ⟨poolList es last⟩
def fileOf (pool : Array CpInfo) (this : Nat) (attrs : Array Attribute := #[]) (ms : Array MethodInfo := #[]) (fl : Nat := 33) (sup : Nat := 0) (ifs : Array Nat := #[]) (fds : Array FieldInfo := #[]) : ClassFile where
  minorVersion := 0
  majorVersion := 65
  constantPool := pool
  accessFlags := fl
  thisClass := this
  superClass := sup
  interfaces := ifs
  fields := fds
  methods := ms
  attributes := attrs
def plain (name : String) (sup : Option ClassId) : Class where
  name := name
  kind := .ordinary
  loader := none
  accessFlags := 33
  super := sup
  interfaces := #[]
  cf := none
  fields := #[]
  methods := #[]
  instanceTypes := #[]
  staticTypes := #[]
  resolved := #[]
  callSites := []
  init := .initialized
  statics := none
  mirror := none

def pool0 : Array CpInfo := pool [(5, u "<init>"), (0, u "()V"), (1, .class_ 10), (1, u "java/lang/Object")] 113

def k0m0 : Method := { name := "<init>", desc := "()V", sig := { parameters := [], returnType := none }, accessFlags := 1, code := none }
/-- java/lang/Object -/
def k0 : Class := { plain "java/lang/Object" none with
  accessFlags := 33
  interfaces := #[]
  cf := some (fileOf pool0 8 #[] #[{ accessFlags := 1, nameIndex := 5, descriptorIndex := 6, attributes := #[] }] 33 0 #[] #[])
  fields := #[]
  methods := #[k0m0]
  instanceTypes := #[]
  staticTypes := #[]
  resolved := Array.replicate 124 none
  statics := none }

def pool1 : Array CpInfo := pool [(2, .class_ 4), (1, u "java/lang/Object"), (0, u "<init>"), (0, u "()V"), (0, .fieldref 8 9), (0, .class_ 10), (0, .nameAndType 11 12), (0, u "com/example/orbweaver/orbweaver/idl/Definition$Kind"), (0, u "MODULE"), (0, u "Lcom/example/orbweaver/orbweaver/idl/Definition$Kind;"), (0, .fieldref 8 14), (0, .nameAndType 15 12), (0, u "INTERFACE"), (0, .fieldref 8 17), (0, .nameAndType 18 12), (0, u "VALUETYPE"), (0, .fieldref 8 20), (0, .nameAndType 21 12), (0, u "STRUCT"), (0, .fieldref 8 23), (0, .nameAndType 24 12), (0, u "UNION"), (0, .fieldref 8 26), (0, .nameAndType 27 12), (0, u "ENUM"), (0, .fieldref 8 29), (0, .nameAndType 30 12), (0, u "EXCEPTION"), (0, .fieldref 8 32), (0, .nameAndType 33 12), (0, u "TYPEDEF"), (0, .fieldref 8 35), (0, .nameAndType 36 12), (0, u "CONST"), (0, .fieldref 8 38), (0, .nameAndType 39 12), (0, u "ATTRIBUTE"), (0, .fieldref 8 41), (0, .nameAndType 42 12), (0, u "OPERATION"), (0, .fieldref 8 44), (0, .nameAndType 45 12), (0, u "PUBLIC"), (0, .fieldref 8 47), (0, .nameAndType 48 12), (0, u "PRIVATE"), (0, .fieldref 8 50), (0, .nameAndType 51 12), (0, u "FACTORY"), (0, .fieldref 8 53), (0, .nameAndType 54 12), (0, u "NATIVE"), (0, .fieldref 8 56), (0, .nameAndType 57 12), (0, u "ENUMERATOR"), (0, .methodref 59 60), (0, .class_ 61), (0, .nameAndType 62 63), (0, u "com/example/orbweaver/orbweaver/idl/KindHasRepositoryIdPinLaw"), (0, u "kindOf"), (0, u "(I)Lcom/example/orbweaver/orbweaver/idl/Definition$Kind;"), (0, .methodref 8 65), (0, .nameAndType 66 67), (0, u "hasRepositoryId"), (0, u "()Z"), (0, .methodref 59 69), (0, .nameAndType 70 71), (0, u "expected"), (0, u "(I)Z"), (3, u "law")] 6

def k1m0 : Method := { name := "<init>", desc := "()V", sig := { parameters := [], returnType := none }, accessFlags := 2, code := none }
def k1c1 : Code := { maxStack := 2, maxLocals := 1, code := method_2_code, exceptionTable := #[], attributes := #[] }
def k1m1 : Method := { name := "kindOf", desc := "(I)Lcom/example/orbweaver/orbweaver/idl/Definition$Kind;", sig := { parameters := [.int], returnType := some (.object "com/example/orbweaver/orbweaver/idl/Definition$Kind") }, accessFlags := 10, code := some k1c1 }
def k1c2 : Code := { maxStack := 2, maxLocals := 1, code := method_3_code, exceptionTable := #[], attributes := #[] }
def k1m2 : Method := { name := "expected", desc := "(I)Z", sig := { parameters := [.int], returnType := some .boolean }, accessFlags := 10, code := some k1c2 }
def k1c3 : Code := { maxStack := 2, maxLocals := 3, code := code, exceptionTable := #[], attributes := #[] }
def k1m3 : Method := { name := "law", desc := "(I)Z", sig := { parameters := [.int], returnType := some .boolean }, accessFlags := 9, code := some k1c3 }
/-- com/example/orbweaver/orbweaver/idl/KindHasRepositoryIdPinLaw -/
def k1 : Class := { plain "com/example/orbweaver/orbweaver/idl/KindHasRepositoryIdPinLaw" (some 0) with
  accessFlags := 49
  interfaces := #[]
  cf := some (fileOf pool1 59 #[] #[{ accessFlags := 2, nameIndex := 5, descriptorIndex := 6, attributes := #[] }, { accessFlags := 10, nameIndex := 62, descriptorIndex := 63, attributes := #[] }, { accessFlags := 10, nameIndex := 70, descriptorIndex := 71, attributes := #[] }, { accessFlags := 9, nameIndex := 75, descriptorIndex := 71, attributes := #[] }] 49 2 #[] #[])
  fields := #[]
  methods := #[k1m0, k1m1, k1m2, k1m3]
  instanceTypes := #[]
  staticTypes := #[]
  resolved := Array.replicate 82 none
  statics := none }

def pool2 : Array CpInfo := pool [(1, .class_ 2), (0, u "java/lang/constant/Constable"), (0, .class_ 4), (0, u "java/lang/Object")] 6

/-- java/lang/constant/Constable -/
def k2 : Class := { plain "java/lang/constant/Constable" (some 0) with
  accessFlags := 1537
  interfaces := #[]
  cf := some (fileOf pool2 1 #[] #[] 1537 3 #[] #[])
  fields := #[]
  methods := #[]
  instanceTypes := #[]
  staticTypes := #[]
  resolved := Array.replicate 11 none
  statics := none }

def pool3 : Array CpInfo := pool [(1, .class_ 2), (0, u "java/lang/Comparable"), (0, .class_ 4), (0, u "java/lang/Object")] 7

/-- java/lang/Comparable -/
def k3 : Class := { plain "java/lang/Comparable" (some 0) with
  accessFlags := 1537
  interfaces := #[]
  cf := some (fileOf pool3 1 #[] #[] 1537 3 #[] #[])
  fields := #[]
  methods := #[]
  instanceTypes := #[]
  staticTypes := #[]
  resolved := Array.replicate 12 none
  statics := none }

def pool4 : Array CpInfo := pool [(1, .class_ 2), (0, u "java/io/Serializable"), (0, .class_ 4), (0, u "java/lang/Object")] 2

/-- java/io/Serializable -/
def k4 : Class := { plain "java/io/Serializable" (some 0) with
  accessFlags := 1537
  interfaces := #[]
  cf := some (fileOf pool4 1 #[] #[] 1537 3 #[] #[])
  fields := #[]
  methods := #[]
  instanceTypes := #[]
  staticTypes := #[]
  resolved := Array.replicate 7 none
  statics := none }

def pool5 : Array CpInfo := pool [(2, .class_ 4), (1, u "java/lang/Enum"), (0, u "name"), (0, u "Ljava/lang/String;"), (2, u "ordinal"), (0, u "I"), (1, .class_ 14), (1, u "java/lang/Object"), (4, u "hash"), (86, .class_ 108), (1, u "java/lang/Enum$EnumDesc"), (2, .class_ 112), (0, u "java/lang/constant/Constable"), (0, .class_ 114), (0, u "java/lang/Comparable"), (0, .class_ 116), (0, u "java/io/Serializable")] 87

/-- java/lang/Enum -/
def k5 : Class := { plain "java/lang/Enum" (some 0) with
  accessFlags := 1057
  interfaces := #[2, 3, 4]
  cf := some (fileOf pool5 2 #[.nestMembers #[106]] #[] 1057 12 #[111, 113, 115] #[{ accessFlags := 18, nameIndex := 5, descriptorIndex := 6, attributes := #[] }, { accessFlags := 18, nameIndex := 9, descriptorIndex := 10, attributes := #[] }, { accessFlags := 2, nameIndex := 19, descriptorIndex := 10, attributes := #[] }])
  fields := #[{ name := "name", type := (.object "java/lang/String"), accessFlags := 18, slot := 0, constantValue := 0 }, { name := "ordinal", type := .int, accessFlags := 18, slot := 1, constantValue := 0 }, { name := "hash", type := .int, accessFlags := 2, slot := 2, constantValue := 0 }]
  methods := #[]
  instanceTypes := #[(.object "java/lang/String"), .int, .int]
  staticTypes := #[]
  resolved := Array.replicate 204 none
  statics := none }

def pool6 : Array CpInfo := pool [(1, .class_ 2), (0, u "com/example/orbweaver/orbweaver/idl/Definition$Kind"), (2, u "MODULE"), (0, u "Lcom/example/orbweaver/orbweaver/idl/Definition$Kind;"), (2, u "INTERFACE"), (2, u "VALUETYPE"), (2, u "STRUCT"), (2, u "UNION"), (2, u "ENUM"), (2, u "EXCEPTION"), (2, u "TYPEDEF"), (2, u "CONST"), (2, u "ATTRIBUTE"), (2, u "OPERATION"), (2, u "PUBLIC"), (2, u "PRIVATE"), (0, .fieldref 1 44), (0, .nameAndType 45 6), (0, u "FACTORY"), (2, u "NATIVE"), (0, .fieldref 1 50), (0, .nameAndType 51 6), (0, u "ENUMERATOR"), (2, u "$VALUES"), (0, u "[Lcom/example/orbweaver/orbweaver/idl/Definition$Kind;"), (6, .class_ 64), (1, u "java/lang/Enum"), (44, u "hasRepositoryId"), (0, u "()Z"), (7, .class_ 119), (0, u "com/example/orbweaver/orbweaver/idl/Definition")] 2

def k6c0 : Code := { maxStack := 2, maxLocals := 1, code := prog_24_method_4_code, exceptionTable := #[], attributes := #[] }
def k6m0 : Method := { name := "hasRepositoryId", desc := "()Z", sig := { parameters := [], returnType := some .boolean }, accessFlags := 1, code := some k6c0 }
/-- com/example/orbweaver/orbweaver/idl/Definition$Kind -/
def k6 : Class := { plain "com/example/orbweaver/orbweaver/idl/Definition$Kind" (some 5) with
  accessFlags := 16433
  interfaces := #[]
  cf := some (fileOf pool6 1 #[.nestHost 118] #[{ accessFlags := 1, nameIndex := 109, descriptorIndex := 110, attributes := #[] }] 16433 62 #[] #[{ accessFlags := 16409, nameIndex := 5, descriptorIndex := 6, attributes := #[] }, { accessFlags := 16409, nameIndex := 9, descriptorIndex := 6, attributes := #[] }, { accessFlags := 16409, nameIndex := 12, descriptorIndex := 6, attributes := #[] }, { accessFlags := 16409, nameIndex := 15, descriptorIndex := 6, attributes := #[] }, { accessFlags := 16409, nameIndex := 18, descriptorIndex := 6, attributes := #[] }, { accessFlags := 16409, nameIndex := 21, descriptorIndex := 6, attributes := #[] }, { accessFlags := 16409, nameIndex := 24, descriptorIndex := 6, attributes := #[] }, { accessFlags := 16409, nameIndex := 27, descriptorIndex := 6, attributes := #[] }, { accessFlags := 16409, nameIndex := 30, descriptorIndex := 6, attributes := #[] }, { accessFlags := 16409, nameIndex := 33, descriptorIndex := 6, attributes := #[] }, { accessFlags := 16409, nameIndex := 36, descriptorIndex := 6, attributes := #[] }, { accessFlags := 16409, nameIndex := 39, descriptorIndex := 6, attributes := #[] }, { accessFlags := 16409, nameIndex := 42, descriptorIndex := 6, attributes := #[] }, { accessFlags := 16409, nameIndex := 45, descriptorIndex := 6, attributes := #[] }, { accessFlags := 16409, nameIndex := 48, descriptorIndex := 6, attributes := #[] }, { accessFlags := 16409, nameIndex := 51, descriptorIndex := 6, attributes := #[] }, { accessFlags := 4122, nameIndex := 54, descriptorIndex := 55, attributes := #[] }])
  fields := #[{ name := "MODULE", type := (.object "com/example/orbweaver/orbweaver/idl/Definition$Kind"), accessFlags := 16409, slot := 0, constantValue := 0 }, { name := "INTERFACE", type := (.object "com/example/orbweaver/orbweaver/idl/Definition$Kind"), accessFlags := 16409, slot := 1, constantValue := 0 }, { name := "VALUETYPE", type := (.object "com/example/orbweaver/orbweaver/idl/Definition$Kind"), accessFlags := 16409, slot := 2, constantValue := 0 }, { name := "STRUCT", type := (.object "com/example/orbweaver/orbweaver/idl/Definition$Kind"), accessFlags := 16409, slot := 3, constantValue := 0 }, { name := "UNION", type := (.object "com/example/orbweaver/orbweaver/idl/Definition$Kind"), accessFlags := 16409, slot := 4, constantValue := 0 }, { name := "ENUM", type := (.object "com/example/orbweaver/orbweaver/idl/Definition$Kind"), accessFlags := 16409, slot := 5, constantValue := 0 }, { name := "EXCEPTION", type := (.object "com/example/orbweaver/orbweaver/idl/Definition$Kind"), accessFlags := 16409, slot := 6, constantValue := 0 }, { name := "TYPEDEF", type := (.object "com/example/orbweaver/orbweaver/idl/Definition$Kind"), accessFlags := 16409, slot := 7, constantValue := 0 }, { name := "CONST", type := (.object "com/example/orbweaver/orbweaver/idl/Definition$Kind"), accessFlags := 16409, slot := 8, constantValue := 0 }, { name := "ATTRIBUTE", type := (.object "com/example/orbweaver/orbweaver/idl/Definition$Kind"), accessFlags := 16409, slot := 9, constantValue := 0 }, { name := "OPERATION", type := (.object "com/example/orbweaver/orbweaver/idl/Definition$Kind"), accessFlags := 16409, slot := 10, constantValue := 0 }, { name := "PUBLIC", type := (.object "com/example/orbweaver/orbweaver/idl/Definition$Kind"), accessFlags := 16409, slot := 11, constantValue := 0 }, { name := "PRIVATE", type := (.object "com/example/orbweaver/orbweaver/idl/Definition$Kind"), accessFlags := 16409, slot := 12, constantValue := 0 }, { name := "FACTORY", type := (.object "com/example/orbweaver/orbweaver/idl/Definition$Kind"), accessFlags := 16409, slot := 13, constantValue := 0 }, { name := "NATIVE", type := (.object "com/example/orbweaver/orbweaver/idl/Definition$Kind"), accessFlags := 16409, slot := 14, constantValue := 0 }, { name := "ENUMERATOR", type := (.object "com/example/orbweaver/orbweaver/idl/Definition$Kind"), accessFlags := 16409, slot := 15, constantValue := 0 }, { name := "$VALUES", type := (.array (.object "com/example/orbweaver/orbweaver/idl/Definition$Kind")), accessFlags := 4122, slot := 16, constantValue := 0 }]
  methods := #[k6m0]
  instanceTypes := #[(.object "java/lang/String"), .int, .int]
  staticTypes := #[(.object "com/example/orbweaver/orbweaver/idl/Definition$Kind"), (.object "com/example/orbweaver/orbweaver/idl/Definition$Kind"), (.object "com/example/orbweaver/orbweaver/idl/Definition$Kind"), (.object "com/example/orbweaver/orbweaver/idl/Definition$Kind"), (.object "com/example/orbweaver/orbweaver/idl/Definition$Kind"), (.object "com/example/orbweaver/orbweaver/idl/Definition$Kind"), (.object "com/example/orbweaver/orbweaver/idl/Definition$Kind"), (.object "com/example/orbweaver/orbweaver/idl/Definition$Kind"), (.object "com/example/orbweaver/orbweaver/idl/Definition$Kind"), (.object "com/example/orbweaver/orbweaver/idl/Definition$Kind"), (.object "com/example/orbweaver/orbweaver/idl/Definition$Kind"), (.object "com/example/orbweaver/orbweaver/idl/Definition$Kind"), (.object "com/example/orbweaver/orbweaver/idl/Definition$Kind"), (.object "com/example/orbweaver/orbweaver/idl/Definition$Kind"), (.object "com/example/orbweaver/orbweaver/idl/Definition$Kind"), (.object "com/example/orbweaver/orbweaver/idl/Definition$Kind"), (.array (.object "com/example/orbweaver/orbweaver/idl/Definition$Kind"))]
  resolved := Array.replicate 122 none
  statics := some 0 }

def pool7 : Array CpInfo := pool [(1, u "java/lang/Cloneable"), (0, .class_ 1), (0, u "java/lang/Object"), (0, .class_ 3)] 3

/-- java/lang/Cloneable -/
def k7 : Class := { plain "java/lang/Cloneable" (some 0) with
  accessFlags := 1537
  interfaces := #[]
  cf := some (fileOf pool7 2 #[] #[] 1537 4 #[] #[])
  fields := #[]
  methods := #[]
  instanceTypes := #[]
  staticTypes := #[]
  resolved := Array.replicate 8 none
  statics := none }

/-- the primitive byte -/
def k8 : Class := { plain "byte" none with kind := .primitive 'B', accessFlags := 0x411 }
/-- [B -/
def k9 : Class := { plain "[B" (some 0) with kind := .array 8 .byte, interfaces := #[7, 4], accessFlags := 1041 }

/-- the primitive int -/
def k10 : Class := { plain "int" none with kind := .primitive 'I', accessFlags := 0x411 }
/-- [I -/
def k11 : Class := { plain "[I" (some 0) with kind := .array 10 .int, interfaces := #[7, 4], accessFlags := 1041 }

def heap : Heap := #[{ cls := 6, slots := #[.ref 1, .ref 2, .ref 3, .ref 4, .ref 5, .ref 6, .ref 7, .ref 8, .ref 9, .ref 10, .ref 11, .ref 12, .ref 13, .ref 14, .ref 15, .ref 16, .null], vm := .statics 6 },
  { cls := 6, slots := #[.null, .int 0, .int 0], vm := .none },
  { cls := 6, slots := #[.null, .int 1, .int 0], vm := .none },
  { cls := 6, slots := #[.null, .int 2, .int 0], vm := .none },
  { cls := 6, slots := #[.null, .int 3, .int 0], vm := .none },
  { cls := 6, slots := #[.null, .int 4, .int 0], vm := .none },
  { cls := 6, slots := #[.null, .int 5, .int 0], vm := .none },
  { cls := 6, slots := #[.null, .int 6, .int 0], vm := .none },
  { cls := 6, slots := #[.null, .int 7, .int 0], vm := .none },
  { cls := 6, slots := #[.null, .int 8, .int 0], vm := .none },
  { cls := 6, slots := #[.null, .int 9, .int 0], vm := .none },
  { cls := 6, slots := #[.null, .int 10, .int 0], vm := .none },
  { cls := 6, slots := #[.null, .int 11, .int 0], vm := .none },
  { cls := 6, slots := #[.null, .int 12, .int 0], vm := .none },
  { cls := 6, slots := #[.null, .int 13, .int 0], vm := .none },
  { cls := 6, slots := #[.null, .int 14, .int 0], vm := .none },
  { cls := 6, slots := #[.null, .int 15, .int 0], vm := .none }]
def classes : Array Class := #[k0, k1, k2, k3, k4, k5, k6, k7, k8, k9, k10, k11]
def interned : List (Array UInt16 × Addr) := []
def slotsUsed : Nat := 65
def theMethod : MethodId := ⟨1, 3⟩
def args0 : Array Value := #[.int 5]
def aboutOver (below : List Frame) : State where
  vm := { classes := classes, interned := interned.toArray }
  heap := heap
  slotsUsed := slotsUsed
  threads := #[{ frames := .invoking theMethod args0 :: below }]
def below0 : List Frame := [.native { method := ⟨0, 0⟩, args := #[] }]
def about1 : State := aboutOver below0
def p0 : Program := .bare "" "" ""
def e0 : Env := launch0.env 0 0 0
theorem w_frames : about1.frames = Frame.invoking theMethod args0 :: below0 := rfl
set_option maxRecDepth 65536 in
theorem w_args : argsFit about1.vm theMethod args0 = true := by decide +kernel
set_option maxRecDepth 65536 in
theorem w_heap : heapFits about1 = true := by decide +kernel
set_option maxRecDepth 65536 in
theorem w_runnable : about1.curStatus? = some .runnable := by decide +kernel
set_option maxRecDepth 65536 in
theorem w_alone : about1.alone = true := by decide +kernel
set_option maxRecDepth 65536 in
theorem w_named : about1.methodNamed? x = some theMethod := by decide +kernel
set_option maxRecDepth 65536 in
theorem w_hears : about1.hears theMethod below0 = true := by decide +kernel
set_option maxRecDepth 65536 in
theorem w_ripe : about1.ripe theMethod args0 below0 = true := by decide +kernel
theorem w_running : about1.status = .running := rfl
set_option maxRecDepth 65536 in
theorem w_room : about1.hasRoom e0.platform room_1 = true :=
  launch0.hasRoom_least _ room_1 (by decide +kernel) (by decide +kernel) (by decide +kernel) (by decide +kernel) (by decide +kernel) (by decide +kernel)
theorem allAtoms_all (ts : List Jvm.Cond) (a : Array Jvm.Value) (st : Jvm.State) : (allAtoms ts).before a st = ts.all (fun c => c.before a st) := by
  induction ts with
  | nil => rfl
  | cons c t ih =>
    show (Jvm.Cond.and c (allAtoms t)).before a st = _
    rw [Jvm.Cond.before_and, ih, List.all_cons]
def words1 : List Jvm.Cond := Jvm.Cond.code x code maxLocals ret :: tables_1
/-- a 'code' word, met by the world's own term for the bytes: nothing is compared byte by byte -/
theorem code_word {y : MethodName} {bytes : ByteArray} {mx : Nat} {rt : Option FieldType} {a : Array Value} {s : State} {m : MethodId} {meth : Method} {c : Code} (h1 : s.methodNamed? y = some m) (h2 : s.vm.method? m = some meth) (h3 : meth.code = some c) (h4 : c.code = bytes)
    (h5 : (c.maxLocals == mx && c.exceptionTable.isEmpty && decide (c.maxStack ≤ mostOperands) && decide (meth.sig.returnType = rt) && !meth.locks && decide (parseMethodDescriptor y.desc = some meth.sig)) = true) : (Jvm.Cond.code y bytes mx rt).before a s = true := by
  simp only [Bool.and_eq_true, beq_iff_eq, Bool.not_eq_true', decide_eq_true_eq] at h5
  obtain ⟨⟨⟨⟨⟨g1, g2⟩, g3⟩, g4⟩, g5⟩, g6⟩ := h5
  simp [Cond.before, Cond.holds, Cond.value, h1, h2, h3, h4, g1, g2, g3, g4, g5, g6]
def isCode : Jvm.Cond → Bool
  | .code _ _ _ _ => true
  | _ => false
theorem all_split {L : List Jvm.Cond} {P : Jvm.Cond → Bool} (h1 : L.all (fun c => isCode c || P c) = true) (h2 : ∀ c ∈ L.filter isCode, P c = true) : L.all P = true := by
  refine List.all_eq_true.mpr fun c hc => ?_
  have h := List.all_eq_true.mp h1 c hc
  rcases Bool.eq_false_or_eq_true (isCode c) with hi | hi
  · exact h2 c (List.mem_filter.mpr ⟨hc, hi⟩)
  · simpa [hi] using h
set_option maxRecDepth 65536 in
theorem w_c0 : (Jvm.Cond.code x code maxLocals ret).before args0 about1 = true := code_word (m := ⟨1, 3⟩) (meth := k1m3) (c := k1c3) (by decide +kernel) rfl rfl rfl (by decide +kernel)
set_option maxRecDepth 65536 in
theorem w_c1 : (Jvm.Cond.code ({ cls := "com/example/orbweaver/orbweaver/idl/KindHasRepositoryIdPinLaw", name := "kindOf", desc := "(I)Lcom/example/orbweaver/orbweaver/idl/Definition$Kind;" } : Jvm.MethodName) method_2_code (1 : Nat) (Option.some (Jvm.ClassFile.FieldType.object "com/example/orbweaver/orbweaver/idl/Definition$Kind"))).before args0 about1 = true := code_word (m := ⟨1, 1⟩) (meth := k1m1) (c := k1c1) (by decide +kernel) rfl rfl rfl (by decide +kernel)
set_option maxRecDepth 65536 in
theorem w_c2 : (Jvm.Cond.code ({ cls := "com/example/orbweaver/orbweaver/idl/Definition$Kind", name := "hasRepositoryId", desc := "()Z" } : Jvm.MethodName) prog_24_method_4_code (1 : Nat) (Option.some Jvm.ClassFile.FieldType.boolean)).before args0 about1 = true := code_word (m := ⟨6, 0⟩) (meth := k6m0) (c := k6c0) (by decide +kernel) rfl rfl rfl (by decide +kernel)
set_option maxRecDepth 65536 in
theorem w_c3 : (Jvm.Cond.code ({ cls := "com/example/orbweaver/orbweaver/idl/KindHasRepositoryIdPinLaw", name := "expected", desc := "(I)Z" } : Jvm.MethodName) method_3_code (1 : Nat) (Option.some Jvm.ClassFile.FieldType.boolean)).before args0 about1 = true := code_word (m := ⟨1, 2⟩) (meth := k1m2) (c := k1c2) (by decide +kernel) rfl rfl rfl (by decide +kernel)
def codes1 : List Jvm.Cond := [Jvm.Cond.code x code maxLocals ret, Jvm.Cond.code ({ cls := "com/example/orbweaver/orbweaver/idl/KindHasRepositoryIdPinLaw", name := "kindOf", desc := "(I)Lcom/example/orbweaver/orbweaver/idl/Definition$Kind;" } : Jvm.MethodName) method_2_code (1 : Nat) (Option.some (Jvm.ClassFile.FieldType.object "com/example/orbweaver/orbweaver/idl/Definition$Kind")), Jvm.Cond.code ({ cls := "com/example/orbweaver/orbweaver/idl/Definition$Kind", name := "hasRepositoryId", desc := "()Z" } : Jvm.MethodName) prog_24_method_4_code (1 : Nat) (Option.some Jvm.ClassFile.FieldType.boolean), Jvm.Cond.code ({ cls := "com/example/orbweaver/orbweaver/idl/KindHasRepositoryIdPinLaw", name := "expected", desc := "(I)Z" } : Jvm.MethodName) method_3_code (1 : Nat) (Option.some Jvm.ClassFile.FieldType.boolean)]
set_option maxRecDepth 65536 in
theorem codes_eq : words1.filter isCode = codes1 := rfl
theorem w_codes : ∀ c ∈ words1.filter isCode, c.before args0 about1 = true := by
  rw [codes_eq]
  intro c hc
  simp only [codes1, List.mem_cons, List.not_mem_nil, or_false] at hc
  rcases hc with rfl | rfl | rfl | rfl
  · exact w_c0
  · exact w_c1
  · exact w_c2
  · exact w_c3
set_option maxRecDepth 65536 in
theorem w_t1 : (words1.take 24).all (fun c => isCode c || c.before args0 about1) = true := by decide +kernel
set_option maxRecDepth 65536 in
theorem w_t2 : (words1.drop 24).all (fun c => isCode c || c.before args0 about1) = true := by decide +kernel
theorem w_tables : (allAtoms (Jvm.Cond.code x code maxLocals ret :: tables_1)).before args0 about1 = true := by
  rw [allAtoms_all]
  show words1.all (fun c => c.before args0 about1) = true
  refine all_split ?_ w_codes
  rw [← List.take_append_drop 24 words1, List.all_append, w_t1, w_t2]
  rfl
set_option maxRecDepth 65536 in
theorem w_case : (Jvm.Cond.and given_1 narrow_1).before args0 about1 = true := by decide +kernel
theorem w_applies : (headSpec (Jvm.Cond.code x code maxLocals ret :: tables_1) room_1).applies x e0.platform about1 = true :=
  (Spec.applies_iff w_frames).mpr ⟨w_running, w_runnable, w_alone, w_named, w_hears, w_ripe, w_room, w_tables⟩
theorem atStart : AtStart classFile x code maxLocals ret World_1 tables_1 room_1 Calls_1 rest_1 Pre_1 launch0 p0 e0 about1 theMethod args0 below0 :=
  ⟨lists_1, trivial, launch0.admits_env _ _ _, launch0.least_env, fairChoices_fair.cas, fairChoices_fair.clock, w_frames, w_args, w_heap, w_applies, trivial, trivial, w_case⟩
end start1
theorem witness_1 : WitnessClaimed_1 := ⟨start1.p0, start1.e0, start1.about1, start1.theMethod, start1.args0, start1.below0, start1.atStart⟩
end Jvm.Pilot.@@N@@
