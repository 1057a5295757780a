import JvmDerived
import JvmDerived.Pilot.@@N@@Statement
import JvmDerived.Pilot.@@N@@Code
set_option linter.unusedVariables false
set_option linter.unusedSimpArgs false
namespace Jvm.Pilot.@@N@@
open Jvm Jvm.ClassFile Sem Op Lib Jvm.Free Jvm.Stand Jvm.LawKit Jvm.RoadKit Bundle Jvm.Pilot.@@N@@.Jvm.D
section OwnNums
theorem own_toInt (n : Nat) (h : n < 2 ^ 31) : (Int32.ofNat n).toInt = n := Int32.toInt_ofNat_of_lt h
theorem own_eq {x : Int32} {n : Nat} (h : n < 2 ^ 31) (e : x.toInt = n) : x = Int32.ofNat n := by rw [← Int32.toInt_inj, own_toInt n h, e]
theorem own_ltN (a b : Nat) (ha : a < 2 ^ 31) (hb : b < 2 ^ 31) : Int32.ofNat a < Int32.ofNat b ↔ a < b := by
  rw [Int32.lt_iff_toInt_lt, own_toInt a ha, own_toInt b hb]; omega
theorem own_eqN (a b : Nat) (ha : a < 2 ^ 31) (hb : b < 2 ^ 31) : Int32.ofNat a = Int32.ofNat b ↔ a = b := by
  rw [← Int32.toInt_inj, own_toInt a ha, own_toInt b hb]; omega
theorem own_addN (a b : Nat) : Int32.ofNat a + Int32.ofNat b = Int32.ofNat (a + b) := (Int32.ofNat_add a b).symm
theorem own_subI (a b : Nat) (ha : a < 2 ^ 31) (hb : b < 2 ^ 31) : (Int32.ofNat a - Int32.ofNat b).toInt = (a : Int) - b := by
  rw [Int32.toInt_sub, own_toInt a ha, own_toInt b hb]
  exact Int.bmod_eq_of_le (by omega) (by omega)
theorem own_subN (a b : Nat) (ha : a < 2 ^ 31) (hb : b ≤ a) : Int32.ofNat a - Int32.ofNat b = Int32.ofNat (a - b) :=
  own_eq (by omega) (by rw [own_subI a b ha (by omega)]; omega)
theorem own_clamp (a : Nat) (ha : a < 2 ^ 31) : (Int32.ofNat a).toNatClampNeg = a := by
  show (Int32.ofNat a).toInt.toNat = a
  rw [own_toInt a ha]; rfl
theorem own_nneg (a : Nat) (ha : a < 2 ^ 31) : ¬ Int32.ofNat a < 0 := by
  rw [Int32.lt_iff_toInt_lt, own_toInt a ha]
  have : (0 : Int32).toInt = 0 := rfl
  omega
theorem own_ixs (a b : Nat) (ha : a < 2 ^ 31) (hb : b ≤ a) : ¬ (Int32.ofNat a - Int32.ofNat b < 0) ∧ (Int32.ofNat a - Int32.ofNat b).toNatClampNeg = a - b := by
  rw [own_subN a b ha hb]; exact ⟨own_nneg _ (by omega), own_clamp _ (by omega)⟩
theorem own_ixa (a b : Nat) (ha : a + b < 2 ^ 31) : ¬ (Int32.ofNat a + Int32.ofNat b < 0) ∧ (Int32.ofNat a + Int32.ofNat b).toNatClampNeg = a + b := by
  rw [own_addN]; exact ⟨own_nneg _ ha, own_clamp _ ha⟩
/-- a small natural behind a mask and a remainder -/
theorem own_small (x : Int32) (k : Nat) (hk0 : 0 < k) (hk : k < 2 ^ 31) : ∃ n : Nat, n < k ∧ (x &&& 2147483647) % Int32.ofNat k = Int32.ofNat n := by
  obtain ⟨q1, q2⟩ := c_and x 2147483647 (by decide)
  obtain ⟨c1, -⟩ := c_irem (x &&& 2147483647) (Int32.ofNat k) k (own_toInt k hk)
  have h1 := c1 q1
  have h2 := Int.emod_nonneg (x &&& 2147483647).toInt (b := (k : Int)) (by omega)
  have h3 := Int.emod_lt_of_pos (x &&& 2147483647).toInt (b := (k : Int)) (by omega)
  exact ⟨((x &&& 2147483647) % Int32.ofNat k).toInt.toNat, by omega, own_eq (by omega) (by omega)⟩
/-- a small natural behind a mask -/
theorem own_masked (x : Int32) (k : Nat) (hk : k < 2 ^ 31) : ∃ n : Nat, n ≤ k ∧ x &&& Int32.ofNat k = Int32.ofNat n := by
  have h0 := own_toInt k hk
  obtain ⟨q1, q2⟩ := c_and x (Int32.ofNat k) (by omega)
  exact ⟨(x &&& Int32.ofNat k).toInt.toNat, by omega, own_eq (by omega) (by omega)⟩
theorem own_cmp (x y : Int64) : XT.cmpL x y = 0 ↔ x = y := lw_eq x y
theorem own_cmplt (x y : Int64) : XT.cmpL x y < 0 ↔ x < y := lw_lt x y
theorem own_cmpgt (x y : Int64) : 0 < XT.cmpL x y ↔ y < x := lw_gt x y
end OwnNums
section OwnLayer
variable {p : Program} {l : Launch} {e : Env} {R : Room} {s : State} {m : MethodId} {args : Array Value} {below : List Frame} {meth : Method} {c : Code} {T : State} {locs : List Loc} {cells slots : Nat} {Z : State} {a0 : Array Value} {h h' : Heap}
/-- from U the run comes to a return of which Q tells (value, heap, written places), within rc cells and rs slots -/
def Goes (p : Program) (e : Env) (below : List Frame) (s : State) (rc rs : Nat) (Q : Option Value → Heap → List Loc → Prop) (U : State) : Prop :=
  ∃ t o, Steps p.tables e below U t ∧ t.status = .running ∧ Ended t below o ∧ ∃ v L, o = .returned v ∧ Q v t.heap L ∧ FrameEnd s o t L rc rs
theorem Goes.step {rc rs : Nat} {Q : Option Value → Heap → List Loc → Prop} {U V : State} (st : ∀ t, Steps p.tables e below V t → Steps p.tables e below U t) (k : Goes p e below s rc rs Q V) : Goes p e below s rc rs Q U := by
  obtain ⟨t, o, k1, k2⟩ := k
  exact ⟨t, o, st t k1, k2⟩
theorem Goes.ret {rc rs : Nat} {Q : Option Value → Heap → List Loc → Prop} (X : Stand p l e R s m args below meth c T locs cells slots) (hx : p.tables.exec = Jvm.exec) (hlk : meth.locks = false) {pc : Nat} {Ls : Array Slot} {w : Value} {t : FieldType} {i : Instr} {rest : List Value} (hret : meth.sig.returnType = some t) (hn : narrow t w = w)
    (hi : (i = .ireturn ∧ (t = .int ∨ t = .boolean ∨ t = .byte ∨ t = .char ∨ t = .short) ∧ ∃ z, w = .int z) ∨ (i = .lreturn ∧ t = .long ∧ ∃ z, w = .long z) ∨ (i = .dreturn ∧ t = .double ∧ ∃ z, w = .double z) ∨ (i = .freturn ∧ t = .float ∧ ∃ z, w = .float z) ∨ (i = .areturn ∧ t.isReference = true ∧ w.isRef = true))
    (hd : decode c.code pc = .ok (i, 1)) (hc : cells ≤ rc) (hs : slots ≤ rs) (hQ : Q (some w) T.heap locs) : Goes p e below s rc rs Q (T.setTop (mkF m pc Ls (w :: rest))) := by
  obtain ⟨fs, hr, hrun, hended, hW, hsame⟩ := X.leave (v := some w) (fun h => by rw [hret] at h; cases h) hlk
  exact ⟨_, _, retOut X hx hret hn hi hd hr, hrun, hended, _, _, rfl, hQ, ⟨_, rfl⟩, hW, hsame.mono hc hs⟩
theorem Goes.retI {rc rs : Nat} {Q : Option Value → Heap → List Loc → Prop} (X : Stand p l e R s m args below meth c T locs cells slots) (hx : p.tables.exec = Jvm.exec) (hlk : meth.locks = false) {pc : Nat} {Ls : Array Slot} {z : Int32} {rest : List Value} (hret : meth.sig.returnType = some .int)
    (hd : decode c.code pc = .ok (.ireturn, 1)) (hc : cells ≤ rc) (hs : slots ≤ rs) (hQ : Q (some (.int z)) T.heap locs) : Goes p e below s rc rs Q (T.setTop (mkF m pc Ls (.int z :: rest))) :=
  Goes.ret X hx hlk hret rfl (Or.inl ⟨rfl, Or.inl rfl, _, rfl⟩) hd hc hs hQ
theorem Goes.retZ {rc rs : Nat} {Q : Option Value → Heap → List Loc → Prop} (X : Stand p l e R s m args below meth c T locs cells slots) (hx : p.tables.exec = Jvm.exec) (hlk : meth.locks = false) {pc : Nat} {Ls : Array Slot} {z : Int32} {t : FieldType} {rest : List Value} (hret : meth.sig.returnType = some t)
    (ht : t = .boolean ∨ t = .byte ∨ t = .char ∨ t = .short) (hn : narrow t (.int z) = .int z)
    (hd : decode c.code pc = .ok (.ireturn, 1)) (hc : cells ≤ rc) (hs : slots ≤ rs) (hQ : Q (some (.int z)) T.heap locs) : Goes p e below s rc rs Q (T.setTop (mkF m pc Ls (.int z :: rest))) :=
  Goes.ret X hx hlk hret hn (Or.inl ⟨rfl, Or.inr ht, _, rfl⟩) hd hc hs hQ
theorem Goes.retJ {rc rs : Nat} {Q : Option Value → Heap → List Loc → Prop} (X : Stand p l e R s m args below meth c T locs cells slots) (hx : p.tables.exec = Jvm.exec) (hlk : meth.locks = false) {pc : Nat} {Ls : Array Slot} {z : Int64} {rest : List Value} (hret : meth.sig.returnType = some .long)
    (hd : decode c.code pc = .ok (.lreturn, 1)) (hc : cells ≤ rc) (hs : slots ≤ rs) (hQ : Q (some (.long z)) T.heap locs) : Goes p e below s rc rs Q (T.setTop (mkF m pc Ls (.long z :: rest))) :=
  Goes.ret X hx hlk hret rfl (Or.inr (Or.inl ⟨rfl, rfl, _, rfl⟩)) hd hc hs hQ
theorem own_narrow_ref {t : FieldType} {w : Value} (hw : w.isRef = true) : narrow t w = w := by
  cases w <;> simp [Value.isRef] at hw <;> cases t <;> rfl
theorem Goes.retA {rc rs : Nat} {Q : Option Value → Heap → List Loc → Prop} (X : Stand p l e R s m args below meth c T locs cells slots) (hx : p.tables.exec = Jvm.exec) (hlk : meth.locks = false) {pc : Nat} {Ls : Array Slot} {w : Value} {t : FieldType} {rest : List Value} (hret : meth.sig.returnType = some t)
    (ht : t.isReference = true) (hw : w.isRef = true)
    (hd : decode c.code pc = .ok (.areturn, 1)) (hc : cells ≤ rc) (hs : slots ≤ rs) (hQ : Q (some w) T.heap locs) : Goes p e below s rc rs Q (T.setTop (mkF m pc Ls (w :: rest))) :=
  Goes.ret X hx hlk hret (own_narrow_ref hw) (Or.inr (Or.inr (Or.inr (Or.inr ⟨rfl, ht, hw⟩)))) hd hc hs hQ
theorem Goes.retV {rc rs : Nat} {Q : Option Value → Heap → List Loc → Prop} (X : Stand p l e R s m args below meth c T locs cells slots) (hx : p.tables.exec = Jvm.exec) (hlk : meth.locks = false) {pc : Nat} {Ls : Array Slot} (hret : meth.sig.returnType = none)
    (hd : decode c.code pc = .ok (.return_, 1)) (hc : cells ≤ rc) (hs : slots ≤ rs) (hQ : Q none T.heap locs) : Goes p e below s rc rs Q (T.setTop (mkF m pc Ls [])) := by
  obtain ⟨fs, hr, hrun, hended, hW, hsame⟩ := X.leave (v := none) (fun _ => rfl) hlk
  exact ⟨_, _, X.returnOut hx hret hd hr, hrun, hended, _, _, rfl, hQ, ⟨_, rfl⟩, hW, hsame.mono hc hs⟩
/-- a static call by its contract -/
theorem own_callS (X : Stand p l e R s m args below meth c T locs cells slots) (hx : p.tables.exec = Jvm.exec) (hZ : Z.Warmed39 s.vm) {own : String} {index : Nat} {y : MethodName} {bytes : ByteArray} {maxL : Nat} {ret : Option FieldType} (hown : s.vm.findClass own = some m.cls)
    (w1 : (Cond.methodLink own index y).before a0 Z = true) (w2 : (Cond.static y).before a0 Z = true) (w3 : (Cond.initialized y.cls).before a0 Z = true) (w4 : (Cond.code y bytes maxL ret).before a0 Z = true) (hy : y.cls ≠ "java/lang/invoke/MethodHandle" ∧ y.cls ≠ "java/lang/invoke/VarHandle")
    {rm : Room} {argsL : List Value} {Q : Option Value → Heap → List Loc → Prop}
    (hM : MetFree l y (head1 [Cond.code y bytes maxL ret] rm) (fun a U => a = argsL.toArray ∧ Z.Warmed39 U.vm ∧ U.heap = h) (fun _ _ _ _ _ => True) (fun _ U o U' => ∃ v L, o = .returned v ∧ Q v U'.heap L ∧ FrameEnd U o U' L rm.cells rm.slots))
    (eT : T.heap = h) {W : Nat} (hf : rm.frames + 1 ≤ R.frames) (hl : W + (maxL + 11) + rm.locals ≤ R.locals) (hc : cells + rm.cells ≤ R.cells) (hsl : slots + rm.slots ≤ R.slots)
    {g : JFrame} (hg : g.method = m) (hsize : g.locals.size = c.maxLocals) {rest : List Value} (hlen : ∀ sig, parseMethodDescriptor y.desc = some sig → argsL.length = sig.parameters.length)
    (hstack : g.stack = argsL.reverse ++ rest) (hW : 2 * g.monitorRoom + (rest.map fun v => v.category).sum ≤ W) (hdg : decode c.code g.pc = .ok (.invokestatic index, 3)) :
    ∃ (v : Option Value) (T' : State) (L : List Loc), Stand p l e R s m args below meth c T' (locs ++ L) (cells + rm.cells) (slots + rm.slots) ∧ Q v T'.heap L ∧
      ∀ t, Steps p.tables e below (T'.setTop { g with pc := g.pc + 3, stack := v.toList ++ rest }) t → Steps p.tables e below (T.setTop g) t := by
  obtain ⟨v, _, ⟨U, Ls, k, n⟩, -, X', ⟨Lc, hQ, l1, y1, z1⟩, st⟩ := Jvm.LawKit.callS X hx (y := y) hown (mvT hZ w1) (mvT hZ w2) (mvT hZ w3) (mvT hZ w4) hy (backOf (W := W) hM hZ w4 w3 hf hl) hg hsize (argsL := argsL) (rest := rest) hlen hstack hW hdg (fun _ _ => ⟨rfl, eT, hc, hsl⟩)
  dsimp only [Pt.U, Pt.locs, Pt.cells, Pt.slots] at X' l1 y1 z1 st hQ
  subst l1 y1 z1
  exact ⟨v, U, Lc, X', hQ, st⟩
/-- a constructor's call by its contract -/
theorem own_callN (X : Stand p l e R s m args below meth c T locs cells slots) (hx : p.tables.exec = Jvm.exec) (hZ : Z.Warmed39 s.vm) {own : String} {index : Nat} {y : MethodName} {bytes : ByteArray} {maxL : Nat} (hy1 : y.name = "<init>") (hown : s.vm.findClass own = some m.cls)
    (w1 : (Cond.methodLink own index y).before a0 Z = true) (w2 : (Cond.instanceMethod y).before a0 Z = true) (w3 : (Cond.initialized y.cls).before a0 Z = true) (w4 : (Cond.code y bytes maxL none).before a0 Z = true) (hy : y.cls ≠ "java/lang/invoke/MethodHandle" ∧ y.cls ≠ "java/lang/invoke/VarHandle")
    {rm : Room} {a : Addr} {argsL : List Value} {Q : Option Value → Heap → List Loc → Prop}
    (hM : MetFree l y (head1 [Cond.code y bytes maxL none] rm) (fun b U => b = (.ref a :: argsL).toArray ∧ Z.Warmed39 U.vm ∧ U.heap = h) (fun _ _ _ _ _ => True) (fun _ U o U' => ∃ v L, o = .returned v ∧ Q v U'.heap L ∧ FrameEnd U o U' L rm.cells rm.slots))
    (eT : T.heap = h) {W : Nat} (hf : rm.frames + 1 ≤ R.frames) (hl : W + (maxL + 11) + rm.locals ≤ R.locals) (hc : cells + rm.cells ≤ R.cells) (hsl : slots + rm.slots ≤ R.slots)
    {g : JFrame} (hg : g.method = m) (hsize : g.locals.size = c.maxLocals) {rest : List Value} (hlen : ∀ sig, parseMethodDescriptor y.desc = some sig → argsL.length = sig.parameters.length)
    (hstack : g.stack = argsL.reverse ++ .ref a :: rest) (hW : 2 * g.monitorRoom + (rest.map fun v => v.category).sum ≤ W) (hdg : decode c.code g.pc = .ok (.invokespecial index, 3)) :
    ∃ (v : Option Value) (T' : State) (L : List Loc), Stand p l e R s m args below meth c T' (locs ++ L) (cells + rm.cells) (slots + rm.slots) ∧ Q v T'.heap L ∧
      ∀ t, Steps p.tables e below (T'.setTop { g with pc := g.pc + 3, stack := v.toList ++ rest }) t → Steps p.tables e below (T.setTop g) t := by
  obtain ⟨v, _, ⟨U, Ls, k, n⟩, -, X', ⟨Lc, hQ, l1, y1, z1⟩, st⟩ := X.specialBack hx (y := y) hy1 hown (mvT hZ w1) (mvT hZ w2) (mvT hZ w4) hy (backOf (W := W) hM hZ w4 w3 hf hl) hg hsize (Steps.refl _) (a := a) (argsL := argsL) (rest := rest) hlen hstack hW hdg (fun _ _ => ⟨rfl, eT, hc, hsl⟩)
  dsimp only [Pt.U, Pt.locs, Pt.cells, Pt.slots] at X' l1 y1 z1 st hQ
  subst l1 y1 z1
  exact ⟨v, U, Lc, X', hQ, fun t k => st.trans k⟩
/-- an instance method's call by its contract -/
theorem own_callV (X : Stand p l e R s m args below meth c T locs cells slots) (hx : p.tables.exec = Jvm.exec) (hZ : Z.Warmed39 s.vm) {own C : String} {index : Nat} {y : MethodName} {bytes : ByteArray} {maxL : Nat} {ret : Option FieldType} (hown : s.vm.findClass own = some m.cls)
    (w1 : (Cond.methodLink own index y).before a0 Z = true) (w2 : (Cond.declares y).before a0 Z = true) (w5 : (Cond.selects C y y).before a0 Z = true) (w6 : (Cond.instanceMethod y).before a0 Z = true) (w3 : (Cond.initialized y.cls).before a0 Z = true) (w4 : (Cond.code y bytes maxL ret).before a0 Z = true) (hy : y.cls ≠ "java/lang/invoke/MethodHandle" ∧ y.cls ≠ "java/lang/invoke/VarHandle")
    {rm : Room} {a : Addr} {argsL : List Value} {Q : Option Value → Heap → List Loc → Prop}
    (hM : MetFree l y (head1 [Cond.code y bytes maxL ret] rm) (fun b U => b = (.ref a :: argsL).toArray ∧ Z.Warmed39 U.vm ∧ U.heap = h) (fun _ _ _ _ _ => True) (fun _ U o U' => ∃ v L, o = .returned v ∧ Q v U'.heap L ∧ FrameEnd U o U' L rm.cells rm.slots))
    (eT : T.heap = h) (E : Exa Z h a C) {W : Nat} (hf : rm.frames + 1 ≤ R.frames) (hl : W + (maxL + 11) + rm.locals ≤ R.locals) (hc : cells + rm.cells ≤ R.cells) (hsl : slots + rm.slots ≤ R.slots)
    {g : JFrame} (hg : g.method = m) (hsize : g.locals.size = c.maxLocals) {rest : List Value} (hlen : ∀ sig, parseMethodDescriptor y.desc = some sig → argsL.length = sig.parameters.length)
    (hstack : g.stack = argsL.reverse ++ .ref a :: rest) (hW : 2 * g.monitorRoom + (rest.map fun v => v.category).sum ≤ W) (hdg : decode c.code g.pc = .ok (.invokevirtual index, 3)) :
    ∃ (v : Option Value) (T' : State) (L : List Loc), Stand p l e R s m args below meth c T' (locs ++ L) (cells + rm.cells) (slots + rm.slots) ∧ Q v T'.heap L ∧
      ∀ t, Steps p.tables e below (T'.setTop { g with pc := g.pc + 3, stack := v.toList ++ rest }) t → Steps p.tables e below (T.setTop g) t := by
  obtain ⟨cB, kB, qa, qb, qc⟩ := isOf hZ eT E
  obtain ⟨v, _, ⟨U, Ls, k, n⟩, -, X', ⟨Lc, hQ, l1, y1, z1⟩, st⟩ := X.virtualBack hx (y := y) (z := y) hown (mvT hZ w1) (mvT hZ w2) (notFace_of_selects (args := #[]) (mvT hZ w5)) (mvT hZ w5) (mvT hZ w6) hy (backOf (W := W) hM hZ w4 w3 hf hl) qa qc hg hsize (Steps.refl _) (argsL := argsL) (rest := rest) hlen hstack hW hdg (fun _ _ => ⟨rfl, eT, hc, hsl⟩)
  dsimp only [Pt.U, Pt.locs, Pt.cells, Pt.slots] at X' l1 y1 z1 st hQ
  subst l1 y1 z1
  exact ⟨v, U, Lc, X', hQ, fun t k => st.trans k⟩
/-- an interface method's call by its contract -/
theorem own_callI (X : Stand p l e R s m args below meth c T locs cells slots) (hx : p.tables.exec = Jvm.exec) (hZ : Z.Warmed39 s.vm) {own C : String} {index count : Nat} {xi z : MethodName} {bytes : ByteArray} {maxL : Nat} {ret : Option FieldType} (hown : s.vm.findClass own = some m.cls)
    (w1 : (Cond.methodLink own index xi).before a0 Z = true) (w2 : (Cond.declares xi).before a0 Z = true) (w7 : (Cond.interfaceMethod xi.cls xi.cls xi.name xi.desc).before a0 Z = true) (w5 : (Cond.selects C xi z).before a0 Z = true) (w6 : (Cond.instanceMethod z).before a0 Z = true) (w8 : (Cond.publicMethod z).before a0 Z = true) (w9 : (Cond.unhidden C xi.name xi.desc).before a0 Z = true) (w10 : (Cond.castable C xi.cls).before a0 Z = true)
    (hfa : ((Cond.interfaceMethod xi.cls xi.cls xi.name xi.desc).onTables && (Cond.interfaceMethod xi.cls xi.cls xi.name xi.desc).keepsFace) = true) (w3 : (Cond.initialized z.cls).before a0 Z = true) (w4 : (Cond.code z bytes maxL ret).before a0 Z = true) (hy : xi.cls ≠ "java/lang/invoke/MethodHandle" ∧ xi.cls ≠ "java/lang/invoke/VarHandle")
    {rm : Room} {a : Addr} {argsL : List Value} {Q : Option Value → Heap → List Loc → Prop}
    (hM : MetFree l z (head1 [Cond.code z bytes maxL ret] rm) (fun b U => b = (.ref a :: argsL).toArray ∧ Z.Warmed39 U.vm ∧ U.heap = h) (fun _ _ _ _ _ => True) (fun _ U o U' => ∃ v L, o = .returned v ∧ Q v U'.heap L ∧ FrameEnd U o U' L rm.cells rm.slots))
    (eT : T.heap = h) (E : Exa Z h a C) {W : Nat} (hf : rm.frames + 1 ≤ R.frames) (hl : W + (maxL + 11) + rm.locals ≤ R.locals) (hc : cells + rm.cells ≤ R.cells) (hsl : slots + rm.slots ≤ R.slots)
    {g : JFrame} (hg : g.method = m) (hsize : g.locals.size = c.maxLocals) {rest : List Value} (hlen : ∀ sig, parseMethodDescriptor xi.desc = some sig → argsL.length = sig.parameters.length)
    (hstack : g.stack = argsL.reverse ++ .ref a :: rest) (hW : 2 * g.monitorRoom + (rest.map fun v => v.category).sum ≤ W) (hdg : decode c.code g.pc = .ok (.invokeinterface index count, 5)) :
    ∃ (v : Option Value) (T' : State) (L : List Loc), Stand p l e R s m args below meth c T' (locs ++ L) (cells + rm.cells) (slots + rm.slots) ∧ Q v T'.heap L ∧
      ∀ t, Steps p.tables e below (T'.setTop { g with pc := g.pc + 5, stack := v.toList ++ rest }) t → Steps p.tables e below (T.setTop g) t := by
  obtain ⟨cB, kB, qa, qb, qc⟩ := isOf hZ eT E
  obtain ⟨v, _, ⟨U, Ls, k, n⟩, -, X', ⟨Lc, hQ, l1, y1, z1⟩, st⟩ := X.interfaceBack hx (xi := xi) (y := z) hown (mvT hZ w1) (mvT hZ w2) (mvT hZ w7 hfa) (mvT hZ w5) (mvT hZ w6) (mvT hZ w8) (mvT hZ w9) (mvT hZ w10) hy (backOf (W := W) hM hZ w4 w3 hf hl) qa qb qc hg hsize (Steps.refl _) (argsL := argsL) (rest := rest) hlen hstack hW hdg (fun _ _ => ⟨rfl, eT, hc, hsl⟩)
  dsimp only [Pt.U, Pt.locs, Pt.cells, Pt.slots] at X' l1 y1 z1 st hQ
  subst l1 y1 z1
  exact ⟨v, U, Lc, X', hQ, fun t k => st.trans k⟩
/-- an array: of n places, place j holds f j -/
def OA (Z : State) (h : Heap) (a : Addr) (ty : FieldType) (n : Nat) (f : Nat → Value) : Prop :=
  ∃ c : Cell, Arr Z h a c ty ∧ c.slots.size = n ∧ n < 2 ^ 31 ∧ ∀ j, j < n → c.slots[j]? = some (f j) ∧ fits ty (f j) = true
variable {a b : Addr} {ty : FieldType} {n k sl : Nat} {f f' : Nat → Value} {v w : Value} {j : Int32} {ws : List Addr}
theorem OA.ext (A : OA Z h a ty n f) (E : Ext h h') : OA Z h' a ty n f := by obtain ⟨c, A, r⟩ := A; exact ⟨c, A.ext E, r⟩
theorem OA.other (A : OA Z h b ty n f) (W : Wr h h' a sl v) (q : b ≠ a) : OA Z h' b ty n f := by obtain ⟨c, A, r⟩ := A; exact ⟨c, A.other W q, r⟩
theorem OA.keep (A : OA Z h a ty n f) (K : Keep h h' ws) (q : a ∉ ws) : OA Z h' a ty n f := by obtain ⟨c, A, r⟩ := A; exact ⟨c, ⟨K.2.1 a c A.1 q, A.2⟩, r⟩
theorem OA.lt (A : OA Z h a ty n f) : a < h.size := by obtain ⟨c, A, -⟩ := A; exact A.lt
theorem OA.congr (A : OA Z h a ty n f) (q : ∀ j, j < n → f j = f' j) : OA Z h a ty n f' := by
  obtain ⟨c, A, r1, r2, H⟩ := A
  exact ⟨c, A, r1, r2, fun j hj => by rw [← q j hj]; exact H j hj⟩
theorem OA.new {cA : ClassId} {z : Int32} (A : Arr Z h a (newA cA ty z) ty) (hf : fits ty (defaultValue ty) = true) (e : z.toNatClampNeg = n) : OA Z h a ty n (fun _ => defaultValue ty) := by
  refine ⟨_, A, by rw [sz_new]; exact e, ?_, fun j hj => ⟨?_, hf⟩⟩
  · have := z.toInt_lt
    have h2 : z.toNatClampNeg = z.toInt.toNat := rfl
    omega
  · simp [newA, e, hj]
theorem OA.set (A : OA Z h a ty n f) (W : Wr h h' a j.toNatClampNeg v) (e : j.toNatClampNeg = k) (hv : fits ty v = true) : OA Z h' a ty n (fun i => if i = k then v else f i) := by
  obtain ⟨c, A, r1, r2, H⟩ := A
  refine ⟨_, A.same W, by rw [sz_set]; exact r1, r2, fun i hi => ?_⟩
  obtain ⟨H1, H2⟩ := H i hi
  subst e
  by_cases q : i = j.toNatClampNeg
  · subst q
    dsimp only
    rw [if_pos rfl]
    exact ⟨by simp [Cell.setSlot, r1, hi], hv⟩
  · dsimp only
    rw [if_neg q]
    refine ⟨?_, H2⟩
    rw [← H1]
    simp [Cell.setSlot, Array.getElem?_setIfInBounds, Ne.symm q]
theorem OA.at (A : OA Z h a ty n f) (hj : ¬ j < 0) (e : j.toNatClampNeg = k) (hk : k < n) : ∃ c : Cell, Arr Z h a c ty ∧ ¬ (j < 0 ∨ c.slots.size ≤ j.toNatClampNeg) ∧ c.slots[j.toNatClampNeg]? = some (f k) ∧ fits ty (f k) = true := by
  obtain ⟨c, A, r1, r2, H⟩ := A
  obtain ⟨H1, H2⟩ := H k hk
  refine ⟨c, A, ?_, by rw [e]; exact H1, H2⟩
  rintro (q | q)
  · exact hj q
  · omega
theorem OA.fits (A : OA Z h a ty n f) (hk : k < n) : fits ty (f k) = true := by
  obtain ⟨c, A, r1, r2, H⟩ := A
  exact (H k hk).2
theorem own_alen (X : Stand p l e R s m args below meth c T locs cells slots) (hx : p.tables.exec = Jvm.exec) (hZ : Z.Warmed39 s.vm) (eT : T.heap = h) (A : OA Z h a ty n f) {z : Int32} (hz : z = n.toInt32)
    {g : JFrame} (hg : g.method = m) {rest : List Value} (hs : g.stack = .ref a :: rest) (hd : decode c.code g.pc = .ok (.arraylength, 1)) :
    ∀ t, Steps p.tables e below (T.setTop { g with pc := g.pc + 1, stack := .int z :: rest }) t → Steps p.tables e below (T.setTop g) t := by
  obtain ⟨cl, A, r1, r2, H⟩ := A
  intro t k
  refine X.arraylength hx (by rw [eT]; exact A.1) (State.isArrayOf_alike hZ.alike A.2.1) hg hs hd t ?_
  rw [r1, ← hz]
  exact k
theorem own_iaload (X : Stand p l e R s m args below meth c T locs cells slots) (hx : p.tables.exec = Jvm.exec) (hZ : Z.Warmed39 s.vm) (eT : T.heap = h) (A : OA Z h a .int n f) (hj : ¬ j < 0) (ek : j.toNatClampNeg = k) (hk : k < n) (hv : f k = v)
    {g : JFrame} (hg : g.method = m) {rest : List Value} (hs : g.stack = .int j :: .ref a :: rest) (hd : decode c.code g.pc = .ok (.iaload, 1)) :
    ∀ t, Steps p.tables e below (T.setTop { g with pc := g.pc + 1, stack := v :: rest }) t → Steps p.tables e below (T.setTop g) t := by
  obtain ⟨cl, A, q1, q2, q3⟩ := A.at hj ek hk
  subst hv
  exact fun t k => X.iaload hx (by rw [eT]; exact A.1) (State.isArrayOf_alike hZ.alike A.2.1) A.2.2 q1 q2 hg hs hd t k
theorem own_laload (X : Stand p l e R s m args below meth c T locs cells slots) (hx : p.tables.exec = Jvm.exec) (hZ : Z.Warmed39 s.vm) (eT : T.heap = h) (A : OA Z h a .long n f) (hj : ¬ j < 0) (ek : j.toNatClampNeg = k) (hk : k < n) (hv : f k = v)
    {g : JFrame} (hg : g.method = m) {rest : List Value} (hs : g.stack = .int j :: .ref a :: rest) (hd : decode c.code g.pc = .ok (.laload, 1)) :
    ∀ t, Steps p.tables e below (T.setTop { g with pc := g.pc + 1, stack := v :: rest }) t → Steps p.tables e below (T.setTop g) t := by
  obtain ⟨cl, A, q1, q2, q3⟩ := A.at hj ek hk
  subst hv
  exact fun t k => X.laload hx (by rw [eT]; exact A.1) (State.isArrayOf_alike hZ.alike A.2.1) A.2.2 q1 q2 hg hs hd t k
theorem own_caload (X : Stand p l e R s m args below meth c T locs cells slots) (hx : p.tables.exec = Jvm.exec) (hZ : Z.Warmed39 s.vm) (eT : T.heap = h) (A : OA Z h a .char n f) (hj : ¬ j < 0) (ek : j.toNatClampNeg = k) (hk : k < n) (hv : f k = v)
    {g : JFrame} (hg : g.method = m) {rest : List Value} (hs : g.stack = .int j :: .ref a :: rest) (hd : decode c.code g.pc = .ok (.caload, 1)) :
    ∀ t, Steps p.tables e below (T.setTop { g with pc := g.pc + 1, stack := v :: rest }) t → Steps p.tables e below (T.setTop g) t := by
  obtain ⟨cl, A, q1, q2, q3⟩ := A.at hj ek hk
  subst hv
  exact fun t k => X.caload hx (by rw [eT]; exact A.1) (State.isArrayOf_alike hZ.alike A.2.1) A.2.2 q1 q2 hg hs hd t k
theorem own_baload (X : Stand p l e R s m args below meth c T locs cells slots) (hx : p.tables.exec = Jvm.exec) (hZ : Z.Warmed39 s.vm) (eT : T.heap = h) (A : OA Z h a .byte n f) (hj : ¬ j < 0) (ek : j.toNatClampNeg = k) (hk : k < n) (hv : f k = v)
    {g : JFrame} (hg : g.method = m) {rest : List Value} (hs : g.stack = .int j :: .ref a :: rest) (hd : decode c.code g.pc = .ok (.baload, 1)) :
    ∀ t, Steps p.tables e below (T.setTop { g with pc := g.pc + 1, stack := v :: rest }) t → Steps p.tables e below (T.setTop g) t := by
  obtain ⟨cl, A, q1, q2, q3⟩ := A.at hj ek hk
  subst hv
  exact fun t k => X.baloadBytes hx (by rw [eT]; exact A.1) (State.isArrayOf_alike hZ.alike A.2.1) A.2.2 q1 q2 hg hs hd t k
theorem own_aaload (X : Stand p l e R s m args below meth c T locs cells slots) (hx : p.tables.exec = Jvm.exec) (hZ : Z.Warmed39 s.vm) (eT : T.heap = h) (A : OA Z h a ty n f) (hty : ty.isReference = true) (hj : ¬ j < 0) (ek : j.toNatClampNeg = k) (hk : k < n) (hv : f k = v)
    {g : JFrame} (hg : g.method = m) {rest : List Value} (hs : g.stack = .int j :: .ref a :: rest) (hd : decode c.code g.pc = .ok (.aaload, 1)) :
    ∀ t, Steps p.tables e below (T.setTop { g with pc := g.pc + 1, stack := v :: rest }) t → Steps p.tables e below (T.setTop g) t := by
  obtain ⟨cl, A, q1, q2, q3⟩ := A.at hj ek hk
  subst hv
  exact fun t k => X.aaload hx (by rw [eT]; exact A.1) (State.isArrayOf_alike hZ.alike A.2.1) hty A.2.2 q1 q2 hg hs hd t k
/-- stores: the new heap, the array's new values -/
theorem own_stI (X : Stand p l e R s m args below meth c T locs cells slots) (hx : p.tables.exec = Jvm.exec) (hZ : Z.Warmed39 s.vm) (eT : T.heap = h) (A : OA Z h a .int n f) {x : Int32} (hj : ¬ j < 0) (ek : j.toNatClampNeg = k) (hk : k < n)
    {g : JFrame} (hg : g.method = m) {rest : List Value} (hs : g.stack = .int x :: .int j :: .ref a :: rest) (hd : decode c.code g.pc = .ok (.iastore, 1)) :
    ∃ T' h', Stand p l e R s m args below meth c T' (locs ++ [⟨a, j.toNatClampNeg⟩]) cells slots ∧ T'.heap = h' ∧ Wr h h' a j.toNatClampNeg (.int x) ∧ OA Z h' a .int n (fun i => if i = k then .int x else f i) ∧
      ∀ t, Steps p.tables e below (T'.setTop { g with pc := g.pc + 1, stack := rest }) t → Steps p.tables e below (T.setTop g) t := by
  obtain ⟨cl, A', q1, q2, q3⟩ := A.at hj ek hk
  obtain ⟨T', h', X', e', W', st⟩ := stI X hx hZ eT A' q1 hg hs hd
  exact ⟨T', h', X', e', W', A.set W' ek rfl, st⟩
theorem own_stJ (X : Stand p l e R s m args below meth c T locs cells slots) (hx : p.tables.exec = Jvm.exec) (hZ : Z.Warmed39 s.vm) (eT : T.heap = h) (A : OA Z h a .long n f) {x : Int64} (hj : ¬ j < 0) (ek : j.toNatClampNeg = k) (hk : k < n)
    {g : JFrame} (hg : g.method = m) {rest : List Value} (hs : g.stack = .long x :: .int j :: .ref a :: rest) (hd : decode c.code g.pc = .ok (.lastore, 1)) :
    ∃ T' h', Stand p l e R s m args below meth c T' (locs ++ [⟨a, j.toNatClampNeg⟩]) cells slots ∧ T'.heap = h' ∧ Wr h h' a j.toNatClampNeg (.long x) ∧ OA Z h' a .long n (fun i => if i = k then .long x else f i) ∧
      ∀ t, Steps p.tables e below (T'.setTop { g with pc := g.pc + 1, stack := rest }) t → Steps p.tables e below (T.setTop g) t := by
  obtain ⟨cl, A', q1, q2, q3⟩ := A.at hj ek hk
  obtain ⟨T', h', X', e', W', st⟩ := stJ X hx hZ eT A' q1 hg hs hd
  exact ⟨T', h', X', e', W', A.set W' ek rfl, st⟩
theorem own_stB (X : Stand p l e R s m args below meth c T locs cells slots) (hx : p.tables.exec = Jvm.exec) (hZ : Z.Warmed39 s.vm) (eT : T.heap = h) (A : OA Z h a .byte n f) {x : Int32} (hj : ¬ j < 0) (ek : j.toNatClampNeg = k) (hk : k < n)
    {g : JFrame} (hg : g.method = m) {rest : List Value} (hs : g.stack = .int x :: .int j :: .ref a :: rest) (hd : decode c.code g.pc = .ok (.bastore, 1)) :
    ∃ T' h', Stand p l e R s m args below meth c T' (locs ++ [⟨a, j.toNatClampNeg⟩]) cells slots ∧ T'.heap = h' ∧ Wr h h' a j.toNatClampNeg (.int (nar .byte x)) ∧ OA Z h' a .byte n (fun i => if i = k then .int (nar .byte x) else f i) ∧
      ∀ t, Steps p.tables e below (T'.setTop { g with pc := g.pc + 1, stack := rest }) t → Steps p.tables e below (T.setTop g) t := by
  obtain ⟨cl, A', q1, q2, q3⟩ := A.at hj ek hk
  obtain ⟨T', h', X', e', W', st⟩ := stB X hx hZ eT A' q1 hg hs hd
  exact ⟨T', h', X', e', W', A.set W' ek (fits_nar_byte _), st⟩
theorem own_stC (X : Stand p l e R s m args below meth c T locs cells slots) (hx : p.tables.exec = Jvm.exec) (hZ : Z.Warmed39 s.vm) (eT : T.heap = h) (A : OA Z h a .char n f) {x : Int32} (hj : ¬ j < 0) (ek : j.toNatClampNeg = k) (hk : k < n)
    {g : JFrame} (hg : g.method = m) {rest : List Value} (hs : g.stack = .int x :: .int j :: .ref a :: rest) (hd : decode c.code g.pc = .ok (.castore, 1)) :
    ∃ T' h', Stand p l e R s m args below meth c T' (locs ++ [⟨a, j.toNatClampNeg⟩]) cells slots ∧ T'.heap = h' ∧ Wr h h' a j.toNatClampNeg (.int (nar .char x)) ∧ OA Z h' a .char n (fun i => if i = k then .int (nar .char x) else f i) ∧
      ∀ t, Steps p.tables e below (T'.setTop { g with pc := g.pc + 1, stack := rest }) t → Steps p.tables e below (T.setTop g) t := by
  obtain ⟨cl, A', q1, q2, q3⟩ := A.at hj ek hk
  obtain ⟨T', h', X', e', W', st⟩ := stC X hx hZ eT A' q1 hg hs hd
  exact ⟨T', h', X', e', W', A.set W' ek (fits_nar_char _), st⟩
theorem own_newP (X : Stand p l e R s m args below meth c T locs cells slots) (hx : p.tables.exec = Jvm.exec) (hZ : Z.Warmed39 s.vm) {aty : ArrayType} (w : (Cond.arrayClass (newarray.typeOf aty)).before a0 Z = true) (eT : T.heap = h) {z : Int32} (hz : ¬ z < 0) (en : z.toNatClampNeg = n) {cap : Nat} (hcap : n ≤ cap) (hb : cap * 8 ≤ 536870912) (hc : cells + 1 ≤ R.cells) (hl : slots + cap ≤ R.slots)
    {g : JFrame} (hg : g.method = m) {rest : List Value} (hs : g.stack = .int z :: rest) (hd : decode c.code g.pc = .ok (.newarray aty, 2)) :
    ∃ T' h', Stand p l e R s m args below meth c T' locs (cells + 1) (slots + cap) ∧ T'.heap = h' ∧ Ext h h' ∧ OA Z h' h.size (newarray.typeOf aty) n (fun _ => defaultValue (newarray.typeOf aty)) ∧
      ∀ t, Steps p.tables e below (T'.setTop { g with pc := g.pc + 2, stack := .ref h.size :: rest }) t → Steps p.tables e below (T.setTop g) t := by
  obtain ⟨T', h', cA, X', e', E', A', st⟩ := newP X hx hZ w eT hg hd hs hz (cap := cap) (en ▸ hcap) hb hc hl
  exact ⟨T', h', X', e', E', OA.new A' (by cases aty <;> rfl) en, st⟩
theorem OA.arv (A : OA Z h a ty n f) (d : Value) : ∃ k, Arv Z h a k ty (Int32.ofNat n) ((List.range n).map f) d := by
  obtain ⟨c, A, r1, r2, H⟩ := A
  have q : ∀ i, i < n → ((List.range n).map f).getD i d = f i := fun i hi => by simp [hi]
  exact ⟨c.cls, c, A, rfl, by rw [own_clamp n r2]; exact r1, own_nneg n r2, fun i hi => by rw [q i (by omega)]; exact (H i (by omega)).1, fun i hi => by rw [q i (by omega)]; exact (H i (by omega)).2⟩
theorem OA.of_arv {k : ClassId} {vs : List Value} {d : Value} {z : Int32} (A : Arv Z h a k ty z vs d) (e : z.toNatClampNeg = n) (q : ∀ i, i < n → vs.getD i d = f i) : OA Z h a ty n f := by
  obtain ⟨c, A, r1, r2, r3, H, G⟩ := A
  refine ⟨c, A, by omega, ?_, fun i hi => ?_⟩
  · have := z.toInt_lt
    have h2 : z.toNatClampNeg = z.toInt.toNat := rfl
    omega
  · rw [← q i hi]
    exact ⟨H i (by omega), G i (by omega)⟩
theorem own_spliced (vd us : List Value) (d : Value) (dp m : Nat) (hu : us.length = m) (hl : dp + m ≤ vd.length) (i : Nat) : (vd.take dp ++ us ++ vd.drop (dp + m)).getD i d = if dp ≤ i ∧ i < dp + m then us.getD (i - dp) d else vd.getD i d := by
  have h1 : (vd.take dp).length = dp := by rw [List.length_take]; omega
  by_cases c1 : i < dp
  · rw [if_neg (by omega)]
    simp only [List.getD_eq_getElem?_getD]
    rw [List.append_assoc, List.getElem?_append_left (by omega), List.getElem?_take_of_lt c1]
  · by_cases c2 : i < dp + m
    · rw [if_pos ⟨by omega, c2⟩]
      simp only [List.getD_eq_getElem?_getD]
      rw [List.append_assoc, List.getElem?_append_right (by omega), h1, List.getElem?_append_left (by omega)]
    · rw [if_neg (by omega)]
      simp only [List.getD_eq_getElem?_getD]
      rw [List.getElem?_append_right (by rw [List.length_append]; omega), List.getElem?_drop, List.length_append, h1, hu]
      have e : dp + m + (i - (dp + m)) = i := by omega
      rw [e]
/-- System.arraycopy between arrays of one primitive kind -/
theorem own_copy (X : Stand p l e R s m args below meth c T locs cells slots) (hx : p.tables.exec = Jvm.exec) (hZ : Z.Warmed39 s.vm) {own : String} {index : Nat} (hown : s.vm.findClass own = some m.cls)
    (w1 : (Cond.methodLink own index Jvm.Stand.acN).before a0 Z = true) (w2 : (Cond.native Jvm.Stand.acN).before a0 Z = true) (w3 : (Cond.static Jvm.Stand.acN).before a0 Z = true) (w4 : (Cond.initialized "java/lang/System").before a0 Z = true) (eT : T.heap = h)
    {n' sp dp nn : Nat} (A : OA Z h a ty n f) (B : OA Z h b ty n' f') (hty : refKind ty = false) (h1 : sp + nn ≤ n) (h2 : dp + nn ≤ n') {n0 : Nat} (N : Fr n0 locs) (ge : n0 ≤ b)
    {g : JFrame} (hg : g.method = m) (hsize : g.locals.size = c.maxLocals) {rest : List Value} (hs : g.stack = .int (Int32.ofNat nn) :: .int (Int32.ofNat dp) :: .ref b :: .int (Int32.ofNat sp) :: .ref a :: rest) (hd : decode c.code g.pc = .ok (.invokestatic index, 3))
    (hf : 1 ≤ R.frames) {W : Nat} (hW : 2 * g.monitorRoom + (rest.map fun v => v.category).sum ≤ W) (hlo : W + 18 ≤ R.locals) :
    ∃ T' h' L, Stand p l e R s m args below meth c T' L cells slots ∧ T'.heap = h' ∧ Fr n0 L ∧ Keep h h' [b] ∧ OA Z h' b ty n' (fun i => if dp ≤ i ∧ i < dp + nn then f (sp + (i - dp)) else f' i) ∧
      ∀ t, Steps p.tables e below (T'.setTop { g with pc := g.pc + 3, stack := rest }) t → Steps p.tables e below (T.setTop g) t := by
  have hn : n < 2 ^ 31 := by obtain ⟨c, A, r1, r2, H⟩ := A; exact r2
  have hn' : n' < 2 ^ 31 := by obtain ⟨c, A, r1, r2, H⟩ := B; exact r2
  obtain ⟨k, A'⟩ := A.arv (.int 0)
  obtain ⟨k', B'⟩ := B.arv (.int 0)
  have c1 := own_clamp sp (by omega)
  have c2 := own_clamp dp (by omega)
  have c3 := own_clamp nn (by omega)
  obtain ⟨T', h', L, X', e', N', K', A2, st⟩ := cpA X hx hZ hown w1 w2 w3 w4 eT A' B' (Or.inl ⟨rfl, hty⟩) (own_nneg sp (by omega)) (own_nneg dp (by omega)) (own_nneg nn (by omega)) (by rw [c1, c3, own_clamp n hn]; exact h1) (by rw [c2, c3, own_clamp n' hn']; exact h2) rfl (by rw [c2, c3]; simpa using h2) N ge hg hsize hs hd hf hW hlo
  refine ⟨T', h', L, X', e', N', K', OA.of_arv A2 (own_clamp n' hn') (fun i hi => ?_), st⟩
  rw [c1, c2, c3, own_spliced _ _ _ _ _ (by simp) (by simpa using h2)]
  by_cases q : dp ≤ i ∧ i < dp + nn
  · rw [if_pos q, if_pos q]
    have q3 : i - dp < nn := by omega
    have q4 : sp + (i - dp) < n := by omega
    simp [q3, q4]
  · rw [if_neg q, if_neg q]
    simp [hi]
/-- an array of references of class C: of n places, place j holds f j -/
def OR (Z : State) (h : Heap) (a : Addr) (C : String) (n : Nat) (f : Nat → Value) : Prop :=
  ∃ c : Cell, Arr Z h a c (.object C) ∧ Ovr Z c.cls C ∧ c.slots.size = n ∧ n < 2 ^ 31 ∧ ∀ j, j < n → c.slots[j]? = some (f j) ∧ (f j).isRef = true
variable {C : String}
theorem OR.ext (A : OR Z h a C n f) (E : Ext h h') : OR Z h' a C n f := by obtain ⟨c, A, r⟩ := A; exact ⟨c, A.ext E, r⟩
theorem OR.other (A : OR Z h b C n f) (W : Wr h h' a sl v) (q : b ≠ a) : OR Z h' b C n f := by obtain ⟨c, A, r⟩ := A; exact ⟨c, A.other W q, r⟩
theorem OR.keep (A : OR Z h a C n f) (K : Keep h h' ws) (q : a ∉ ws) : OR Z h' a C n f := by obtain ⟨c, A, r⟩ := A; exact ⟨c, ⟨K.2.1 a c A.1 q, A.2⟩, r⟩
theorem OR.lt (A : OR Z h a C n f) : a < h.size := by obtain ⟨c, A, -⟩ := A; exact A.lt
theorem OR.congr (A : OR Z h a C n f) (q : ∀ j, j < n → f j = f' j) : OR Z h a C n f' := by
  obtain ⟨c, A, o, r1, r2, H⟩ := A
  exact ⟨c, A, o, r1, r2, fun j hj => by rw [← q j hj]; exact H j hj⟩
theorem own_newR (X : Stand p l e R s m args below meth c T locs cells slots) (hx : p.tables.exec = Jvm.exec) (hZ : Z.Warmed39 s.vm) {own : String} {index : Nat} (hown : s.vm.findClass own = some m.cls) (w1 : (Cond.classLink own index C).before a0 Z = true) (w2 : (Cond.arrayOver (.object C)).before a0 Z = true) (eT : T.heap = h) {z : Int32} (hz : ¬ z < 0) (en : z.toNatClampNeg = n) {cap : Nat} (hcap : n ≤ cap) (hb : cap * 8 ≤ 536870912) (hc : cells + 1 ≤ R.cells) (hl : slots + cap ≤ R.slots)
    {g : JFrame} (hg : g.method = m) {rest : List Value} (hs : g.stack = .int z :: rest) (hd : decode c.code g.pc = .ok (.anewarray index, 3)) :
    ∃ T' h', Stand p l e R s m args below meth c T' locs (cells + 1) (slots + cap) ∧ T'.heap = h' ∧ Ext h h' ∧ OR Z h' h.size C n (fun _ => .null) ∧
      ∀ t, Steps p.tables e below (T'.setTop { g with pc := g.pc + 3, stack := .ref h.size :: rest }) t → Steps p.tables e below (T.setTop g) t := by
  obtain ⟨T', h', cA, X', e', E', A', O', st⟩ := newR X hx hZ hown w1 w2 eT hg hd hs hz (cap := cap) (en ▸ hcap) hb hc hl
  refine ⟨T', h', X', e', E', ⟨_, A', O', by rw [sz_new]; exact en, ?_, fun j hj => ⟨?_, rfl⟩⟩, st⟩
  · have := z.toInt_lt
    have h2 : z.toNatClampNeg = z.toInt.toNat := rfl
    omega
  · simp [newA, en, hj, defaultValue]
theorem own_stR (X : Stand p l e R s m args below meth c T locs cells slots) (hx : p.tables.exec = Jvm.exec) (hZ : Z.Warmed39 s.vm) (eT : T.heap = h) (A : OR Z h a C n f) {y : Addr} (I : Ins Z h y C true) (hj : ¬ j < 0) (ek : j.toNatClampNeg = k) (hk : k < n)
    {g : JFrame} (hg : g.method = m) {rest : List Value} (hs : g.stack = .ref y :: .int j :: .ref a :: rest) (hd : decode c.code g.pc = .ok (.aastore, 1)) :
    ∃ T' h', Stand p l e R s m args below meth c T' (locs ++ [⟨a, j.toNatClampNeg⟩]) cells slots ∧ T'.heap = h' ∧ Wr h h' a j.toNatClampNeg (.ref y) ∧ OR Z h' a C n (fun i => if i = k then .ref y else f i) ∧
      ∀ t, Steps p.tables e below (T'.setTop { g with pc := g.pc + 1, stack := rest }) t → Steps p.tables e below (T.setTop g) t := by
  obtain ⟨cl, A', O', r1, r2, H⟩ := A
  have q1 : ¬ (j < 0 ∨ cl.slots.size ≤ j.toNatClampNeg) := by
    rintro (q | q)
    · exact hj q
    · omega
  obtain ⟨T', h', X', e', W', st⟩ := stR X hx hZ eT A' q1 rfl (Sto.of A' O' I) hg hs hd
  refine ⟨T', h', X', e', W', ⟨_, A'.same W', O', by rw [sz_set]; exact r1, r2, fun i hi => ?_⟩, st⟩
  obtain ⟨H1, H2⟩ := H i hi
  subst ek
  by_cases q : i = j.toNatClampNeg
  · subst q
    dsimp only
    rw [if_pos rfl]
    exact ⟨by simp [Cell.setSlot, r1, hi], rfl⟩
  · dsimp only
    rw [if_neg q]
    refine ⟨?_, H2⟩
    rw [← H1]
    simp [Cell.setSlot, Array.getElem?_setIfInBounds, Ne.symm q]
theorem own_raload (X : Stand p l e R s m args below meth c T locs cells slots) (hx : p.tables.exec = Jvm.exec) (hZ : Z.Warmed39 s.vm) (eT : T.heap = h) (A : OR Z h a C n f) (hj : ¬ j < 0) (ek : j.toNatClampNeg = k) (hk : k < n) (hv : f k = v)
    {g : JFrame} (hg : g.method = m) {rest : List Value} (hs : g.stack = .int j :: .ref a :: rest) (hd : decode c.code g.pc = .ok (.aaload, 1)) :
    ∀ t, Steps p.tables e below (T.setTop { g with pc := g.pc + 1, stack := v :: rest }) t → Steps p.tables e below (T.setTop g) t := by
  obtain ⟨cl, A', O', r1, r2, H⟩ := A
  have q1 : ¬ (j < 0 ∨ cl.slots.size ≤ j.toNatClampNeg) := by
    rintro (q | q)
    · exact hj q
    · omega
  subst hv
  exact fun t k' => X.aaload hx (by rw [eT]; exact A'.1) (State.isArrayOf_alike hZ.alike A'.2.1) rfl A'.2.2 q1 (by rw [ek]; exact (H k hk).1) hg hs hd t k'
theorem own_fits_ref {t : FieldType} {w : Value} (ht : t.isReference = true) (hw : w.isRef = true) : fits t w = true := by
  cases w <;> simp [Value.isRef] at hw <;> cases t <;> first | rfl | (simp [FieldType.isReference] at ht)
end OwnLayer
theorem own_isint {Z : State} {h : Heap} {a : Addr} {n k : Nat} {f : Nat → Value} (A : OA Z h a .byte n f) (hk : k < n) : ∃ z : Int32, f k = .int z := fit_I (A.fits hk) (by simp)
theorem own_nb (x : Int32) : nar .byte x.toInt8.toInt32 = x.toInt8.toInt32 := by
  show x.toInt8.toInt32.toInt8.toInt32 = _
  simp
theorem ef_put (m : MethodId) (x0 : Addr) (x1 : Int32) (x2 : Int32) : entryFrame m #[(.ref x0), (.int x1), (.int x2)] 3 = mkF m 0 #[.val (.ref x0), .val (.int x1), .val (.int x2)] [] := by first | (simp [entryFrame, mkF, argsToLocals, Value.category]; done) | rfl
theorem pn_com_example_orbweaver_orbweaver_poa_ObjectKeysIsTransientPinLaw : plainName "com/example/orbweaver/orbweaver/poa/ObjectKeysIsTransientPinLaw" = true := by first | (simp [plainName, overriddenIn]; done) | decide +kernel
theorem d_method_2_code_0 : decode method_2_code 0 = .ok (.iload_n 1, 1) := by decide +kernel
theorem d_method_2_code_1 : decode method_2_code 1 = .ok (.aload_n 0, 1) := by decide +kernel
theorem d_method_2_code_2 : decode method_2_code 2 = .ok (.arraylength, 1) := by decide +kernel
theorem d_method_2_code_3 : decode method_2_code 3 = .ok (.if_icmp .ge 7, 3) := by decide +kernel
theorem d_method_2_code_6 : decode method_2_code 6 = .ok (.aload_n 0, 1) := by decide +kernel
theorem d_method_2_code_7 : decode method_2_code 7 = .ok (.iload_n 1, 1) := by decide +kernel
theorem d_method_2_code_8 : decode method_2_code 8 = .ok (.iload_n 2, 1) := by decide +kernel
theorem d_method_2_code_9 : decode method_2_code 9 = .ok (.bastore, 1) := by decide +kernel
theorem d_method_2_code_10 : decode method_2_code 10 = .ok (.return_, 1) := by decide +kernel
def Q_put (Z : State) (a1 : Addr) (k : Nat) (p2 : Int32) (n : Nat) (f : Nat → Value) (h0 : Heap) (n0 : Nat) (v : Option Value) (h : Heap) (L : List Loc) : Prop := v = none ∧ Fr n0 L ∧ Keep h0 h [a1] ∧ ∃ f', OA Z h a1 .byte n f' ∧ (0 < k → f' 0 = f 0)
set_option maxRecDepth 65536 in
set_option maxHeartbeats 40000000 in
theorem rm_put (l : Launch) (Z : State) (a0 : Array Value) (hw : ∀ d ∈ tables_1, d.before a0 Z = true) (ws : List Jvm.Cond) (a1 : Addr) (k : Nat) (p2 : Int32) (n : Nat) (f : Nat → Value) (h0 : Heap) (n0 : Nat) (Z0 : n0 ≤ h0.size) (hk : k < 2 ^ 31) (hn : n < 2 ^ 31) (ge_a1 : n0 ≤ a1) (A : OA Z h0 a1 .byte n f) :
    MetFree l (⟨"com/example/orbweaver/orbweaver/poa/ObjectKeysIsTransientPinLaw", "put", "([BIB)V"⟩ : MethodName) (head1 (Jvm.Cond.code (⟨"com/example/orbweaver/orbweaver/poa/ObjectKeysIsTransientPinLaw", "put", "([BIB)V"⟩ : MethodName) method_2_code 3 none :: ws) ({ frames := 0, cells := 0, slots := 0, locals := 0 } : Room)) (fun a U => a = #[(.ref a1), (.int (Int32.ofNat k)), (.int p2)] ∧ Z.Warmed39 U.vm ∧ U.heap = h0) (fun _ _ _ _ _ => True) (fun _ U o U' => ∃ v L, o = .returned v ∧ Q_put Z a1 k p2 n f h0 n0 v U'.heap L ∧ FrameEnd U o U' L ({ frames := 0, cells := 0, slots := 0, locals := 0 } : Room).cells ({ frames := 0, cells := 0, slots := 0, locals := 0 } : Room).slots) := by
  refine MetFree.of_bodySF (plainFor_of_name pn_com_example_orbweaver_orbweaver_poa_ObjectKeysIsTransientPinLaw) hisR ?_
  intro p ee s m args below meth cc s₁ Bd hml0 hP hK
  obtain ⟨rfl, hZ, hh⟩ := hP
  have hx := Bd.exec
  have hby := Bd.bytes
  have hml : cc.maxLocals = 3 := hml0
  have hown : s.vm.findClass "com/example/orbweaver/orbweaver/poa/ObjectKeysIsTransientPinLaw" = some m.cls := findClass_of_methodNamed Bd.named
  have hnm := (name_of_methodNamed Bd.named Bd.method).1
  have X0 : Stand p l ee ({ frames := 0, cells := 0, slots := 0, locals := 0 } : Room) s m #[(.ref a1), (.int (Int32.ofNat k)), (.int p2)] below meth cc s₁ [] 0 0 := Stand.of_body Bd
  have e0 : s₁.heap = h0 := by rw [← hh, Bd.state]; rfl
  have N0 := Fr.nil n0
  show Goes p ee below s ({ frames := 0, cells := 0, slots := 0, locals := 0 } : Room).cells ({ frames := 0, cells := 0, slots := 0, locals := 0 } : Room).slots (Q_put Z a1 k p2 n f h0 n0) (s₁.setTop (entryFrame m #[(.ref a1), (.int (Int32.ofNat k)), (.int p2)] 3))
  refine Goes.step (fun _ hr => castTop (ef_put m a1 (Int32.ofNat k) p2) hr) ?_
  show Goes p ee below s _ _ _ (s₁.setTop (mkF m 0 #[.val (.ref a1), .val (.int (Int32.ofNat k)), .val (.int p2)] []))
  have K0 := Keep.refl h0 ([a1] : List Addr)
  refine Goes.step (fun _ hr => XS.iloadN X0.here hx rfl (hb hby d_method_2_code_0) rfl  hr) ?_
  show Goes p ee below s _ _ _ (s₁.setTop (mkF m 1 #[.val (.ref a1), .val (.int (Int32.ofNat k)), .val (.int p2)] [(.int (Int32.ofNat k))]))
  refine Goes.step (fun _ hr => XS.aloadN X0.here hx rfl (hb hby d_method_2_code_1) rfl rfl hr) ?_
  show Goes p ee below s _ _ _ (s₁.setTop (mkF m 2 #[.val (.ref a1), .val (.int (Int32.ofNat k)), .val (.int p2)] [(.ref a1), (.int (Int32.ofNat k))]))
  refine Goes.step (own_alen X0 hx hZ e0 A (z := (Int32.ofNat n)) rfl (g := (mkF m 2 #[.val (.ref a1), .val (.int (Int32.ofNat k)), .val (.int p2)] [(.ref a1), (.int (Int32.ofNat k))])) rfl rfl (hb hby d_method_2_code_2)) ?_
  show Goes p ee below s _ _ _ (s₁.setTop (mkF m 3 #[.val (.ref a1), .val (.int (Int32.ofNat k)), .val (.int p2)] [(.int (Int32.ofNat n)), (.int (Int32.ofNat k))]))
  by_cases hn3_1 : k < n
  · refine Goes.step (fun _ hr => XS.icmpNo X0.here hx rfl (hb hby d_method_2_code_3) rfl (tlt ((own_ltN k n hk hn).mpr hn3_1)).2.1 hr) ?_
    show Goes p ee below s _ _ _ (s₁.setTop (mkF m 6 #[.val (.ref a1), .val (.int (Int32.ofNat k)), .val (.int p2)] []))
    refine Goes.step (fun _ hr => XS.aloadN X0.here hx rfl (hb hby d_method_2_code_6) rfl rfl hr) ?_
    show Goes p ee below s _ _ _ (s₁.setTop (mkF m 7 #[.val (.ref a1), .val (.int (Int32.ofNat k)), .val (.int p2)] [(.ref a1)]))
    refine Goes.step (fun _ hr => XS.iloadN X0.here hx rfl (hb hby d_method_2_code_7) rfl  hr) ?_
    show Goes p ee below s _ _ _ (s₁.setTop (mkF m 8 #[.val (.ref a1), .val (.int (Int32.ofNat k)), .val (.int p2)] [(.int (Int32.ofNat k)), (.ref a1)]))
    refine Goes.step (fun _ hr => XS.iloadN X0.here hx rfl (hb hby d_method_2_code_8) rfl  hr) ?_
    show Goes p ee below s _ _ _ (s₁.setTop (mkF m 9 #[.val (.ref a1), .val (.int (Int32.ofNat k)), .val (.int p2)] [(.int p2), (.int (Int32.ofNat k)), (.ref a1)]))
    obtain ⟨T2, h2, X2, e2, W2, A2, st2⟩ := own_stB X0 hx hZ e0 A (x := p2) (j := (Int32.ofNat k)) (own_nneg k hk) (k := k) (own_clamp k hk) hn3_1 (g := (mkF m 9 #[.val (.ref a1), .val (.int (Int32.ofNat k)), .val (.int p2)] [(.int p2), (.int (Int32.ofNat k)), (.ref a1)])) rfl rfl (hb hby d_method_2_code_9)
    refine Goes.step st2 ?_
    have Zp3 := Nat.le_trans Z0 (Keep.of_wr W2).1
    have N4 := Fr.snoc X2 N0 ge_a1
    have K5 := K0.wr W2 (Or.inl (List.mem_of_getElem? (i := 0) rfl))
    have A := A2
    show Goes p ee below s _ _ _ (T2.setTop (mkF m 10 #[.val (.ref a1), .val (.int (Int32.ofNat k)), .val (.int p2)] []))
    refine Goes.retV X2 hx Bd.notSynchronized Bd.returns (hb hby d_method_2_code_10) (by decide) (by decide) ?_
    rw [e2]
    refine ⟨rfl, N4, K5, _, A, fun q => ?_⟩
    exact if_neg (by omega)
  · refine Goes.step (fun _ hr => XS.icmpYes X0.here hx rfl (pc0 := 3) (pc' := 10) rfl (hb hby d_method_2_code_3) rfl (flt (fun z => hn3_1 ((own_ltN k n hk hn).mp z))).2.1 (by decide) (by decide) hr) ?_
    show Goes p ee below s _ _ _ (s₁.setTop (mkF m 10 #[.val (.ref a1), .val (.int (Int32.ofNat k)), .val (.int p2)] []))
    refine Goes.retV X0 hx Bd.notSynchronized Bd.returns (hb hby d_method_2_code_10) (by decide) (by decide) ?_
    rw [e0]
    refine ⟨rfl, N0, K0, _, A, fun q => ?_⟩
    rfl
theorem ef_isT (m : MethodId) (x0 : Addr) : entryFrame m #[(.ref x0)] 1 = mkF m 0 #[.val (.ref x0)] [] := by first | (simp [entryFrame, mkF, argsToLocals, Value.category]; done) | rfl
theorem pn_com_example_orbweaver_orbweaver_poa_ObjectKeys : plainName "com/example/orbweaver/orbweaver/poa/ObjectKeys" = true := by first | (simp [plainName, overriddenIn]; done) | decide +kernel
theorem d_prog_151_method_4_code_0 : decode prog_151_method_4_code 0 = .ok (.aload_n 0, 1) := by decide +kernel
theorem d_prog_151_method_4_code_1 : decode prog_151_method_4_code 1 = .ok (.arraylength, 1) := by decide +kernel
theorem d_prog_151_method_4_code_2 : decode prog_151_method_4_code 2 = .ok (.bipush 8, 2) := by decide +kernel
theorem d_prog_151_method_4_code_4 : decode prog_151_method_4_code 4 = .ok (.if_icmp .lt 13, 3) := by decide +kernel
theorem d_prog_151_method_4_code_17 : decode prog_151_method_4_code 17 = .ok (.iconst 0, 1) := by decide +kernel
theorem d_prog_151_method_4_code_18 : decode prog_151_method_4_code 18 = .ok (.ireturn, 1) := by decide +kernel
theorem d_prog_151_method_4_code_7 : decode prog_151_method_4_code 7 = .ok (.aload_n 0, 1) := by decide +kernel
theorem d_prog_151_method_4_code_8 : decode prog_151_method_4_code 8 = .ok (.iconst 0, 1) := by decide +kernel
theorem d_prog_151_method_4_code_9 : decode prog_151_method_4_code 9 = .ok (.baload, 1) := by decide +kernel
theorem d_prog_151_method_4_code_10 : decode prog_151_method_4_code 10 = .ok (.ifCond .ne 7, 3) := by decide +kernel
theorem d_prog_151_method_4_code_13 : decode prog_151_method_4_code 13 = .ok (.iconst 1, 1) := by decide +kernel
theorem d_prog_151_method_4_code_14 : decode prog_151_method_4_code 14 = .ok (.goto 4, 3) := by decide +kernel
def Q_isT (Z : State) (a1 : Addr) (n : Nat) (f : Nat → Value) (r : Int32) (h0 : Heap) (n0 : Nat) (v : Option Value) (h : Heap) (L : List Loc) : Prop := v = some (.int r) ∧ Fr n0 L ∧ h = h0
set_option maxRecDepth 65536 in
set_option maxHeartbeats 40000000 in
theorem rm_isT (l : Launch) (Z : State) (a0 : Array Value) (hw : ∀ d ∈ tables_1, d.before a0 Z = true) (ws : List Jvm.Cond) (a1 : Addr) (n : Nat) (f : Nat → Value) (r : Int32) (h0 : Heap) (n0 : Nat) (Z0 : n0 ≤ h0.size) (hn : n < 2 ^ 31) (A : OA Z h0 a1 .byte n f) (hr : (n < 8 ∧ r = 0) ∨ (8 ≤ n ∧ f 0 = .int 0 ∧ r = 1) ∨ (8 ≤ n ∧ r = 0 ∧ ∃ z, f 0 = .int z ∧ z ≠ 0)) :
    MetFree l (⟨"com/example/orbweaver/orbweaver/poa/ObjectKeys", "isTransient", "([B)Z"⟩ : MethodName) (head1 (Jvm.Cond.code (⟨"com/example/orbweaver/orbweaver/poa/ObjectKeys", "isTransient", "([B)Z"⟩ : MethodName) prog_151_method_4_code 1 (some .boolean) :: ws) ({ frames := 0, cells := 0, slots := 0, locals := 0 } : Room)) (fun a U => a = #[(.ref a1)] ∧ Z.Warmed39 U.vm ∧ U.heap = h0) (fun _ _ _ _ _ => True) (fun _ U o U' => ∃ v L, o = .returned v ∧ Q_isT Z a1 n f r h0 n0 v U'.heap L ∧ FrameEnd U o U' L ({ frames := 0, cells := 0, slots := 0, locals := 0 } : Room).cells ({ frames := 0, cells := 0, slots := 0, locals := 0 } : Room).slots) := by
  refine MetFree.of_bodySF (plainFor_of_name pn_com_example_orbweaver_orbweaver_poa_ObjectKeys) hisR ?_
  intro p ee s m args below meth cc s₁ Bd hml0 hP hK
  obtain ⟨rfl, hZ, hh⟩ := hP
  have hx := Bd.exec
  have hby := Bd.bytes
  have hml : cc.maxLocals = 1 := hml0
  have hown : s.vm.findClass "com/example/orbweaver/orbweaver/poa/ObjectKeys" = some m.cls := findClass_of_methodNamed Bd.named
  have hnm := (name_of_methodNamed Bd.named Bd.method).1
  have X0 : Stand p l ee ({ frames := 0, cells := 0, slots := 0, locals := 0 } : Room) s m #[(.ref a1)] below meth cc s₁ [] 0 0 := Stand.of_body Bd
  have e0 : s₁.heap = h0 := by rw [← hh, Bd.state]; rfl
  have N0 := Fr.nil n0
  show Goes p ee below s ({ frames := 0, cells := 0, slots := 0, locals := 0 } : Room).cells ({ frames := 0, cells := 0, slots := 0, locals := 0 } : Room).slots (Q_isT Z a1 n f r h0 n0) (s₁.setTop (entryFrame m #[(.ref a1)] 1))
  refine Goes.step (fun _ hr => castTop (ef_isT m a1) hr) ?_
  show Goes p ee below s _ _ _ (s₁.setTop (mkF m 0 #[.val (.ref a1)] []))
  rcases hr with ⟨h8, rfl⟩ | ⟨h8, hf0, rfl⟩ | ⟨h8, rfl, z, hf0, hz⟩
  · show Goes p ee below s _ _ _ (s₁.setTop (mkF m 0 #[.val (.ref a1)] []))
    refine Goes.step (fun _ hr => XS.aloadN X0.here hx rfl (hb hby d_prog_151_method_4_code_0) rfl rfl hr) ?_
    show Goes p ee below s _ _ _ (s₁.setTop (mkF m 1 #[.val (.ref a1)] [(.ref a1)]))
    refine Goes.step (own_alen X0 hx hZ e0 A (z := (Int32.ofNat n)) rfl (g := (mkF m 1 #[.val (.ref a1)] [(.ref a1)])) rfl rfl (hb hby d_prog_151_method_4_code_1)) ?_
    show Goes p ee below s _ _ _ (s₁.setTop (mkF m 2 #[.val (.ref a1)] [(.int (Int32.ofNat n))]))
    refine Goes.step (fun _ hr => XS.bipush X0.here hx rfl (hb hby d_prog_151_method_4_code_2) hr) ?_
    show Goes p ee below s _ _ _ (s₁.setTop (mkF m 4 #[.val (.ref a1)] [(.int (8 : Int32)), (.int (Int32.ofNat n))]))
    refine Goes.step (fun _ hr => XS.icmpYes X0.here hx rfl (pc0 := 4) (pc' := 17) rfl (hb hby d_prog_151_method_4_code_4) rfl (tlt ((own_ltN n 8 hn (by decide)).mpr h8)).1 (by decide) (by decide) hr) ?_
    show Goes p ee below s _ _ _ (s₁.setTop (mkF m 17 #[.val (.ref a1)] []))
    refine Goes.step (fun _ hr => XS.iconst X0.here hx rfl (hb hby d_prog_151_method_4_code_17) hr) ?_
    show Goes p ee below s _ _ _ (s₁.setTop (mkF m 18 #[.val (.ref a1)] [(.int (0 : Int32))]))
    refine Goes.retZ X0 hx Bd.notSynchronized Bd.returns (by simp) rfl (hb hby d_prog_151_method_4_code_18) (by decide) (by decide) ?_
    exact ⟨rfl, N0, e0⟩
  · show Goes p ee below s _ _ _ (s₁.setTop (mkF m 0 #[.val (.ref a1)] []))
    refine Goes.step (fun _ hr => XS.aloadN X0.here hx rfl (hb hby d_prog_151_method_4_code_0) rfl rfl hr) ?_
    show Goes p ee below s _ _ _ (s₁.setTop (mkF m 1 #[.val (.ref a1)] [(.ref a1)]))
    refine Goes.step (own_alen X0 hx hZ e0 A (z := (Int32.ofNat n)) rfl (g := (mkF m 1 #[.val (.ref a1)] [(.ref a1)])) rfl rfl (hb hby d_prog_151_method_4_code_1)) ?_
    show Goes p ee below s _ _ _ (s₁.setTop (mkF m 2 #[.val (.ref a1)] [(.int (Int32.ofNat n))]))
    refine Goes.step (fun _ hr => XS.bipush X0.here hx rfl (hb hby d_prog_151_method_4_code_2) hr) ?_
    show Goes p ee below s _ _ _ (s₁.setTop (mkF m 4 #[.val (.ref a1)] [(.int (8 : Int32)), (.int (Int32.ofNat n))]))
    refine Goes.step (fun _ hr => XS.icmpNo X0.here hx rfl (hb hby d_prog_151_method_4_code_4) rfl (flt (fun z => absurd ((own_ltN n 8 hn (by decide)).mp z) (by omega))).1 hr) ?_
    show Goes p ee below s _ _ _ (s₁.setTop (mkF m 7 #[.val (.ref a1)] []))
    refine Goes.step (fun _ hr => XS.aloadN X0.here hx rfl (hb hby d_prog_151_method_4_code_7) rfl rfl hr) ?_
    show Goes p ee below s _ _ _ (s₁.setTop (mkF m 8 #[.val (.ref a1)] [(.ref a1)]))
    refine Goes.step (fun _ hr => XS.iconst X0.here hx rfl (hb hby d_prog_151_method_4_code_8) hr) ?_
    show Goes p ee below s _ _ _ (s₁.setTop (mkF m 9 #[.val (.ref a1)] [(.int (0 : Int32)), (.ref a1)]))
    refine Goes.step (own_baload X0 hx hZ e0 A (j := (0 : Int32)) (by decide) (k := 0) rfl (by omega) (v := (.int (0 : Int32))) hf0 (g := (mkF m 9 #[.val (.ref a1)] [(.int (0 : Int32)), (.ref a1)])) rfl rfl (hb hby d_prog_151_method_4_code_9)) ?_
    show Goes p ee below s _ _ _ (s₁.setTop (mkF m 10 #[.val (.ref a1)] [(.int (0 : Int32))]))
    refine Goes.step (fun _ hr => XS.ifNo X0.here hx rfl (hb hby d_prog_151_method_4_code_10) rfl ((if0 _ _).trans (teq rfl).2) hr) ?_
    show Goes p ee below s _ _ _ (s₁.setTop (mkF m 13 #[.val (.ref a1)] []))
    refine Goes.step (fun _ hr => XS.iconst X0.here hx rfl (hb hby d_prog_151_method_4_code_13) hr) ?_
    show Goes p ee below s _ _ _ (s₁.setTop (mkF m 14 #[.val (.ref a1)] [(.int (1 : Int32))]))
    refine Goes.step (fun _ hr => XS.goto X0.here hx rfl (pc0 := 14) (pc' := 18) rfl (hb hby d_prog_151_method_4_code_14) (by decide) (by decide) hr) ?_
    show Goes p ee below s _ _ _ (s₁.setTop (mkF m 18 #[.val (.ref a1)] [(.int (1 : Int32))]))
    refine Goes.retZ X0 hx Bd.notSynchronized Bd.returns (by simp) rfl (hb hby d_prog_151_method_4_code_18) (by decide) (by decide) ?_
    exact ⟨rfl, N0, e0⟩
  · show Goes p ee below s _ _ _ (s₁.setTop (mkF m 0 #[.val (.ref a1)] []))
    refine Goes.step (fun _ hr => XS.aloadN X0.here hx rfl (hb hby d_prog_151_method_4_code_0) rfl rfl hr) ?_
    show Goes p ee below s _ _ _ (s₁.setTop (mkF m 1 #[.val (.ref a1)] [(.ref a1)]))
    refine Goes.step (own_alen X0 hx hZ e0 A (z := (Int32.ofNat n)) rfl (g := (mkF m 1 #[.val (.ref a1)] [(.ref a1)])) rfl rfl (hb hby d_prog_151_method_4_code_1)) ?_
    show Goes p ee below s _ _ _ (s₁.setTop (mkF m 2 #[.val (.ref a1)] [(.int (Int32.ofNat n))]))
    refine Goes.step (fun _ hr => XS.bipush X0.here hx rfl (hb hby d_prog_151_method_4_code_2) hr) ?_
    show Goes p ee below s _ _ _ (s₁.setTop (mkF m 4 #[.val (.ref a1)] [(.int (8 : Int32)), (.int (Int32.ofNat n))]))
    refine Goes.step (fun _ hr => XS.icmpNo X0.here hx rfl (hb hby d_prog_151_method_4_code_4) rfl (flt (fun z => absurd ((own_ltN n 8 hn (by decide)).mp z) (by omega))).1 hr) ?_
    show Goes p ee below s _ _ _ (s₁.setTop (mkF m 7 #[.val (.ref a1)] []))
    refine Goes.step (fun _ hr => XS.aloadN X0.here hx rfl (hb hby d_prog_151_method_4_code_7) rfl rfl hr) ?_
    show Goes p ee below s _ _ _ (s₁.setTop (mkF m 8 #[.val (.ref a1)] [(.ref a1)]))
    refine Goes.step (fun _ hr => XS.iconst X0.here hx rfl (hb hby d_prog_151_method_4_code_8) hr) ?_
    show Goes p ee below s _ _ _ (s₁.setTop (mkF m 9 #[.val (.ref a1)] [(.int (0 : Int32)), (.ref a1)]))
    refine Goes.step (own_baload X0 hx hZ e0 A (j := (0 : Int32)) (by decide) (k := 0) rfl (by omega) (v := (.int z)) hf0 (g := (mkF m 9 #[.val (.ref a1)] [(.int (0 : Int32)), (.ref a1)])) rfl rfl (hb hby d_prog_151_method_4_code_9)) ?_
    show Goes p ee below s _ _ _ (s₁.setTop (mkF m 10 #[.val (.ref a1)] [(.int z)]))
    refine Goes.step (fun _ hr => XS.ifYes X0.here hx rfl (pc0 := 10) (pc' := 17) rfl (hb hby d_prog_151_method_4_code_10) rfl ((if0 _ _).trans (feq hz).2) (by decide) (by decide) hr) ?_
    show Goes p ee below s _ _ _ (s₁.setTop (mkF m 17 #[.val (.ref a1)] []))
    refine Goes.step (fun _ hr => XS.iconst X0.here hx rfl (hb hby d_prog_151_method_4_code_17) hr) ?_
    show Goes p ee below s _ _ _ (s₁.setTop (mkF m 18 #[.val (.ref a1)] [(.int (0 : Int32))]))
    refine Goes.retZ X0 hx Bd.notSynchronized Bd.returns (by simp) rfl (hb hby d_prog_151_method_4_code_18) (by decide) (by decide) ?_
    exact ⟨rfl, N0, e0⟩
theorem ef_tp (m : MethodId) (x0 : Addr) : entryFrame m #[(.ref x0)] 2 = mkF m 0 #[.val (.ref x0), .unset] [] := by first | (simp [entryFrame, mkF, argsToLocals, Value.category]; done) | rfl
theorem d_prog_151_method_2_code_0 : decode prog_151_method_2_code 0 = .ok (.bipush 8, 2) := by decide +kernel
theorem d_prog_151_method_2_code_2 : decode prog_151_method_2_code 2 = .ok (.newarray .byte, 2) := by decide +kernel
theorem d_prog_151_method_2_code_4 : decode prog_151_method_2_code 4 = .ok (.astore_n 1, 1) := by decide +kernel
theorem d_prog_151_method_2_code_5 : decode prog_151_method_2_code 5 = .ok (.aload_n 1, 1) := by decide +kernel
theorem d_prog_151_method_2_code_6 : decode prog_151_method_2_code 6 = .ok (.iconst 0, 1) := by decide +kernel
theorem d_prog_151_method_2_code_7 : decode prog_151_method_2_code 7 = .ok (.iconst 0, 1) := by decide +kernel
theorem d_prog_151_method_2_code_8 : decode prog_151_method_2_code 8 = .ok (.bastore, 1) := by decide +kernel
theorem d_prog_151_method_2_code_9 : decode prog_151_method_2_code 9 = .ok (.aload_n 0, 1) := by decide +kernel
theorem d_prog_151_method_2_code_10 : decode prog_151_method_2_code 10 = .ok (.iconst 0, 1) := by decide +kernel
theorem d_prog_151_method_2_code_11 : decode prog_151_method_2_code 11 = .ok (.aload_n 1, 1) := by decide +kernel
theorem d_prog_151_method_2_code_12 : decode prog_151_method_2_code 12 = .ok (.iconst 1, 1) := by decide +kernel
theorem d_prog_151_method_2_code_13 : decode prog_151_method_2_code 13 = .ok (.bipush 7, 2) := by decide +kernel
theorem d_prog_151_method_2_code_15 : decode prog_151_method_2_code 15 = .ok (.invokestatic 9, 3) := by decide +kernel
theorem d_prog_151_method_2_code_18 : decode prog_151_method_2_code 18 = .ok (.aload_n 1, 1) := by decide +kernel
theorem d_prog_151_method_2_code_19 : decode prog_151_method_2_code 19 = .ok (.areturn, 1) := by decide +kernel
def Q_tp (Z : State) (a1 : Addr) (f : Nat → Value) (h0 : Heap) (n0 : Nat) (v : Option Value) (h : Heap) (L : List Loc) : Prop := ∃ b : Addr, v = some (.ref b) ∧ Fr n0 L ∧ h0.size ≤ b ∧ Keep h0 h [] ∧ ∃ f', OA Z h b .byte 8 f' ∧ f' 0 = .int 0
set_option maxRecDepth 65536 in
set_option maxHeartbeats 40000000 in
theorem rm_tp (l : Launch) (Z : State) (a0 : Array Value) (hw : ∀ d ∈ tables_1, d.before a0 Z = true) (ws : List Jvm.Cond) (a1 : Addr) (f : Nat → Value) (h0 : Heap) (n0 : Nat) (Z0 : n0 ≤ h0.size) (A : OA Z h0 a1 .byte 7 f) :
    MetFree l (⟨"com/example/orbweaver/orbweaver/poa/ObjectKeys", "transientPrefix", "([B)[B"⟩ : MethodName) (head1 (Jvm.Cond.code (⟨"com/example/orbweaver/orbweaver/poa/ObjectKeys", "transientPrefix", "([B)[B"⟩ : MethodName) prog_151_method_2_code 2 (some (.array .byte)) :: ws) ({ frames := 1, cells := 1, slots := 8, locals := 18 } : Room)) (fun a U => a = #[(.ref a1)] ∧ Z.Warmed39 U.vm ∧ U.heap = h0) (fun _ _ _ _ _ => True) (fun _ U o U' => ∃ v L, o = .returned v ∧ Q_tp Z a1 f h0 n0 v U'.heap L ∧ FrameEnd U o U' L ({ frames := 1, cells := 1, slots := 8, locals := 18 } : Room).cells ({ frames := 1, cells := 1, slots := 8, locals := 18 } : Room).slots) := by
  refine MetFree.of_bodySF (plainFor_of_name pn_com_example_orbweaver_orbweaver_poa_ObjectKeys) hisR ?_
  intro p ee s m args below meth cc s₁ Bd hml0 hP hK
  obtain ⟨rfl, hZ, hh⟩ := hP
  have hx := Bd.exec
  have hby := Bd.bytes
  have hml : cc.maxLocals = 2 := hml0
  have hown : s.vm.findClass "com/example/orbweaver/orbweaver/poa/ObjectKeys" = some m.cls := findClass_of_methodNamed Bd.named
  have hnm := (name_of_methodNamed Bd.named Bd.method).1
  have X0 : Stand p l ee ({ frames := 1, cells := 1, slots := 8, locals := 18 } : Room) s m #[(.ref a1)] below meth cc s₁ [] 0 0 := Stand.of_body Bd
  have e0 : s₁.heap = h0 := by rw [← hh, Bd.state]; rfl
  have N0 := Fr.nil n0
  show Goes p ee below s ({ frames := 1, cells := 1, slots := 8, locals := 18 } : Room).cells ({ frames := 1, cells := 1, slots := 8, locals := 18 } : Room).slots (Q_tp Z a1 f h0 n0) (s₁.setTop (entryFrame m #[(.ref a1)] 2))
  refine Goes.step (fun _ hr => castTop (ef_tp m a1) hr) ?_
  show Goes p ee below s _ _ _ (s₁.setTop (mkF m 0 #[.val (.ref a1), .unset] []))
  have K0 := Keep.refl h0 ([] : List Addr)
  refine Goes.step (fun _ hr => XS.bipush X0.here hx rfl (hb hby d_prog_151_method_2_code_0) hr) ?_
  show Goes p ee below s _ _ _ (s₁.setTop (mkF m 2 #[.val (.ref a1), .unset] [(.int (8 : Int32))]))
  obtain ⟨T1, h1, X1, e1, E1, A1, st1⟩ := own_newP X0 hx hZ (aty := .byte) (hw _ (List.mem_of_getElem? (i := 0) rfl)) e0 (z := (8 : Int32)) (by decide) (n := 8) rfl (cap := 8) (Nat.le_refl _) (by decide) (by decide) (by decide) (g := (mkF m 2 #[.val (.ref a1), .unset] [(.int (8 : Int32))])) rfl rfl (hb hby d_prog_151_method_2_code_2)
  obtain ⟨b1, g_b1⟩ : ∃ z, z = h0.size := ⟨_, rfl⟩
  have ne_a1_b1 : a1 ≠ b1 := Nat.ne_of_lt (Nat.lt_of_lt_of_le A.lt (Nat.le_of_eq g_b1.symm))
  have ge_b1 : n0 ≤ b1 := Nat.le_trans Z0 (Nat.le_of_eq g_b1.symm)
  have sz_b1 : h0.size ≤ b1 := Nat.le_trans K0.1 (Nat.le_of_eq g_b1.symm)
  rw [← g_b1] at A1 st1
  have A := A.ext E1
  have Zp2 := Nat.le_trans Z0 E1.1
  have K3 := K0.ext E1
  refine Goes.step st1 ?_
  have A_b1 : OA Z h1 b1 .byte 8 (fun _ => (.int 0)) := A1
  show Goes p ee below s _ _ _ (T1.setTop (mkF m 4 #[.val (.ref a1), .unset] [(.ref b1)]))
  refine Goes.step (fun _ hr => XS.astoreN X1.here hx rfl (hb hby d_prog_151_method_2_code_4) rfl rfl (l' := #[.val (.ref a1), .val (.ref b1)]) rfl hr) ?_
  show Goes p ee below s _ _ _ (T1.setTop (mkF m 5 #[.val (.ref a1), .val (.ref b1)] []))
  refine Goes.step (fun _ hr => XS.aloadN X1.here hx rfl (hb hby d_prog_151_method_2_code_5) rfl rfl hr) ?_
  show Goes p ee below s _ _ _ (T1.setTop (mkF m 6 #[.val (.ref a1), .val (.ref b1)] [(.ref b1)]))
  refine Goes.step (fun _ hr => XS.iconst X1.here hx rfl (hb hby d_prog_151_method_2_code_6) hr) ?_
  show Goes p ee below s _ _ _ (T1.setTop (mkF m 7 #[.val (.ref a1), .val (.ref b1)] [(.int (0 : Int32)), (.ref b1)]))
  refine Goes.step (fun _ hr => XS.iconst X1.here hx rfl (hb hby d_prog_151_method_2_code_7) hr) ?_
  show Goes p ee below s _ _ _ (T1.setTop (mkF m 8 #[.val (.ref a1), .val (.ref b1)] [(.int (0 : Int32)), (.int (0 : Int32)), (.ref b1)]))
  obtain ⟨T4, h4, X4, e4, W4, A4, st4⟩ := own_stB X1 hx hZ e1 A_b1 (x := (0 : Int32)) (j := (0 : Int32)) (by decide) (k := 0) rfl (by decide) (g := (mkF m 8 #[.val (.ref a1), .val (.ref b1)] [(.int (0 : Int32)), (.int (0 : Int32)), (.ref b1)])) rfl rfl (hb hby d_prog_151_method_2_code_8)
  refine Goes.step st4 ?_
  have A := A.other W4 ne_a1_b1
  have Zp5 := Nat.le_trans Zp2 (Keep.of_wr W4).1
  have N6 := Fr.snoc X4 N0 ge_b1
  have K7 := K3.wr W4 (Or.inr sz_b1)
  have A_b1 : OA Z h4 b1 .byte 8 (fun i => [(.int (nar .byte (0 : Int32))), (.int 0), (.int 0), (.int 0), (.int 0), (.int 0), (.int 0), (.int 0)].getD i (.int 0)) := A4.congr (fun i hi => by match i, hi with | 0, _ => rfl | 1, _ => rfl | 2, _ => rfl | 3, _ => rfl | 4, _ => rfl | 5, _ => rfl | 6, _ => rfl | 7, _ => rfl | i + 8, hi => omega)
  show Goes p ee below s _ _ _ (T4.setTop (mkF m 9 #[.val (.ref a1), .val (.ref b1)] []))
  refine Goes.step (fun _ hr => XS.aloadN X4.here hx rfl (hb hby d_prog_151_method_2_code_9) rfl rfl hr) ?_
  show Goes p ee below s _ _ _ (T4.setTop (mkF m 10 #[.val (.ref a1), .val (.ref b1)] [(.ref a1)]))
  refine Goes.step (fun _ hr => XS.iconst X4.here hx rfl (hb hby d_prog_151_method_2_code_10) hr) ?_
  show Goes p ee below s _ _ _ (T4.setTop (mkF m 11 #[.val (.ref a1), .val (.ref b1)] [(.int (0 : Int32)), (.ref a1)]))
  refine Goes.step (fun _ hr => XS.aloadN X4.here hx rfl (hb hby d_prog_151_method_2_code_11) rfl rfl hr) ?_
  show Goes p ee below s _ _ _ (T4.setTop (mkF m 12 #[.val (.ref a1), .val (.ref b1)] [(.ref b1), (.int (0 : Int32)), (.ref a1)]))
  refine Goes.step (fun _ hr => XS.iconst X4.here hx rfl (hb hby d_prog_151_method_2_code_12) hr) ?_
  show Goes p ee below s _ _ _ (T4.setTop (mkF m 13 #[.val (.ref a1), .val (.ref b1)] [(.int (1 : Int32)), (.ref b1), (.int (0 : Int32)), (.ref a1)]))
  refine Goes.step (fun _ hr => XS.bipush X4.here hx rfl (hb hby d_prog_151_method_2_code_13) hr) ?_
  show Goes p ee below s _ _ _ (T4.setTop (mkF m 15 #[.val (.ref a1), .val (.ref b1)] [(.int (7 : Int32)), (.int (1 : Int32)), (.ref b1), (.int (0 : Int32)), (.ref a1)]))
  obtain ⟨T8, h8, L8, X8, e8, Nc8, Kc8, Ac8, st8⟩ := own_copy X4 hx hZ hown (hw _ (List.mem_of_getElem? (i := 5) rfl)) (hw _ (List.mem_of_getElem? (i := 8) rfl)) (hw _ (List.mem_of_getElem? (i := 6) rfl)) (hw _ (List.mem_of_getElem? (i := 7) rfl)) e4 (sp := 0) (dp := 1) (nn := 7) A A_b1 rfl (by decide) (by decide) N6 ge_b1 (g := (mkF m 15 #[.val (.ref a1), .val (.ref b1)] [(.int (7 : Int32)), (.int (1 : Int32)), (.ref b1), (.int (0 : Int32)), (.ref a1)])) rfl (by rw [hml]; rfl) (rest := []) rfl (hb hby d_prog_151_method_2_code_15) (by decide) (W := 0) (by show 2 * 0 + _ ≤ _; exact Nat.le_of_eq rfl) (by decide)
  refine Goes.step st8 ?_
  have A := A.keep Kc8 (ninS ne_a1_b1 nin0)
  have K9 := K7.trans Kc8 (allS (Or.inr sz_b1) all0)
  have Zp10 := Nat.le_trans Zp5 Kc8.1
  have A_b1 := Ac8
  show Goes p ee below s _ _ _ (T8.setTop (mkF m 18 #[.val (.ref a1), .val (.ref b1)] []))
  refine Goes.step (fun _ hr => XS.aloadN X8.here hx rfl (hb hby d_prog_151_method_2_code_18) rfl rfl hr) ?_
  show Goes p ee below s _ _ _ (T8.setTop (mkF m 19 #[.val (.ref a1), .val (.ref b1)] [(.ref b1)]))
  refine Goes.retA X8 hx Bd.notSynchronized Bd.returns rfl rfl (hb hby d_prog_151_method_2_code_19) (by decide) (by decide) ?_
  rw [e8]
  exact ⟨_, rfl, Nc8, sz_b1, K9, _, A_b1, rfl⟩
theorem ef_law (m : MethodId) (x0 : Int64) (x1 : Int64) (x2 : Int32) (x3 : Int32) : entryFrame m #[(.long x0), (.long x1), (.int x2), (.int x3)] maxLocals = mkF m 0 #[.val (.long x0), .second, .val (.long x1), .second, .val (.int x2), .val (.int x3), .unset, .unset, .unset, .unset, .unset, .unset, .unset, .unset, .unset, .unset, .unset] [] := by first | (simp [entryFrame, mkF, argsToLocals, Value.category, maxLocals]; done) | rfl
theorem pd_0 : parseMethodDescriptor "([B)[B" = some ⟨[(.array .byte)], some (.array .byte)⟩ := by decide +kernel
theorem pd_1 : parseMethodDescriptor "([BIB)V" = some ⟨[(.array .byte), .int, .byte], none⟩ := by decide +kernel
theorem pd_2 : parseMethodDescriptor "([B)Z" = some ⟨[(.array .byte)], some .boolean⟩ := by decide +kernel
def Q_law (Z : State) (p1 : Int64) (p2 : Int64) (p3 : Int32) (p4 : Int32) (h0 : Heap) (n0 : Nat) (v : Option Value) (h : Heap) (L : List Loc) : Prop := v = some (.int 1) ∧ Fr n0 L
set_option maxRecDepth 65536 in
set_option maxHeartbeats 40000000 in
theorem rm_law (l : Launch) (Z : State) (a0 : Array Value) (hw : ∀ d ∈ tables_1, d.before a0 Z = true) (ws : List Jvm.Cond) (p1 : Int64) (p2 : Int64) (p3 : Int32) (p4 : Int32) (h0 : Heap) (n0 : Nat) (Z0 : n0 ≤ h0.size)  :
    MetFree l x (head1 (Jvm.Cond.code x code maxLocals ret :: ws) room_1) (fun a U => a = #[(.long p1), (.long p2), (.int p3), (.int p4)] ∧ Z.Warmed39 U.vm ∧ U.heap = h0) (fun _ _ _ _ _ => True) (fun _ U o U' => ∃ v L, o = .returned v ∧ Q_law Z p1 p2 p3 p4 h0 n0 v U'.heap L ∧ FrameEnd U o U' L room_1.cells room_1.slots) := by
  refine MetFree.of_bodySF (plainFor_of_name pn_com_example_orbweaver_orbweaver_poa_ObjectKeysIsTransientPinLaw) hisR ?_
  intro p ee s m args below meth cc s₁ Bd hml0 hP hK
  obtain ⟨rfl, hZ, hh⟩ := hP
  have hx := Bd.exec
  have hby := Bd.bytes
  have hml : cc.maxLocals = 17 := hml0
  have hown : s.vm.findClass "com/example/orbweaver/orbweaver/poa/ObjectKeysIsTransientPinLaw" = some m.cls := findClass_of_methodNamed Bd.named
  have hnm := (name_of_methodNamed Bd.named Bd.method).1
  have X0 : Stand p l ee room_1 s m #[(.long p1), (.long p2), (.int p3), (.int p4)] below meth cc s₁ [] 0 0 := Stand.of_body Bd
  have e0 : s₁.heap = h0 := by rw [← hh, Bd.state]; rfl
  have N0 := Fr.nil n0
  show Goes p ee below s room_1.cells room_1.slots (Q_law Z p1 p2 p3 p4 h0 n0) (s₁.setTop (entryFrame m #[(.long p1), (.long p2), (.int p3), (.int p4)] maxLocals))
  refine Goes.step (fun _ hr => castTop (ef_law m p1 p2 p3 p4) hr) ?_
  show Goes p ee below s _ _ _ (s₁.setTop (mkF m 0 #[.val (.long p1), .second, .val (.long p2), .second, .val (.int p3), .val (.int p4), .unset, .unset, .unset, .unset, .unset, .unset, .unset, .unset, .unset, .unset, .unset] []))
  refine Goes.step (fun _ hr => XS.bipush X0.here hx rfl (hb hby at_0) hr) ?_
  show Goes p ee below s _ _ _ (s₁.setTop (mkF m 2 #[.val (.long p1), .second, .val (.long p2), .second, .val (.int p3), .val (.int p4), .unset, .unset, .unset, .unset, .unset, .unset, .unset, .unset, .unset, .unset, .unset] [(.int (7 : Int32))]))
  obtain ⟨T1, h1, X1, e1, E1, A1, st1⟩ := own_newP X0 hx hZ (aty := .byte) (hw _ (List.mem_of_getElem? (i := 0) rfl)) e0 (z := (7 : Int32)) (by decide) (n := 7) rfl (cap := 7) (Nat.le_refl _) (by decide) (by decide) (by decide) (g := (mkF m 2 #[.val (.long p1), .second, .val (.long p2), .second, .val (.int p3), .val (.int p4), .unset, .unset, .unset, .unset, .unset, .unset, .unset, .unset, .unset, .unset, .unset] [(.int (7 : Int32))])) rfl rfl (hb hby at_2)
  obtain ⟨b1, g_b1⟩ : ∃ z, z = h0.size := ⟨_, rfl⟩
  have ge_b1 : n0 ≤ b1 := Nat.le_trans Z0 (Nat.le_of_eq g_b1.symm)
  rw [← g_b1] at A1 st1
  have Zp2 := Nat.le_trans Z0 E1.1
  refine Goes.step st1 ?_
  have A_b1 : OA Z h1 b1 .byte 7 (fun _ => (.int 0)) := A1
  show Goes p ee below s _ _ _ (T1.setTop (mkF m 4 #[.val (.long p1), .second, .val (.long p2), .second, .val (.int p3), .val (.int p4), .unset, .unset, .unset, .unset, .unset, .unset, .unset, .unset, .unset, .unset, .unset] [(.ref b1)]))
  refine Goes.step (fun _ hr => XS.astore X1.here hx rfl (hb hby at_4) rfl rfl (l' := #[.val (.long p1), .second, .val (.long p2), .second, .val (.int p3), .val (.int p4), .val (.ref b1), .unset, .unset, .unset, .unset, .unset, .unset, .unset, .unset, .unset, .unset]) rfl hr) ?_
  show Goes p ee below s _ _ _ (T1.setTop (mkF m 6 #[.val (.long p1), .second, .val (.long p2), .second, .val (.int p3), .val (.int p4), .val (.ref b1), .unset, .unset, .unset, .unset, .unset, .unset, .unset, .unset, .unset, .unset] []))
  refine Goes.step (fun _ hr => XS.aload X1.here hx rfl (hb hby at_6) rfl rfl hr) ?_
  show Goes p ee below s _ _ _ (T1.setTop (mkF m 8 #[.val (.long p1), .second, .val (.long p2), .second, .val (.int p3), .val (.int p4), .val (.ref b1), .unset, .unset, .unset, .unset, .unset, .unset, .unset, .unset, .unset, .unset] [(.ref b1)]))
  refine Goes.step (fun _ hr => XS.iconst X1.here hx rfl (hb hby at_8) hr) ?_
  show Goes p ee below s _ _ _ (T1.setTop (mkF m 9 #[.val (.long p1), .second, .val (.long p2), .second, .val (.int p3), .val (.int p4), .val (.ref b1), .unset, .unset, .unset, .unset, .unset, .unset, .unset, .unset, .unset, .unset] [(.int (0 : Int32)), (.ref b1)]))
  refine Goes.step (fun _ hr => XT.lloadN X1.here hx rfl (hb hby at_9) rfl  hr) ?_
  show Goes p ee below s _ _ _ (T1.setTop (mkF m 10 #[.val (.long p1), .second, .val (.long p2), .second, .val (.int p3), .val (.int p4), .val (.ref b1), .unset, .unset, .unset, .unset, .unset, .unset, .unset, .unset, .unset, .unset] [(.long p1), (.int (0 : Int32)), (.ref b1)]))
  refine Goes.step (fun _ hr => XT.l2i X1.here hx rfl (hb hby at_10) rfl hr) ?_
  show Goes p ee below s _ _ _ (T1.setTop (mkF m 11 #[.val (.long p1), .second, .val (.long p2), .second, .val (.int p3), .val (.int p4), .val (.ref b1), .unset, .unset, .unset, .unset, .unset, .unset, .unset, .unset, .unset, .unset] [(.int p1.toInt32), (.int (0 : Int32)), (.ref b1)]))
  refine Goes.step (fun _ hr => XT.i2b X1.here hx rfl (hb hby at_11) rfl hr) ?_
  show Goes p ee below s _ _ _ (T1.setTop (mkF m 12 #[.val (.long p1), .second, .val (.long p2), .second, .val (.int p3), .val (.int p4), .val (.ref b1), .unset, .unset, .unset, .unset, .unset, .unset, .unset, .unset, .unset, .unset] [(.int p1.toInt32.toInt8.toInt32), (.int (0 : Int32)), (.ref b1)]))
  obtain ⟨T3, h3, X3, e3, W3, A3, st3⟩ := own_stB X1 hx hZ e1 A_b1 (x := p1.toInt32.toInt8.toInt32) (j := (0 : Int32)) (by decide) (k := 0) rfl (by decide) (g := (mkF m 12 #[.val (.long p1), .second, .val (.long p2), .second, .val (.int p3), .val (.int p4), .val (.ref b1), .unset, .unset, .unset, .unset, .unset, .unset, .unset, .unset, .unset, .unset] [(.int p1.toInt32.toInt8.toInt32), (.int (0 : Int32)), (.ref b1)])) rfl rfl (hb hby at_12)
  refine Goes.step st3 ?_
  have Zp4 := Nat.le_trans Zp2 (Keep.of_wr W3).1
  have N5 := Fr.snoc X3 N0 ge_b1
  have A_b1 := A3
  show Goes p ee below s _ _ _ (T3.setTop (mkF m 13 #[.val (.long p1), .second, .val (.long p2), .second, .val (.int p3), .val (.int p4), .val (.ref b1), .unset, .unset, .unset, .unset, .unset, .unset, .unset, .unset, .unset, .unset] []))
  refine Goes.step (fun _ hr => XS.aload X3.here hx rfl (hb hby at_13) rfl rfl hr) ?_
  show Goes p ee below s _ _ _ (T3.setTop (mkF m 15 #[.val (.long p1), .second, .val (.long p2), .second, .val (.int p3), .val (.int p4), .val (.ref b1), .unset, .unset, .unset, .unset, .unset, .unset, .unset, .unset, .unset, .unset] [(.ref b1)]))
  refine Goes.step (fun _ hr => XS.iconst X3.here hx rfl (hb hby at_15) hr) ?_
  show Goes p ee below s _ _ _ (T3.setTop (mkF m 16 #[.val (.long p1), .second, .val (.long p2), .second, .val (.int p3), .val (.int p4), .val (.ref b1), .unset, .unset, .unset, .unset, .unset, .unset, .unset, .unset, .unset, .unset] [(.int (1 : Int32)), (.ref b1)]))
  refine Goes.step (fun _ hr => XT.lloadN X3.here hx rfl (hb hby at_16) rfl  hr) ?_
  show Goes p ee below s _ _ _ (T3.setTop (mkF m 17 #[.val (.long p1), .second, .val (.long p2), .second, .val (.int p3), .val (.int p4), .val (.ref b1), .unset, .unset, .unset, .unset, .unset, .unset, .unset, .unset, .unset, .unset] [(.long p1), (.int (1 : Int32)), (.ref b1)]))
  refine Goes.step (fun _ hr => XS.bipush X3.here hx rfl (hb hby at_17) hr) ?_
  show Goes p ee below s _ _ _ (T3.setTop (mkF m 19 #[.val (.long p1), .second, .val (.long p2), .second, .val (.int p3), .val (.int p4), .val (.ref b1), .unset, .unset, .unset, .unset, .unset, .unset, .unset, .unset, .unset, .unset] [(.int (8 : Int32)), (.long p1), (.int (1 : Int32)), (.ref b1)]))
  refine Goes.step (fun _ hr => XT.lushr X3.here hx rfl (hb hby at_19) rfl hr) ?_
  show Goes p ee below s _ _ _ (T3.setTop (mkF m 20 #[.val (.long p1), .second, .val (.long p2), .second, .val (.int p3), .val (.int p4), .val (.ref b1), .unset, .unset, .unset, .unset, .unset, .unset, .unset, .unset, .unset, .unset] [(.long (XT.ushrL p1 (8 : Int32))), (.int (1 : Int32)), (.ref b1)]))
  refine Goes.step (fun _ hr => XT.l2i X3.here hx rfl (hb hby at_20) rfl hr) ?_
  show Goes p ee below s _ _ _ (T3.setTop (mkF m 21 #[.val (.long p1), .second, .val (.long p2), .second, .val (.int p3), .val (.int p4), .val (.ref b1), .unset, .unset, .unset, .unset, .unset, .unset, .unset, .unset, .unset, .unset] [(.int (XT.ushrL p1 (8 : Int32)).toInt32), (.int (1 : Int32)), (.ref b1)]))
  refine Goes.step (fun _ hr => XT.i2b X3.here hx rfl (hb hby at_21) rfl hr) ?_
  show Goes p ee below s _ _ _ (T3.setTop (mkF m 22 #[.val (.long p1), .second, .val (.long p2), .second, .val (.int p3), .val (.int p4), .val (.ref b1), .unset, .unset, .unset, .unset, .unset, .unset, .unset, .unset, .unset, .unset] [(.int ((XT.ushrL p1 (8 : Int32)).toInt32).toInt8.toInt32), (.int (1 : Int32)), (.ref b1)]))
  obtain ⟨T6, h6, X6, e6, W6, A6, st6⟩ := own_stB X3 hx hZ e3 A_b1 (x := ((XT.ushrL p1 (8 : Int32)).toInt32).toInt8.toInt32) (j := (1 : Int32)) (by decide) (k := 1) rfl (by decide) (g := (mkF m 22 #[.val (.long p1), .second, .val (.long p2), .second, .val (.int p3), .val (.int p4), .val (.ref b1), .unset, .unset, .unset, .unset, .unset, .unset, .unset, .unset, .unset, .unset] [(.int ((XT.ushrL p1 (8 : Int32)).toInt32).toInt8.toInt32), (.int (1 : Int32)), (.ref b1)])) rfl rfl (hb hby at_22)
  refine Goes.step st6 ?_
  have Zp7 := Nat.le_trans Zp4 (Keep.of_wr W6).1
  have N8 := Fr.snoc X6 N5 ge_b1
  have A_b1 := A6
  show Goes p ee below s _ _ _ (T6.setTop (mkF m 23 #[.val (.long p1), .second, .val (.long p2), .second, .val (.int p3), .val (.int p4), .val (.ref b1), .unset, .unset, .unset, .unset, .unset, .unset, .unset, .unset, .unset, .unset] []))
  refine Goes.step (fun _ hr => XS.aload X6.here hx rfl (hb hby at_23) rfl rfl hr) ?_
  show Goes p ee below s _ _ _ (T6.setTop (mkF m 25 #[.val (.long p1), .second, .val (.long p2), .second, .val (.int p3), .val (.int p4), .val (.ref b1), .unset, .unset, .unset, .unset, .unset, .unset, .unset, .unset, .unset, .unset] [(.ref b1)]))
  refine Goes.step (fun _ hr => XS.iconst X6.here hx rfl (hb hby at_25) hr) ?_
  show Goes p ee below s _ _ _ (T6.setTop (mkF m 26 #[.val (.long p1), .second, .val (.long p2), .second, .val (.int p3), .val (.int p4), .val (.ref b1), .unset, .unset, .unset, .unset, .unset, .unset, .unset, .unset, .unset, .unset] [(.int (2 : Int32)), (.ref b1)]))
  refine Goes.step (fun _ hr => XT.lloadN X6.here hx rfl (hb hby at_26) rfl  hr) ?_
  show Goes p ee below s _ _ _ (T6.setTop (mkF m 27 #[.val (.long p1), .second, .val (.long p2), .second, .val (.int p3), .val (.int p4), .val (.ref b1), .unset, .unset, .unset, .unset, .unset, .unset, .unset, .unset, .unset, .unset] [(.long p1), (.int (2 : Int32)), (.ref b1)]))
  refine Goes.step (fun _ hr => XS.bipush X6.here hx rfl (hb hby at_27) hr) ?_
  show Goes p ee below s _ _ _ (T6.setTop (mkF m 29 #[.val (.long p1), .second, .val (.long p2), .second, .val (.int p3), .val (.int p4), .val (.ref b1), .unset, .unset, .unset, .unset, .unset, .unset, .unset, .unset, .unset, .unset] [(.int (16 : Int32)), (.long p1), (.int (2 : Int32)), (.ref b1)]))
  refine Goes.step (fun _ hr => XT.lushr X6.here hx rfl (hb hby at_29) rfl hr) ?_
  show Goes p ee below s _ _ _ (T6.setTop (mkF m 30 #[.val (.long p1), .second, .val (.long p2), .second, .val (.int p3), .val (.int p4), .val (.ref b1), .unset, .unset, .unset, .unset, .unset, .unset, .unset, .unset, .unset, .unset] [(.long (XT.ushrL p1 (16 : Int32))), (.int (2 : Int32)), (.ref b1)]))
  refine Goes.step (fun _ hr => XT.l2i X6.here hx rfl (hb hby at_30) rfl hr) ?_
  show Goes p ee below s _ _ _ (T6.setTop (mkF m 31 #[.val (.long p1), .second, .val (.long p2), .second, .val (.int p3), .val (.int p4), .val (.ref b1), .unset, .unset, .unset, .unset, .unset, .unset, .unset, .unset, .unset, .unset] [(.int (XT.ushrL p1 (16 : Int32)).toInt32), (.int (2 : Int32)), (.ref b1)]))
  refine Goes.step (fun _ hr => XT.i2b X6.here hx rfl (hb hby at_31) rfl hr) ?_
  show Goes p ee below s _ _ _ (T6.setTop (mkF m 32 #[.val (.long p1), .second, .val (.long p2), .second, .val (.int p3), .val (.int p4), .val (.ref b1), .unset, .unset, .unset, .unset, .unset, .unset, .unset, .unset, .unset, .unset] [(.int ((XT.ushrL p1 (16 : Int32)).toInt32).toInt8.toInt32), (.int (2 : Int32)), (.ref b1)]))
  obtain ⟨T9, h9, X9, e9, W9, A9, st9⟩ := own_stB X6 hx hZ e6 A_b1 (x := ((XT.ushrL p1 (16 : Int32)).toInt32).toInt8.toInt32) (j := (2 : Int32)) (by decide) (k := 2) rfl (by decide) (g := (mkF m 32 #[.val (.long p1), .second, .val (.long p2), .second, .val (.int p3), .val (.int p4), .val (.ref b1), .unset, .unset, .unset, .unset, .unset, .unset, .unset, .unset, .unset, .unset] [(.int ((XT.ushrL p1 (16 : Int32)).toInt32).toInt8.toInt32), (.int (2 : Int32)), (.ref b1)])) rfl rfl (hb hby at_32)
  refine Goes.step st9 ?_
  have Zp10 := Nat.le_trans Zp7 (Keep.of_wr W9).1
  have N11 := Fr.snoc X9 N8 ge_b1
  have A_b1 := A9
  show Goes p ee below s _ _ _ (T9.setTop (mkF m 33 #[.val (.long p1), .second, .val (.long p2), .second, .val (.int p3), .val (.int p4), .val (.ref b1), .unset, .unset, .unset, .unset, .unset, .unset, .unset, .unset, .unset, .unset] []))
  refine Goes.step (fun _ hr => XS.aload X9.here hx rfl (hb hby at_33) rfl rfl hr) ?_
  show Goes p ee below s _ _ _ (T9.setTop (mkF m 35 #[.val (.long p1), .second, .val (.long p2), .second, .val (.int p3), .val (.int p4), .val (.ref b1), .unset, .unset, .unset, .unset, .unset, .unset, .unset, .unset, .unset, .unset] [(.ref b1)]))
  refine Goes.step (fun _ hr => XS.iconst X9.here hx rfl (hb hby at_35) hr) ?_
  show Goes p ee below s _ _ _ (T9.setTop (mkF m 36 #[.val (.long p1), .second, .val (.long p2), .second, .val (.int p3), .val (.int p4), .val (.ref b1), .unset, .unset, .unset, .unset, .unset, .unset, .unset, .unset, .unset, .unset] [(.int (3 : Int32)), (.ref b1)]))
  refine Goes.step (fun _ hr => XT.lloadN X9.here hx rfl (hb hby at_36) rfl  hr) ?_
  show Goes p ee below s _ _ _ (T9.setTop (mkF m 37 #[.val (.long p1), .second, .val (.long p2), .second, .val (.int p3), .val (.int p4), .val (.ref b1), .unset, .unset, .unset, .unset, .unset, .unset, .unset, .unset, .unset, .unset] [(.long p1), (.int (3 : Int32)), (.ref b1)]))
  refine Goes.step (fun _ hr => XS.bipush X9.here hx rfl (hb hby at_37) hr) ?_
  show Goes p ee below s _ _ _ (T9.setTop (mkF m 39 #[.val (.long p1), .second, .val (.long p2), .second, .val (.int p3), .val (.int p4), .val (.ref b1), .unset, .unset, .unset, .unset, .unset, .unset, .unset, .unset, .unset, .unset] [(.int (24 : Int32)), (.long p1), (.int (3 : Int32)), (.ref b1)]))
  refine Goes.step (fun _ hr => XT.lushr X9.here hx rfl (hb hby at_39) rfl hr) ?_
  show Goes p ee below s _ _ _ (T9.setTop (mkF m 40 #[.val (.long p1), .second, .val (.long p2), .second, .val (.int p3), .val (.int p4), .val (.ref b1), .unset, .unset, .unset, .unset, .unset, .unset, .unset, .unset, .unset, .unset] [(.long (XT.ushrL p1 (24 : Int32))), (.int (3 : Int32)), (.ref b1)]))
  refine Goes.step (fun _ hr => XT.l2i X9.here hx rfl (hb hby at_40) rfl hr) ?_
  show Goes p ee below s _ _ _ (T9.setTop (mkF m 41 #[.val (.long p1), .second, .val (.long p2), .second, .val (.int p3), .val (.int p4), .val (.ref b1), .unset, .unset, .unset, .unset, .unset, .unset, .unset, .unset, .unset, .unset] [(.int (XT.ushrL p1 (24 : Int32)).toInt32), (.int (3 : Int32)), (.ref b1)]))
  refine Goes.step (fun _ hr => XT.i2b X9.here hx rfl (hb hby at_41) rfl hr) ?_
  show Goes p ee below s _ _ _ (T9.setTop (mkF m 42 #[.val (.long p1), .second, .val (.long p2), .second, .val (.int p3), .val (.int p4), .val (.ref b1), .unset, .unset, .unset, .unset, .unset, .unset, .unset, .unset, .unset, .unset] [(.int ((XT.ushrL p1 (24 : Int32)).toInt32).toInt8.toInt32), (.int (3 : Int32)), (.ref b1)]))
  obtain ⟨T12, h12, X12, e12, W12, A12, st12⟩ := own_stB X9 hx hZ e9 A_b1 (x := ((XT.ushrL p1 (24 : Int32)).toInt32).toInt8.toInt32) (j := (3 : Int32)) (by decide) (k := 3) rfl (by decide) (g := (mkF m 42 #[.val (.long p1), .second, .val (.long p2), .second, .val (.int p3), .val (.int p4), .val (.ref b1), .unset, .unset, .unset, .unset, .unset, .unset, .unset, .unset, .unset, .unset] [(.int ((XT.ushrL p1 (24 : Int32)).toInt32).toInt8.toInt32), (.int (3 : Int32)), (.ref b1)])) rfl rfl (hb hby at_42)
  refine Goes.step st12 ?_
  have Zp13 := Nat.le_trans Zp10 (Keep.of_wr W12).1
  have N14 := Fr.snoc X12 N11 ge_b1
  have A_b1 := A12
  show Goes p ee below s _ _ _ (T12.setTop (mkF m 43 #[.val (.long p1), .second, .val (.long p2), .second, .val (.int p3), .val (.int p4), .val (.ref b1), .unset, .unset, .unset, .unset, .unset, .unset, .unset, .unset, .unset, .unset] []))
  refine Goes.step (fun _ hr => XS.aload X12.here hx rfl (hb hby at_43) rfl rfl hr) ?_
  show Goes p ee below s _ _ _ (T12.setTop (mkF m 45 #[.val (.long p1), .second, .val (.long p2), .second, .val (.int p3), .val (.int p4), .val (.ref b1), .unset, .unset, .unset, .unset, .unset, .unset, .unset, .unset, .unset, .unset] [(.ref b1)]))
  refine Goes.step (fun _ hr => XS.iconst X12.here hx rfl (hb hby at_45) hr) ?_
  show Goes p ee below s _ _ _ (T12.setTop (mkF m 46 #[.val (.long p1), .second, .val (.long p2), .second, .val (.int p3), .val (.int p4), .val (.ref b1), .unset, .unset, .unset, .unset, .unset, .unset, .unset, .unset, .unset, .unset] [(.int (4 : Int32)), (.ref b1)]))
  refine Goes.step (fun _ hr => XT.lloadN X12.here hx rfl (hb hby at_46) rfl  hr) ?_
  show Goes p ee below s _ _ _ (T12.setTop (mkF m 47 #[.val (.long p1), .second, .val (.long p2), .second, .val (.int p3), .val (.int p4), .val (.ref b1), .unset, .unset, .unset, .unset, .unset, .unset, .unset, .unset, .unset, .unset] [(.long p1), (.int (4 : Int32)), (.ref b1)]))
  refine Goes.step (fun _ hr => XS.bipush X12.here hx rfl (hb hby at_47) hr) ?_
  show Goes p ee below s _ _ _ (T12.setTop (mkF m 49 #[.val (.long p1), .second, .val (.long p2), .second, .val (.int p3), .val (.int p4), .val (.ref b1), .unset, .unset, .unset, .unset, .unset, .unset, .unset, .unset, .unset, .unset] [(.int (32 : Int32)), (.long p1), (.int (4 : Int32)), (.ref b1)]))
  refine Goes.step (fun _ hr => XT.lushr X12.here hx rfl (hb hby at_49) rfl hr) ?_
  show Goes p ee below s _ _ _ (T12.setTop (mkF m 50 #[.val (.long p1), .second, .val (.long p2), .second, .val (.int p3), .val (.int p4), .val (.ref b1), .unset, .unset, .unset, .unset, .unset, .unset, .unset, .unset, .unset, .unset] [(.long (XT.ushrL p1 (32 : Int32))), (.int (4 : Int32)), (.ref b1)]))
  refine Goes.step (fun _ hr => XT.l2i X12.here hx rfl (hb hby at_50) rfl hr) ?_
  show Goes p ee below s _ _ _ (T12.setTop (mkF m 51 #[.val (.long p1), .second, .val (.long p2), .second, .val (.int p3), .val (.int p4), .val (.ref b1), .unset, .unset, .unset, .unset, .unset, .unset, .unset, .unset, .unset, .unset] [(.int (XT.ushrL p1 (32 : Int32)).toInt32), (.int (4 : Int32)), (.ref b1)]))
  refine Goes.step (fun _ hr => XT.i2b X12.here hx rfl (hb hby at_51) rfl hr) ?_
  show Goes p ee below s _ _ _ (T12.setTop (mkF m 52 #[.val (.long p1), .second, .val (.long p2), .second, .val (.int p3), .val (.int p4), .val (.ref b1), .unset, .unset, .unset, .unset, .unset, .unset, .unset, .unset, .unset, .unset] [(.int ((XT.ushrL p1 (32 : Int32)).toInt32).toInt8.toInt32), (.int (4 : Int32)), (.ref b1)]))
  obtain ⟨T15, h15, X15, e15, W15, A15, st15⟩ := own_stB X12 hx hZ e12 A_b1 (x := ((XT.ushrL p1 (32 : Int32)).toInt32).toInt8.toInt32) (j := (4 : Int32)) (by decide) (k := 4) rfl (by decide) (g := (mkF m 52 #[.val (.long p1), .second, .val (.long p2), .second, .val (.int p3), .val (.int p4), .val (.ref b1), .unset, .unset, .unset, .unset, .unset, .unset, .unset, .unset, .unset, .unset] [(.int ((XT.ushrL p1 (32 : Int32)).toInt32).toInt8.toInt32), (.int (4 : Int32)), (.ref b1)])) rfl rfl (hb hby at_52)
  refine Goes.step st15 ?_
  have Zp16 := Nat.le_trans Zp13 (Keep.of_wr W15).1
  have N17 := Fr.snoc X15 N14 ge_b1
  have A_b1 := A15
  show Goes p ee below s _ _ _ (T15.setTop (mkF m 53 #[.val (.long p1), .second, .val (.long p2), .second, .val (.int p3), .val (.int p4), .val (.ref b1), .unset, .unset, .unset, .unset, .unset, .unset, .unset, .unset, .unset, .unset] []))
  refine Goes.step (fun _ hr => XS.aload X15.here hx rfl (hb hby at_53) rfl rfl hr) ?_
  show Goes p ee below s _ _ _ (T15.setTop (mkF m 55 #[.val (.long p1), .second, .val (.long p2), .second, .val (.int p3), .val (.int p4), .val (.ref b1), .unset, .unset, .unset, .unset, .unset, .unset, .unset, .unset, .unset, .unset] [(.ref b1)]))
  refine Goes.step (fun _ hr => XS.iconst X15.here hx rfl (hb hby at_55) hr) ?_
  show Goes p ee below s _ _ _ (T15.setTop (mkF m 56 #[.val (.long p1), .second, .val (.long p2), .second, .val (.int p3), .val (.int p4), .val (.ref b1), .unset, .unset, .unset, .unset, .unset, .unset, .unset, .unset, .unset, .unset] [(.int (5 : Int32)), (.ref b1)]))
  refine Goes.step (fun _ hr => XT.lloadN X15.here hx rfl (hb hby at_56) rfl  hr) ?_
  show Goes p ee below s _ _ _ (T15.setTop (mkF m 57 #[.val (.long p1), .second, .val (.long p2), .second, .val (.int p3), .val (.int p4), .val (.ref b1), .unset, .unset, .unset, .unset, .unset, .unset, .unset, .unset, .unset, .unset] [(.long p1), (.int (5 : Int32)), (.ref b1)]))
  refine Goes.step (fun _ hr => XS.bipush X15.here hx rfl (hb hby at_57) hr) ?_
  show Goes p ee below s _ _ _ (T15.setTop (mkF m 59 #[.val (.long p1), .second, .val (.long p2), .second, .val (.int p3), .val (.int p4), .val (.ref b1), .unset, .unset, .unset, .unset, .unset, .unset, .unset, .unset, .unset, .unset] [(.int (40 : Int32)), (.long p1), (.int (5 : Int32)), (.ref b1)]))
  refine Goes.step (fun _ hr => XT.lushr X15.here hx rfl (hb hby at_59) rfl hr) ?_
  show Goes p ee below s _ _ _ (T15.setTop (mkF m 60 #[.val (.long p1), .second, .val (.long p2), .second, .val (.int p3), .val (.int p4), .val (.ref b1), .unset, .unset, .unset, .unset, .unset, .unset, .unset, .unset, .unset, .unset] [(.long (XT.ushrL p1 (40 : Int32))), (.int (5 : Int32)), (.ref b1)]))
  refine Goes.step (fun _ hr => XT.l2i X15.here hx rfl (hb hby at_60) rfl hr) ?_
  show Goes p ee below s _ _ _ (T15.setTop (mkF m 61 #[.val (.long p1), .second, .val (.long p2), .second, .val (.int p3), .val (.int p4), .val (.ref b1), .unset, .unset, .unset, .unset, .unset, .unset, .unset, .unset, .unset, .unset] [(.int (XT.ushrL p1 (40 : Int32)).toInt32), (.int (5 : Int32)), (.ref b1)]))
  refine Goes.step (fun _ hr => XT.i2b X15.here hx rfl (hb hby at_61) rfl hr) ?_
  show Goes p ee below s _ _ _ (T15.setTop (mkF m 62 #[.val (.long p1), .second, .val (.long p2), .second, .val (.int p3), .val (.int p4), .val (.ref b1), .unset, .unset, .unset, .unset, .unset, .unset, .unset, .unset, .unset, .unset] [(.int ((XT.ushrL p1 (40 : Int32)).toInt32).toInt8.toInt32), (.int (5 : Int32)), (.ref b1)]))
  obtain ⟨T18, h18, X18, e18, W18, A18, st18⟩ := own_stB X15 hx hZ e15 A_b1 (x := ((XT.ushrL p1 (40 : Int32)).toInt32).toInt8.toInt32) (j := (5 : Int32)) (by decide) (k := 5) rfl (by decide) (g := (mkF m 62 #[.val (.long p1), .second, .val (.long p2), .second, .val (.int p3), .val (.int p4), .val (.ref b1), .unset, .unset, .unset, .unset, .unset, .unset, .unset, .unset, .unset, .unset] [(.int ((XT.ushrL p1 (40 : Int32)).toInt32).toInt8.toInt32), (.int (5 : Int32)), (.ref b1)])) rfl rfl (hb hby at_62)
  refine Goes.step st18 ?_
  have Zp19 := Nat.le_trans Zp16 (Keep.of_wr W18).1
  have N20 := Fr.snoc X18 N17 ge_b1
  have A_b1 := A18
  show Goes p ee below s _ _ _ (T18.setTop (mkF m 63 #[.val (.long p1), .second, .val (.long p2), .second, .val (.int p3), .val (.int p4), .val (.ref b1), .unset, .unset, .unset, .unset, .unset, .unset, .unset, .unset, .unset, .unset] []))
  refine Goes.step (fun _ hr => XS.aload X18.here hx rfl (hb hby at_63) rfl rfl hr) ?_
  show Goes p ee below s _ _ _ (T18.setTop (mkF m 65 #[.val (.long p1), .second, .val (.long p2), .second, .val (.int p3), .val (.int p4), .val (.ref b1), .unset, .unset, .unset, .unset, .unset, .unset, .unset, .unset, .unset, .unset] [(.ref b1)]))
  refine Goes.step (fun _ hr => XS.bipush X18.here hx rfl (hb hby at_65) hr) ?_
  show Goes p ee below s _ _ _ (T18.setTop (mkF m 67 #[.val (.long p1), .second, .val (.long p2), .second, .val (.int p3), .val (.int p4), .val (.ref b1), .unset, .unset, .unset, .unset, .unset, .unset, .unset, .unset, .unset, .unset] [(.int (6 : Int32)), (.ref b1)]))
  refine Goes.step (fun _ hr => XT.lloadN X18.here hx rfl (hb hby at_67) rfl  hr) ?_
  show Goes p ee below s _ _ _ (T18.setTop (mkF m 68 #[.val (.long p1), .second, .val (.long p2), .second, .val (.int p3), .val (.int p4), .val (.ref b1), .unset, .unset, .unset, .unset, .unset, .unset, .unset, .unset, .unset, .unset] [(.long p1), (.int (6 : Int32)), (.ref b1)]))
  refine Goes.step (fun _ hr => XS.bipush X18.here hx rfl (hb hby at_68) hr) ?_
  show Goes p ee below s _ _ _ (T18.setTop (mkF m 70 #[.val (.long p1), .second, .val (.long p2), .second, .val (.int p3), .val (.int p4), .val (.ref b1), .unset, .unset, .unset, .unset, .unset, .unset, .unset, .unset, .unset, .unset] [(.int (48 : Int32)), (.long p1), (.int (6 : Int32)), (.ref b1)]))
  refine Goes.step (fun _ hr => XT.lushr X18.here hx rfl (hb hby at_70) rfl hr) ?_
  show Goes p ee below s _ _ _ (T18.setTop (mkF m 71 #[.val (.long p1), .second, .val (.long p2), .second, .val (.int p3), .val (.int p4), .val (.ref b1), .unset, .unset, .unset, .unset, .unset, .unset, .unset, .unset, .unset, .unset] [(.long (XT.ushrL p1 (48 : Int32))), (.int (6 : Int32)), (.ref b1)]))
  refine Goes.step (fun _ hr => XT.l2i X18.here hx rfl (hb hby at_71) rfl hr) ?_
  show Goes p ee below s _ _ _ (T18.setTop (mkF m 72 #[.val (.long p1), .second, .val (.long p2), .second, .val (.int p3), .val (.int p4), .val (.ref b1), .unset, .unset, .unset, .unset, .unset, .unset, .unset, .unset, .unset, .unset] [(.int (XT.ushrL p1 (48 : Int32)).toInt32), (.int (6 : Int32)), (.ref b1)]))
  refine Goes.step (fun _ hr => XT.i2b X18.here hx rfl (hb hby at_72) rfl hr) ?_
  show Goes p ee below s _ _ _ (T18.setTop (mkF m 73 #[.val (.long p1), .second, .val (.long p2), .second, .val (.int p3), .val (.int p4), .val (.ref b1), .unset, .unset, .unset, .unset, .unset, .unset, .unset, .unset, .unset, .unset] [(.int ((XT.ushrL p1 (48 : Int32)).toInt32).toInt8.toInt32), (.int (6 : Int32)), (.ref b1)]))
  obtain ⟨T21, h21, X21, e21, W21, A21, st21⟩ := own_stB X18 hx hZ e18 A_b1 (x := ((XT.ushrL p1 (48 : Int32)).toInt32).toInt8.toInt32) (j := (6 : Int32)) (by decide) (k := 6) rfl (by decide) (g := (mkF m 73 #[.val (.long p1), .second, .val (.long p2), .second, .val (.int p3), .val (.int p4), .val (.ref b1), .unset, .unset, .unset, .unset, .unset, .unset, .unset, .unset, .unset, .unset] [(.int ((XT.ushrL p1 (48 : Int32)).toInt32).toInt8.toInt32), (.int (6 : Int32)), (.ref b1)])) rfl rfl (hb hby at_73)
  refine Goes.step st21 ?_
  have Zp22 := Nat.le_trans Zp19 (Keep.of_wr W21).1
  have N23 := Fr.snoc X21 N20 ge_b1
  have A_b1 := A21
  show Goes p ee below s _ _ _ (T21.setTop (mkF m 74 #[.val (.long p1), .second, .val (.long p2), .second, .val (.int p3), .val (.int p4), .val (.ref b1), .unset, .unset, .unset, .unset, .unset, .unset, .unset, .unset, .unset, .unset] []))
  refine Goes.step (fun _ hr => XS.aload X21.here hx rfl (hb hby at_74) rfl rfl hr) ?_
  show Goes p ee below s _ _ _ (T21.setTop (mkF m 76 #[.val (.long p1), .second, .val (.long p2), .second, .val (.int p3), .val (.int p4), .val (.ref b1), .unset, .unset, .unset, .unset, .unset, .unset, .unset, .unset, .unset, .unset] [(.ref b1)]))
  have lt_b1 := A_b1.lt
  obtain ⟨v24, T24, L24, X24, hQ24, st24⟩ := own_callS X21 hx hZ (y := (⟨"com/example/orbweaver/orbweaver/poa/ObjectKeys", "transientPrefix", "([B)[B"⟩ : MethodName)) hown (hw _ (List.mem_of_getElem? (i := 1) rfl)) (hw _ (List.mem_of_getElem? (i := 2) rfl)) (hw _ (List.mem_of_getElem? (i := 3) rfl)) (hw _ (List.mem_of_getElem? (i := 4) rfl)) (by decide) (argsL := [(.ref b1)]) (rm_tp l Z a0 hw [] b1 _ h21 n0 Zp22 A_b1) e21 (W := 0) (by decide) (by decide) (by decide) (by decide) (g := (mkF m 76 #[.val (.long p1), .second, .val (.long p2), .second, .val (.int p3), .val (.int p4), .val (.ref b1), .unset, .unset, .unset, .unset, .unset, .unset, .unset, .unset, .unset, .unset] [(.ref b1)])) rfl (by rw [hml]; rfl) (rest := []) (lenOf pd_0 rfl) rfl (by show 2 * 0 + _ ≤ _; exact Nat.le_of_eq rfl) (hb hby at_76)
  refine Goes.step st24 ?_
  obtain ⟨b24, rfl, N24, sz24, Kc24, fp, A_p, fp0⟩ := hQ24
  have N25 := Fr.app N23 N24
  obtain ⟨h24, e24⟩ : ∃ h', T24.heap = h' := ⟨_, rfl⟩
  rw [e24] at Kc24 A_p
  have A_b1 := A_b1.keep Kc24 nin0
  have Zp26 := Nat.le_trans Zp22 Kc24.1
  show Goes p ee below s _ _ _ (T24.setTop (mkF m 79 #[.val (.long p1), .second, .val (.long p2), .second, .val (.int p3), .val (.int p4), .val (.ref b1), .unset, .unset, .unset, .unset, .unset, .unset, .unset, .unset, .unset, .unset] [(.ref b24)]))
  refine Goes.step (fun _ hr => XS.astore X24.here hx rfl (hb hby at_79) rfl rfl (l' := #[.val (.long p1), .second, .val (.long p2), .second, .val (.int p3), .val (.int p4), .val (.ref b1), .val (.ref b24), .unset, .unset, .unset, .unset, .unset, .unset, .unset, .unset, .unset]) rfl hr) ?_
  show Goes p ee below s _ _ _ (T24.setTop (mkF m 81 #[.val (.long p1), .second, .val (.long p2), .second, .val (.int p3), .val (.int p4), .val (.ref b1), .val (.ref b24), .unset, .unset, .unset, .unset, .unset, .unset, .unset, .unset, .unset] []))
  refine Goes.step (fun _ hr => XS.aload X24.here hx rfl (hb hby at_81) rfl rfl hr) ?_
  show Goes p ee below s _ _ _ (T24.setTop (mkF m 83 #[.val (.long p1), .second, .val (.long p2), .second, .val (.int p3), .val (.int p4), .val (.ref b1), .val (.ref b24), .unset, .unset, .unset, .unset, .unset, .unset, .unset, .unset, .unset] [(.ref b24)]))
  refine Goes.step (own_alen X24 hx hZ e24 A_p (z := (8 : Int32)) rfl (g := (mkF m 83 #[.val (.long p1), .second, .val (.long p2), .second, .val (.int p3), .val (.int p4), .val (.ref b1), .val (.ref b24), .unset, .unset, .unset, .unset, .unset, .unset, .unset, .unset, .unset] [(.ref b24)])) rfl rfl (hb hby at_83)) ?_
  show Goes p ee below s _ _ _ (T24.setTop (mkF m 84 #[.val (.long p1), .second, .val (.long p2), .second, .val (.int p3), .val (.int p4), .val (.ref b1), .val (.ref b24), .unset, .unset, .unset, .unset, .unset, .unset, .unset, .unset, .unset] [(.int (8 : Int32))]))
  refine Goes.step (fun _ hr => XS.bipush X24.here hx rfl (hb hby at_84) hr) ?_
  show Goes p ee below s _ _ _ (T24.setTop (mkF m 86 #[.val (.long p1), .second, .val (.long p2), .second, .val (.int p3), .val (.int p4), .val (.ref b1), .val (.ref b24), .unset, .unset, .unset, .unset, .unset, .unset, .unset, .unset, .unset] [(.int (8 : Int32)), (.int (8 : Int32))]))
  refine Goes.step (fun _ hr => XS.icmpYes X24.here hx rfl (pc0 := 86) (pc' := 91) rfl (hb hby at_86) rfl (teq rfl).1 (by decide) (by decide) hr) ?_
  show Goes p ee below s _ _ _ (T24.setTop (mkF m 91 #[.val (.long p1), .second, .val (.long p2), .second, .val (.int p3), .val (.int p4), .val (.ref b1), .val (.ref b24), .unset, .unset, .unset, .unset, .unset, .unset, .unset, .unset, .unset] []))
  refine Goes.step (fun _ hr => XS.iload X24.here hx rfl (hb hby at_91) rfl  hr) ?_
  show Goes p ee below s _ _ _ (T24.setTop (mkF m 93 #[.val (.long p1), .second, .val (.long p2), .second, .val (.int p3), .val (.int p4), .val (.ref b1), .val (.ref b24), .unset, .unset, .unset, .unset, .unset, .unset, .unset, .unset, .unset] [(.int p3)]))
  refine Goes.step (fun _ hr => XS.bipush X24.here hx rfl (hb hby at_93) hr) ?_
  show Goes p ee below s _ _ _ (T24.setTop (mkF m 95 #[.val (.long p1), .second, .val (.long p2), .second, .val (.int p3), .val (.int p4), .val (.ref b1), .val (.ref b24), .unset, .unset, .unset, .unset, .unset, .unset, .unset, .unset, .unset] [(.int (7 : Int32)), (.int p3)]))
  refine Goes.step (fun _ hr => XS.iand X24.here hx rfl (hb hby at_95) rfl hr) ?_
  show Goes p ee below s _ _ _ (T24.setTop (mkF m 96 #[.val (.long p1), .second, .val (.long p2), .second, .val (.int p3), .val (.int p4), .val (.ref b1), .val (.ref b24), .unset, .unset, .unset, .unset, .unset, .unset, .unset, .unset, .unset] [(.int (p3 &&& (7 : Int32)))]))
  obtain ⟨mm, hmm, hme⟩ := own_masked p3 7 (by decide)
  rw [show p3 &&& (7 : Int32) = Int32.ofNat mm from hme]
  show Goes p ee below s _ _ _ (T24.setTop (mkF m 96 #[.val (.long p1), .second, .val (.long p2), .second, .val (.int p3), .val (.int p4), .val (.ref b1), .val (.ref b24), .unset, .unset, .unset, .unset, .unset, .unset, .unset, .unset, .unset] [(.int (Int32.ofNat mm))]))
  refine Goes.step (fun _ hr => XS.istore X24.here hx rfl (hb hby at_96) rfl  (l' := #[.val (.long p1), .second, .val (.long p2), .second, .val (.int p3), .val (.int p4), .val (.ref b1), .val (.ref b24), .val (.int (Int32.ofNat mm)), .unset, .unset, .unset, .unset, .unset, .unset, .unset, .unset]) rfl hr) ?_
  show Goes p ee below s _ _ _ (T24.setTop (mkF m 98 #[.val (.long p1), .second, .val (.long p2), .second, .val (.int p3), .val (.int p4), .val (.ref b1), .val (.ref b24), .val (.int (Int32.ofNat mm)), .unset, .unset, .unset, .unset, .unset, .unset, .unset, .unset] []))
  refine Goes.step (fun _ hr => XS.iload X24.here hx rfl (hb hby at_98) rfl  hr) ?_
  show Goes p ee below s _ _ _ (T24.setTop (mkF m 100 #[.val (.long p1), .second, .val (.long p2), .second, .val (.int p3), .val (.int p4), .val (.ref b1), .val (.ref b24), .val (.int (Int32.ofNat mm)), .unset, .unset, .unset, .unset, .unset, .unset, .unset, .unset] [(.int p3)]))
  refine Goes.step (fun _ hr => XS.iconst X24.here hx rfl (hb hby at_100) hr) ?_
  show Goes p ee below s _ _ _ (T24.setTop (mkF m 101 #[.val (.long p1), .second, .val (.long p2), .second, .val (.int p3), .val (.int p4), .val (.ref b1), .val (.ref b24), .val (.int (Int32.ofNat mm)), .unset, .unset, .unset, .unset, .unset, .unset, .unset, .unset] [(.int (3 : Int32)), (.int p3)]))
  refine Goes.step (fun _ hr => XT.iushr X24.here hx rfl (hb hby at_101) rfl hr) ?_
  show Goes p ee below s _ _ _ (T24.setTop (mkF m 102 #[.val (.long p1), .second, .val (.long p2), .second, .val (.int p3), .val (.int p4), .val (.ref b1), .val (.ref b24), .val (.int (Int32.ofNat mm)), .unset, .unset, .unset, .unset, .unset, .unset, .unset, .unset] [(.int (XT.ushr p3 (3 : Int32)))]))
  refine Goes.step (fun _ hr => XS.bipush X24.here hx rfl (hb hby at_102) hr) ?_
  show Goes p ee below s _ _ _ (T24.setTop (mkF m 104 #[.val (.long p1), .second, .val (.long p2), .second, .val (.int p3), .val (.int p4), .val (.ref b1), .val (.ref b24), .val (.int (Int32.ofNat mm)), .unset, .unset, .unset, .unset, .unset, .unset, .unset, .unset] [(.int (7 : Int32)), (.int (XT.ushr p3 (3 : Int32)))]))
  refine Goes.step (fun _ hr => XS.iand X24.here hx rfl (hb hby at_104) rfl hr) ?_
  show Goes p ee below s _ _ _ (T24.setTop (mkF m 105 #[.val (.long p1), .second, .val (.long p2), .second, .val (.int p3), .val (.int p4), .val (.ref b1), .val (.ref b24), .val (.int (Int32.ofNat mm)), .unset, .unset, .unset, .unset, .unset, .unset, .unset, .unset] [(.int ((XT.ushr p3 (3 : Int32)) &&& (7 : Int32)))]))
  obtain ⟨tt, htt, hte⟩ := own_masked (XT.ushr p3 (3 : Int32)) 7 (by decide)
  rw [show XT.ushr p3 (3 : Int32) &&& (7 : Int32) = Int32.ofNat tt from hte]
  show Goes p ee below s _ _ _ (T24.setTop (mkF m 105 #[.val (.long p1), .second, .val (.long p2), .second, .val (.int p3), .val (.int p4), .val (.ref b1), .val (.ref b24), .val (.int (Int32.ofNat mm)), .unset, .unset, .unset, .unset, .unset, .unset, .unset, .unset] [(.int (Int32.ofNat tt))]))
  refine Goes.step (fun _ hr => XS.istore X24.here hx rfl (hb hby at_105) rfl  (l' := #[.val (.long p1), .second, .val (.long p2), .second, .val (.int p3), .val (.int p4), .val (.ref b1), .val (.ref b24), .val (.int (Int32.ofNat mm)), .val (.int (Int32.ofNat tt)), .unset, .unset, .unset, .unset, .unset, .unset, .unset]) rfl hr) ?_
  show Goes p ee below s _ _ _ (T24.setTop (mkF m 107 #[.val (.long p1), .second, .val (.long p2), .second, .val (.int p3), .val (.int p4), .val (.ref b1), .val (.ref b24), .val (.int (Int32.ofNat mm)), .val (.int (Int32.ofNat tt)), .unset, .unset, .unset, .unset, .unset, .unset, .unset] []))
  refine Goes.step (fun _ hr => XS.iload X24.here hx rfl (hb hby at_107) rfl  hr) ?_
  show Goes p ee below s _ _ _ (T24.setTop (mkF m 109 #[.val (.long p1), .second, .val (.long p2), .second, .val (.int p3), .val (.int p4), .val (.ref b1), .val (.ref b24), .val (.int (Int32.ofNat mm)), .val (.int (Int32.ofNat tt)), .unset, .unset, .unset, .unset, .unset, .unset, .unset] [(.int p4)]))
  refine Goes.step (fun _ hr => XT.i2b X24.here hx rfl (hb hby at_109) rfl hr) ?_
  show Goes p ee below s _ _ _ (T24.setTop (mkF m 110 #[.val (.long p1), .second, .val (.long p2), .second, .val (.int p3), .val (.int p4), .val (.ref b1), .val (.ref b24), .val (.int (Int32.ofNat mm)), .val (.int (Int32.ofNat tt)), .unset, .unset, .unset, .unset, .unset, .unset, .unset] [(.int p4.toInt8.toInt32)]))
  refine Goes.step (fun _ hr => XS.istore X24.here hx rfl (hb hby at_110) rfl  (l' := #[.val (.long p1), .second, .val (.long p2), .second, .val (.int p3), .val (.int p4), .val (.ref b1), .val (.ref b24), .val (.int (Int32.ofNat mm)), .val (.int (Int32.ofNat tt)), .val (.int p4.toInt8.toInt32), .unset, .unset, .unset, .unset, .unset, .unset]) rfl hr) ?_
  show Goes p ee below s _ _ _ (T24.setTop (mkF m 112 #[.val (.long p1), .second, .val (.long p2), .second, .val (.int p3), .val (.int p4), .val (.ref b1), .val (.ref b24), .val (.int (Int32.ofNat mm)), .val (.int (Int32.ofNat tt)), .val (.int p4.toInt8.toInt32), .unset, .unset, .unset, .unset, .unset, .unset] []))
  have J120 : ∀ x : Int32, x ≠ 0 → nar .byte x = x → Goes p ee below s room_1.cells room_1.slots (Q_law Z p1 p2 p3 p4 h0 n0) (T24.setTop (mkF m 120 #[.val (.long p1), .second, .val (.long p2), .second, .val (.int p3), .val (.int p4), .val (.ref b1), .val (.ref b24), .val (.int (Int32.ofNat mm)), .val (.int (Int32.ofNat tt)), .val (.int x), .unset, .unset, .unset, .unset, .unset, .unset] [])) := by
    intro x hx0 hxb
    refine Goes.step (fun _ hr => XS.bipush X24.here hx rfl (hb hby at_120) hr) ?_
    show Goes p ee below s _ _ _ (T24.setTop (mkF m 122 #[.val (.long p1), .second, .val (.long p2), .second, .val (.int p3), .val (.int p4), .val (.ref b1), .val (.ref b24), .val (.int (Int32.ofNat mm)), .val (.int (Int32.ofNat tt)), .val (.int x), .unset, .unset, .unset, .unset, .unset, .unset] [(.int (8 : Int32))]))
    refine Goes.step (fun _ hr => XS.iload X24.here hx rfl (hb hby at_122) rfl  hr) ?_
    show Goes p ee below s _ _ _ (T24.setTop (mkF m 124 #[.val (.long p1), .second, .val (.long p2), .second, .val (.int p3), .val (.int p4), .val (.ref b1), .val (.ref b24), .val (.int (Int32.ofNat mm)), .val (.int (Int32.ofNat tt)), .val (.int x), .unset, .unset, .unset, .unset, .unset, .unset] [(.int (Int32.ofNat mm)), (.int (8 : Int32))]))
    refine Goes.step (fun _ hr => XS.iadd X24.here hx rfl (hb hby at_124) rfl hr) ?_
    show Goes p ee below s _ _ _ (T24.setTop (mkF m 125 #[.val (.long p1), .second, .val (.long p2), .second, .val (.int p3), .val (.int p4), .val (.ref b1), .val (.ref b24), .val (.int (Int32.ofNat mm)), .val (.int (Int32.ofNat tt)), .val (.int x), .unset, .unset, .unset, .unset, .unset, .unset] [(.int ((8 : Int32) + (Int32.ofNat mm)))]))
    obtain ⟨T27, h27, X27, e27, E27, A27, st27⟩ := own_newP X24 hx hZ (aty := .byte) (hw _ (List.mem_of_getElem? (i := 0) rfl)) e24 (z := ((8 : Int32) + (Int32.ofNat mm))) (own_ixa 8 mm (by omega)).1 (n := (8 + mm)) (own_ixa 8 mm (by omega)).2 (cap := 15) (by omega) (by decide) (by decide) (by decide) (g := (mkF m 125 #[.val (.long p1), .second, .val (.long p2), .second, .val (.int p3), .val (.int p4), .val (.ref b1), .val (.ref b24), .val (.int (Int32.ofNat mm)), .val (.int (Int32.ofNat tt)), .val (.int x), .unset, .unset, .unset, .unset, .unset, .unset] [(.int ((8 : Int32) + (Int32.ofNat mm)))])) rfl rfl (hb hby at_125)
    obtain ⟨b27, g_b27⟩ : ∃ z, z = h24.size := ⟨_, rfl⟩
    have ne_b24_b27 : b24 ≠ b27 := Nat.ne_of_lt (Nat.lt_of_lt_of_le A_p.lt (Nat.le_of_eq g_b27.symm))
    have ge_b27 : n0 ≤ b27 := Nat.le_trans Zp26 (Nat.le_of_eq g_b27.symm)
    rw [← g_b27] at A27 st27
    have A_p := A_p.ext E27
    have Zp28 := Nat.le_trans Zp26 E27.1
    refine Goes.step st27 ?_
    have A_b27 : OA Z h27 b27 .byte (8 + mm) (fun _ => (.int 0)) := A27
    show Goes p ee below s _ _ _ (T27.setTop (mkF m 127 #[.val (.long p1), .second, .val (.long p2), .second, .val (.int p3), .val (.int p4), .val (.ref b1), .val (.ref b24), .val (.int (Int32.ofNat mm)), .val (.int (Int32.ofNat tt)), .val (.int x), .unset, .unset, .unset, .unset, .unset, .unset] [(.ref b27)]))
    refine Goes.step (fun _ hr => XS.astore X27.here hx rfl (hb hby at_127) rfl rfl (l' := #[.val (.long p1), .second, .val (.long p2), .second, .val (.int p3), .val (.int p4), .val (.ref b1), .val (.ref b24), .val (.int (Int32.ofNat mm)), .val (.int (Int32.ofNat tt)), .val (.int x), .val (.ref b27), .unset, .unset, .unset, .unset, .unset]) rfl hr) ?_
    show Goes p ee below s _ _ _ (T27.setTop (mkF m 129 #[.val (.long p1), .second, .val (.long p2), .second, .val (.int p3), .val (.int p4), .val (.ref b1), .val (.ref b24), .val (.int (Int32.ofNat mm)), .val (.int (Int32.ofNat tt)), .val (.int x), .val (.ref b27), .unset, .unset, .unset, .unset, .unset] []))
    refine Goes.step (fun _ hr => XS.aload X27.here hx rfl (hb hby at_129) rfl rfl hr) ?_
    show Goes p ee below s _ _ _ (T27.setTop (mkF m 131 #[.val (.long p1), .second, .val (.long p2), .second, .val (.int p3), .val (.int p4), .val (.ref b1), .val (.ref b24), .val (.int (Int32.ofNat mm)), .val (.int (Int32.ofNat tt)), .val (.int x), .val (.ref b27), .unset, .unset, .unset, .unset, .unset] [(.ref b27)]))
    refine Goes.step (fun _ hr => XS.iconst X27.here hx rfl (hb hby at_131) hr) ?_
    show Goes p ee below s _ _ _ (T27.setTop (mkF m 132 #[.val (.long p1), .second, .val (.long p2), .second, .val (.int p3), .val (.int p4), .val (.ref b1), .val (.ref b24), .val (.int (Int32.ofNat mm)), .val (.int (Int32.ofNat tt)), .val (.int x), .val (.ref b27), .unset, .unset, .unset, .unset, .unset] [(.int (0 : Int32)), (.ref b27)]))
    refine Goes.step (fun _ hr => XS.aload X27.here hx rfl (hb hby at_132) rfl rfl hr) ?_
    show Goes p ee below s _ _ _ (T27.setTop (mkF m 134 #[.val (.long p1), .second, .val (.long p2), .second, .val (.int p3), .val (.int p4), .val (.ref b1), .val (.ref b24), .val (.int (Int32.ofNat mm)), .val (.int (Int32.ofNat tt)), .val (.int x), .val (.ref b27), .unset, .unset, .unset, .unset, .unset] [(.ref b24), (.int (0 : Int32)), (.ref b27)]))
    refine Goes.step (fun _ hr => XS.iconst X27.here hx rfl (hb hby at_134) hr) ?_
    show Goes p ee below s _ _ _ (T27.setTop (mkF m 135 #[.val (.long p1), .second, .val (.long p2), .second, .val (.int p3), .val (.int p4), .val (.ref b1), .val (.ref b24), .val (.int (Int32.ofNat mm)), .val (.int (Int32.ofNat tt)), .val (.int x), .val (.ref b27), .unset, .unset, .unset, .unset, .unset] [(.int (0 : Int32)), (.ref b24), (.int (0 : Int32)), (.ref b27)]))
    refine Goes.step (own_baload X27 hx hZ e27 A_p (j := (0 : Int32)) (by decide) (k := 0) rfl (by decide) (v := (.int (0 : Int32))) fp0 (g := (mkF m 135 #[.val (.long p1), .second, .val (.long p2), .second, .val (.int p3), .val (.int p4), .val (.ref b1), .val (.ref b24), .val (.int (Int32.ofNat mm)), .val (.int (Int32.ofNat tt)), .val (.int x), .val (.ref b27), .unset, .unset, .unset, .unset, .unset] [(.int (0 : Int32)), (.ref b24), (.int (0 : Int32)), (.ref b27)])) rfl rfl (hb hby at_135)) ?_
    show Goes p ee below s _ _ _ (T27.setTop (mkF m 136 #[.val (.long p1), .second, .val (.long p2), .second, .val (.int p3), .val (.int p4), .val (.ref b1), .val (.ref b24), .val (.int (Int32.ofNat mm)), .val (.int (Int32.ofNat tt)), .val (.int x), .val (.ref b27), .unset, .unset, .unset, .unset, .unset] [(.int (0 : Int32)), (.int (0 : Int32)), (.ref b27)]))
    obtain ⟨T29, h29, X29, e29, W29, A29, st29⟩ := own_stB X27 hx hZ e27 A_b27 (x := (0 : Int32)) (j := (0 : Int32)) (by decide) (k := 0) rfl (by omega) (g := (mkF m 136 #[.val (.long p1), .second, .val (.long p2), .second, .val (.int p3), .val (.int p4), .val (.ref b1), .val (.ref b24), .val (.int (Int32.ofNat mm)), .val (.int (Int32.ofNat tt)), .val (.int x), .val (.ref b27), .unset, .unset, .unset, .unset, .unset] [(.int (0 : Int32)), (.int (0 : Int32)), (.ref b27)])) rfl rfl (hb hby at_136)
    refine Goes.step st29 ?_
    have A_p := A_p.other W29 ne_b24_b27
    have Zp30 := Nat.le_trans Zp28 (Keep.of_wr W29).1
    have N31 := Fr.snoc X29 N25 ge_b27
    obtain ⟨fk32, A_b27, fk0⟩ : ∃ f', OA Z h29 b27 .byte (8 + mm) f' ∧ f' 0 = .int 0 := ⟨_, A29, rfl⟩
    show Goes p ee below s _ _ _ (T29.setTop (mkF m 137 #[.val (.long p1), .second, .val (.long p2), .second, .val (.int p3), .val (.int p4), .val (.ref b1), .val (.ref b24), .val (.int (Int32.ofNat mm)), .val (.int (Int32.ofNat tt)), .val (.int x), .val (.ref b27), .unset, .unset, .unset, .unset, .unset] []))
    refine Goes.step (fun _ hr => XS.aload X29.here hx rfl (hb hby at_137) rfl rfl hr) ?_
    show Goes p ee below s _ _ _ (T29.setTop (mkF m 139 #[.val (.long p1), .second, .val (.long p2), .second, .val (.int p3), .val (.int p4), .val (.ref b1), .val (.ref b24), .val (.int (Int32.ofNat mm)), .val (.int (Int32.ofNat tt)), .val (.int x), .val (.ref b27), .unset, .unset, .unset, .unset, .unset] [(.ref b27)]))
    refine Goes.step (fun _ hr => XS.iconst X29.here hx rfl (hb hby at_139) hr) ?_
    show Goes p ee below s _ _ _ (T29.setTop (mkF m 140 #[.val (.long p1), .second, .val (.long p2), .second, .val (.int p3), .val (.int p4), .val (.ref b1), .val (.ref b24), .val (.int (Int32.ofNat mm)), .val (.int (Int32.ofNat tt)), .val (.int x), .val (.ref b27), .unset, .unset, .unset, .unset, .unset] [(.int (1 : Int32)), (.ref b27)]))
    refine Goes.step (fun _ hr => XS.aload X29.here hx rfl (hb hby at_140) rfl rfl hr) ?_
    show Goes p ee below s _ _ _ (T29.setTop (mkF m 142 #[.val (.long p1), .second, .val (.long p2), .second, .val (.int p3), .val (.int p4), .val (.ref b1), .val (.ref b24), .val (.int (Int32.ofNat mm)), .val (.int (Int32.ofNat tt)), .val (.int x), .val (.ref b27), .unset, .unset, .unset, .unset, .unset] [(.ref b24), (.int (1 : Int32)), (.ref b27)]))
    refine Goes.step (fun _ hr => XS.iconst X29.here hx rfl (hb hby at_142) hr) ?_
    show Goes p ee below s _ _ _ (T29.setTop (mkF m 143 #[.val (.long p1), .second, .val (.long p2), .second, .val (.int p3), .val (.int p4), .val (.ref b1), .val (.ref b24), .val (.int (Int32.ofNat mm)), .val (.int (Int32.ofNat tt)), .val (.int x), .val (.ref b27), .unset, .unset, .unset, .unset, .unset] [(.int (1 : Int32)), (.ref b24), (.int (1 : Int32)), (.ref b27)]))
    obtain ⟨z33, hz33⟩ := own_isint A_p (k := 1) (by decide)
    refine Goes.step (own_baload X29 hx hZ e29 A_p (j := (1 : Int32)) (by decide) (k := 1) rfl (by decide) (v := (.int z33)) hz33 (g := (mkF m 143 #[.val (.long p1), .second, .val (.long p2), .second, .val (.int p3), .val (.int p4), .val (.ref b1), .val (.ref b24), .val (.int (Int32.ofNat mm)), .val (.int (Int32.ofNat tt)), .val (.int x), .val (.ref b27), .unset, .unset, .unset, .unset, .unset] [(.int (1 : Int32)), (.ref b24), (.int (1 : Int32)), (.ref b27)])) rfl rfl (hb hby at_143)) ?_
    show Goes p ee below s _ _ _ (T29.setTop (mkF m 144 #[.val (.long p1), .second, .val (.long p2), .second, .val (.int p3), .val (.int p4), .val (.ref b1), .val (.ref b24), .val (.int (Int32.ofNat mm)), .val (.int (Int32.ofNat tt)), .val (.int x), .val (.ref b27), .unset, .unset, .unset, .unset, .unset] [(.int z33), (.int (1 : Int32)), (.ref b27)]))
    obtain ⟨T34, h34, X34, e34, W34, A34, st34⟩ := own_stB X29 hx hZ e29 A_b27 (x := z33) (j := (1 : Int32)) (by decide) (k := 1) rfl (by omega) (g := (mkF m 144 #[.val (.long p1), .second, .val (.long p2), .second, .val (.int p3), .val (.int p4), .val (.ref b1), .val (.ref b24), .val (.int (Int32.ofNat mm)), .val (.int (Int32.ofNat tt)), .val (.int x), .val (.ref b27), .unset, .unset, .unset, .unset, .unset] [(.int z33), (.int (1 : Int32)), (.ref b27)])) rfl rfl (hb hby at_144)
    refine Goes.step st34 ?_
    have A_p := A_p.other W34 ne_b24_b27
    have Zp35 := Nat.le_trans Zp30 (Keep.of_wr W34).1
    have N36 := Fr.snoc X34 N31 ge_b27
    obtain ⟨fk37, A_b27, fk0⟩ : ∃ f', OA Z h34 b27 .byte (8 + mm) f' ∧ f' 0 = .int 0 := ⟨_, A34, fk0⟩
    show Goes p ee below s _ _ _ (T34.setTop (mkF m 145 #[.val (.long p1), .second, .val (.long p2), .second, .val (.int p3), .val (.int p4), .val (.ref b1), .val (.ref b24), .val (.int (Int32.ofNat mm)), .val (.int (Int32.ofNat tt)), .val (.int x), .val (.ref b27), .unset, .unset, .unset, .unset, .unset] []))
    refine Goes.step (fun _ hr => XS.aload X34.here hx rfl (hb hby at_145) rfl rfl hr) ?_
    show Goes p ee below s _ _ _ (T34.setTop (mkF m 147 #[.val (.long p1), .second, .val (.long p2), .second, .val (.int p3), .val (.int p4), .val (.ref b1), .val (.ref b24), .val (.int (Int32.ofNat mm)), .val (.int (Int32.ofNat tt)), .val (.int x), .val (.ref b27), .unset, .unset, .unset, .unset, .unset] [(.ref b27)]))
    refine Goes.step (fun _ hr => XS.iconst X34.here hx rfl (hb hby at_147) hr) ?_
    show Goes p ee below s _ _ _ (T34.setTop (mkF m 148 #[.val (.long p1), .second, .val (.long p2), .second, .val (.int p3), .val (.int p4), .val (.ref b1), .val (.ref b24), .val (.int (Int32.ofNat mm)), .val (.int (Int32.ofNat tt)), .val (.int x), .val (.ref b27), .unset, .unset, .unset, .unset, .unset] [(.int (2 : Int32)), (.ref b27)]))
    refine Goes.step (fun _ hr => XS.aload X34.here hx rfl (hb hby at_148) rfl rfl hr) ?_
    show Goes p ee below s _ _ _ (T34.setTop (mkF m 150 #[.val (.long p1), .second, .val (.long p2), .second, .val (.int p3), .val (.int p4), .val (.ref b1), .val (.ref b24), .val (.int (Int32.ofNat mm)), .val (.int (Int32.ofNat tt)), .val (.int x), .val (.ref b27), .unset, .unset, .unset, .unset, .unset] [(.ref b24), (.int (2 : Int32)), (.ref b27)]))
    refine Goes.step (fun _ hr => XS.iconst X34.here hx rfl (hb hby at_150) hr) ?_
    show Goes p ee below s _ _ _ (T34.setTop (mkF m 151 #[.val (.long p1), .second, .val (.long p2), .second, .val (.int p3), .val (.int p4), .val (.ref b1), .val (.ref b24), .val (.int (Int32.ofNat mm)), .val (.int (Int32.ofNat tt)), .val (.int x), .val (.ref b27), .unset, .unset, .unset, .unset, .unset] [(.int (2 : Int32)), (.ref b24), (.int (2 : Int32)), (.ref b27)]))
    obtain ⟨z38, hz38⟩ := own_isint A_p (k := 2) (by decide)
    refine Goes.step (own_baload X34 hx hZ e34 A_p (j := (2 : Int32)) (by decide) (k := 2) rfl (by decide) (v := (.int z38)) hz38 (g := (mkF m 151 #[.val (.long p1), .second, .val (.long p2), .second, .val (.int p3), .val (.int p4), .val (.ref b1), .val (.ref b24), .val (.int (Int32.ofNat mm)), .val (.int (Int32.ofNat tt)), .val (.int x), .val (.ref b27), .unset, .unset, .unset, .unset, .unset] [(.int (2 : Int32)), (.ref b24), (.int (2 : Int32)), (.ref b27)])) rfl rfl (hb hby at_151)) ?_
    show Goes p ee below s _ _ _ (T34.setTop (mkF m 152 #[.val (.long p1), .second, .val (.long p2), .second, .val (.int p3), .val (.int p4), .val (.ref b1), .val (.ref b24), .val (.int (Int32.ofNat mm)), .val (.int (Int32.ofNat tt)), .val (.int x), .val (.ref b27), .unset, .unset, .unset, .unset, .unset] [(.int z38), (.int (2 : Int32)), (.ref b27)]))
    obtain ⟨T39, h39, X39, e39, W39, A39, st39⟩ := own_stB X34 hx hZ e34 A_b27 (x := z38) (j := (2 : Int32)) (by decide) (k := 2) rfl (by omega) (g := (mkF m 152 #[.val (.long p1), .second, .val (.long p2), .second, .val (.int p3), .val (.int p4), .val (.ref b1), .val (.ref b24), .val (.int (Int32.ofNat mm)), .val (.int (Int32.ofNat tt)), .val (.int x), .val (.ref b27), .unset, .unset, .unset, .unset, .unset] [(.int z38), (.int (2 : Int32)), (.ref b27)])) rfl rfl (hb hby at_152)
    refine Goes.step st39 ?_
    have A_p := A_p.other W39 ne_b24_b27
    have Zp40 := Nat.le_trans Zp35 (Keep.of_wr W39).1
    have N41 := Fr.snoc X39 N36 ge_b27
    obtain ⟨fk42, A_b27, fk0⟩ : ∃ f', OA Z h39 b27 .byte (8 + mm) f' ∧ f' 0 = .int 0 := ⟨_, A39, fk0⟩
    show Goes p ee below s _ _ _ (T39.setTop (mkF m 153 #[.val (.long p1), .second, .val (.long p2), .second, .val (.int p3), .val (.int p4), .val (.ref b1), .val (.ref b24), .val (.int (Int32.ofNat mm)), .val (.int (Int32.ofNat tt)), .val (.int x), .val (.ref b27), .unset, .unset, .unset, .unset, .unset] []))
    refine Goes.step (fun _ hr => XS.aload X39.here hx rfl (hb hby at_153) rfl rfl hr) ?_
    show Goes p ee below s _ _ _ (T39.setTop (mkF m 155 #[.val (.long p1), .second, .val (.long p2), .second, .val (.int p3), .val (.int p4), .val (.ref b1), .val (.ref b24), .val (.int (Int32.ofNat mm)), .val (.int (Int32.ofNat tt)), .val (.int x), .val (.ref b27), .unset, .unset, .unset, .unset, .unset] [(.ref b27)]))
    refine Goes.step (fun _ hr => XS.iconst X39.here hx rfl (hb hby at_155) hr) ?_
    show Goes p ee below s _ _ _ (T39.setTop (mkF m 156 #[.val (.long p1), .second, .val (.long p2), .second, .val (.int p3), .val (.int p4), .val (.ref b1), .val (.ref b24), .val (.int (Int32.ofNat mm)), .val (.int (Int32.ofNat tt)), .val (.int x), .val (.ref b27), .unset, .unset, .unset, .unset, .unset] [(.int (3 : Int32)), (.ref b27)]))
    refine Goes.step (fun _ hr => XS.aload X39.here hx rfl (hb hby at_156) rfl rfl hr) ?_
    show Goes p ee below s _ _ _ (T39.setTop (mkF m 158 #[.val (.long p1), .second, .val (.long p2), .second, .val (.int p3), .val (.int p4), .val (.ref b1), .val (.ref b24), .val (.int (Int32.ofNat mm)), .val (.int (Int32.ofNat tt)), .val (.int x), .val (.ref b27), .unset, .unset, .unset, .unset, .unset] [(.ref b24), (.int (3 : Int32)), (.ref b27)]))
    refine Goes.step (fun _ hr => XS.iconst X39.here hx rfl (hb hby at_158) hr) ?_
    show Goes p ee below s _ _ _ (T39.setTop (mkF m 159 #[.val (.long p1), .second, .val (.long p2), .second, .val (.int p3), .val (.int p4), .val (.ref b1), .val (.ref b24), .val (.int (Int32.ofNat mm)), .val (.int (Int32.ofNat tt)), .val (.int x), .val (.ref b27), .unset, .unset, .unset, .unset, .unset] [(.int (3 : Int32)), (.ref b24), (.int (3 : Int32)), (.ref b27)]))
    obtain ⟨z43, hz43⟩ := own_isint A_p (k := 3) (by decide)
    refine Goes.step (own_baload X39 hx hZ e39 A_p (j := (3 : Int32)) (by decide) (k := 3) rfl (by decide) (v := (.int z43)) hz43 (g := (mkF m 159 #[.val (.long p1), .second, .val (.long p2), .second, .val (.int p3), .val (.int p4), .val (.ref b1), .val (.ref b24), .val (.int (Int32.ofNat mm)), .val (.int (Int32.ofNat tt)), .val (.int x), .val (.ref b27), .unset, .unset, .unset, .unset, .unset] [(.int (3 : Int32)), (.ref b24), (.int (3 : Int32)), (.ref b27)])) rfl rfl (hb hby at_159)) ?_
    show Goes p ee below s _ _ _ (T39.setTop (mkF m 160 #[.val (.long p1), .second, .val (.long p2), .second, .val (.int p3), .val (.int p4), .val (.ref b1), .val (.ref b24), .val (.int (Int32.ofNat mm)), .val (.int (Int32.ofNat tt)), .val (.int x), .val (.ref b27), .unset, .unset, .unset, .unset, .unset] [(.int z43), (.int (3 : Int32)), (.ref b27)]))
    obtain ⟨T44, h44, X44, e44, W44, A44, st44⟩ := own_stB X39 hx hZ e39 A_b27 (x := z43) (j := (3 : Int32)) (by decide) (k := 3) rfl (by omega) (g := (mkF m 160 #[.val (.long p1), .second, .val (.long p2), .second, .val (.int p3), .val (.int p4), .val (.ref b1), .val (.ref b24), .val (.int (Int32.ofNat mm)), .val (.int (Int32.ofNat tt)), .val (.int x), .val (.ref b27), .unset, .unset, .unset, .unset, .unset] [(.int z43), (.int (3 : Int32)), (.ref b27)])) rfl rfl (hb hby at_160)
    refine Goes.step st44 ?_
    have A_p := A_p.other W44 ne_b24_b27
    have Zp45 := Nat.le_trans Zp40 (Keep.of_wr W44).1
    have N46 := Fr.snoc X44 N41 ge_b27
    obtain ⟨fk47, A_b27, fk0⟩ : ∃ f', OA Z h44 b27 .byte (8 + mm) f' ∧ f' 0 = .int 0 := ⟨_, A44, fk0⟩
    show Goes p ee below s _ _ _ (T44.setTop (mkF m 161 #[.val (.long p1), .second, .val (.long p2), .second, .val (.int p3), .val (.int p4), .val (.ref b1), .val (.ref b24), .val (.int (Int32.ofNat mm)), .val (.int (Int32.ofNat tt)), .val (.int x), .val (.ref b27), .unset, .unset, .unset, .unset, .unset] []))
    refine Goes.step (fun _ hr => XS.aload X44.here hx rfl (hb hby at_161) rfl rfl hr) ?_
    show Goes p ee below s _ _ _ (T44.setTop (mkF m 163 #[.val (.long p1), .second, .val (.long p2), .second, .val (.int p3), .val (.int p4), .val (.ref b1), .val (.ref b24), .val (.int (Int32.ofNat mm)), .val (.int (Int32.ofNat tt)), .val (.int x), .val (.ref b27), .unset, .unset, .unset, .unset, .unset] [(.ref b27)]))
    refine Goes.step (fun _ hr => XS.iconst X44.here hx rfl (hb hby at_163) hr) ?_
    show Goes p ee below s _ _ _ (T44.setTop (mkF m 164 #[.val (.long p1), .second, .val (.long p2), .second, .val (.int p3), .val (.int p4), .val (.ref b1), .val (.ref b24), .val (.int (Int32.ofNat mm)), .val (.int (Int32.ofNat tt)), .val (.int x), .val (.ref b27), .unset, .unset, .unset, .unset, .unset] [(.int (4 : Int32)), (.ref b27)]))
    refine Goes.step (fun _ hr => XS.aload X44.here hx rfl (hb hby at_164) rfl rfl hr) ?_
    show Goes p ee below s _ _ _ (T44.setTop (mkF m 166 #[.val (.long p1), .second, .val (.long p2), .second, .val (.int p3), .val (.int p4), .val (.ref b1), .val (.ref b24), .val (.int (Int32.ofNat mm)), .val (.int (Int32.ofNat tt)), .val (.int x), .val (.ref b27), .unset, .unset, .unset, .unset, .unset] [(.ref b24), (.int (4 : Int32)), (.ref b27)]))
    refine Goes.step (fun _ hr => XS.iconst X44.here hx rfl (hb hby at_166) hr) ?_
    show Goes p ee below s _ _ _ (T44.setTop (mkF m 167 #[.val (.long p1), .second, .val (.long p2), .second, .val (.int p3), .val (.int p4), .val (.ref b1), .val (.ref b24), .val (.int (Int32.ofNat mm)), .val (.int (Int32.ofNat tt)), .val (.int x), .val (.ref b27), .unset, .unset, .unset, .unset, .unset] [(.int (4 : Int32)), (.ref b24), (.int (4 : Int32)), (.ref b27)]))
    obtain ⟨z48, hz48⟩ := own_isint A_p (k := 4) (by decide)
    refine Goes.step (own_baload X44 hx hZ e44 A_p (j := (4 : Int32)) (by decide) (k := 4) rfl (by decide) (v := (.int z48)) hz48 (g := (mkF m 167 #[.val (.long p1), .second, .val (.long p2), .second, .val (.int p3), .val (.int p4), .val (.ref b1), .val (.ref b24), .val (.int (Int32.ofNat mm)), .val (.int (Int32.ofNat tt)), .val (.int x), .val (.ref b27), .unset, .unset, .unset, .unset, .unset] [(.int (4 : Int32)), (.ref b24), (.int (4 : Int32)), (.ref b27)])) rfl rfl (hb hby at_167)) ?_
    show Goes p ee below s _ _ _ (T44.setTop (mkF m 168 #[.val (.long p1), .second, .val (.long p2), .second, .val (.int p3), .val (.int p4), .val (.ref b1), .val (.ref b24), .val (.int (Int32.ofNat mm)), .val (.int (Int32.ofNat tt)), .val (.int x), .val (.ref b27), .unset, .unset, .unset, .unset, .unset] [(.int z48), (.int (4 : Int32)), (.ref b27)]))
    obtain ⟨T49, h49, X49, e49, W49, A49, st49⟩ := own_stB X44 hx hZ e44 A_b27 (x := z48) (j := (4 : Int32)) (by decide) (k := 4) rfl (by omega) (g := (mkF m 168 #[.val (.long p1), .second, .val (.long p2), .second, .val (.int p3), .val (.int p4), .val (.ref b1), .val (.ref b24), .val (.int (Int32.ofNat mm)), .val (.int (Int32.ofNat tt)), .val (.int x), .val (.ref b27), .unset, .unset, .unset, .unset, .unset] [(.int z48), (.int (4 : Int32)), (.ref b27)])) rfl rfl (hb hby at_168)
    refine Goes.step st49 ?_
    have A_p := A_p.other W49 ne_b24_b27
    have Zp50 := Nat.le_trans Zp45 (Keep.of_wr W49).1
    have N51 := Fr.snoc X49 N46 ge_b27
    obtain ⟨fk52, A_b27, fk0⟩ : ∃ f', OA Z h49 b27 .byte (8 + mm) f' ∧ f' 0 = .int 0 := ⟨_, A49, fk0⟩
    show Goes p ee below s _ _ _ (T49.setTop (mkF m 169 #[.val (.long p1), .second, .val (.long p2), .second, .val (.int p3), .val (.int p4), .val (.ref b1), .val (.ref b24), .val (.int (Int32.ofNat mm)), .val (.int (Int32.ofNat tt)), .val (.int x), .val (.ref b27), .unset, .unset, .unset, .unset, .unset] []))
    refine Goes.step (fun _ hr => XS.aload X49.here hx rfl (hb hby at_169) rfl rfl hr) ?_
    show Goes p ee below s _ _ _ (T49.setTop (mkF m 171 #[.val (.long p1), .second, .val (.long p2), .second, .val (.int p3), .val (.int p4), .val (.ref b1), .val (.ref b24), .val (.int (Int32.ofNat mm)), .val (.int (Int32.ofNat tt)), .val (.int x), .val (.ref b27), .unset, .unset, .unset, .unset, .unset] [(.ref b27)]))
    refine Goes.step (fun _ hr => XS.iconst X49.here hx rfl (hb hby at_171) hr) ?_
    show Goes p ee below s _ _ _ (T49.setTop (mkF m 172 #[.val (.long p1), .second, .val (.long p2), .second, .val (.int p3), .val (.int p4), .val (.ref b1), .val (.ref b24), .val (.int (Int32.ofNat mm)), .val (.int (Int32.ofNat tt)), .val (.int x), .val (.ref b27), .unset, .unset, .unset, .unset, .unset] [(.int (5 : Int32)), (.ref b27)]))
    refine Goes.step (fun _ hr => XS.aload X49.here hx rfl (hb hby at_172) rfl rfl hr) ?_
    show Goes p ee below s _ _ _ (T49.setTop (mkF m 174 #[.val (.long p1), .second, .val (.long p2), .second, .val (.int p3), .val (.int p4), .val (.ref b1), .val (.ref b24), .val (.int (Int32.ofNat mm)), .val (.int (Int32.ofNat tt)), .val (.int x), .val (.ref b27), .unset, .unset, .unset, .unset, .unset] [(.ref b24), (.int (5 : Int32)), (.ref b27)]))
    refine Goes.step (fun _ hr => XS.iconst X49.here hx rfl (hb hby at_174) hr) ?_
    show Goes p ee below s _ _ _ (T49.setTop (mkF m 175 #[.val (.long p1), .second, .val (.long p2), .second, .val (.int p3), .val (.int p4), .val (.ref b1), .val (.ref b24), .val (.int (Int32.ofNat mm)), .val (.int (Int32.ofNat tt)), .val (.int x), .val (.ref b27), .unset, .unset, .unset, .unset, .unset] [(.int (5 : Int32)), (.ref b24), (.int (5 : Int32)), (.ref b27)]))
    obtain ⟨z53, hz53⟩ := own_isint A_p (k := 5) (by decide)
    refine Goes.step (own_baload X49 hx hZ e49 A_p (j := (5 : Int32)) (by decide) (k := 5) rfl (by decide) (v := (.int z53)) hz53 (g := (mkF m 175 #[.val (.long p1), .second, .val (.long p2), .second, .val (.int p3), .val (.int p4), .val (.ref b1), .val (.ref b24), .val (.int (Int32.ofNat mm)), .val (.int (Int32.ofNat tt)), .val (.int x), .val (.ref b27), .unset, .unset, .unset, .unset, .unset] [(.int (5 : Int32)), (.ref b24), (.int (5 : Int32)), (.ref b27)])) rfl rfl (hb hby at_175)) ?_
    show Goes p ee below s _ _ _ (T49.setTop (mkF m 176 #[.val (.long p1), .second, .val (.long p2), .second, .val (.int p3), .val (.int p4), .val (.ref b1), .val (.ref b24), .val (.int (Int32.ofNat mm)), .val (.int (Int32.ofNat tt)), .val (.int x), .val (.ref b27), .unset, .unset, .unset, .unset, .unset] [(.int z53), (.int (5 : Int32)), (.ref b27)]))
    obtain ⟨T54, h54, X54, e54, W54, A54, st54⟩ := own_stB X49 hx hZ e49 A_b27 (x := z53) (j := (5 : Int32)) (by decide) (k := 5) rfl (by omega) (g := (mkF m 176 #[.val (.long p1), .second, .val (.long p2), .second, .val (.int p3), .val (.int p4), .val (.ref b1), .val (.ref b24), .val (.int (Int32.ofNat mm)), .val (.int (Int32.ofNat tt)), .val (.int x), .val (.ref b27), .unset, .unset, .unset, .unset, .unset] [(.int z53), (.int (5 : Int32)), (.ref b27)])) rfl rfl (hb hby at_176)
    refine Goes.step st54 ?_
    have A_p := A_p.other W54 ne_b24_b27
    have Zp55 := Nat.le_trans Zp50 (Keep.of_wr W54).1
    have N56 := Fr.snoc X54 N51 ge_b27
    obtain ⟨fk57, A_b27, fk0⟩ : ∃ f', OA Z h54 b27 .byte (8 + mm) f' ∧ f' 0 = .int 0 := ⟨_, A54, fk0⟩
    show Goes p ee below s _ _ _ (T54.setTop (mkF m 177 #[.val (.long p1), .second, .val (.long p2), .second, .val (.int p3), .val (.int p4), .val (.ref b1), .val (.ref b24), .val (.int (Int32.ofNat mm)), .val (.int (Int32.ofNat tt)), .val (.int x), .val (.ref b27), .unset, .unset, .unset, .unset, .unset] []))
    refine Goes.step (fun _ hr => XS.aload X54.here hx rfl (hb hby at_177) rfl rfl hr) ?_
    show Goes p ee below s _ _ _ (T54.setTop (mkF m 179 #[.val (.long p1), .second, .val (.long p2), .second, .val (.int p3), .val (.int p4), .val (.ref b1), .val (.ref b24), .val (.int (Int32.ofNat mm)), .val (.int (Int32.ofNat tt)), .val (.int x), .val (.ref b27), .unset, .unset, .unset, .unset, .unset] [(.ref b27)]))
    refine Goes.step (fun _ hr => XS.bipush X54.here hx rfl (hb hby at_179) hr) ?_
    show Goes p ee below s _ _ _ (T54.setTop (mkF m 181 #[.val (.long p1), .second, .val (.long p2), .second, .val (.int p3), .val (.int p4), .val (.ref b1), .val (.ref b24), .val (.int (Int32.ofNat mm)), .val (.int (Int32.ofNat tt)), .val (.int x), .val (.ref b27), .unset, .unset, .unset, .unset, .unset] [(.int (6 : Int32)), (.ref b27)]))
    refine Goes.step (fun _ hr => XS.aload X54.here hx rfl (hb hby at_181) rfl rfl hr) ?_
    show Goes p ee below s _ _ _ (T54.setTop (mkF m 183 #[.val (.long p1), .second, .val (.long p2), .second, .val (.int p3), .val (.int p4), .val (.ref b1), .val (.ref b24), .val (.int (Int32.ofNat mm)), .val (.int (Int32.ofNat tt)), .val (.int x), .val (.ref b27), .unset, .unset, .unset, .unset, .unset] [(.ref b24), (.int (6 : Int32)), (.ref b27)]))
    refine Goes.step (fun _ hr => XS.bipush X54.here hx rfl (hb hby at_183) hr) ?_
    show Goes p ee below s _ _ _ (T54.setTop (mkF m 185 #[.val (.long p1), .second, .val (.long p2), .second, .val (.int p3), .val (.int p4), .val (.ref b1), .val (.ref b24), .val (.int (Int32.ofNat mm)), .val (.int (Int32.ofNat tt)), .val (.int x), .val (.ref b27), .unset, .unset, .unset, .unset, .unset] [(.int (6 : Int32)), (.ref b24), (.int (6 : Int32)), (.ref b27)]))
    obtain ⟨z58, hz58⟩ := own_isint A_p (k := 6) (by decide)
    refine Goes.step (own_baload X54 hx hZ e54 A_p (j := (6 : Int32)) (by decide) (k := 6) rfl (by decide) (v := (.int z58)) hz58 (g := (mkF m 185 #[.val (.long p1), .second, .val (.long p2), .second, .val (.int p3), .val (.int p4), .val (.ref b1), .val (.ref b24), .val (.int (Int32.ofNat mm)), .val (.int (Int32.ofNat tt)), .val (.int x), .val (.ref b27), .unset, .unset, .unset, .unset, .unset] [(.int (6 : Int32)), (.ref b24), (.int (6 : Int32)), (.ref b27)])) rfl rfl (hb hby at_185)) ?_
    show Goes p ee below s _ _ _ (T54.setTop (mkF m 186 #[.val (.long p1), .second, .val (.long p2), .second, .val (.int p3), .val (.int p4), .val (.ref b1), .val (.ref b24), .val (.int (Int32.ofNat mm)), .val (.int (Int32.ofNat tt)), .val (.int x), .val (.ref b27), .unset, .unset, .unset, .unset, .unset] [(.int z58), (.int (6 : Int32)), (.ref b27)]))
    obtain ⟨T59, h59, X59, e59, W59, A59, st59⟩ := own_stB X54 hx hZ e54 A_b27 (x := z58) (j := (6 : Int32)) (by decide) (k := 6) rfl (by omega) (g := (mkF m 186 #[.val (.long p1), .second, .val (.long p2), .second, .val (.int p3), .val (.int p4), .val (.ref b1), .val (.ref b24), .val (.int (Int32.ofNat mm)), .val (.int (Int32.ofNat tt)), .val (.int x), .val (.ref b27), .unset, .unset, .unset, .unset, .unset] [(.int z58), (.int (6 : Int32)), (.ref b27)])) rfl rfl (hb hby at_186)
    refine Goes.step st59 ?_
    have A_p := A_p.other W59 ne_b24_b27
    have Zp60 := Nat.le_trans Zp55 (Keep.of_wr W59).1
    have N61 := Fr.snoc X59 N56 ge_b27
    obtain ⟨fk62, A_b27, fk0⟩ : ∃ f', OA Z h59 b27 .byte (8 + mm) f' ∧ f' 0 = .int 0 := ⟨_, A59, fk0⟩
    show Goes p ee below s _ _ _ (T59.setTop (mkF m 187 #[.val (.long p1), .second, .val (.long p2), .second, .val (.int p3), .val (.int p4), .val (.ref b1), .val (.ref b24), .val (.int (Int32.ofNat mm)), .val (.int (Int32.ofNat tt)), .val (.int x), .val (.ref b27), .unset, .unset, .unset, .unset, .unset] []))
    refine Goes.step (fun _ hr => XS.aload X59.here hx rfl (hb hby at_187) rfl rfl hr) ?_
    show Goes p ee below s _ _ _ (T59.setTop (mkF m 189 #[.val (.long p1), .second, .val (.long p2), .second, .val (.int p3), .val (.int p4), .val (.ref b1), .val (.ref b24), .val (.int (Int32.ofNat mm)), .val (.int (Int32.ofNat tt)), .val (.int x), .val (.ref b27), .unset, .unset, .unset, .unset, .unset] [(.ref b27)]))
    refine Goes.step (fun _ hr => XS.bipush X59.here hx rfl (hb hby at_189) hr) ?_
    show Goes p ee below s _ _ _ (T59.setTop (mkF m 191 #[.val (.long p1), .second, .val (.long p2), .second, .val (.int p3), .val (.int p4), .val (.ref b1), .val (.ref b24), .val (.int (Int32.ofNat mm)), .val (.int (Int32.ofNat tt)), .val (.int x), .val (.ref b27), .unset, .unset, .unset, .unset, .unset] [(.int (7 : Int32)), (.ref b27)]))
    refine Goes.step (fun _ hr => XS.aload X59.here hx rfl (hb hby at_191) rfl rfl hr) ?_
    show Goes p ee below s _ _ _ (T59.setTop (mkF m 193 #[.val (.long p1), .second, .val (.long p2), .second, .val (.int p3), .val (.int p4), .val (.ref b1), .val (.ref b24), .val (.int (Int32.ofNat mm)), .val (.int (Int32.ofNat tt)), .val (.int x), .val (.ref b27), .unset, .unset, .unset, .unset, .unset] [(.ref b24), (.int (7 : Int32)), (.ref b27)]))
    refine Goes.step (fun _ hr => XS.bipush X59.here hx rfl (hb hby at_193) hr) ?_
    show Goes p ee below s _ _ _ (T59.setTop (mkF m 195 #[.val (.long p1), .second, .val (.long p2), .second, .val (.int p3), .val (.int p4), .val (.ref b1), .val (.ref b24), .val (.int (Int32.ofNat mm)), .val (.int (Int32.ofNat tt)), .val (.int x), .val (.ref b27), .unset, .unset, .unset, .unset, .unset] [(.int (7 : Int32)), (.ref b24), (.int (7 : Int32)), (.ref b27)]))
    obtain ⟨z63, hz63⟩ := own_isint A_p (k := 7) (by decide)
    refine Goes.step (own_baload X59 hx hZ e59 A_p (j := (7 : Int32)) (by decide) (k := 7) rfl (by decide) (v := (.int z63)) hz63 (g := (mkF m 195 #[.val (.long p1), .second, .val (.long p2), .second, .val (.int p3), .val (.int p4), .val (.ref b1), .val (.ref b24), .val (.int (Int32.ofNat mm)), .val (.int (Int32.ofNat tt)), .val (.int x), .val (.ref b27), .unset, .unset, .unset, .unset, .unset] [(.int (7 : Int32)), (.ref b24), (.int (7 : Int32)), (.ref b27)])) rfl rfl (hb hby at_195)) ?_
    show Goes p ee below s _ _ _ (T59.setTop (mkF m 196 #[.val (.long p1), .second, .val (.long p2), .second, .val (.int p3), .val (.int p4), .val (.ref b1), .val (.ref b24), .val (.int (Int32.ofNat mm)), .val (.int (Int32.ofNat tt)), .val (.int x), .val (.ref b27), .unset, .unset, .unset, .unset, .unset] [(.int z63), (.int (7 : Int32)), (.ref b27)]))
    obtain ⟨T64, h64, X64, e64, W64, A64, st64⟩ := own_stB X59 hx hZ e59 A_b27 (x := z63) (j := (7 : Int32)) (by decide) (k := 7) rfl (by omega) (g := (mkF m 196 #[.val (.long p1), .second, .val (.long p2), .second, .val (.int p3), .val (.int p4), .val (.ref b1), .val (.ref b24), .val (.int (Int32.ofNat mm)), .val (.int (Int32.ofNat tt)), .val (.int x), .val (.ref b27), .unset, .unset, .unset, .unset, .unset] [(.int z63), (.int (7 : Int32)), (.ref b27)])) rfl rfl (hb hby at_196)
    refine Goes.step st64 ?_
    have A_p := A_p.other W64 ne_b24_b27
    have Zp65 := Nat.le_trans Zp60 (Keep.of_wr W64).1
    have N66 := Fr.snoc X64 N61 ge_b27
    obtain ⟨fk67, A_b27, fk0⟩ : ∃ f', OA Z h64 b27 .byte (8 + mm) f' ∧ f' 0 = .int 0 := ⟨_, A64, fk0⟩
    show Goes p ee below s _ _ _ (T64.setTop (mkF m 197 #[.val (.long p1), .second, .val (.long p2), .second, .val (.int p3), .val (.int p4), .val (.ref b1), .val (.ref b24), .val (.int (Int32.ofNat mm)), .val (.int (Int32.ofNat tt)), .val (.int x), .val (.ref b27), .unset, .unset, .unset, .unset, .unset] []))
    refine Goes.step (fun _ hr => XS.aload X64.here hx rfl (hb hby at_197) rfl rfl hr) ?_
    show Goes p ee below s _ _ _ (T64.setTop (mkF m 199 #[.val (.long p1), .second, .val (.long p2), .second, .val (.int p3), .val (.int p4), .val (.ref b1), .val (.ref b24), .val (.int (Int32.ofNat mm)), .val (.int (Int32.ofNat tt)), .val (.int x), .val (.ref b27), .unset, .unset, .unset, .unset, .unset] [(.ref b27)]))
    refine Goes.step (fun _ hr => XS.bipush X64.here hx rfl (hb hby at_199) hr) ?_
    show Goes p ee below s _ _ _ (T64.setTop (mkF m 201 #[.val (.long p1), .second, .val (.long p2), .second, .val (.int p3), .val (.int p4), .val (.ref b1), .val (.ref b24), .val (.int (Int32.ofNat mm)), .val (.int (Int32.ofNat tt)), .val (.int x), .val (.ref b27), .unset, .unset, .unset, .unset, .unset] [(.int (8 : Int32)), (.ref b27)]))
    refine Goes.step (fun _ hr => XT.lloadN X64.here hx rfl (hb hby at_201) rfl  hr) ?_
    show Goes p ee below s _ _ _ (T64.setTop (mkF m 202 #[.val (.long p1), .second, .val (.long p2), .second, .val (.int p3), .val (.int p4), .val (.ref b1), .val (.ref b24), .val (.int (Int32.ofNat mm)), .val (.int (Int32.ofNat tt)), .val (.int x), .val (.ref b27), .unset, .unset, .unset, .unset, .unset] [(.long p2), (.int (8 : Int32)), (.ref b27)]))
    refine Goes.step (fun _ hr => XT.l2i X64.here hx rfl (hb hby at_202) rfl hr) ?_
    show Goes p ee below s _ _ _ (T64.setTop (mkF m 203 #[.val (.long p1), .second, .val (.long p2), .second, .val (.int p3), .val (.int p4), .val (.ref b1), .val (.ref b24), .val (.int (Int32.ofNat mm)), .val (.int (Int32.ofNat tt)), .val (.int x), .val (.ref b27), .unset, .unset, .unset, .unset, .unset] [(.int p2.toInt32), (.int (8 : Int32)), (.ref b27)]))
    refine Goes.step (fun _ hr => XT.i2b X64.here hx rfl (hb hby at_203) rfl hr) ?_
    show Goes p ee below s _ _ _ (T64.setTop (mkF m 204 #[.val (.long p1), .second, .val (.long p2), .second, .val (.int p3), .val (.int p4), .val (.ref b1), .val (.ref b24), .val (.int (Int32.ofNat mm)), .val (.int (Int32.ofNat tt)), .val (.int x), .val (.ref b27), .unset, .unset, .unset, .unset, .unset] [(.int p2.toInt32.toInt8.toInt32), (.int (8 : Int32)), (.ref b27)]))
    have lt_b24 := A_p.lt
    have lt_b27 := A_b27.lt
    obtain ⟨v68, T68, L68, X68, hQ68, st68⟩ := own_callS X64 hx hZ (y := (⟨"com/example/orbweaver/orbweaver/poa/ObjectKeysIsTransientPinLaw", "put", "([BIB)V"⟩ : MethodName)) hown (hw _ (List.mem_of_getElem? (i := 9) rfl)) (hw _ (List.mem_of_getElem? (i := 10) rfl)) (hw _ (List.mem_of_getElem? (i := 11) rfl)) (hw _ (List.mem_of_getElem? (i := 12) rfl)) (by decide) (argsL := [(.ref b27), (.int (8 : Int32)), (.int p2.toInt32.toInt8.toInt32)]) (rm_put l Z a0 hw [] b27 8 p2.toInt32.toInt8.toInt32 (8 + mm) fk67 h64 n0 Zp65 (by decide) (by omega) ge_b27 A_b27) e64 (W := 0) (by decide) (by decide) (by decide) (by decide) (g := (mkF m 204 #[.val (.long p1), .second, .val (.long p2), .second, .val (.int p3), .val (.int p4), .val (.ref b1), .val (.ref b24), .val (.int (Int32.ofNat mm)), .val (.int (Int32.ofNat tt)), .val (.int x), .val (.ref b27), .unset, .unset, .unset, .unset, .unset] [(.int p2.toInt32.toInt8.toInt32), (.int (8 : Int32)), (.ref b27)])) rfl (by rw [hml]; rfl) (rest := []) (lenOf pd_1 rfl) rfl (by show 2 * 0 + _ ≤ _; exact Nat.le_of_eq rfl) (hb hby at_204)
    refine Goes.step st68 ?_
    obtain ⟨rfl, N68, Kc68, f68, Aq68, q68⟩ := hQ68
    have N69 := Fr.app N66 N68
    obtain ⟨h68, e68⟩ : ∃ h', T68.heap = h' := ⟨_, rfl⟩
    rw [e68] at Kc68 Aq68
    have A_p := A_p.keep Kc68 (ninS ne_b24_b27 nin0)
    have Zp70 := Nat.le_trans Zp65 Kc68.1
    have A_b27 := Aq68
    have fk0 := (q68 (by decide)).trans fk0
    show Goes p ee below s _ _ _ (T68.setTop (mkF m 207 #[.val (.long p1), .second, .val (.long p2), .second, .val (.int p3), .val (.int p4), .val (.ref b1), .val (.ref b24), .val (.int (Int32.ofNat mm)), .val (.int (Int32.ofNat tt)), .val (.int x), .val (.ref b27), .unset, .unset, .unset, .unset, .unset] []))
    refine Goes.step (fun _ hr => XS.aload X68.here hx rfl (hb hby at_207) rfl rfl hr) ?_
    show Goes p ee below s _ _ _ (T68.setTop (mkF m 209 #[.val (.long p1), .second, .val (.long p2), .second, .val (.int p3), .val (.int p4), .val (.ref b1), .val (.ref b24), .val (.int (Int32.ofNat mm)), .val (.int (Int32.ofNat tt)), .val (.int x), .val (.ref b27), .unset, .unset, .unset, .unset, .unset] [(.ref b27)]))
    refine Goes.step (fun _ hr => XS.bipush X68.here hx rfl (hb hby at_209) hr) ?_
    show Goes p ee below s _ _ _ (T68.setTop (mkF m 211 #[.val (.long p1), .second, .val (.long p2), .second, .val (.int p3), .val (.int p4), .val (.ref b1), .val (.ref b24), .val (.int (Int32.ofNat mm)), .val (.int (Int32.ofNat tt)), .val (.int x), .val (.ref b27), .unset, .unset, .unset, .unset, .unset] [(.int (9 : Int32)), (.ref b27)]))
    refine Goes.step (fun _ hr => XT.lloadN X68.here hx rfl (hb hby at_211) rfl  hr) ?_
    show Goes p ee below s _ _ _ (T68.setTop (mkF m 212 #[.val (.long p1), .second, .val (.long p2), .second, .val (.int p3), .val (.int p4), .val (.ref b1), .val (.ref b24), .val (.int (Int32.ofNat mm)), .val (.int (Int32.ofNat tt)), .val (.int x), .val (.ref b27), .unset, .unset, .unset, .unset, .unset] [(.long p2), (.int (9 : Int32)), (.ref b27)]))
    refine Goes.step (fun _ hr => XS.bipush X68.here hx rfl (hb hby at_212) hr) ?_
    show Goes p ee below s _ _ _ (T68.setTop (mkF m 214 #[.val (.long p1), .second, .val (.long p2), .second, .val (.int p3), .val (.int p4), .val (.ref b1), .val (.ref b24), .val (.int (Int32.ofNat mm)), .val (.int (Int32.ofNat tt)), .val (.int x), .val (.ref b27), .unset, .unset, .unset, .unset, .unset] [(.int (8 : Int32)), (.long p2), (.int (9 : Int32)), (.ref b27)]))
    refine Goes.step (fun _ hr => XT.lushr X68.here hx rfl (hb hby at_214) rfl hr) ?_
    show Goes p ee below s _ _ _ (T68.setTop (mkF m 215 #[.val (.long p1), .second, .val (.long p2), .second, .val (.int p3), .val (.int p4), .val (.ref b1), .val (.ref b24), .val (.int (Int32.ofNat mm)), .val (.int (Int32.ofNat tt)), .val (.int x), .val (.ref b27), .unset, .unset, .unset, .unset, .unset] [(.long (XT.ushrL p2 (8 : Int32))), (.int (9 : Int32)), (.ref b27)]))
    refine Goes.step (fun _ hr => XT.l2i X68.here hx rfl (hb hby at_215) rfl hr) ?_
    show Goes p ee below s _ _ _ (T68.setTop (mkF m 216 #[.val (.long p1), .second, .val (.long p2), .second, .val (.int p3), .val (.int p4), .val (.ref b1), .val (.ref b24), .val (.int (Int32.ofNat mm)), .val (.int (Int32.ofNat tt)), .val (.int x), .val (.ref b27), .unset, .unset, .unset, .unset, .unset] [(.int (XT.ushrL p2 (8 : Int32)).toInt32), (.int (9 : Int32)), (.ref b27)]))
    refine Goes.step (fun _ hr => XT.i2b X68.here hx rfl (hb hby at_216) rfl hr) ?_
    show Goes p ee below s _ _ _ (T68.setTop (mkF m 217 #[.val (.long p1), .second, .val (.long p2), .second, .val (.int p3), .val (.int p4), .val (.ref b1), .val (.ref b24), .val (.int (Int32.ofNat mm)), .val (.int (Int32.ofNat tt)), .val (.int x), .val (.ref b27), .unset, .unset, .unset, .unset, .unset] [(.int ((XT.ushrL p2 (8 : Int32)).toInt32).toInt8.toInt32), (.int (9 : Int32)), (.ref b27)]))
    have lt_b24 := A_p.lt
    have lt_b27 := A_b27.lt
    obtain ⟨v71, T71, L71, X71, hQ71, st71⟩ := own_callS X68 hx hZ (y := (⟨"com/example/orbweaver/orbweaver/poa/ObjectKeysIsTransientPinLaw", "put", "([BIB)V"⟩ : MethodName)) hown (hw _ (List.mem_of_getElem? (i := 9) rfl)) (hw _ (List.mem_of_getElem? (i := 10) rfl)) (hw _ (List.mem_of_getElem? (i := 11) rfl)) (hw _ (List.mem_of_getElem? (i := 12) rfl)) (by decide) (argsL := [(.ref b27), (.int (9 : Int32)), (.int ((XT.ushrL p2 (8 : Int32)).toInt32).toInt8.toInt32)]) (rm_put l Z a0 hw [] b27 9 ((XT.ushrL p2 (8 : Int32)).toInt32).toInt8.toInt32 (8 + mm) f68 h68 n0 Zp70 (by decide) (by omega) ge_b27 A_b27) e68 (W := 0) (by decide) (by decide) (by decide) (by decide) (g := (mkF m 217 #[.val (.long p1), .second, .val (.long p2), .second, .val (.int p3), .val (.int p4), .val (.ref b1), .val (.ref b24), .val (.int (Int32.ofNat mm)), .val (.int (Int32.ofNat tt)), .val (.int x), .val (.ref b27), .unset, .unset, .unset, .unset, .unset] [(.int ((XT.ushrL p2 (8 : Int32)).toInt32).toInt8.toInt32), (.int (9 : Int32)), (.ref b27)])) rfl (by rw [hml]; rfl) (rest := []) (lenOf pd_1 rfl) rfl (by show 2 * 0 + _ ≤ _; exact Nat.le_of_eq rfl) (hb hby at_217)
    refine Goes.step st71 ?_
    obtain ⟨rfl, N71, Kc71, f71, Aq71, q71⟩ := hQ71
    have N72 := Fr.app N69 N71
    obtain ⟨h71, e71⟩ : ∃ h', T71.heap = h' := ⟨_, rfl⟩
    rw [e71] at Kc71 Aq71
    have A_p := A_p.keep Kc71 (ninS ne_b24_b27 nin0)
    have Zp73 := Nat.le_trans Zp70 Kc71.1
    have A_b27 := Aq71
    have fk0 := (q71 (by decide)).trans fk0
    show Goes p ee below s _ _ _ (T71.setTop (mkF m 220 #[.val (.long p1), .second, .val (.long p2), .second, .val (.int p3), .val (.int p4), .val (.ref b1), .val (.ref b24), .val (.int (Int32.ofNat mm)), .val (.int (Int32.ofNat tt)), .val (.int x), .val (.ref b27), .unset, .unset, .unset, .unset, .unset] []))
    refine Goes.step (fun _ hr => XS.aload X71.here hx rfl (hb hby at_220) rfl rfl hr) ?_
    show Goes p ee below s _ _ _ (T71.setTop (mkF m 222 #[.val (.long p1), .second, .val (.long p2), .second, .val (.int p3), .val (.int p4), .val (.ref b1), .val (.ref b24), .val (.int (Int32.ofNat mm)), .val (.int (Int32.ofNat tt)), .val (.int x), .val (.ref b27), .unset, .unset, .unset, .unset, .unset] [(.ref b27)]))
    refine Goes.step (fun _ hr => XS.bipush X71.here hx rfl (hb hby at_222) hr) ?_
    show Goes p ee below s _ _ _ (T71.setTop (mkF m 224 #[.val (.long p1), .second, .val (.long p2), .second, .val (.int p3), .val (.int p4), .val (.ref b1), .val (.ref b24), .val (.int (Int32.ofNat mm)), .val (.int (Int32.ofNat tt)), .val (.int x), .val (.ref b27), .unset, .unset, .unset, .unset, .unset] [(.int (10 : Int32)), (.ref b27)]))
    refine Goes.step (fun _ hr => XT.lloadN X71.here hx rfl (hb hby at_224) rfl  hr) ?_
    show Goes p ee below s _ _ _ (T71.setTop (mkF m 225 #[.val (.long p1), .second, .val (.long p2), .second, .val (.int p3), .val (.int p4), .val (.ref b1), .val (.ref b24), .val (.int (Int32.ofNat mm)), .val (.int (Int32.ofNat tt)), .val (.int x), .val (.ref b27), .unset, .unset, .unset, .unset, .unset] [(.long p2), (.int (10 : Int32)), (.ref b27)]))
    refine Goes.step (fun _ hr => XS.bipush X71.here hx rfl (hb hby at_225) hr) ?_
    show Goes p ee below s _ _ _ (T71.setTop (mkF m 227 #[.val (.long p1), .second, .val (.long p2), .second, .val (.int p3), .val (.int p4), .val (.ref b1), .val (.ref b24), .val (.int (Int32.ofNat mm)), .val (.int (Int32.ofNat tt)), .val (.int x), .val (.ref b27), .unset, .unset, .unset, .unset, .unset] [(.int (16 : Int32)), (.long p2), (.int (10 : Int32)), (.ref b27)]))
    refine Goes.step (fun _ hr => XT.lushr X71.here hx rfl (hb hby at_227) rfl hr) ?_
    show Goes p ee below s _ _ _ (T71.setTop (mkF m 228 #[.val (.long p1), .second, .val (.long p2), .second, .val (.int p3), .val (.int p4), .val (.ref b1), .val (.ref b24), .val (.int (Int32.ofNat mm)), .val (.int (Int32.ofNat tt)), .val (.int x), .val (.ref b27), .unset, .unset, .unset, .unset, .unset] [(.long (XT.ushrL p2 (16 : Int32))), (.int (10 : Int32)), (.ref b27)]))
    refine Goes.step (fun _ hr => XT.l2i X71.here hx rfl (hb hby at_228) rfl hr) ?_
    show Goes p ee below s _ _ _ (T71.setTop (mkF m 229 #[.val (.long p1), .second, .val (.long p2), .second, .val (.int p3), .val (.int p4), .val (.ref b1), .val (.ref b24), .val (.int (Int32.ofNat mm)), .val (.int (Int32.ofNat tt)), .val (.int x), .val (.ref b27), .unset, .unset, .unset, .unset, .unset] [(.int (XT.ushrL p2 (16 : Int32)).toInt32), (.int (10 : Int32)), (.ref b27)]))
    refine Goes.step (fun _ hr => XT.i2b X71.here hx rfl (hb hby at_229) rfl hr) ?_
    show Goes p ee below s _ _ _ (T71.setTop (mkF m 230 #[.val (.long p1), .second, .val (.long p2), .second, .val (.int p3), .val (.int p4), .val (.ref b1), .val (.ref b24), .val (.int (Int32.ofNat mm)), .val (.int (Int32.ofNat tt)), .val (.int x), .val (.ref b27), .unset, .unset, .unset, .unset, .unset] [(.int ((XT.ushrL p2 (16 : Int32)).toInt32).toInt8.toInt32), (.int (10 : Int32)), (.ref b27)]))
    have lt_b24 := A_p.lt
    have lt_b27 := A_b27.lt
    obtain ⟨v74, T74, L74, X74, hQ74, st74⟩ := own_callS X71 hx hZ (y := (⟨"com/example/orbweaver/orbweaver/poa/ObjectKeysIsTransientPinLaw", "put", "([BIB)V"⟩ : MethodName)) hown (hw _ (List.mem_of_getElem? (i := 9) rfl)) (hw _ (List.mem_of_getElem? (i := 10) rfl)) (hw _ (List.mem_of_getElem? (i := 11) rfl)) (hw _ (List.mem_of_getElem? (i := 12) rfl)) (by decide) (argsL := [(.ref b27), (.int (10 : Int32)), (.int ((XT.ushrL p2 (16 : Int32)).toInt32).toInt8.toInt32)]) (rm_put l Z a0 hw [] b27 10 ((XT.ushrL p2 (16 : Int32)).toInt32).toInt8.toInt32 (8 + mm) f71 h71 n0 Zp73 (by decide) (by omega) ge_b27 A_b27) e71 (W := 0) (by decide) (by decide) (by decide) (by decide) (g := (mkF m 230 #[.val (.long p1), .second, .val (.long p2), .second, .val (.int p3), .val (.int p4), .val (.ref b1), .val (.ref b24), .val (.int (Int32.ofNat mm)), .val (.int (Int32.ofNat tt)), .val (.int x), .val (.ref b27), .unset, .unset, .unset, .unset, .unset] [(.int ((XT.ushrL p2 (16 : Int32)).toInt32).toInt8.toInt32), (.int (10 : Int32)), (.ref b27)])) rfl (by rw [hml]; rfl) (rest := []) (lenOf pd_1 rfl) rfl (by show 2 * 0 + _ ≤ _; exact Nat.le_of_eq rfl) (hb hby at_230)
    refine Goes.step st74 ?_
    obtain ⟨rfl, N74, Kc74, f74, Aq74, q74⟩ := hQ74
    have N75 := Fr.app N72 N74
    obtain ⟨h74, e74⟩ : ∃ h', T74.heap = h' := ⟨_, rfl⟩
    rw [e74] at Kc74 Aq74
    have A_p := A_p.keep Kc74 (ninS ne_b24_b27 nin0)
    have Zp76 := Nat.le_trans Zp73 Kc74.1
    have A_b27 := Aq74
    have fk0 := (q74 (by decide)).trans fk0
    show Goes p ee below s _ _ _ (T74.setTop (mkF m 233 #[.val (.long p1), .second, .val (.long p2), .second, .val (.int p3), .val (.int p4), .val (.ref b1), .val (.ref b24), .val (.int (Int32.ofNat mm)), .val (.int (Int32.ofNat tt)), .val (.int x), .val (.ref b27), .unset, .unset, .unset, .unset, .unset] []))
    refine Goes.step (fun _ hr => XS.aload X74.here hx rfl (hb hby at_233) rfl rfl hr) ?_
    show Goes p ee below s _ _ _ (T74.setTop (mkF m 235 #[.val (.long p1), .second, .val (.long p2), .second, .val (.int p3), .val (.int p4), .val (.ref b1), .val (.ref b24), .val (.int (Int32.ofNat mm)), .val (.int (Int32.ofNat tt)), .val (.int x), .val (.ref b27), .unset, .unset, .unset, .unset, .unset] [(.ref b27)]))
    refine Goes.step (fun _ hr => XS.bipush X74.here hx rfl (hb hby at_235) hr) ?_
    show Goes p ee below s _ _ _ (T74.setTop (mkF m 237 #[.val (.long p1), .second, .val (.long p2), .second, .val (.int p3), .val (.int p4), .val (.ref b1), .val (.ref b24), .val (.int (Int32.ofNat mm)), .val (.int (Int32.ofNat tt)), .val (.int x), .val (.ref b27), .unset, .unset, .unset, .unset, .unset] [(.int (11 : Int32)), (.ref b27)]))
    refine Goes.step (fun _ hr => XT.lloadN X74.here hx rfl (hb hby at_237) rfl  hr) ?_
    show Goes p ee below s _ _ _ (T74.setTop (mkF m 238 #[.val (.long p1), .second, .val (.long p2), .second, .val (.int p3), .val (.int p4), .val (.ref b1), .val (.ref b24), .val (.int (Int32.ofNat mm)), .val (.int (Int32.ofNat tt)), .val (.int x), .val (.ref b27), .unset, .unset, .unset, .unset, .unset] [(.long p2), (.int (11 : Int32)), (.ref b27)]))
    refine Goes.step (fun _ hr => XS.bipush X74.here hx rfl (hb hby at_238) hr) ?_
    show Goes p ee below s _ _ _ (T74.setTop (mkF m 240 #[.val (.long p1), .second, .val (.long p2), .second, .val (.int p3), .val (.int p4), .val (.ref b1), .val (.ref b24), .val (.int (Int32.ofNat mm)), .val (.int (Int32.ofNat tt)), .val (.int x), .val (.ref b27), .unset, .unset, .unset, .unset, .unset] [(.int (24 : Int32)), (.long p2), (.int (11 : Int32)), (.ref b27)]))
    refine Goes.step (fun _ hr => XT.lushr X74.here hx rfl (hb hby at_240) rfl hr) ?_
    show Goes p ee below s _ _ _ (T74.setTop (mkF m 241 #[.val (.long p1), .second, .val (.long p2), .second, .val (.int p3), .val (.int p4), .val (.ref b1), .val (.ref b24), .val (.int (Int32.ofNat mm)), .val (.int (Int32.ofNat tt)), .val (.int x), .val (.ref b27), .unset, .unset, .unset, .unset, .unset] [(.long (XT.ushrL p2 (24 : Int32))), (.int (11 : Int32)), (.ref b27)]))
    refine Goes.step (fun _ hr => XT.l2i X74.here hx rfl (hb hby at_241) rfl hr) ?_
    show Goes p ee below s _ _ _ (T74.setTop (mkF m 242 #[.val (.long p1), .second, .val (.long p2), .second, .val (.int p3), .val (.int p4), .val (.ref b1), .val (.ref b24), .val (.int (Int32.ofNat mm)), .val (.int (Int32.ofNat tt)), .val (.int x), .val (.ref b27), .unset, .unset, .unset, .unset, .unset] [(.int (XT.ushrL p2 (24 : Int32)).toInt32), (.int (11 : Int32)), (.ref b27)]))
    refine Goes.step (fun _ hr => XT.i2b X74.here hx rfl (hb hby at_242) rfl hr) ?_
    show Goes p ee below s _ _ _ (T74.setTop (mkF m 243 #[.val (.long p1), .second, .val (.long p2), .second, .val (.int p3), .val (.int p4), .val (.ref b1), .val (.ref b24), .val (.int (Int32.ofNat mm)), .val (.int (Int32.ofNat tt)), .val (.int x), .val (.ref b27), .unset, .unset, .unset, .unset, .unset] [(.int ((XT.ushrL p2 (24 : Int32)).toInt32).toInt8.toInt32), (.int (11 : Int32)), (.ref b27)]))
    have lt_b24 := A_p.lt
    have lt_b27 := A_b27.lt
    obtain ⟨v77, T77, L77, X77, hQ77, st77⟩ := own_callS X74 hx hZ (y := (⟨"com/example/orbweaver/orbweaver/poa/ObjectKeysIsTransientPinLaw", "put", "([BIB)V"⟩ : MethodName)) hown (hw _ (List.mem_of_getElem? (i := 9) rfl)) (hw _ (List.mem_of_getElem? (i := 10) rfl)) (hw _ (List.mem_of_getElem? (i := 11) rfl)) (hw _ (List.mem_of_getElem? (i := 12) rfl)) (by decide) (argsL := [(.ref b27), (.int (11 : Int32)), (.int ((XT.ushrL p2 (24 : Int32)).toInt32).toInt8.toInt32)]) (rm_put l Z a0 hw [] b27 11 ((XT.ushrL p2 (24 : Int32)).toInt32).toInt8.toInt32 (8 + mm) f74 h74 n0 Zp76 (by decide) (by omega) ge_b27 A_b27) e74 (W := 0) (by decide) (by decide) (by decide) (by decide) (g := (mkF m 243 #[.val (.long p1), .second, .val (.long p2), .second, .val (.int p3), .val (.int p4), .val (.ref b1), .val (.ref b24), .val (.int (Int32.ofNat mm)), .val (.int (Int32.ofNat tt)), .val (.int x), .val (.ref b27), .unset, .unset, .unset, .unset, .unset] [(.int ((XT.ushrL p2 (24 : Int32)).toInt32).toInt8.toInt32), (.int (11 : Int32)), (.ref b27)])) rfl (by rw [hml]; rfl) (rest := []) (lenOf pd_1 rfl) rfl (by show 2 * 0 + _ ≤ _; exact Nat.le_of_eq rfl) (hb hby at_243)
    refine Goes.step st77 ?_
    obtain ⟨rfl, N77, Kc77, f77, Aq77, q77⟩ := hQ77
    have N78 := Fr.app N75 N77
    obtain ⟨h77, e77⟩ : ∃ h', T77.heap = h' := ⟨_, rfl⟩
    rw [e77] at Kc77 Aq77
    have A_p := A_p.keep Kc77 (ninS ne_b24_b27 nin0)
    have Zp79 := Nat.le_trans Zp76 Kc77.1
    have A_b27 := Aq77
    have fk0 := (q77 (by decide)).trans fk0
    show Goes p ee below s _ _ _ (T77.setTop (mkF m 246 #[.val (.long p1), .second, .val (.long p2), .second, .val (.int p3), .val (.int p4), .val (.ref b1), .val (.ref b24), .val (.int (Int32.ofNat mm)), .val (.int (Int32.ofNat tt)), .val (.int x), .val (.ref b27), .unset, .unset, .unset, .unset, .unset] []))
    refine Goes.step (fun _ hr => XS.aload X77.here hx rfl (hb hby at_246) rfl rfl hr) ?_
    show Goes p ee below s _ _ _ (T77.setTop (mkF m 248 #[.val (.long p1), .second, .val (.long p2), .second, .val (.int p3), .val (.int p4), .val (.ref b1), .val (.ref b24), .val (.int (Int32.ofNat mm)), .val (.int (Int32.ofNat tt)), .val (.int x), .val (.ref b27), .unset, .unset, .unset, .unset, .unset] [(.ref b27)]))
    refine Goes.step (fun _ hr => XS.bipush X77.here hx rfl (hb hby at_248) hr) ?_
    show Goes p ee below s _ _ _ (T77.setTop (mkF m 250 #[.val (.long p1), .second, .val (.long p2), .second, .val (.int p3), .val (.int p4), .val (.ref b1), .val (.ref b24), .val (.int (Int32.ofNat mm)), .val (.int (Int32.ofNat tt)), .val (.int x), .val (.ref b27), .unset, .unset, .unset, .unset, .unset] [(.int (12 : Int32)), (.ref b27)]))
    refine Goes.step (fun _ hr => XT.lloadN X77.here hx rfl (hb hby at_250) rfl  hr) ?_
    show Goes p ee below s _ _ _ (T77.setTop (mkF m 251 #[.val (.long p1), .second, .val (.long p2), .second, .val (.int p3), .val (.int p4), .val (.ref b1), .val (.ref b24), .val (.int (Int32.ofNat mm)), .val (.int (Int32.ofNat tt)), .val (.int x), .val (.ref b27), .unset, .unset, .unset, .unset, .unset] [(.long p2), (.int (12 : Int32)), (.ref b27)]))
    refine Goes.step (fun _ hr => XS.bipush X77.here hx rfl (hb hby at_251) hr) ?_
    show Goes p ee below s _ _ _ (T77.setTop (mkF m 253 #[.val (.long p1), .second, .val (.long p2), .second, .val (.int p3), .val (.int p4), .val (.ref b1), .val (.ref b24), .val (.int (Int32.ofNat mm)), .val (.int (Int32.ofNat tt)), .val (.int x), .val (.ref b27), .unset, .unset, .unset, .unset, .unset] [(.int (32 : Int32)), (.long p2), (.int (12 : Int32)), (.ref b27)]))
    refine Goes.step (fun _ hr => XT.lushr X77.here hx rfl (hb hby at_253) rfl hr) ?_
    show Goes p ee below s _ _ _ (T77.setTop (mkF m 254 #[.val (.long p1), .second, .val (.long p2), .second, .val (.int p3), .val (.int p4), .val (.ref b1), .val (.ref b24), .val (.int (Int32.ofNat mm)), .val (.int (Int32.ofNat tt)), .val (.int x), .val (.ref b27), .unset, .unset, .unset, .unset, .unset] [(.long (XT.ushrL p2 (32 : Int32))), (.int (12 : Int32)), (.ref b27)]))
    refine Goes.step (fun _ hr => XT.l2i X77.here hx rfl (hb hby at_254) rfl hr) ?_
    show Goes p ee below s _ _ _ (T77.setTop (mkF m 255 #[.val (.long p1), .second, .val (.long p2), .second, .val (.int p3), .val (.int p4), .val (.ref b1), .val (.ref b24), .val (.int (Int32.ofNat mm)), .val (.int (Int32.ofNat tt)), .val (.int x), .val (.ref b27), .unset, .unset, .unset, .unset, .unset] [(.int (XT.ushrL p2 (32 : Int32)).toInt32), (.int (12 : Int32)), (.ref b27)]))
    refine Goes.step (fun _ hr => XT.i2b X77.here hx rfl (hb hby at_255) rfl hr) ?_
    show Goes p ee below s _ _ _ (T77.setTop (mkF m 256 #[.val (.long p1), .second, .val (.long p2), .second, .val (.int p3), .val (.int p4), .val (.ref b1), .val (.ref b24), .val (.int (Int32.ofNat mm)), .val (.int (Int32.ofNat tt)), .val (.int x), .val (.ref b27), .unset, .unset, .unset, .unset, .unset] [(.int ((XT.ushrL p2 (32 : Int32)).toInt32).toInt8.toInt32), (.int (12 : Int32)), (.ref b27)]))
    have lt_b24 := A_p.lt
    have lt_b27 := A_b27.lt
    obtain ⟨v80, T80, L80, X80, hQ80, st80⟩ := own_callS X77 hx hZ (y := (⟨"com/example/orbweaver/orbweaver/poa/ObjectKeysIsTransientPinLaw", "put", "([BIB)V"⟩ : MethodName)) hown (hw _ (List.mem_of_getElem? (i := 9) rfl)) (hw _ (List.mem_of_getElem? (i := 10) rfl)) (hw _ (List.mem_of_getElem? (i := 11) rfl)) (hw _ (List.mem_of_getElem? (i := 12) rfl)) (by decide) (argsL := [(.ref b27), (.int (12 : Int32)), (.int ((XT.ushrL p2 (32 : Int32)).toInt32).toInt8.toInt32)]) (rm_put l Z a0 hw [] b27 12 ((XT.ushrL p2 (32 : Int32)).toInt32).toInt8.toInt32 (8 + mm) f77 h77 n0 Zp79 (by decide) (by omega) ge_b27 A_b27) e77 (W := 0) (by decide) (by decide) (by decide) (by decide) (g := (mkF m 256 #[.val (.long p1), .second, .val (.long p2), .second, .val (.int p3), .val (.int p4), .val (.ref b1), .val (.ref b24), .val (.int (Int32.ofNat mm)), .val (.int (Int32.ofNat tt)), .val (.int x), .val (.ref b27), .unset, .unset, .unset, .unset, .unset] [(.int ((XT.ushrL p2 (32 : Int32)).toInt32).toInt8.toInt32), (.int (12 : Int32)), (.ref b27)])) rfl (by rw [hml]; rfl) (rest := []) (lenOf pd_1 rfl) rfl (by show 2 * 0 + _ ≤ _; exact Nat.le_of_eq rfl) (hb hby at_256)
    refine Goes.step st80 ?_
    obtain ⟨rfl, N80, Kc80, f80, Aq80, q80⟩ := hQ80
    have N81 := Fr.app N78 N80
    obtain ⟨h80, e80⟩ : ∃ h', T80.heap = h' := ⟨_, rfl⟩
    rw [e80] at Kc80 Aq80
    have A_p := A_p.keep Kc80 (ninS ne_b24_b27 nin0)
    have Zp82 := Nat.le_trans Zp79 Kc80.1
    have A_b27 := Aq80
    have fk0 := (q80 (by decide)).trans fk0
    show Goes p ee below s _ _ _ (T80.setTop (mkF m 259 #[.val (.long p1), .second, .val (.long p2), .second, .val (.int p3), .val (.int p4), .val (.ref b1), .val (.ref b24), .val (.int (Int32.ofNat mm)), .val (.int (Int32.ofNat tt)), .val (.int x), .val (.ref b27), .unset, .unset, .unset, .unset, .unset] []))
    refine Goes.step (fun _ hr => XS.aload X80.here hx rfl (hb hby at_259) rfl rfl hr) ?_
    show Goes p ee below s _ _ _ (T80.setTop (mkF m 261 #[.val (.long p1), .second, .val (.long p2), .second, .val (.int p3), .val (.int p4), .val (.ref b1), .val (.ref b24), .val (.int (Int32.ofNat mm)), .val (.int (Int32.ofNat tt)), .val (.int x), .val (.ref b27), .unset, .unset, .unset, .unset, .unset] [(.ref b27)]))
    refine Goes.step (fun _ hr => XS.bipush X80.here hx rfl (hb hby at_261) hr) ?_
    show Goes p ee below s _ _ _ (T80.setTop (mkF m 263 #[.val (.long p1), .second, .val (.long p2), .second, .val (.int p3), .val (.int p4), .val (.ref b1), .val (.ref b24), .val (.int (Int32.ofNat mm)), .val (.int (Int32.ofNat tt)), .val (.int x), .val (.ref b27), .unset, .unset, .unset, .unset, .unset] [(.int (13 : Int32)), (.ref b27)]))
    refine Goes.step (fun _ hr => XT.lloadN X80.here hx rfl (hb hby at_263) rfl  hr) ?_
    show Goes p ee below s _ _ _ (T80.setTop (mkF m 264 #[.val (.long p1), .second, .val (.long p2), .second, .val (.int p3), .val (.int p4), .val (.ref b1), .val (.ref b24), .val (.int (Int32.ofNat mm)), .val (.int (Int32.ofNat tt)), .val (.int x), .val (.ref b27), .unset, .unset, .unset, .unset, .unset] [(.long p2), (.int (13 : Int32)), (.ref b27)]))
    refine Goes.step (fun _ hr => XS.bipush X80.here hx rfl (hb hby at_264) hr) ?_
    show Goes p ee below s _ _ _ (T80.setTop (mkF m 266 #[.val (.long p1), .second, .val (.long p2), .second, .val (.int p3), .val (.int p4), .val (.ref b1), .val (.ref b24), .val (.int (Int32.ofNat mm)), .val (.int (Int32.ofNat tt)), .val (.int x), .val (.ref b27), .unset, .unset, .unset, .unset, .unset] [(.int (40 : Int32)), (.long p2), (.int (13 : Int32)), (.ref b27)]))
    refine Goes.step (fun _ hr => XT.lushr X80.here hx rfl (hb hby at_266) rfl hr) ?_
    show Goes p ee below s _ _ _ (T80.setTop (mkF m 267 #[.val (.long p1), .second, .val (.long p2), .second, .val (.int p3), .val (.int p4), .val (.ref b1), .val (.ref b24), .val (.int (Int32.ofNat mm)), .val (.int (Int32.ofNat tt)), .val (.int x), .val (.ref b27), .unset, .unset, .unset, .unset, .unset] [(.long (XT.ushrL p2 (40 : Int32))), (.int (13 : Int32)), (.ref b27)]))
    refine Goes.step (fun _ hr => XT.l2i X80.here hx rfl (hb hby at_267) rfl hr) ?_
    show Goes p ee below s _ _ _ (T80.setTop (mkF m 268 #[.val (.long p1), .second, .val (.long p2), .second, .val (.int p3), .val (.int p4), .val (.ref b1), .val (.ref b24), .val (.int (Int32.ofNat mm)), .val (.int (Int32.ofNat tt)), .val (.int x), .val (.ref b27), .unset, .unset, .unset, .unset, .unset] [(.int (XT.ushrL p2 (40 : Int32)).toInt32), (.int (13 : Int32)), (.ref b27)]))
    refine Goes.step (fun _ hr => XT.i2b X80.here hx rfl (hb hby at_268) rfl hr) ?_
    show Goes p ee below s _ _ _ (T80.setTop (mkF m 269 #[.val (.long p1), .second, .val (.long p2), .second, .val (.int p3), .val (.int p4), .val (.ref b1), .val (.ref b24), .val (.int (Int32.ofNat mm)), .val (.int (Int32.ofNat tt)), .val (.int x), .val (.ref b27), .unset, .unset, .unset, .unset, .unset] [(.int ((XT.ushrL p2 (40 : Int32)).toInt32).toInt8.toInt32), (.int (13 : Int32)), (.ref b27)]))
    have lt_b24 := A_p.lt
    have lt_b27 := A_b27.lt
    obtain ⟨v83, T83, L83, X83, hQ83, st83⟩ := own_callS X80 hx hZ (y := (⟨"com/example/orbweaver/orbweaver/poa/ObjectKeysIsTransientPinLaw", "put", "([BIB)V"⟩ : MethodName)) hown (hw _ (List.mem_of_getElem? (i := 9) rfl)) (hw _ (List.mem_of_getElem? (i := 10) rfl)) (hw _ (List.mem_of_getElem? (i := 11) rfl)) (hw _ (List.mem_of_getElem? (i := 12) rfl)) (by decide) (argsL := [(.ref b27), (.int (13 : Int32)), (.int ((XT.ushrL p2 (40 : Int32)).toInt32).toInt8.toInt32)]) (rm_put l Z a0 hw [] b27 13 ((XT.ushrL p2 (40 : Int32)).toInt32).toInt8.toInt32 (8 + mm) f80 h80 n0 Zp82 (by decide) (by omega) ge_b27 A_b27) e80 (W := 0) (by decide) (by decide) (by decide) (by decide) (g := (mkF m 269 #[.val (.long p1), .second, .val (.long p2), .second, .val (.int p3), .val (.int p4), .val (.ref b1), .val (.ref b24), .val (.int (Int32.ofNat mm)), .val (.int (Int32.ofNat tt)), .val (.int x), .val (.ref b27), .unset, .unset, .unset, .unset, .unset] [(.int ((XT.ushrL p2 (40 : Int32)).toInt32).toInt8.toInt32), (.int (13 : Int32)), (.ref b27)])) rfl (by rw [hml]; rfl) (rest := []) (lenOf pd_1 rfl) rfl (by show 2 * 0 + _ ≤ _; exact Nat.le_of_eq rfl) (hb hby at_269)
    refine Goes.step st83 ?_
    obtain ⟨rfl, N83, Kc83, f83, Aq83, q83⟩ := hQ83
    have N84 := Fr.app N81 N83
    obtain ⟨h83, e83⟩ : ∃ h', T83.heap = h' := ⟨_, rfl⟩
    rw [e83] at Kc83 Aq83
    have A_p := A_p.keep Kc83 (ninS ne_b24_b27 nin0)
    have Zp85 := Nat.le_trans Zp82 Kc83.1
    have A_b27 := Aq83
    have fk0 := (q83 (by decide)).trans fk0
    show Goes p ee below s _ _ _ (T83.setTop (mkF m 272 #[.val (.long p1), .second, .val (.long p2), .second, .val (.int p3), .val (.int p4), .val (.ref b1), .val (.ref b24), .val (.int (Int32.ofNat mm)), .val (.int (Int32.ofNat tt)), .val (.int x), .val (.ref b27), .unset, .unset, .unset, .unset, .unset] []))
    refine Goes.step (fun _ hr => XS.aload X83.here hx rfl (hb hby at_272) rfl rfl hr) ?_
    show Goes p ee below s _ _ _ (T83.setTop (mkF m 274 #[.val (.long p1), .second, .val (.long p2), .second, .val (.int p3), .val (.int p4), .val (.ref b1), .val (.ref b24), .val (.int (Int32.ofNat mm)), .val (.int (Int32.ofNat tt)), .val (.int x), .val (.ref b27), .unset, .unset, .unset, .unset, .unset] [(.ref b27)]))
    refine Goes.step (fun _ hr => XS.bipush X83.here hx rfl (hb hby at_274) hr) ?_
    show Goes p ee below s _ _ _ (T83.setTop (mkF m 276 #[.val (.long p1), .second, .val (.long p2), .second, .val (.int p3), .val (.int p4), .val (.ref b1), .val (.ref b24), .val (.int (Int32.ofNat mm)), .val (.int (Int32.ofNat tt)), .val (.int x), .val (.ref b27), .unset, .unset, .unset, .unset, .unset] [(.int (14 : Int32)), (.ref b27)]))
    refine Goes.step (fun _ hr => XT.lloadN X83.here hx rfl (hb hby at_276) rfl  hr) ?_
    show Goes p ee below s _ _ _ (T83.setTop (mkF m 277 #[.val (.long p1), .second, .val (.long p2), .second, .val (.int p3), .val (.int p4), .val (.ref b1), .val (.ref b24), .val (.int (Int32.ofNat mm)), .val (.int (Int32.ofNat tt)), .val (.int x), .val (.ref b27), .unset, .unset, .unset, .unset, .unset] [(.long p2), (.int (14 : Int32)), (.ref b27)]))
    refine Goes.step (fun _ hr => XS.bipush X83.here hx rfl (hb hby at_277) hr) ?_
    show Goes p ee below s _ _ _ (T83.setTop (mkF m 279 #[.val (.long p1), .second, .val (.long p2), .second, .val (.int p3), .val (.int p4), .val (.ref b1), .val (.ref b24), .val (.int (Int32.ofNat mm)), .val (.int (Int32.ofNat tt)), .val (.int x), .val (.ref b27), .unset, .unset, .unset, .unset, .unset] [(.int (48 : Int32)), (.long p2), (.int (14 : Int32)), (.ref b27)]))
    refine Goes.step (fun _ hr => XT.lushr X83.here hx rfl (hb hby at_279) rfl hr) ?_
    show Goes p ee below s _ _ _ (T83.setTop (mkF m 280 #[.val (.long p1), .second, .val (.long p2), .second, .val (.int p3), .val (.int p4), .val (.ref b1), .val (.ref b24), .val (.int (Int32.ofNat mm)), .val (.int (Int32.ofNat tt)), .val (.int x), .val (.ref b27), .unset, .unset, .unset, .unset, .unset] [(.long (XT.ushrL p2 (48 : Int32))), (.int (14 : Int32)), (.ref b27)]))
    refine Goes.step (fun _ hr => XT.l2i X83.here hx rfl (hb hby at_280) rfl hr) ?_
    show Goes p ee below s _ _ _ (T83.setTop (mkF m 281 #[.val (.long p1), .second, .val (.long p2), .second, .val (.int p3), .val (.int p4), .val (.ref b1), .val (.ref b24), .val (.int (Int32.ofNat mm)), .val (.int (Int32.ofNat tt)), .val (.int x), .val (.ref b27), .unset, .unset, .unset, .unset, .unset] [(.int (XT.ushrL p2 (48 : Int32)).toInt32), (.int (14 : Int32)), (.ref b27)]))
    refine Goes.step (fun _ hr => XT.i2b X83.here hx rfl (hb hby at_281) rfl hr) ?_
    show Goes p ee below s _ _ _ (T83.setTop (mkF m 282 #[.val (.long p1), .second, .val (.long p2), .second, .val (.int p3), .val (.int p4), .val (.ref b1), .val (.ref b24), .val (.int (Int32.ofNat mm)), .val (.int (Int32.ofNat tt)), .val (.int x), .val (.ref b27), .unset, .unset, .unset, .unset, .unset] [(.int ((XT.ushrL p2 (48 : Int32)).toInt32).toInt8.toInt32), (.int (14 : Int32)), (.ref b27)]))
    have lt_b24 := A_p.lt
    have lt_b27 := A_b27.lt
    obtain ⟨v86, T86, L86, X86, hQ86, st86⟩ := own_callS X83 hx hZ (y := (⟨"com/example/orbweaver/orbweaver/poa/ObjectKeysIsTransientPinLaw", "put", "([BIB)V"⟩ : MethodName)) hown (hw _ (List.mem_of_getElem? (i := 9) rfl)) (hw _ (List.mem_of_getElem? (i := 10) rfl)) (hw _ (List.mem_of_getElem? (i := 11) rfl)) (hw _ (List.mem_of_getElem? (i := 12) rfl)) (by decide) (argsL := [(.ref b27), (.int (14 : Int32)), (.int ((XT.ushrL p2 (48 : Int32)).toInt32).toInt8.toInt32)]) (rm_put l Z a0 hw [] b27 14 ((XT.ushrL p2 (48 : Int32)).toInt32).toInt8.toInt32 (8 + mm) f83 h83 n0 Zp85 (by decide) (by omega) ge_b27 A_b27) e83 (W := 0) (by decide) (by decide) (by decide) (by decide) (g := (mkF m 282 #[.val (.long p1), .second, .val (.long p2), .second, .val (.int p3), .val (.int p4), .val (.ref b1), .val (.ref b24), .val (.int (Int32.ofNat mm)), .val (.int (Int32.ofNat tt)), .val (.int x), .val (.ref b27), .unset, .unset, .unset, .unset, .unset] [(.int ((XT.ushrL p2 (48 : Int32)).toInt32).toInt8.toInt32), (.int (14 : Int32)), (.ref b27)])) rfl (by rw [hml]; rfl) (rest := []) (lenOf pd_1 rfl) rfl (by show 2 * 0 + _ ≤ _; exact Nat.le_of_eq rfl) (hb hby at_282)
    refine Goes.step st86 ?_
    obtain ⟨rfl, N86, Kc86, f86, Aq86, q86⟩ := hQ86
    have N87 := Fr.app N84 N86
    obtain ⟨h86, e86⟩ : ∃ h', T86.heap = h' := ⟨_, rfl⟩
    rw [e86] at Kc86 Aq86
    have A_p := A_p.keep Kc86 (ninS ne_b24_b27 nin0)
    have Zp88 := Nat.le_trans Zp85 Kc86.1
    have A_b27 := Aq86
    have fk0 := (q86 (by decide)).trans fk0
    show Goes p ee below s _ _ _ (T86.setTop (mkF m 285 #[.val (.long p1), .second, .val (.long p2), .second, .val (.int p3), .val (.int p4), .val (.ref b1), .val (.ref b24), .val (.int (Int32.ofNat mm)), .val (.int (Int32.ofNat tt)), .val (.int x), .val (.ref b27), .unset, .unset, .unset, .unset, .unset] []))
    refine Goes.step (fun _ hr => XS.iload X86.here hx rfl (hb hby at_285) rfl  hr) ?_
    show Goes p ee below s _ _ _ (T86.setTop (mkF m 287 #[.val (.long p1), .second, .val (.long p2), .second, .val (.int p3), .val (.int p4), .val (.ref b1), .val (.ref b24), .val (.int (Int32.ofNat mm)), .val (.int (Int32.ofNat tt)), .val (.int x), .val (.ref b27), .unset, .unset, .unset, .unset, .unset] [(.int (Int32.ofNat tt))]))
    obtain ⟨T89, h89, X89, e89, E89, A89, st89⟩ := own_newP X86 hx hZ (aty := .byte) (hw _ (List.mem_of_getElem? (i := 0) rfl)) e86 (z := (Int32.ofNat tt)) (own_nneg tt (by omega)) (n := tt) (own_clamp tt (by omega)) (cap := 7) (by omega) (by decide) (by decide) (by decide) (g := (mkF m 287 #[.val (.long p1), .second, .val (.long p2), .second, .val (.int p3), .val (.int p4), .val (.ref b1), .val (.ref b24), .val (.int (Int32.ofNat mm)), .val (.int (Int32.ofNat tt)), .val (.int x), .val (.ref b27), .unset, .unset, .unset, .unset, .unset] [(.int (Int32.ofNat tt))])) rfl rfl (hb hby at_287)
    obtain ⟨b89, g_b89⟩ : ∃ z, z = h86.size := ⟨_, rfl⟩
    have ne_b24_b89 : b24 ≠ b89 := Nat.ne_of_lt (Nat.lt_of_lt_of_le A_p.lt (Nat.le_of_eq g_b89.symm))
    have ne_b27_b89 : b27 ≠ b89 := Nat.ne_of_lt (Nat.lt_of_lt_of_le A_b27.lt (Nat.le_of_eq g_b89.symm))
    have ge_b89 : n0 ≤ b89 := Nat.le_trans Zp88 (Nat.le_of_eq g_b89.symm)
    rw [← g_b89] at A89 st89
    have A_p := A_p.ext E89
    have A_b27 := A_b27.ext E89
    have Zp90 := Nat.le_trans Zp88 E89.1
    refine Goes.step st89 ?_
    have A_b89 : OA Z h89 b89 .byte tt (fun _ => (.int 0)) := A89
    show Goes p ee below s _ _ _ (T89.setTop (mkF m 289 #[.val (.long p1), .second, .val (.long p2), .second, .val (.int p3), .val (.int p4), .val (.ref b1), .val (.ref b24), .val (.int (Int32.ofNat mm)), .val (.int (Int32.ofNat tt)), .val (.int x), .val (.ref b27), .unset, .unset, .unset, .unset, .unset] [(.ref b89)]))
    refine Goes.step (fun _ hr => XS.astore X89.here hx rfl (hb hby at_289) rfl rfl (l' := #[.val (.long p1), .second, .val (.long p2), .second, .val (.int p3), .val (.int p4), .val (.ref b1), .val (.ref b24), .val (.int (Int32.ofNat mm)), .val (.int (Int32.ofNat tt)), .val (.int x), .val (.ref b27), .val (.ref b89), .unset, .unset, .unset, .unset]) rfl hr) ?_
    show Goes p ee below s _ _ _ (T89.setTop (mkF m 291 #[.val (.long p1), .second, .val (.long p2), .second, .val (.int p3), .val (.int p4), .val (.ref b1), .val (.ref b24), .val (.int (Int32.ofNat mm)), .val (.int (Int32.ofNat tt)), .val (.int x), .val (.ref b27), .val (.ref b89), .unset, .unset, .unset, .unset] []))
    refine Goes.step (fun _ hr => XS.iload X89.here hx rfl (hb hby at_291) rfl  hr) ?_
    show Goes p ee below s _ _ _ (T89.setTop (mkF m 293 #[.val (.long p1), .second, .val (.long p2), .second, .val (.int p3), .val (.int p4), .val (.ref b1), .val (.ref b24), .val (.int (Int32.ofNat mm)), .val (.int (Int32.ofNat tt)), .val (.int x), .val (.ref b27), .val (.ref b89), .unset, .unset, .unset, .unset] [(.int p4)]))
    refine Goes.step (fun _ hr => XS.bipush X89.here hx rfl (hb hby at_293) hr) ?_
    show Goes p ee below s _ _ _ (T89.setTop (mkF m 295 #[.val (.long p1), .second, .val (.long p2), .second, .val (.int p3), .val (.int p4), .val (.ref b1), .val (.ref b24), .val (.int (Int32.ofNat mm)), .val (.int (Int32.ofNat tt)), .val (.int x), .val (.ref b27), .val (.ref b89), .unset, .unset, .unset, .unset] [(.int (8 : Int32)), (.int p4)]))
    refine Goes.step (fun _ hr => XT.iushr X89.here hx rfl (hb hby at_295) rfl hr) ?_
    show Goes p ee below s _ _ _ (T89.setTop (mkF m 296 #[.val (.long p1), .second, .val (.long p2), .second, .val (.int p3), .val (.int p4), .val (.ref b1), .val (.ref b24), .val (.int (Int32.ofNat mm)), .val (.int (Int32.ofNat tt)), .val (.int x), .val (.ref b27), .val (.ref b89), .unset, .unset, .unset, .unset] [(.int (XT.ushr p4 (8 : Int32)))]))
    refine Goes.step (fun _ hr => XS.iconst X89.here hx rfl (hb hby at_296) hr) ?_
    show Goes p ee below s _ _ _ (T89.setTop (mkF m 297 #[.val (.long p1), .second, .val (.long p2), .second, .val (.int p3), .val (.int p4), .val (.ref b1), .val (.ref b24), .val (.int (Int32.ofNat mm)), .val (.int (Int32.ofNat tt)), .val (.int x), .val (.ref b27), .val (.ref b89), .unset, .unset, .unset, .unset] [(.int (1 : Int32)), (.int (XT.ushr p4 (8 : Int32)))]))
    refine Goes.step (fun _ hr => XS.iand X89.here hx rfl (hb hby at_297) rfl hr) ?_
    show Goes p ee below s _ _ _ (T89.setTop (mkF m 298 #[.val (.long p1), .second, .val (.long p2), .second, .val (.int p3), .val (.int p4), .val (.ref b1), .val (.ref b24), .val (.int (Int32.ofNat mm)), .val (.int (Int32.ofNat tt)), .val (.int x), .val (.ref b27), .val (.ref b89), .unset, .unset, .unset, .unset] [(.int ((XT.ushr p4 (8 : Int32)) &&& (1 : Int32)))]))
    have J310 : ∀ zf : Int32, Goes p ee below s room_1.cells room_1.slots (Q_law Z p1 p2 p3 p4 h0 n0) (T89.setTop (mkF m 310 #[.val (.long p1), .second, .val (.long p2), .second, .val (.int p3), .val (.int p4), .val (.ref b1), .val (.ref b24), .val (.int (Int32.ofNat mm)), .val (.int (Int32.ofNat tt)), .val (.int x), .val (.ref b27), .val (.ref b89), .unset, .unset, .unset, .unset] [(.int zf)])) := by
      intro zf
      refine Goes.step (fun _ hr => XS.istore X89.here hx rfl (hb hby at_310) rfl  (l' := #[.val (.long p1), .second, .val (.long p2), .second, .val (.int p3), .val (.int p4), .val (.ref b1), .val (.ref b24), .val (.int (Int32.ofNat mm)), .val (.int (Int32.ofNat tt)), .val (.int x), .val (.ref b27), .val (.ref b89), .val (.int zf), .unset, .unset, .unset]) rfl hr) ?_
      show Goes p ee below s _ _ _ (T89.setTop (mkF m 312 #[.val (.long p1), .second, .val (.long p2), .second, .val (.int p3), .val (.int p4), .val (.ref b1), .val (.ref b24), .val (.int (Int32.ofNat mm)), .val (.int (Int32.ofNat tt)), .val (.int x), .val (.ref b27), .val (.ref b89), .val (.int zf), .unset, .unset, .unset] []))
      refine Goes.step (fun _ hr => XS.aload X89.here hx rfl (hb hby at_312) rfl rfl hr) ?_
      show Goes p ee below s _ _ _ (T89.setTop (mkF m 314 #[.val (.long p1), .second, .val (.long p2), .second, .val (.int p3), .val (.int p4), .val (.ref b1), .val (.ref b24), .val (.int (Int32.ofNat mm)), .val (.int (Int32.ofNat tt)), .val (.int x), .val (.ref b27), .val (.ref b89), .val (.int zf), .unset, .unset, .unset] [(.ref b89)]))
      refine Goes.step (fun _ hr => XS.iconst X89.here hx rfl (hb hby at_314) hr) ?_
      show Goes p ee below s _ _ _ (T89.setTop (mkF m 315 #[.val (.long p1), .second, .val (.long p2), .second, .val (.int p3), .val (.int p4), .val (.ref b1), .val (.ref b24), .val (.int (Int32.ofNat mm)), .val (.int (Int32.ofNat tt)), .val (.int x), .val (.ref b27), .val (.ref b89), .val (.int zf), .unset, .unset, .unset] [(.int (0 : Int32)), (.ref b89)]))
      refine Goes.step (fun _ hr => XS.iload X89.here hx rfl (hb hby at_315) rfl  hr) ?_
      show Goes p ee below s _ _ _ (T89.setTop (mkF m 317 #[.val (.long p1), .second, .val (.long p2), .second, .val (.int p3), .val (.int p4), .val (.ref b1), .val (.ref b24), .val (.int (Int32.ofNat mm)), .val (.int (Int32.ofNat tt)), .val (.int x), .val (.ref b27), .val (.ref b89), .val (.int zf), .unset, .unset, .unset] [(.int zf), (.int (0 : Int32)), (.ref b89)]))
      have lt_b24 := A_p.lt
      have lt_b27 := A_b27.lt
      have lt_b89 := A_b89.lt
      obtain ⟨v91, T91, L91, X91, hQ91, st91⟩ := own_callS X89 hx hZ (y := (⟨"com/example/orbweaver/orbweaver/poa/ObjectKeysIsTransientPinLaw", "put", "([BIB)V"⟩ : MethodName)) hown (hw _ (List.mem_of_getElem? (i := 9) rfl)) (hw _ (List.mem_of_getElem? (i := 10) rfl)) (hw _ (List.mem_of_getElem? (i := 11) rfl)) (hw _ (List.mem_of_getElem? (i := 12) rfl)) (by decide) (argsL := [(.ref b89), (.int (0 : Int32)), (.int zf)]) (rm_put l Z a0 hw [] b89 0 zf tt _ h89 n0 Zp90 (by decide) (by omega) ge_b89 A_b89) e89 (W := 0) (by decide) (by decide) (by decide) (by decide) (g := (mkF m 317 #[.val (.long p1), .second, .val (.long p2), .second, .val (.int p3), .val (.int p4), .val (.ref b1), .val (.ref b24), .val (.int (Int32.ofNat mm)), .val (.int (Int32.ofNat tt)), .val (.int x), .val (.ref b27), .val (.ref b89), .val (.int zf), .unset, .unset, .unset] [(.int zf), (.int (0 : Int32)), (.ref b89)])) rfl (by rw [hml]; rfl) (rest := []) (lenOf pd_1 rfl) rfl (by show 2 * 0 + _ ≤ _; exact Nat.le_of_eq rfl) (hb hby at_317)
      refine Goes.step st91 ?_
      obtain ⟨rfl, N91, Kc91, f91, Aq91, q91⟩ := hQ91
      have N92 := Fr.app N87 N91
      obtain ⟨h91, e91⟩ : ∃ h', T91.heap = h' := ⟨_, rfl⟩
      rw [e91] at Kc91 Aq91
      have A_p := A_p.keep Kc91 (ninS ne_b24_b89 nin0)
      have A_b27 := A_b27.keep Kc91 (ninS ne_b27_b89 nin0)
      have Zp93 := Nat.le_trans Zp90 Kc91.1
      have A_b89 := Aq91
      show Goes p ee below s _ _ _ (T91.setTop (mkF m 320 #[.val (.long p1), .second, .val (.long p2), .second, .val (.int p3), .val (.int p4), .val (.ref b1), .val (.ref b24), .val (.int (Int32.ofNat mm)), .val (.int (Int32.ofNat tt)), .val (.int x), .val (.ref b27), .val (.ref b89), .val (.int zf), .unset, .unset, .unset] []))
      refine Goes.step (fun _ hr => XS.aload X91.here hx rfl (hb hby at_320) rfl rfl hr) ?_
      show Goes p ee below s _ _ _ (T91.setTop (mkF m 322 #[.val (.long p1), .second, .val (.long p2), .second, .val (.int p3), .val (.int p4), .val (.ref b1), .val (.ref b24), .val (.int (Int32.ofNat mm)), .val (.int (Int32.ofNat tt)), .val (.int x), .val (.ref b27), .val (.ref b89), .val (.int zf), .unset, .unset, .unset] [(.ref b89)]))
      refine Goes.step (fun _ hr => XS.iconst X91.here hx rfl (hb hby at_322) hr) ?_
      show Goes p ee below s _ _ _ (T91.setTop (mkF m 323 #[.val (.long p1), .second, .val (.long p2), .second, .val (.int p3), .val (.int p4), .val (.ref b1), .val (.ref b24), .val (.int (Int32.ofNat mm)), .val (.int (Int32.ofNat tt)), .val (.int x), .val (.ref b27), .val (.ref b89), .val (.int zf), .unset, .unset, .unset] [(.int (1 : Int32)), (.ref b89)]))
      refine Goes.step (fun _ hr => XS.aload X91.here hx rfl (hb hby at_323) rfl rfl hr) ?_
      show Goes p ee below s _ _ _ (T91.setTop (mkF m 325 #[.val (.long p1), .second, .val (.long p2), .second, .val (.int p3), .val (.int p4), .val (.ref b1), .val (.ref b24), .val (.int (Int32.ofNat mm)), .val (.int (Int32.ofNat tt)), .val (.int x), .val (.ref b27), .val (.ref b89), .val (.int zf), .unset, .unset, .unset] [(.ref b24), (.int (1 : Int32)), (.ref b89)]))
      refine Goes.step (fun _ hr => XS.iconst X91.here hx rfl (hb hby at_325) hr) ?_
      show Goes p ee below s _ _ _ (T91.setTop (mkF m 326 #[.val (.long p1), .second, .val (.long p2), .second, .val (.int p3), .val (.int p4), .val (.ref b1), .val (.ref b24), .val (.int (Int32.ofNat mm)), .val (.int (Int32.ofNat tt)), .val (.int x), .val (.ref b27), .val (.ref b89), .val (.int zf), .unset, .unset, .unset] [(.int (1 : Int32)), (.ref b24), (.int (1 : Int32)), (.ref b89)]))
      obtain ⟨z94, hz94⟩ := own_isint A_p (k := 1) (by decide)
      refine Goes.step (own_baload X91 hx hZ e91 A_p (j := (1 : Int32)) (by decide) (k := 1) rfl (by decide) (v := (.int z94)) hz94 (g := (mkF m 326 #[.val (.long p1), .second, .val (.long p2), .second, .val (.int p3), .val (.int p4), .val (.ref b1), .val (.ref b24), .val (.int (Int32.ofNat mm)), .val (.int (Int32.ofNat tt)), .val (.int x), .val (.ref b27), .val (.ref b89), .val (.int zf), .unset, .unset, .unset] [(.int (1 : Int32)), (.ref b24), (.int (1 : Int32)), (.ref b89)])) rfl rfl (hb hby at_326)) ?_
      show Goes p ee below s _ _ _ (T91.setTop (mkF m 327 #[.val (.long p1), .second, .val (.long p2), .second, .val (.int p3), .val (.int p4), .val (.ref b1), .val (.ref b24), .val (.int (Int32.ofNat mm)), .val (.int (Int32.ofNat tt)), .val (.int x), .val (.ref b27), .val (.ref b89), .val (.int zf), .unset, .unset, .unset] [(.int z94), (.int (1 : Int32)), (.ref b89)]))
      have lt_b24 := A_p.lt
      have lt_b27 := A_b27.lt
      have lt_b89 := A_b89.lt
      obtain ⟨v95, T95, L95, X95, hQ95, st95⟩ := own_callS X91 hx hZ (y := (⟨"com/example/orbweaver/orbweaver/poa/ObjectKeysIsTransientPinLaw", "put", "([BIB)V"⟩ : MethodName)) hown (hw _ (List.mem_of_getElem? (i := 9) rfl)) (hw _ (List.mem_of_getElem? (i := 10) rfl)) (hw _ (List.mem_of_getElem? (i := 11) rfl)) (hw _ (List.mem_of_getElem? (i := 12) rfl)) (by decide) (argsL := [(.ref b89), (.int (1 : Int32)), (.int z94)]) (rm_put l Z a0 hw [] b89 1 z94 tt f91 h91 n0 Zp93 (by decide) (by omega) ge_b89 A_b89) e91 (W := 0) (by decide) (by decide) (by decide) (by decide) (g := (mkF m 327 #[.val (.long p1), .second, .val (.long p2), .second, .val (.int p3), .val (.int p4), .val (.ref b1), .val (.ref b24), .val (.int (Int32.ofNat mm)), .val (.int (Int32.ofNat tt)), .val (.int x), .val (.ref b27), .val (.ref b89), .val (.int zf), .unset, .unset, .unset] [(.int z94), (.int (1 : Int32)), (.ref b89)])) rfl (by rw [hml]; rfl) (rest := []) (lenOf pd_1 rfl) rfl (by show 2 * 0 + _ ≤ _; exact Nat.le_of_eq rfl) (hb hby at_327)
      refine Goes.step st95 ?_
      obtain ⟨rfl, N95, Kc95, f95, Aq95, q95⟩ := hQ95
      have N96 := Fr.app N92 N95
      obtain ⟨h95, e95⟩ : ∃ h', T95.heap = h' := ⟨_, rfl⟩
      rw [e95] at Kc95 Aq95
      have A_p := A_p.keep Kc95 (ninS ne_b24_b89 nin0)
      have A_b27 := A_b27.keep Kc95 (ninS ne_b27_b89 nin0)
      have Zp97 := Nat.le_trans Zp93 Kc95.1
      have A_b89 := Aq95
      show Goes p ee below s _ _ _ (T95.setTop (mkF m 330 #[.val (.long p1), .second, .val (.long p2), .second, .val (.int p3), .val (.int p4), .val (.ref b1), .val (.ref b24), .val (.int (Int32.ofNat mm)), .val (.int (Int32.ofNat tt)), .val (.int x), .val (.ref b27), .val (.ref b89), .val (.int zf), .unset, .unset, .unset] []))
      refine Goes.step (fun _ hr => XS.aload X95.here hx rfl (hb hby at_330) rfl rfl hr) ?_
      show Goes p ee below s _ _ _ (T95.setTop (mkF m 332 #[.val (.long p1), .second, .val (.long p2), .second, .val (.int p3), .val (.int p4), .val (.ref b1), .val (.ref b24), .val (.int (Int32.ofNat mm)), .val (.int (Int32.ofNat tt)), .val (.int x), .val (.ref b27), .val (.ref b89), .val (.int zf), .unset, .unset, .unset] [(.ref b89)]))
      refine Goes.step (fun _ hr => XS.iconst X95.here hx rfl (hb hby at_332) hr) ?_
      show Goes p ee below s _ _ _ (T95.setTop (mkF m 333 #[.val (.long p1), .second, .val (.long p2), .second, .val (.int p3), .val (.int p4), .val (.ref b1), .val (.ref b24), .val (.int (Int32.ofNat mm)), .val (.int (Int32.ofNat tt)), .val (.int x), .val (.ref b27), .val (.ref b89), .val (.int zf), .unset, .unset, .unset] [(.int (2 : Int32)), (.ref b89)]))
      refine Goes.step (fun _ hr => XS.aload X95.here hx rfl (hb hby at_333) rfl rfl hr) ?_
      show Goes p ee below s _ _ _ (T95.setTop (mkF m 335 #[.val (.long p1), .second, .val (.long p2), .second, .val (.int p3), .val (.int p4), .val (.ref b1), .val (.ref b24), .val (.int (Int32.ofNat mm)), .val (.int (Int32.ofNat tt)), .val (.int x), .val (.ref b27), .val (.ref b89), .val (.int zf), .unset, .unset, .unset] [(.ref b24), (.int (2 : Int32)), (.ref b89)]))
      refine Goes.step (fun _ hr => XS.iconst X95.here hx rfl (hb hby at_335) hr) ?_
      show Goes p ee below s _ _ _ (T95.setTop (mkF m 336 #[.val (.long p1), .second, .val (.long p2), .second, .val (.int p3), .val (.int p4), .val (.ref b1), .val (.ref b24), .val (.int (Int32.ofNat mm)), .val (.int (Int32.ofNat tt)), .val (.int x), .val (.ref b27), .val (.ref b89), .val (.int zf), .unset, .unset, .unset] [(.int (2 : Int32)), (.ref b24), (.int (2 : Int32)), (.ref b89)]))
      obtain ⟨z98, hz98⟩ := own_isint A_p (k := 2) (by decide)
      refine Goes.step (own_baload X95 hx hZ e95 A_p (j := (2 : Int32)) (by decide) (k := 2) rfl (by decide) (v := (.int z98)) hz98 (g := (mkF m 336 #[.val (.long p1), .second, .val (.long p2), .second, .val (.int p3), .val (.int p4), .val (.ref b1), .val (.ref b24), .val (.int (Int32.ofNat mm)), .val (.int (Int32.ofNat tt)), .val (.int x), .val (.ref b27), .val (.ref b89), .val (.int zf), .unset, .unset, .unset] [(.int (2 : Int32)), (.ref b24), (.int (2 : Int32)), (.ref b89)])) rfl rfl (hb hby at_336)) ?_
      show Goes p ee below s _ _ _ (T95.setTop (mkF m 337 #[.val (.long p1), .second, .val (.long p2), .second, .val (.int p3), .val (.int p4), .val (.ref b1), .val (.ref b24), .val (.int (Int32.ofNat mm)), .val (.int (Int32.ofNat tt)), .val (.int x), .val (.ref b27), .val (.ref b89), .val (.int zf), .unset, .unset, .unset] [(.int z98), (.int (2 : Int32)), (.ref b89)]))
      have lt_b24 := A_p.lt
      have lt_b27 := A_b27.lt
      have lt_b89 := A_b89.lt
      obtain ⟨v99, T99, L99, X99, hQ99, st99⟩ := own_callS X95 hx hZ (y := (⟨"com/example/orbweaver/orbweaver/poa/ObjectKeysIsTransientPinLaw", "put", "([BIB)V"⟩ : MethodName)) hown (hw _ (List.mem_of_getElem? (i := 9) rfl)) (hw _ (List.mem_of_getElem? (i := 10) rfl)) (hw _ (List.mem_of_getElem? (i := 11) rfl)) (hw _ (List.mem_of_getElem? (i := 12) rfl)) (by decide) (argsL := [(.ref b89), (.int (2 : Int32)), (.int z98)]) (rm_put l Z a0 hw [] b89 2 z98 tt f95 h95 n0 Zp97 (by decide) (by omega) ge_b89 A_b89) e95 (W := 0) (by decide) (by decide) (by decide) (by decide) (g := (mkF m 337 #[.val (.long p1), .second, .val (.long p2), .second, .val (.int p3), .val (.int p4), .val (.ref b1), .val (.ref b24), .val (.int (Int32.ofNat mm)), .val (.int (Int32.ofNat tt)), .val (.int x), .val (.ref b27), .val (.ref b89), .val (.int zf), .unset, .unset, .unset] [(.int z98), (.int (2 : Int32)), (.ref b89)])) rfl (by rw [hml]; rfl) (rest := []) (lenOf pd_1 rfl) rfl (by show 2 * 0 + _ ≤ _; exact Nat.le_of_eq rfl) (hb hby at_337)
      refine Goes.step st99 ?_
      obtain ⟨rfl, N99, Kc99, f99, Aq99, q99⟩ := hQ99
      have N100 := Fr.app N96 N99
      obtain ⟨h99, e99⟩ : ∃ h', T99.heap = h' := ⟨_, rfl⟩
      rw [e99] at Kc99 Aq99
      have A_p := A_p.keep Kc99 (ninS ne_b24_b89 nin0)
      have A_b27 := A_b27.keep Kc99 (ninS ne_b27_b89 nin0)
      have Zp101 := Nat.le_trans Zp97 Kc99.1
      have A_b89 := Aq99
      show Goes p ee below s _ _ _ (T99.setTop (mkF m 340 #[.val (.long p1), .second, .val (.long p2), .second, .val (.int p3), .val (.int p4), .val (.ref b1), .val (.ref b24), .val (.int (Int32.ofNat mm)), .val (.int (Int32.ofNat tt)), .val (.int x), .val (.ref b27), .val (.ref b89), .val (.int zf), .unset, .unset, .unset] []))
      refine Goes.step (fun _ hr => XS.aload X99.here hx rfl (hb hby at_340) rfl rfl hr) ?_
      show Goes p ee below s _ _ _ (T99.setTop (mkF m 342 #[.val (.long p1), .second, .val (.long p2), .second, .val (.int p3), .val (.int p4), .val (.ref b1), .val (.ref b24), .val (.int (Int32.ofNat mm)), .val (.int (Int32.ofNat tt)), .val (.int x), .val (.ref b27), .val (.ref b89), .val (.int zf), .unset, .unset, .unset] [(.ref b89)]))
      refine Goes.step (fun _ hr => XS.iconst X99.here hx rfl (hb hby at_342) hr) ?_
      show Goes p ee below s _ _ _ (T99.setTop (mkF m 343 #[.val (.long p1), .second, .val (.long p2), .second, .val (.int p3), .val (.int p4), .val (.ref b1), .val (.ref b24), .val (.int (Int32.ofNat mm)), .val (.int (Int32.ofNat tt)), .val (.int x), .val (.ref b27), .val (.ref b89), .val (.int zf), .unset, .unset, .unset] [(.int (3 : Int32)), (.ref b89)]))
      refine Goes.step (fun _ hr => XS.aload X99.here hx rfl (hb hby at_343) rfl rfl hr) ?_
      show Goes p ee below s _ _ _ (T99.setTop (mkF m 345 #[.val (.long p1), .second, .val (.long p2), .second, .val (.int p3), .val (.int p4), .val (.ref b1), .val (.ref b24), .val (.int (Int32.ofNat mm)), .val (.int (Int32.ofNat tt)), .val (.int x), .val (.ref b27), .val (.ref b89), .val (.int zf), .unset, .unset, .unset] [(.ref b24), (.int (3 : Int32)), (.ref b89)]))
      refine Goes.step (fun _ hr => XS.iconst X99.here hx rfl (hb hby at_345) hr) ?_
      show Goes p ee below s _ _ _ (T99.setTop (mkF m 346 #[.val (.long p1), .second, .val (.long p2), .second, .val (.int p3), .val (.int p4), .val (.ref b1), .val (.ref b24), .val (.int (Int32.ofNat mm)), .val (.int (Int32.ofNat tt)), .val (.int x), .val (.ref b27), .val (.ref b89), .val (.int zf), .unset, .unset, .unset] [(.int (3 : Int32)), (.ref b24), (.int (3 : Int32)), (.ref b89)]))
      obtain ⟨z102, hz102⟩ := own_isint A_p (k := 3) (by decide)
      refine Goes.step (own_baload X99 hx hZ e99 A_p (j := (3 : Int32)) (by decide) (k := 3) rfl (by decide) (v := (.int z102)) hz102 (g := (mkF m 346 #[.val (.long p1), .second, .val (.long p2), .second, .val (.int p3), .val (.int p4), .val (.ref b1), .val (.ref b24), .val (.int (Int32.ofNat mm)), .val (.int (Int32.ofNat tt)), .val (.int x), .val (.ref b27), .val (.ref b89), .val (.int zf), .unset, .unset, .unset] [(.int (3 : Int32)), (.ref b24), (.int (3 : Int32)), (.ref b89)])) rfl rfl (hb hby at_346)) ?_
      show Goes p ee below s _ _ _ (T99.setTop (mkF m 347 #[.val (.long p1), .second, .val (.long p2), .second, .val (.int p3), .val (.int p4), .val (.ref b1), .val (.ref b24), .val (.int (Int32.ofNat mm)), .val (.int (Int32.ofNat tt)), .val (.int x), .val (.ref b27), .val (.ref b89), .val (.int zf), .unset, .unset, .unset] [(.int z102), (.int (3 : Int32)), (.ref b89)]))
      have lt_b24 := A_p.lt
      have lt_b27 := A_b27.lt
      have lt_b89 := A_b89.lt
      obtain ⟨v103, T103, L103, X103, hQ103, st103⟩ := own_callS X99 hx hZ (y := (⟨"com/example/orbweaver/orbweaver/poa/ObjectKeysIsTransientPinLaw", "put", "([BIB)V"⟩ : MethodName)) hown (hw _ (List.mem_of_getElem? (i := 9) rfl)) (hw _ (List.mem_of_getElem? (i := 10) rfl)) (hw _ (List.mem_of_getElem? (i := 11) rfl)) (hw _ (List.mem_of_getElem? (i := 12) rfl)) (by decide) (argsL := [(.ref b89), (.int (3 : Int32)), (.int z102)]) (rm_put l Z a0 hw [] b89 3 z102 tt f99 h99 n0 Zp101 (by decide) (by omega) ge_b89 A_b89) e99 (W := 0) (by decide) (by decide) (by decide) (by decide) (g := (mkF m 347 #[.val (.long p1), .second, .val (.long p2), .second, .val (.int p3), .val (.int p4), .val (.ref b1), .val (.ref b24), .val (.int (Int32.ofNat mm)), .val (.int (Int32.ofNat tt)), .val (.int x), .val (.ref b27), .val (.ref b89), .val (.int zf), .unset, .unset, .unset] [(.int z102), (.int (3 : Int32)), (.ref b89)])) rfl (by rw [hml]; rfl) (rest := []) (lenOf pd_1 rfl) rfl (by show 2 * 0 + _ ≤ _; exact Nat.le_of_eq rfl) (hb hby at_347)
      refine Goes.step st103 ?_
      obtain ⟨rfl, N103, Kc103, f103, Aq103, q103⟩ := hQ103
      have N104 := Fr.app N100 N103
      obtain ⟨h103, e103⟩ : ∃ h', T103.heap = h' := ⟨_, rfl⟩
      rw [e103] at Kc103 Aq103
      have A_p := A_p.keep Kc103 (ninS ne_b24_b89 nin0)
      have A_b27 := A_b27.keep Kc103 (ninS ne_b27_b89 nin0)
      have Zp105 := Nat.le_trans Zp101 Kc103.1
      have A_b89 := Aq103
      show Goes p ee below s _ _ _ (T103.setTop (mkF m 350 #[.val (.long p1), .second, .val (.long p2), .second, .val (.int p3), .val (.int p4), .val (.ref b1), .val (.ref b24), .val (.int (Int32.ofNat mm)), .val (.int (Int32.ofNat tt)), .val (.int x), .val (.ref b27), .val (.ref b89), .val (.int zf), .unset, .unset, .unset] []))
      refine Goes.step (fun _ hr => XS.aload X103.here hx rfl (hb hby at_350) rfl rfl hr) ?_
      show Goes p ee below s _ _ _ (T103.setTop (mkF m 352 #[.val (.long p1), .second, .val (.long p2), .second, .val (.int p3), .val (.int p4), .val (.ref b1), .val (.ref b24), .val (.int (Int32.ofNat mm)), .val (.int (Int32.ofNat tt)), .val (.int x), .val (.ref b27), .val (.ref b89), .val (.int zf), .unset, .unset, .unset] [(.ref b89)]))
      refine Goes.step (fun _ hr => XS.iconst X103.here hx rfl (hb hby at_352) hr) ?_
      show Goes p ee below s _ _ _ (T103.setTop (mkF m 353 #[.val (.long p1), .second, .val (.long p2), .second, .val (.int p3), .val (.int p4), .val (.ref b1), .val (.ref b24), .val (.int (Int32.ofNat mm)), .val (.int (Int32.ofNat tt)), .val (.int x), .val (.ref b27), .val (.ref b89), .val (.int zf), .unset, .unset, .unset] [(.int (4 : Int32)), (.ref b89)]))
      refine Goes.step (fun _ hr => XS.aload X103.here hx rfl (hb hby at_353) rfl rfl hr) ?_
      show Goes p ee below s _ _ _ (T103.setTop (mkF m 355 #[.val (.long p1), .second, .val (.long p2), .second, .val (.int p3), .val (.int p4), .val (.ref b1), .val (.ref b24), .val (.int (Int32.ofNat mm)), .val (.int (Int32.ofNat tt)), .val (.int x), .val (.ref b27), .val (.ref b89), .val (.int zf), .unset, .unset, .unset] [(.ref b24), (.int (4 : Int32)), (.ref b89)]))
      refine Goes.step (fun _ hr => XS.iconst X103.here hx rfl (hb hby at_355) hr) ?_
      show Goes p ee below s _ _ _ (T103.setTop (mkF m 356 #[.val (.long p1), .second, .val (.long p2), .second, .val (.int p3), .val (.int p4), .val (.ref b1), .val (.ref b24), .val (.int (Int32.ofNat mm)), .val (.int (Int32.ofNat tt)), .val (.int x), .val (.ref b27), .val (.ref b89), .val (.int zf), .unset, .unset, .unset] [(.int (4 : Int32)), (.ref b24), (.int (4 : Int32)), (.ref b89)]))
      obtain ⟨z106, hz106⟩ := own_isint A_p (k := 4) (by decide)
      refine Goes.step (own_baload X103 hx hZ e103 A_p (j := (4 : Int32)) (by decide) (k := 4) rfl (by decide) (v := (.int z106)) hz106 (g := (mkF m 356 #[.val (.long p1), .second, .val (.long p2), .second, .val (.int p3), .val (.int p4), .val (.ref b1), .val (.ref b24), .val (.int (Int32.ofNat mm)), .val (.int (Int32.ofNat tt)), .val (.int x), .val (.ref b27), .val (.ref b89), .val (.int zf), .unset, .unset, .unset] [(.int (4 : Int32)), (.ref b24), (.int (4 : Int32)), (.ref b89)])) rfl rfl (hb hby at_356)) ?_
      show Goes p ee below s _ _ _ (T103.setTop (mkF m 357 #[.val (.long p1), .second, .val (.long p2), .second, .val (.int p3), .val (.int p4), .val (.ref b1), .val (.ref b24), .val (.int (Int32.ofNat mm)), .val (.int (Int32.ofNat tt)), .val (.int x), .val (.ref b27), .val (.ref b89), .val (.int zf), .unset, .unset, .unset] [(.int z106), (.int (4 : Int32)), (.ref b89)]))
      have lt_b24 := A_p.lt
      have lt_b27 := A_b27.lt
      have lt_b89 := A_b89.lt
      obtain ⟨v107, T107, L107, X107, hQ107, st107⟩ := own_callS X103 hx hZ (y := (⟨"com/example/orbweaver/orbweaver/poa/ObjectKeysIsTransientPinLaw", "put", "([BIB)V"⟩ : MethodName)) hown (hw _ (List.mem_of_getElem? (i := 9) rfl)) (hw _ (List.mem_of_getElem? (i := 10) rfl)) (hw _ (List.mem_of_getElem? (i := 11) rfl)) (hw _ (List.mem_of_getElem? (i := 12) rfl)) (by decide) (argsL := [(.ref b89), (.int (4 : Int32)), (.int z106)]) (rm_put l Z a0 hw [] b89 4 z106 tt f103 h103 n0 Zp105 (by decide) (by omega) ge_b89 A_b89) e103 (W := 0) (by decide) (by decide) (by decide) (by decide) (g := (mkF m 357 #[.val (.long p1), .second, .val (.long p2), .second, .val (.int p3), .val (.int p4), .val (.ref b1), .val (.ref b24), .val (.int (Int32.ofNat mm)), .val (.int (Int32.ofNat tt)), .val (.int x), .val (.ref b27), .val (.ref b89), .val (.int zf), .unset, .unset, .unset] [(.int z106), (.int (4 : Int32)), (.ref b89)])) rfl (by rw [hml]; rfl) (rest := []) (lenOf pd_1 rfl) rfl (by show 2 * 0 + _ ≤ _; exact Nat.le_of_eq rfl) (hb hby at_357)
      refine Goes.step st107 ?_
      obtain ⟨rfl, N107, Kc107, f107, Aq107, q107⟩ := hQ107
      have N108 := Fr.app N104 N107
      obtain ⟨h107, e107⟩ : ∃ h', T107.heap = h' := ⟨_, rfl⟩
      rw [e107] at Kc107 Aq107
      have A_p := A_p.keep Kc107 (ninS ne_b24_b89 nin0)
      have A_b27 := A_b27.keep Kc107 (ninS ne_b27_b89 nin0)
      have Zp109 := Nat.le_trans Zp105 Kc107.1
      have A_b89 := Aq107
      show Goes p ee below s _ _ _ (T107.setTop (mkF m 360 #[.val (.long p1), .second, .val (.long p2), .second, .val (.int p3), .val (.int p4), .val (.ref b1), .val (.ref b24), .val (.int (Int32.ofNat mm)), .val (.int (Int32.ofNat tt)), .val (.int x), .val (.ref b27), .val (.ref b89), .val (.int zf), .unset, .unset, .unset] []))
      refine Goes.step (fun _ hr => XS.aload X107.here hx rfl (hb hby at_360) rfl rfl hr) ?_
      show Goes p ee below s _ _ _ (T107.setTop (mkF m 362 #[.val (.long p1), .second, .val (.long p2), .second, .val (.int p3), .val (.int p4), .val (.ref b1), .val (.ref b24), .val (.int (Int32.ofNat mm)), .val (.int (Int32.ofNat tt)), .val (.int x), .val (.ref b27), .val (.ref b89), .val (.int zf), .unset, .unset, .unset] [(.ref b89)]))
      refine Goes.step (fun _ hr => XS.iconst X107.here hx rfl (hb hby at_362) hr) ?_
      show Goes p ee below s _ _ _ (T107.setTop (mkF m 363 #[.val (.long p1), .second, .val (.long p2), .second, .val (.int p3), .val (.int p4), .val (.ref b1), .val (.ref b24), .val (.int (Int32.ofNat mm)), .val (.int (Int32.ofNat tt)), .val (.int x), .val (.ref b27), .val (.ref b89), .val (.int zf), .unset, .unset, .unset] [(.int (5 : Int32)), (.ref b89)]))
      refine Goes.step (fun _ hr => XS.aload X107.here hx rfl (hb hby at_363) rfl rfl hr) ?_
      show Goes p ee below s _ _ _ (T107.setTop (mkF m 365 #[.val (.long p1), .second, .val (.long p2), .second, .val (.int p3), .val (.int p4), .val (.ref b1), .val (.ref b24), .val (.int (Int32.ofNat mm)), .val (.int (Int32.ofNat tt)), .val (.int x), .val (.ref b27), .val (.ref b89), .val (.int zf), .unset, .unset, .unset] [(.ref b24), (.int (5 : Int32)), (.ref b89)]))
      refine Goes.step (fun _ hr => XS.iconst X107.here hx rfl (hb hby at_365) hr) ?_
      show Goes p ee below s _ _ _ (T107.setTop (mkF m 366 #[.val (.long p1), .second, .val (.long p2), .second, .val (.int p3), .val (.int p4), .val (.ref b1), .val (.ref b24), .val (.int (Int32.ofNat mm)), .val (.int (Int32.ofNat tt)), .val (.int x), .val (.ref b27), .val (.ref b89), .val (.int zf), .unset, .unset, .unset] [(.int (5 : Int32)), (.ref b24), (.int (5 : Int32)), (.ref b89)]))
      obtain ⟨z110, hz110⟩ := own_isint A_p (k := 5) (by decide)
      refine Goes.step (own_baload X107 hx hZ e107 A_p (j := (5 : Int32)) (by decide) (k := 5) rfl (by decide) (v := (.int z110)) hz110 (g := (mkF m 366 #[.val (.long p1), .second, .val (.long p2), .second, .val (.int p3), .val (.int p4), .val (.ref b1), .val (.ref b24), .val (.int (Int32.ofNat mm)), .val (.int (Int32.ofNat tt)), .val (.int x), .val (.ref b27), .val (.ref b89), .val (.int zf), .unset, .unset, .unset] [(.int (5 : Int32)), (.ref b24), (.int (5 : Int32)), (.ref b89)])) rfl rfl (hb hby at_366)) ?_
      show Goes p ee below s _ _ _ (T107.setTop (mkF m 367 #[.val (.long p1), .second, .val (.long p2), .second, .val (.int p3), .val (.int p4), .val (.ref b1), .val (.ref b24), .val (.int (Int32.ofNat mm)), .val (.int (Int32.ofNat tt)), .val (.int x), .val (.ref b27), .val (.ref b89), .val (.int zf), .unset, .unset, .unset] [(.int z110), (.int (5 : Int32)), (.ref b89)]))
      have lt_b24 := A_p.lt
      have lt_b27 := A_b27.lt
      have lt_b89 := A_b89.lt
      obtain ⟨v111, T111, L111, X111, hQ111, st111⟩ := own_callS X107 hx hZ (y := (⟨"com/example/orbweaver/orbweaver/poa/ObjectKeysIsTransientPinLaw", "put", "([BIB)V"⟩ : MethodName)) hown (hw _ (List.mem_of_getElem? (i := 9) rfl)) (hw _ (List.mem_of_getElem? (i := 10) rfl)) (hw _ (List.mem_of_getElem? (i := 11) rfl)) (hw _ (List.mem_of_getElem? (i := 12) rfl)) (by decide) (argsL := [(.ref b89), (.int (5 : Int32)), (.int z110)]) (rm_put l Z a0 hw [] b89 5 z110 tt f107 h107 n0 Zp109 (by decide) (by omega) ge_b89 A_b89) e107 (W := 0) (by decide) (by decide) (by decide) (by decide) (g := (mkF m 367 #[.val (.long p1), .second, .val (.long p2), .second, .val (.int p3), .val (.int p4), .val (.ref b1), .val (.ref b24), .val (.int (Int32.ofNat mm)), .val (.int (Int32.ofNat tt)), .val (.int x), .val (.ref b27), .val (.ref b89), .val (.int zf), .unset, .unset, .unset] [(.int z110), (.int (5 : Int32)), (.ref b89)])) rfl (by rw [hml]; rfl) (rest := []) (lenOf pd_1 rfl) rfl (by show 2 * 0 + _ ≤ _; exact Nat.le_of_eq rfl) (hb hby at_367)
      refine Goes.step st111 ?_
      obtain ⟨rfl, N111, Kc111, f111, Aq111, q111⟩ := hQ111
      have N112 := Fr.app N108 N111
      obtain ⟨h111, e111⟩ : ∃ h', T111.heap = h' := ⟨_, rfl⟩
      rw [e111] at Kc111 Aq111
      have A_p := A_p.keep Kc111 (ninS ne_b24_b89 nin0)
      have A_b27 := A_b27.keep Kc111 (ninS ne_b27_b89 nin0)
      have Zp113 := Nat.le_trans Zp109 Kc111.1
      have A_b89 := Aq111
      show Goes p ee below s _ _ _ (T111.setTop (mkF m 370 #[.val (.long p1), .second, .val (.long p2), .second, .val (.int p3), .val (.int p4), .val (.ref b1), .val (.ref b24), .val (.int (Int32.ofNat mm)), .val (.int (Int32.ofNat tt)), .val (.int x), .val (.ref b27), .val (.ref b89), .val (.int zf), .unset, .unset, .unset] []))
      refine Goes.step (fun _ hr => XS.aload X111.here hx rfl (hb hby at_370) rfl rfl hr) ?_
      show Goes p ee below s _ _ _ (T111.setTop (mkF m 372 #[.val (.long p1), .second, .val (.long p2), .second, .val (.int p3), .val (.int p4), .val (.ref b1), .val (.ref b24), .val (.int (Int32.ofNat mm)), .val (.int (Int32.ofNat tt)), .val (.int x), .val (.ref b27), .val (.ref b89), .val (.int zf), .unset, .unset, .unset] [(.ref b89)]))
      refine Goes.step (fun _ hr => XS.bipush X111.here hx rfl (hb hby at_372) hr) ?_
      show Goes p ee below s _ _ _ (T111.setTop (mkF m 374 #[.val (.long p1), .second, .val (.long p2), .second, .val (.int p3), .val (.int p4), .val (.ref b1), .val (.ref b24), .val (.int (Int32.ofNat mm)), .val (.int (Int32.ofNat tt)), .val (.int x), .val (.ref b27), .val (.ref b89), .val (.int zf), .unset, .unset, .unset] [(.int (6 : Int32)), (.ref b89)]))
      refine Goes.step (fun _ hr => XS.aload X111.here hx rfl (hb hby at_374) rfl rfl hr) ?_
      show Goes p ee below s _ _ _ (T111.setTop (mkF m 376 #[.val (.long p1), .second, .val (.long p2), .second, .val (.int p3), .val (.int p4), .val (.ref b1), .val (.ref b24), .val (.int (Int32.ofNat mm)), .val (.int (Int32.ofNat tt)), .val (.int x), .val (.ref b27), .val (.ref b89), .val (.int zf), .unset, .unset, .unset] [(.ref b24), (.int (6 : Int32)), (.ref b89)]))
      refine Goes.step (fun _ hr => XS.bipush X111.here hx rfl (hb hby at_376) hr) ?_
      show Goes p ee below s _ _ _ (T111.setTop (mkF m 378 #[.val (.long p1), .second, .val (.long p2), .second, .val (.int p3), .val (.int p4), .val (.ref b1), .val (.ref b24), .val (.int (Int32.ofNat mm)), .val (.int (Int32.ofNat tt)), .val (.int x), .val (.ref b27), .val (.ref b89), .val (.int zf), .unset, .unset, .unset] [(.int (6 : Int32)), (.ref b24), (.int (6 : Int32)), (.ref b89)]))
      obtain ⟨z114, hz114⟩ := own_isint A_p (k := 6) (by decide)
      refine Goes.step (own_baload X111 hx hZ e111 A_p (j := (6 : Int32)) (by decide) (k := 6) rfl (by decide) (v := (.int z114)) hz114 (g := (mkF m 378 #[.val (.long p1), .second, .val (.long p2), .second, .val (.int p3), .val (.int p4), .val (.ref b1), .val (.ref b24), .val (.int (Int32.ofNat mm)), .val (.int (Int32.ofNat tt)), .val (.int x), .val (.ref b27), .val (.ref b89), .val (.int zf), .unset, .unset, .unset] [(.int (6 : Int32)), (.ref b24), (.int (6 : Int32)), (.ref b89)])) rfl rfl (hb hby at_378)) ?_
      show Goes p ee below s _ _ _ (T111.setTop (mkF m 379 #[.val (.long p1), .second, .val (.long p2), .second, .val (.int p3), .val (.int p4), .val (.ref b1), .val (.ref b24), .val (.int (Int32.ofNat mm)), .val (.int (Int32.ofNat tt)), .val (.int x), .val (.ref b27), .val (.ref b89), .val (.int zf), .unset, .unset, .unset] [(.int z114), (.int (6 : Int32)), (.ref b89)]))
      have lt_b24 := A_p.lt
      have lt_b27 := A_b27.lt
      have lt_b89 := A_b89.lt
      obtain ⟨v115, T115, L115, X115, hQ115, st115⟩ := own_callS X111 hx hZ (y := (⟨"com/example/orbweaver/orbweaver/poa/ObjectKeysIsTransientPinLaw", "put", "([BIB)V"⟩ : MethodName)) hown (hw _ (List.mem_of_getElem? (i := 9) rfl)) (hw _ (List.mem_of_getElem? (i := 10) rfl)) (hw _ (List.mem_of_getElem? (i := 11) rfl)) (hw _ (List.mem_of_getElem? (i := 12) rfl)) (by decide) (argsL := [(.ref b89), (.int (6 : Int32)), (.int z114)]) (rm_put l Z a0 hw [] b89 6 z114 tt f111 h111 n0 Zp113 (by decide) (by omega) ge_b89 A_b89) e111 (W := 0) (by decide) (by decide) (by decide) (by decide) (g := (mkF m 379 #[.val (.long p1), .second, .val (.long p2), .second, .val (.int p3), .val (.int p4), .val (.ref b1), .val (.ref b24), .val (.int (Int32.ofNat mm)), .val (.int (Int32.ofNat tt)), .val (.int x), .val (.ref b27), .val (.ref b89), .val (.int zf), .unset, .unset, .unset] [(.int z114), (.int (6 : Int32)), (.ref b89)])) rfl (by rw [hml]; rfl) (rest := []) (lenOf pd_1 rfl) rfl (by show 2 * 0 + _ ≤ _; exact Nat.le_of_eq rfl) (hb hby at_379)
      refine Goes.step st115 ?_
      obtain ⟨rfl, N115, Kc115, f115, Aq115, q115⟩ := hQ115
      have N116 := Fr.app N112 N115
      obtain ⟨h115, e115⟩ : ∃ h', T115.heap = h' := ⟨_, rfl⟩
      rw [e115] at Kc115 Aq115
      have A_p := A_p.keep Kc115 (ninS ne_b24_b89 nin0)
      have A_b27 := A_b27.keep Kc115 (ninS ne_b27_b89 nin0)
      have Zp117 := Nat.le_trans Zp113 Kc115.1
      have A_b89 := Aq115
      show Goes p ee below s _ _ _ (T115.setTop (mkF m 382 #[.val (.long p1), .second, .val (.long p2), .second, .val (.int p3), .val (.int p4), .val (.ref b1), .val (.ref b24), .val (.int (Int32.ofNat mm)), .val (.int (Int32.ofNat tt)), .val (.int x), .val (.ref b27), .val (.ref b89), .val (.int zf), .unset, .unset, .unset] []))
      refine Goes.step (fun _ hr => XS.aload X115.here hx rfl (hb hby at_382) rfl rfl hr) ?_
      show Goes p ee below s _ _ _ (T115.setTop (mkF m 384 #[.val (.long p1), .second, .val (.long p2), .second, .val (.int p3), .val (.int p4), .val (.ref b1), .val (.ref b24), .val (.int (Int32.ofNat mm)), .val (.int (Int32.ofNat tt)), .val (.int x), .val (.ref b27), .val (.ref b89), .val (.int zf), .unset, .unset, .unset] [(.ref b27)]))
      have lt_b24 := A_p.lt
      have lt_b27 := A_b27.lt
      have lt_b89 := A_b89.lt
      obtain ⟨v118, T118, L118, X118, hQ118, st118⟩ := own_callS X115 hx hZ (y := (⟨"com/example/orbweaver/orbweaver/poa/ObjectKeys", "isTransient", "([B)Z"⟩ : MethodName)) hown (hw _ (List.mem_of_getElem? (i := 13) rfl)) (hw _ (List.mem_of_getElem? (i := 14) rfl)) (hw _ (List.mem_of_getElem? (i := 3) rfl)) (hw _ (List.mem_of_getElem? (i := 15) rfl)) (by decide) (argsL := [(.ref b27)]) (rm_isT l Z a0 hw [] b27 (8 + mm) f86 (1 : Int32) h115 n0 Zp117 (by omega) A_b27 (Or.inr (Or.inl ⟨by omega, fk0, rfl⟩))) e115 (W := 0) (by decide) (by decide) (by decide) (by decide) (g := (mkF m 384 #[.val (.long p1), .second, .val (.long p2), .second, .val (.int p3), .val (.int p4), .val (.ref b1), .val (.ref b24), .val (.int (Int32.ofNat mm)), .val (.int (Int32.ofNat tt)), .val (.int x), .val (.ref b27), .val (.ref b89), .val (.int zf), .unset, .unset, .unset] [(.ref b27)])) rfl (by rw [hml]; rfl) (rest := []) (lenOf pd_2 rfl) rfl (by show 2 * 0 + _ ≤ _; exact Nat.le_of_eq rfl) (hb hby at_384)
      refine Goes.step st118 ?_
      obtain ⟨rfl, N118, e118⟩ := hQ118
      have N119 := Fr.app N116 N118
      show Goes p ee below s _ _ _ (T118.setTop (mkF m 387 #[.val (.long p1), .second, .val (.long p2), .second, .val (.int p3), .val (.int p4), .val (.ref b1), .val (.ref b24), .val (.int (Int32.ofNat mm)), .val (.int (Int32.ofNat tt)), .val (.int x), .val (.ref b27), .val (.ref b89), .val (.int zf), .unset, .unset, .unset] [(.int (1 : Int32))]))
      refine Goes.step (fun _ hr => XS.istore X118.here hx rfl (hb hby at_387) rfl  (l' := #[.val (.long p1), .second, .val (.long p2), .second, .val (.int p3), .val (.int p4), .val (.ref b1), .val (.ref b24), .val (.int (Int32.ofNat mm)), .val (.int (Int32.ofNat tt)), .val (.int x), .val (.ref b27), .val (.ref b89), .val (.int zf), .val (.int (1 : Int32)), .unset, .unset]) rfl hr) ?_
      show Goes p ee below s _ _ _ (T118.setTop (mkF m 389 #[.val (.long p1), .second, .val (.long p2), .second, .val (.int p3), .val (.int p4), .val (.ref b1), .val (.ref b24), .val (.int (Int32.ofNat mm)), .val (.int (Int32.ofNat tt)), .val (.int x), .val (.ref b27), .val (.ref b89), .val (.int zf), .val (.int (1 : Int32)), .unset, .unset] []))
      refine Goes.step (fun _ hr => XS.aload X118.here hx rfl (hb hby at_389) rfl rfl hr) ?_
      show Goes p ee below s _ _ _ (T118.setTop (mkF m 391 #[.val (.long p1), .second, .val (.long p2), .second, .val (.int p3), .val (.int p4), .val (.ref b1), .val (.ref b24), .val (.int (Int32.ofNat mm)), .val (.int (Int32.ofNat tt)), .val (.int x), .val (.ref b27), .val (.ref b89), .val (.int zf), .val (.int (1 : Int32)), .unset, .unset] [(.ref b27)]))
      refine Goes.step (fun _ hr => XS.iconst X118.here hx rfl (hb hby at_391) hr) ?_
      show Goes p ee below s _ _ _ (T118.setTop (mkF m 392 #[.val (.long p1), .second, .val (.long p2), .second, .val (.int p3), .val (.int p4), .val (.ref b1), .val (.ref b24), .val (.int (Int32.ofNat mm)), .val (.int (Int32.ofNat tt)), .val (.int x), .val (.ref b27), .val (.ref b89), .val (.int zf), .val (.int (1 : Int32)), .unset, .unset] [(.int (0 : Int32)), (.ref b27)]))
      refine Goes.step (fun _ hr => XS.iload X118.here hx rfl (hb hby at_392) rfl  hr) ?_
      show Goes p ee below s _ _ _ (T118.setTop (mkF m 394 #[.val (.long p1), .second, .val (.long p2), .second, .val (.int p3), .val (.int p4), .val (.ref b1), .val (.ref b24), .val (.int (Int32.ofNat mm)), .val (.int (Int32.ofNat tt)), .val (.int x), .val (.ref b27), .val (.ref b89), .val (.int zf), .val (.int (1 : Int32)), .unset, .unset] [(.int x), (.int (0 : Int32)), (.ref b27)]))
      obtain ⟨T120, h120, X120, e120, W120, A120, st120⟩ := own_stB X118 hx hZ e118 A_b27 (x := x) (j := (0 : Int32)) (by decide) (k := 0) rfl (by omega) (g := (mkF m 394 #[.val (.long p1), .second, .val (.long p2), .second, .val (.int p3), .val (.int p4), .val (.ref b1), .val (.ref b24), .val (.int (Int32.ofNat mm)), .val (.int (Int32.ofNat tt)), .val (.int x), .val (.ref b27), .val (.ref b89), .val (.int zf), .val (.int (1 : Int32)), .unset, .unset] [(.int x), (.int (0 : Int32)), (.ref b27)])) rfl rfl (hb hby at_394)
      refine Goes.step st120 ?_
      have A_p := A_p.other W120 ne_b24_b27
      have A_b89 := A_b89.other W120 (Ne.symm ne_b27_b89)
      have Zp121 := Nat.le_trans Zp117 (Keep.of_wr W120).1
      have N122 := Fr.snoc X120 N119 ge_b27
      have A_b27 := A120
      show Goes p ee below s _ _ _ (T120.setTop (mkF m 395 #[.val (.long p1), .second, .val (.long p2), .second, .val (.int p3), .val (.int p4), .val (.ref b1), .val (.ref b24), .val (.int (Int32.ofNat mm)), .val (.int (Int32.ofNat tt)), .val (.int x), .val (.ref b27), .val (.ref b89), .val (.int zf), .val (.int (1 : Int32)), .unset, .unset] []))
      refine Goes.step (fun _ hr => XS.aload X120.here hx rfl (hb hby at_395) rfl rfl hr) ?_
      show Goes p ee below s _ _ _ (T120.setTop (mkF m 397 #[.val (.long p1), .second, .val (.long p2), .second, .val (.int p3), .val (.int p4), .val (.ref b1), .val (.ref b24), .val (.int (Int32.ofNat mm)), .val (.int (Int32.ofNat tt)), .val (.int x), .val (.ref b27), .val (.ref b89), .val (.int zf), .val (.int (1 : Int32)), .unset, .unset] [(.ref b27)]))
      have lt_b24 := A_p.lt
      have lt_b27 := A_b27.lt
      have lt_b89 := A_b89.lt
      obtain ⟨v123, T123, L123, X123, hQ123, st123⟩ := own_callS X120 hx hZ (y := (⟨"com/example/orbweaver/orbweaver/poa/ObjectKeys", "isTransient", "([B)Z"⟩ : MethodName)) hown (hw _ (List.mem_of_getElem? (i := 13) rfl)) (hw _ (List.mem_of_getElem? (i := 14) rfl)) (hw _ (List.mem_of_getElem? (i := 3) rfl)) (hw _ (List.mem_of_getElem? (i := 15) rfl)) (by decide) (argsL := [(.ref b27)]) (rm_isT l Z a0 hw [] b27 (8 + mm) _ (0 : Int32) h120 n0 Zp121 (by omega) A_b27 (Or.inr (Or.inr ⟨by omega, rfl, x, (show _ = Value.int x from congrArg Value.int hxb), hx0⟩))) e120 (W := 0) (by decide) (by decide) (by decide) (by decide) (g := (mkF m 397 #[.val (.long p1), .second, .val (.long p2), .second, .val (.int p3), .val (.int p4), .val (.ref b1), .val (.ref b24), .val (.int (Int32.ofNat mm)), .val (.int (Int32.ofNat tt)), .val (.int x), .val (.ref b27), .val (.ref b89), .val (.int zf), .val (.int (1 : Int32)), .unset, .unset] [(.ref b27)])) rfl (by rw [hml]; rfl) (rest := []) (lenOf pd_2 rfl) rfl (by show 2 * 0 + _ ≤ _; exact Nat.le_of_eq rfl) (hb hby at_397)
      refine Goes.step st123 ?_
      obtain ⟨rfl, N123, e123⟩ := hQ123
      have N124 := Fr.app N122 N123
      show Goes p ee below s _ _ _ (T123.setTop (mkF m 400 #[.val (.long p1), .second, .val (.long p2), .second, .val (.int p3), .val (.int p4), .val (.ref b1), .val (.ref b24), .val (.int (Int32.ofNat mm)), .val (.int (Int32.ofNat tt)), .val (.int x), .val (.ref b27), .val (.ref b89), .val (.int zf), .val (.int (1 : Int32)), .unset, .unset] [(.int (0 : Int32))]))
      refine Goes.step (fun _ hr => XS.istore X123.here hx rfl (hb hby at_400) rfl  (l' := #[.val (.long p1), .second, .val (.long p2), .second, .val (.int p3), .val (.int p4), .val (.ref b1), .val (.ref b24), .val (.int (Int32.ofNat mm)), .val (.int (Int32.ofNat tt)), .val (.int x), .val (.ref b27), .val (.ref b89), .val (.int zf), .val (.int (1 : Int32)), .val (.int (0 : Int32)), .unset]) rfl hr) ?_
      show Goes p ee below s _ _ _ (T123.setTop (mkF m 402 #[.val (.long p1), .second, .val (.long p2), .second, .val (.int p3), .val (.int p4), .val (.ref b1), .val (.ref b24), .val (.int (Int32.ofNat mm)), .val (.int (Int32.ofNat tt)), .val (.int x), .val (.ref b27), .val (.ref b89), .val (.int zf), .val (.int (1 : Int32)), .val (.int (0 : Int32)), .unset] []))
      refine Goes.step (fun _ hr => XS.aload X123.here hx rfl (hb hby at_402) rfl rfl hr) ?_
      show Goes p ee below s _ _ _ (T123.setTop (mkF m 404 #[.val (.long p1), .second, .val (.long p2), .second, .val (.int p3), .val (.int p4), .val (.ref b1), .val (.ref b24), .val (.int (Int32.ofNat mm)), .val (.int (Int32.ofNat tt)), .val (.int x), .val (.ref b27), .val (.ref b89), .val (.int zf), .val (.int (1 : Int32)), .val (.int (0 : Int32)), .unset] [(.ref b89)]))
      have lt_b24 := A_p.lt
      have lt_b27 := A_b27.lt
      have lt_b89 := A_b89.lt
      obtain ⟨v125, T125, L125, X125, hQ125, st125⟩ := own_callS X123 hx hZ (y := (⟨"com/example/orbweaver/orbweaver/poa/ObjectKeys", "isTransient", "([B)Z"⟩ : MethodName)) hown (hw _ (List.mem_of_getElem? (i := 13) rfl)) (hw _ (List.mem_of_getElem? (i := 14) rfl)) (hw _ (List.mem_of_getElem? (i := 3) rfl)) (hw _ (List.mem_of_getElem? (i := 15) rfl)) (by decide) (argsL := [(.ref b89)]) (rm_isT l Z a0 hw [] b89 tt f115 (0 : Int32) h120 n0 Zp121 (by omega) A_b89 (Or.inl ⟨by omega, rfl⟩)) e123 (W := 0) (by decide) (by decide) (by decide) (by decide) (g := (mkF m 404 #[.val (.long p1), .second, .val (.long p2), .second, .val (.int p3), .val (.int p4), .val (.ref b1), .val (.ref b24), .val (.int (Int32.ofNat mm)), .val (.int (Int32.ofNat tt)), .val (.int x), .val (.ref b27), .val (.ref b89), .val (.int zf), .val (.int (1 : Int32)), .val (.int (0 : Int32)), .unset] [(.ref b89)])) rfl (by rw [hml]; rfl) (rest := []) (lenOf pd_2 rfl) rfl (by show 2 * 0 + _ ≤ _; exact Nat.le_of_eq rfl) (hb hby at_404)
      refine Goes.step st125 ?_
      obtain ⟨rfl, N125, e125⟩ := hQ125
      have N126 := Fr.app N124 N125
      show Goes p ee below s _ _ _ (T125.setTop (mkF m 407 #[.val (.long p1), .second, .val (.long p2), .second, .val (.int p3), .val (.int p4), .val (.ref b1), .val (.ref b24), .val (.int (Int32.ofNat mm)), .val (.int (Int32.ofNat tt)), .val (.int x), .val (.ref b27), .val (.ref b89), .val (.int zf), .val (.int (1 : Int32)), .val (.int (0 : Int32)), .unset] [(.int (0 : Int32))]))
      refine Goes.step (fun _ hr => XS.istore X125.here hx rfl (hb hby at_407) rfl  (l' := #[.val (.long p1), .second, .val (.long p2), .second, .val (.int p3), .val (.int p4), .val (.ref b1), .val (.ref b24), .val (.int (Int32.ofNat mm)), .val (.int (Int32.ofNat tt)), .val (.int x), .val (.ref b27), .val (.ref b89), .val (.int zf), .val (.int (1 : Int32)), .val (.int (0 : Int32)), .val (.int (0 : Int32))]) rfl hr) ?_
      show Goes p ee below s _ _ _ (T125.setTop (mkF m 409 #[.val (.long p1), .second, .val (.long p2), .second, .val (.int p3), .val (.int p4), .val (.ref b1), .val (.ref b24), .val (.int (Int32.ofNat mm)), .val (.int (Int32.ofNat tt)), .val (.int x), .val (.ref b27), .val (.ref b89), .val (.int zf), .val (.int (1 : Int32)), .val (.int (0 : Int32)), .val (.int (0 : Int32))] []))
      refine Goes.step (fun _ hr => XS.iload X125.here hx rfl (hb hby at_409) rfl  hr) ?_
      show Goes p ee below s _ _ _ (T125.setTop (mkF m 411 #[.val (.long p1), .second, .val (.long p2), .second, .val (.int p3), .val (.int p4), .val (.ref b1), .val (.ref b24), .val (.int (Int32.ofNat mm)), .val (.int (Int32.ofNat tt)), .val (.int x), .val (.ref b27), .val (.ref b89), .val (.int zf), .val (.int (1 : Int32)), .val (.int (0 : Int32)), .val (.int (0 : Int32))] [(.int (1 : Int32))]))
      refine Goes.step (fun _ hr => XS.ifNo X125.here hx rfl (hb hby at_411) rfl ((if0 _ _).trans (feq (by decide)).1) hr) ?_
      show Goes p ee below s _ _ _ (T125.setTop (mkF m 414 #[.val (.long p1), .second, .val (.long p2), .second, .val (.int p3), .val (.int p4), .val (.ref b1), .val (.ref b24), .val (.int (Int32.ofNat mm)), .val (.int (Int32.ofNat tt)), .val (.int x), .val (.ref b27), .val (.ref b89), .val (.int zf), .val (.int (1 : Int32)), .val (.int (0 : Int32)), .val (.int (0 : Int32))] []))
      refine Goes.step (fun _ hr => XS.iload X125.here hx rfl (hb hby at_414) rfl  hr) ?_
      show Goes p ee below s _ _ _ (T125.setTop (mkF m 416 #[.val (.long p1), .second, .val (.long p2), .second, .val (.int p3), .val (.int p4), .val (.ref b1), .val (.ref b24), .val (.int (Int32.ofNat mm)), .val (.int (Int32.ofNat tt)), .val (.int x), .val (.ref b27), .val (.ref b89), .val (.int zf), .val (.int (1 : Int32)), .val (.int (0 : Int32)), .val (.int (0 : Int32))] [(.int (0 : Int32))]))
      refine Goes.step (fun _ hr => XS.ifNo X125.here hx rfl (hb hby at_416) rfl ((if0 _ _).trans (teq rfl).2) hr) ?_
      show Goes p ee below s _ _ _ (T125.setTop (mkF m 419 #[.val (.long p1), .second, .val (.long p2), .second, .val (.int p3), .val (.int p4), .val (.ref b1), .val (.ref b24), .val (.int (Int32.ofNat mm)), .val (.int (Int32.ofNat tt)), .val (.int x), .val (.ref b27), .val (.ref b89), .val (.int zf), .val (.int (1 : Int32)), .val (.int (0 : Int32)), .val (.int (0 : Int32))] []))
      refine Goes.step (fun _ hr => XS.iload X125.here hx rfl (hb hby at_419) rfl  hr) ?_
      show Goes p ee below s _ _ _ (T125.setTop (mkF m 421 #[.val (.long p1), .second, .val (.long p2), .second, .val (.int p3), .val (.int p4), .val (.ref b1), .val (.ref b24), .val (.int (Int32.ofNat mm)), .val (.int (Int32.ofNat tt)), .val (.int x), .val (.ref b27), .val (.ref b89), .val (.int zf), .val (.int (1 : Int32)), .val (.int (0 : Int32)), .val (.int (0 : Int32))] [(.int (0 : Int32))]))
      refine Goes.step (fun _ hr => XS.ifNo X125.here hx rfl (hb hby at_421) rfl ((if0 _ _).trans (teq rfl).2) hr) ?_
      show Goes p ee below s _ _ _ (T125.setTop (mkF m 424 #[.val (.long p1), .second, .val (.long p2), .second, .val (.int p3), .val (.int p4), .val (.ref b1), .val (.ref b24), .val (.int (Int32.ofNat mm)), .val (.int (Int32.ofNat tt)), .val (.int x), .val (.ref b27), .val (.ref b89), .val (.int zf), .val (.int (1 : Int32)), .val (.int (0 : Int32)), .val (.int (0 : Int32))] []))
      refine Goes.step (fun _ hr => XS.iconst X125.here hx rfl (hb hby at_424) hr) ?_
      show Goes p ee below s _ _ _ (T125.setTop (mkF m 425 #[.val (.long p1), .second, .val (.long p2), .second, .val (.int p3), .val (.int p4), .val (.ref b1), .val (.ref b24), .val (.int (Int32.ofNat mm)), .val (.int (Int32.ofNat tt)), .val (.int x), .val (.ref b27), .val (.ref b89), .val (.int zf), .val (.int (1 : Int32)), .val (.int (0 : Int32)), .val (.int (0 : Int32))] [(.int (1 : Int32))]))
      refine Goes.step (fun _ hr => XS.goto X125.here hx rfl (pc0 := 425) (pc' := 429) rfl (hb hby at_425) (by decide) (by decide) hr) ?_
      show Goes p ee below s _ _ _ (T125.setTop (mkF m 429 #[.val (.long p1), .second, .val (.long p2), .second, .val (.int p3), .val (.int p4), .val (.ref b1), .val (.ref b24), .val (.int (Int32.ofNat mm)), .val (.int (Int32.ofNat tt)), .val (.int x), .val (.ref b27), .val (.ref b89), .val (.int zf), .val (.int (1 : Int32)), .val (.int (0 : Int32)), .val (.int (0 : Int32))] [(.int (1 : Int32))]))
      refine Goes.retZ X125 hx Bd.notSynchronized Bd.returns (by simp) rfl (hb hby at_429) (by decide) (by decide) ?_
      exact ⟨rfl, N126⟩
    by_cases hc298_127 : ((XT.ushr p4 (8 : Int32)) &&& (1 : Int32)) = (0 : Int32)
    · refine Goes.step (fun _ hr => XS.ifNo X89.here hx rfl (hb hby at_298) rfl ((if0 _ _).trans (teq hc298_127).2) hr) ?_
      show Goes p ee below s _ _ _ (T89.setTop (mkF m 301 #[.val (.long p1), .second, .val (.long p2), .second, .val (.int p3), .val (.int p4), .val (.ref b1), .val (.ref b24), .val (.int (Int32.ofNat mm)), .val (.int (Int32.ofNat tt)), .val (.int x), .val (.ref b27), .val (.ref b89), .unset, .unset, .unset, .unset] []))
      refine Goes.step (fun _ hr => XS.aload X89.here hx rfl (hb hby at_301) rfl rfl hr) ?_
      show Goes p ee below s _ _ _ (T89.setTop (mkF m 303 #[.val (.long p1), .second, .val (.long p2), .second, .val (.int p3), .val (.int p4), .val (.ref b1), .val (.ref b24), .val (.int (Int32.ofNat mm)), .val (.int (Int32.ofNat tt)), .val (.int x), .val (.ref b27), .val (.ref b89), .unset, .unset, .unset, .unset] [(.ref b24)]))
      refine Goes.step (fun _ hr => XS.iconst X89.here hx rfl (hb hby at_303) hr) ?_
      show Goes p ee below s _ _ _ (T89.setTop (mkF m 304 #[.val (.long p1), .second, .val (.long p2), .second, .val (.int p3), .val (.int p4), .val (.ref b1), .val (.ref b24), .val (.int (Int32.ofNat mm)), .val (.int (Int32.ofNat tt)), .val (.int x), .val (.ref b27), .val (.ref b89), .unset, .unset, .unset, .unset] [(.int (0 : Int32)), (.ref b24)]))
      refine Goes.step (own_baload X89 hx hZ e89 A_p (j := (0 : Int32)) (by decide) (k := 0) rfl (by decide) (v := (.int (0 : Int32))) fp0 (g := (mkF m 304 #[.val (.long p1), .second, .val (.long p2), .second, .val (.int p3), .val (.int p4), .val (.ref b1), .val (.ref b24), .val (.int (Int32.ofNat mm)), .val (.int (Int32.ofNat tt)), .val (.int x), .val (.ref b27), .val (.ref b89), .unset, .unset, .unset, .unset] [(.int (0 : Int32)), (.ref b24)])) rfl rfl (hb hby at_304)) ?_
      show Goes p ee below s _ _ _ (T89.setTop (mkF m 305 #[.val (.long p1), .second, .val (.long p2), .second, .val (.int p3), .val (.int p4), .val (.ref b1), .val (.ref b24), .val (.int (Int32.ofNat mm)), .val (.int (Int32.ofNat tt)), .val (.int x), .val (.ref b27), .val (.ref b89), .unset, .unset, .unset, .unset] [(.int (0 : Int32))]))
      refine Goes.step (fun _ hr => XS.goto X89.here hx rfl (pc0 := 305) (pc' := 310) rfl (hb hby at_305) (by decide) (by decide) hr) ?_
      show Goes p ee below s _ _ _ (T89.setTop (mkF m 310 #[.val (.long p1), .second, .val (.long p2), .second, .val (.int p3), .val (.int p4), .val (.ref b1), .val (.ref b24), .val (.int (Int32.ofNat mm)), .val (.int (Int32.ofNat tt)), .val (.int x), .val (.ref b27), .val (.ref b89), .unset, .unset, .unset, .unset] [(.int (0 : Int32))]))
      exact J310 _
    · refine Goes.step (fun _ hr => XS.ifYes X89.here hx rfl (pc0 := 298) (pc' := 308) rfl (hb hby at_298) rfl ((if0 _ _).trans (feq hc298_127).2) (by decide) (by decide) hr) ?_
      show Goes p ee below s _ _ _ (T89.setTop (mkF m 308 #[.val (.long p1), .second, .val (.long p2), .second, .val (.int p3), .val (.int p4), .val (.ref b1), .val (.ref b24), .val (.int (Int32.ofNat mm)), .val (.int (Int32.ofNat tt)), .val (.int x), .val (.ref b27), .val (.ref b89), .unset, .unset, .unset, .unset] []))
      refine Goes.step (fun _ hr => XS.iload X89.here hx rfl (hb hby at_308) rfl  hr) ?_
      show Goes p ee below s _ _ _ (T89.setTop (mkF m 310 #[.val (.long p1), .second, .val (.long p2), .second, .val (.int p3), .val (.int p4), .val (.ref b1), .val (.ref b24), .val (.int (Int32.ofNat mm)), .val (.int (Int32.ofNat tt)), .val (.int x), .val (.ref b27), .val (.ref b89), .unset, .unset, .unset, .unset] [(.int x)]))
      exact J310 _
  refine Goes.step (fun _ hr => XS.iload X24.here hx rfl (hb hby at_112) rfl  hr) ?_
  show Goes p ee below s _ _ _ (T24.setTop (mkF m 114 #[.val (.long p1), .second, .val (.long p2), .second, .val (.int p3), .val (.int p4), .val (.ref b1), .val (.ref b24), .val (.int (Int32.ofNat mm)), .val (.int (Int32.ofNat tt)), .val (.int p4.toInt8.toInt32), .unset, .unset, .unset, .unset, .unset, .unset] [(.int p4.toInt8.toInt32)]))
  by_cases hc114_128 : p4.toInt8.toInt32 = (0 : Int32)
  · refine Goes.step (fun _ hr => XS.ifNo X24.here hx rfl (hb hby at_114) rfl ((if0 _ _).trans (teq hc114_128).2) hr) ?_
    show Goes p ee below s _ _ _ (T24.setTop (mkF m 117 #[.val (.long p1), .second, .val (.long p2), .second, .val (.int p3), .val (.int p4), .val (.ref b1), .val (.ref b24), .val (.int (Int32.ofNat mm)), .val (.int (Int32.ofNat tt)), .val (.int p4.toInt8.toInt32), .unset, .unset, .unset, .unset, .unset, .unset] []))
    refine Goes.step (fun _ hr => XS.iconst X24.here hx rfl (hb hby at_117) hr) ?_
    show Goes p ee below s _ _ _ (T24.setTop (mkF m 118 #[.val (.long p1), .second, .val (.long p2), .second, .val (.int p3), .val (.int p4), .val (.ref b1), .val (.ref b24), .val (.int (Int32.ofNat mm)), .val (.int (Int32.ofNat tt)), .val (.int p4.toInt8.toInt32), .unset, .unset, .unset, .unset, .unset, .unset] [(.int (1 : Int32))]))
    refine Goes.step (fun _ hr => XS.istore X24.here hx rfl (hb hby at_118) rfl  (l' := #[.val (.long p1), .second, .val (.long p2), .second, .val (.int p3), .val (.int p4), .val (.ref b1), .val (.ref b24), .val (.int (Int32.ofNat mm)), .val (.int (Int32.ofNat tt)), .val (.int (1 : Int32)), .unset, .unset, .unset, .unset, .unset, .unset]) rfl hr) ?_
    show Goes p ee below s _ _ _ (T24.setTop (mkF m 120 #[.val (.long p1), .second, .val (.long p2), .second, .val (.int p3), .val (.int p4), .val (.ref b1), .val (.ref b24), .val (.int (Int32.ofNat mm)), .val (.int (Int32.ofNat tt)), .val (.int (1 : Int32)), .unset, .unset, .unset, .unset, .unset, .unset] []))
    exact J120 _ (by decide) rfl
  · refine Goes.step (fun _ hr => XS.ifYes X24.here hx rfl (pc0 := 114) (pc' := 120) rfl (hb hby at_114) rfl ((if0 _ _).trans (feq hc114_128).2) (by decide) (by decide) hr) ?_
    show Goes p ee below s _ _ _ (T24.setTop (mkF m 120 #[.val (.long p1), .second, .val (.long p2), .second, .val (.int p3), .val (.int p4), .val (.ref b1), .val (.ref b24), .val (.int (Int32.ofNat mm)), .val (.int (Int32.ofNat tt)), .val (.int p4.toInt8.toInt32), .unset, .unset, .unset, .unset, .unset, .unset] []))
    exact J120 _ hc114_128 (own_nb _)
set_option maxRecDepth 65536 in
set_option maxHeartbeats 40000000 in
theorem comes_1 {Post : Tables → Env → Array Value → State → Outcome → State → Prop} (hpost : ∀ tb e args s v u, (limb_1_1.after args s (.returned v) u = true ∧ limb_1_2.after args s (.returned v) u = true ∧ True) → FrameEnd s (.returned v) u (Jvm.fieldLocs frame_1_writes args s ++ Jvm.arrayLocs frame_1_arrays args s ++ Jvm.staticLocs frame_1_statics s) 16 192 → Post tb e args s (.returned v) u) :
    ArmFor flags0 classFile x code maxLocals ret World_1 tables_1 room_1 Calls_1 rest_1 Pre_1 Post := by
  intro l hfl _ _ p e ha hc hk s m args below hf hA hF happ hP
  obtain ⟨hcalls, hrest, hpre⟩ := hP
  obtain ⟨-, -, -, hnamed, -, -, -, hat⟩ := (Spec.applies_iff hf).mp happ
  obtain ⟨hg, hn⟩ := and_e (Cond.before_iff.mp (show (Jvm.Cond.and given_1 narrow_1).before args s = true from hpre))
  obtain ⟨hcount, r0⟩ := and_e hg
  obtain ⟨k0, r1⟩ := and_e r0
  obtain ⟨k1, r2⟩ := and_e r1
  obtain ⟨k2, k3⟩ := and_e r2
  obtain ⟨w0, w1, w2, w3, rfl⟩ : ∃ w0 w1 w2 w3 : Value, args = #[w0, w1, w2, w3] := by
    have hs : args.size = 4 := by simpa [Cond.value, given_1] using hcount
    obtain ⟨L⟩ := args
    match L, hs with
    | [w0, w1, w2, w3], _ => exact ⟨w0, w1, w2, w3, rfl⟩
  have hw := fun d (hd : d ∈ tables_1) => atoms_spec (ws := Jvm.Cond.code x code maxLocals ret :: tables_1) hat d (List.mem_cons_of_mem _ hd)
  obtain ⟨i0, ei0⟩ := isL_v k0
  obtain rfl : w0 = (.long i0) := Option.some.inj ei0
  obtain ⟨i1, ei1⟩ := isL_v k1
  obtain rfl : w1 = (.long i1) := Option.some.inj ei1
  obtain ⟨i2, ei2⟩ := is_v k2
  obtain rfl : w2 = (.int i2) := Option.some.inj ei2
  obtain ⟨i3, ei3⟩ := is_v k3
  obtain rfl : w3 = (.int i3) := Option.some.inj ei3
  obtain ⟨n, o, h1, h2, h3, _, L, rfl, ⟨rfl, N⟩, hq⟩ := rm_law l s _ hw tables_1 i0 i1 i2 i3  s.heap s.heap.size (Nat.le_refl _)  p e ha hc hk s m _ below hf ((Spec.applies_iff_loose hf).mp happ).1 ⟨rfl, State.Warmed39.refl s, rfl⟩ trivial
  refine ⟨n, _, h1, h2, h3, hpost _ _ _ _ _ _ ⟨Cond.after_iff.mpr rfl, Cond.after_iff.mpr (eq_i res_at (Term.int_eval (1)) rfl), trivial⟩ ⟨hq.1, hq.2.1, (hq.2.2.sift fun y hy => Or.inr (N y hy)).mono (by decide) (by decide)⟩⟩
theorem main_1_1 : Claimed_1_1 := comes_1 fun _ _ _ _ _ _ h hF => ⟨h.1, hF⟩
theorem main_1_2 : Claimed_1_2 := comes_1 fun _ _ _ _ _ _ h hF => ⟨h.2.1, hF⟩
end Jvm.Pilot.@@N@@
namespace Jvm.Pilot.@@N@@
open Jvm Jvm.ClassFile Sem Op Lib Jvm.Free Jvm.Stand Jvm.Pilot.@@N@@.Jvm.D
/-! MADE BY PROGRAM (witnessworld.py) out of the Statement's table words and the real class files: 10 classes; the members and pool entries that the words name. The judged class is class 1, her method 2. -/
namespace start1
open Jvm.ClassFile
def u (s : String) : CpInfo := .utf8 (stringToUtf16 s)
/-- a pool by its gaps: so many unusable entries, then the entry; so many at the end -/
def gap : Nat → List CpInfo → List CpInfo
  | 0, r => r
  | n + 1, r => .unusable :: gap n r
def poolList (es : List (Nat × CpInfo)) (last : Nat) : List CpInfo := es.foldr (fun e r => gap e.1 (e.2 :: r)) (gap last [])
def pool (es : List (Nat × CpInfo)) (last : Nat) : Array CpInfo := ⟨poolList es last⟩
def fileOf (pool : Array CpInfo) (this : Nat) (attrs : Array Attribute := #[]) (ms : Array MethodInfo := #[]) (fl : Nat := 33) (sup : Nat := 0) (ifs : Array Nat := #[]) (fds : Array FieldInfo := #[]) : ClassFile where
  minorVersion := 0
  majorVersion := 65
  constantPool := pool
  accessFlags := fl
  thisClass := this
  superClass := sup
  interfaces := ifs
  fields := fds
  methods := ms
  attributes := attrs
def plain (name : String) (sup : Option ClassId) : Class where
  name := name
  kind := .ordinary
  loader := none
  accessFlags := 33
  super := sup
  interfaces := #[]
  cf := none
  fields := #[]
  methods := #[]
  instanceTypes := #[]
  staticTypes := #[]
  resolved := #[]
  callSites := []
  init := .initialized
  statics := none
  mirror := none

def pool0 : Array CpInfo := pool [(5, u "<init>"), (0, u "()V"), (1, .class_ 10), (1, u "java/lang/Object")] 113

def k0m0 : Method := { name := "<init>", desc := "()V", sig := { parameters := [], returnType := none }, accessFlags := 1, code := none }
/-- java/lang/Object -/
def k0 : Class := { plain "java/lang/Object" none with
  accessFlags := 33
  interfaces := #[]
  cf := some (fileOf pool0 8 #[] #[{ accessFlags := 1, nameIndex := 5, descriptorIndex := 6, attributes := #[] }] 33 0 #[] #[])
  fields := #[]
  methods := #[k0m0]
  instanceTypes := #[]
  staticTypes := #[]
  resolved := Array.replicate 124 none
  statics := none }

def pool1 : Array CpInfo := pool [(2, .class_ 4), (1, u "java/lang/Object"), (0, u "<init>"), (0, u "()V"), (0, .methodref 8 9), (0, .class_ 10), (0, .nameAndType 11 12), (0, u "com/example/orbweaver/orbweaver/poa/ObjectKeys"), (0, u "transientPrefix"), (0, u "([B)[B"), (0, .methodref 14 15), (0, .class_ 16), (0, .nameAndType 17 18), (0, u "com/example/orbweaver/orbweaver/poa/ObjectKeysIsTransientPinLaw"), (0, u "put"), (0, u "([BIB)V"), (0, .methodref 8 20), (0, .nameAndType 21 22), (0, u "isTransient"), (0, u "([B)Z"), (3, u "law"), (0, u "(JJII)Z")] 4

def k1m0 : Method := { name := "<init>", desc := "()V", sig := { parameters := [], returnType := none }, accessFlags := 1, code := none }
def k1c1 : Code := { maxStack := 3, maxLocals := 3, code := method_2_code, exceptionTable := #[], attributes := #[] }
def k1m1 : Method := { name := "put", desc := "([BIB)V", sig := { parameters := [(.array .byte), .int, .byte], returnType := none }, accessFlags := 10, code := some k1c1 }
def k1c2 : Code := { maxStack := 5, maxLocals := 17, code := code, exceptionTable := #[], attributes := #[] }
def k1m2 : Method := { name := "law", desc := "(JJII)Z", sig := { parameters := [.long, .long, .int, .int], returnType := some .boolean }, accessFlags := 9, code := some k1c2 }
/-- com/example/orbweaver/orbweaver/poa/ObjectKeysIsTransientPinLaw -/
def k1 : Class := { plain "com/example/orbweaver/orbweaver/poa/ObjectKeysIsTransientPinLaw" (some 0) with
  accessFlags := 49
  interfaces := #[]
  cf := some (fileOf pool1 14 #[] #[{ accessFlags := 1, nameIndex := 5, descriptorIndex := 6, attributes := #[] }, { accessFlags := 10, nameIndex := 17, descriptorIndex := 18, attributes := #[] }, { accessFlags := 9, nameIndex := 26, descriptorIndex := 27, attributes := #[] }] 49 2 #[] #[])
  fields := #[]
  methods := #[k1m0, k1m1, k1m2]
  instanceTypes := #[]
  staticTypes := #[]
  resolved := Array.replicate 32 none
  statics := none }

def pool2 : Array CpInfo := pool [(1, .class_ 2), (0, u "com/example/orbweaver/orbweaver/poa/ObjectKeys"), (1, .class_ 6), (1, u "java/lang/Object"), (0, u "<init>"), (0, u "()V"), (0, .methodref 10 11), (0, .class_ 12), (0, .nameAndType 13 14), (0, u "java/lang/System"), (0, u "arraycopy"), (0, u "(Ljava/lang/Object;ILjava/lang/Object;II)V"), (75, u "INCARNATION_LENGTH"), (0, u "I"), (2, u "TRANSIENT_PREFIX_LENGTH"), (1, u "TRANSIENT"), (0, u "B"), (1, u "PERSISTENT"), (3, u "transientPrefix"), (0, u "([B)[B"), (5, u "isTransient"), (0, u "([B)Z")] 9

def k2m0 : Method := { name := "<init>", desc := "()V", sig := { parameters := [], returnType := none }, accessFlags := 2, code := none }
def k2c1 : Code := { maxStack := 5, maxLocals := 2, code := prog_151_method_2_code, exceptionTable := #[], attributes := #[] }
def k2m1 : Method := { name := "transientPrefix", desc := "([B)[B", sig := { parameters := [(.array .byte)], returnType := some (.array .byte) }, accessFlags := 8, code := some k2c1 }
def k2c2 : Code := { maxStack := 2, maxLocals := 1, code := prog_151_method_4_code, exceptionTable := #[], attributes := #[] }
def k2m2 : Method := { name := "isTransient", desc := "([B)Z", sig := { parameters := [(.array .byte)], returnType := some .boolean }, accessFlags := 8, code := some k2c2 }
/-- com/example/orbweaver/orbweaver/poa/ObjectKeys -/
def k2 : Class := { plain "com/example/orbweaver/orbweaver/poa/ObjectKeys" (some 0) with
  accessFlags := 48
  interfaces := #[]
  cf := some (fileOf pool2 1 #[] #[{ accessFlags := 2, nameIndex := 7, descriptorIndex := 8, attributes := #[] }, { accessFlags := 8, nameIndex := 103, descriptorIndex := 104, attributes := #[] }, { accessFlags := 8, nameIndex := 110, descriptorIndex := 111, attributes := #[] }] 48 4 #[] #[{ accessFlags := 24, nameIndex := 90, descriptorIndex := 91, attributes := #[] }, { accessFlags := 24, nameIndex := 94, descriptorIndex := 91, attributes := #[] }, { accessFlags := 26, nameIndex := 96, descriptorIndex := 97, attributes := #[] }, { accessFlags := 26, nameIndex := 99, descriptorIndex := 97, attributes := #[] }])
  fields := #[{ name := "INCARNATION_LENGTH", type := .int, accessFlags := 24, slot := 0, constantValue := 0 }, { name := "TRANSIENT_PREFIX_LENGTH", type := .int, accessFlags := 24, slot := 1, constantValue := 0 }, { name := "TRANSIENT", type := .byte, accessFlags := 26, slot := 2, constantValue := 0 }, { name := "PERSISTENT", type := .byte, accessFlags := 26, slot := 3, constantValue := 0 }]
  methods := #[k2m0, k2m1, k2m2]
  instanceTypes := #[]
  staticTypes := #[.int, .int, .byte, .byte]
  resolved := Array.replicate 121 none
  statics := none }

def pool3 : Array CpInfo := pool [(2, .class_ 4), (1, u "java/lang/Object"), (0, u "<init>"), (0, u "()V"), (1, .class_ 10), (1, u "java/lang/System"), (0, u "allowSecurityManager"), (0, u "I"), (16, u "cons"), (0, u "Ljava/io/Console;"), (77, .class_ 110), (1, u "java/lang/System$CallersHolder"), (43, u "initialErrStream"), (0, u "Ljava/io/PrintStream;"), (19, u "security"), (0, u "Ljava/lang/SecurityManager;"), (31, .class_ 209), (0, u "java/lang/System$1"), (7, u "props"), (0, u "Ljava/util/Properties;"), (2, u "lineSeparator"), (0, u "Ljava/lang/String;"), (96, .class_ 321), (1, u "java/lang/System$LoggerFinder"), (5, .class_ 328), (0, u "java/lang/System$Logger"), (67, u "err"), (2, u "out"), (91, u "notSupportedJnuEncoding"), (15, u "in"), (17, u "initialIn"), (0, u "Ljava/io/InputStream;"), (35, u "bootLayer"), (0, u "Ljava/lang/ModuleLayer;"), (99, .class_ 664), (0, u "java/lang/System$2"), (9, u "NEVER"), (2, u "MAYBE"), (49, u "arraycopy"), (0, u "(Ljava/lang/Object;ILjava/lang/Object;II)V"), (72, .class_ 802), (0, u "java/lang/System$Logger$Level")] 31

def k3m0 : Method := { name := "<init>", desc := "()V", sig := { parameters := [], returnType := none }, accessFlags := 2, code := none }
def k3m1 : Method := { name := "arraycopy", desc := "(Ljava/lang/Object;ILjava/lang/Object;II)V", sig := { parameters := [(.object "java/lang/Object"), .int, (.object "java/lang/Object"), .int, .int], returnType := none }, accessFlags := 265, code := none }
/-- java/lang/System -/
def k3 : Class := { plain "java/lang/System" (some 0) with
  accessFlags := 49
  interfaces := #[]
  cf := some (fileOf pool3 8 #[.nestMembers #[319, 327, 801, 108, 663, 208]] #[{ accessFlags := 2, nameIndex := 5, descriptorIndex := 6, attributes := #[] }, { accessFlags := 265, nameIndex := 727, descriptorIndex := 728, attributes := #[] }] 49 2 #[] #[{ accessFlags := 25, nameIndex := 507, descriptorIndex := 526, attributes := #[] }, { accessFlags := 25, nameIndex := 399, descriptorIndex := 155, attributes := #[] }, { accessFlags := 25, nameIndex := 396, descriptorIndex := 155, attributes := #[] }, { accessFlags := 10, nameIndex := 525, descriptorIndex := 526, attributes := #[] }, { accessFlags := 26, nameIndex := 674, descriptorIndex := 12, attributes := #[] }, { accessFlags := 26, nameIndex := 677, descriptorIndex := 12, attributes := #[] }, { accessFlags := 10, nameIndex := 11, descriptorIndex := 12, attributes := #[] }, { accessFlags := 74, nameIndex := 175, descriptorIndex := 176, attributes := #[] }, { accessFlags := 10, nameIndex := 491, descriptorIndex := 222, attributes := #[] }, { accessFlags := 74, nameIndex := 29, descriptorIndex := 30, attributes := #[] }, { accessFlags := 74, nameIndex := 154, descriptorIndex := 155, attributes := #[] }, { accessFlags := 10, nameIndex := 217, descriptorIndex := 218, attributes := #[] }, { accessFlags := 10, nameIndex := 221, descriptorIndex := 222, attributes := #[] }, { accessFlags := 8, nameIndex := 562, descriptorIndex := 563, attributes := #[] }])
  fields := #[{ name := "in", type := (.object "java/io/InputStream"), accessFlags := 25, slot := 0, constantValue := 0 }, { name := "out", type := (.object "java/io/PrintStream"), accessFlags := 25, slot := 1, constantValue := 0 }, { name := "err", type := (.object "java/io/PrintStream"), accessFlags := 25, slot := 2, constantValue := 0 }, { name := "initialIn", type := (.object "java/io/InputStream"), accessFlags := 10, slot := 3, constantValue := 0 }, { name := "NEVER", type := .int, accessFlags := 26, slot := 4, constantValue := 0 }, { name := "MAYBE", type := .int, accessFlags := 26, slot := 5, constantValue := 0 }, { name := "allowSecurityManager", type := .int, accessFlags := 10, slot := 6, constantValue := 0 }, { name := "security", type := (.object "java/lang/SecurityManager"), accessFlags := 74, slot := 7, constantValue := 0 }, { name := "notSupportedJnuEncoding", type := (.object "java/lang/String"), accessFlags := 10, slot := 8, constantValue := 0 }, { name := "cons", type := (.object "java/io/Console"), accessFlags := 74, slot := 9, constantValue := 0 }, { name := "initialErrStream", type := (.object "java/io/PrintStream"), accessFlags := 74, slot := 10, constantValue := 0 }, { name := "props", type := (.object "java/util/Properties"), accessFlags := 10, slot := 11, constantValue := 0 }, { name := "lineSeparator", type := (.object "java/lang/String"), accessFlags := 10, slot := 12, constantValue := 0 }, { name := "bootLayer", type := (.object "java/lang/ModuleLayer"), accessFlags := 8, slot := 13, constantValue := 0 }]
  methods := #[k3m0, k3m1]
  instanceTypes := #[]
  staticTypes := #[(.object "java/io/InputStream"), (.object "java/io/PrintStream"), (.object "java/io/PrintStream"), (.object "java/io/InputStream"), .int, .int, .int, (.object "java/lang/SecurityManager"), (.object "java/lang/String"), (.object "java/io/Console"), (.object "java/io/PrintStream"), (.object "java/util/Properties"), (.object "java/lang/String"), (.object "java/lang/ModuleLayer")]
  resolved := Array.replicate 834 none
  statics := none }

def pool4 : Array CpInfo := pool [(1, u "java/lang/Cloneable"), (0, .class_ 1), (0, u "java/lang/Object"), (0, .class_ 3)] 3

/-- java/lang/Cloneable -/
def k4 : Class := { plain "java/lang/Cloneable" (some 0) with
  accessFlags := 1537
  interfaces := #[]
  cf := some (fileOf pool4 2 #[] #[] 1537 4 #[] #[])
  fields := #[]
  methods := #[]
  instanceTypes := #[]
  staticTypes := #[]
  resolved := Array.replicate 8 none
  statics := none }

def pool5 : Array CpInfo := pool [(1, u "java/io/Serializable"), (0, .class_ 1), (0, u "java/lang/Object"), (0, .class_ 3)] 3

/-- java/io/Serializable -/
def k5 : Class := { plain "java/io/Serializable" (some 0) with
  accessFlags := 1537
  interfaces := #[]
  cf := some (fileOf pool5 2 #[] #[] 1537 4 #[] #[])
  fields := #[]
  methods := #[]
  instanceTypes := #[]
  staticTypes := #[]
  resolved := Array.replicate 8 none
  statics := none }

/-- the primitive byte -/
def k6 : Class := { plain "byte" none with kind := .primitive 'B', accessFlags := 0x411 }
/-- [B -/
def k7 : Class := { plain "[B" (some 0) with kind := .array 6 .byte, interfaces := #[4, 5], accessFlags := 1041 }

/-- the primitive int -/
def k8 : Class := { plain "int" none with kind := .primitive 'I', accessFlags := 0x411 }
/-- [I -/
def k9 : Class := { plain "[I" (some 0) with kind := .array 8 .int, interfaces := #[4, 5], accessFlags := 1041 }

def heap : Heap := #[]
def classes : Array Class := #[k0, k1, k2, k3, k4, k5, k6, k7, k8, k9]
def interned : List (Array UInt16 × Addr) := []
def slotsUsed : Nat := 0
def theMethod : MethodId := ⟨1, 2⟩
def args0 : Array Value := #[.long 5, .long 9, .int 3, .int 7]
def aboutOver (below : List Frame) : State where
  vm := { classes := classes, interned := interned.toArray }
  heap := heap
  slotsUsed := slotsUsed
  threads := #[{ frames := .invoking theMethod args0 :: below }]
def below0 : List Frame := [.native { method := ⟨0, 0⟩, args := #[] }]
def about1 : State := aboutOver below0
def p0 : Program := .bare "" "" ""
def e0 : Env := launch0.env 0 0 0
theorem w_frames : about1.frames = Frame.invoking theMethod args0 :: below0 := rfl
set_option maxRecDepth 65536 in
theorem w_args : argsFit about1.vm theMethod args0 = true := by decide +kernel
set_option maxRecDepth 65536 in
theorem w_heap : heapFits about1 = true := by decide +kernel
set_option maxRecDepth 65536 in
theorem w_runnable : about1.curStatus? = some .runnable := by decide +kernel
set_option maxRecDepth 65536 in
theorem w_alone : about1.alone = true := by decide +kernel
set_option maxRecDepth 65536 in
theorem w_named : about1.methodNamed? x = some theMethod := by decide +kernel
set_option maxRecDepth 65536 in
theorem w_hears : about1.hears theMethod below0 = true := by decide +kernel
set_option maxRecDepth 65536 in
theorem w_ripe : about1.ripe theMethod args0 below0 = true := by decide +kernel
theorem w_running : about1.status = .running := rfl
set_option maxRecDepth 65536 in
theorem w_room : about1.hasRoom e0.platform room_1 = true :=
  launch0.hasRoom_least _ room_1 (by decide +kernel) (by decide +kernel) (by decide +kernel) (by decide +kernel) (by decide +kernel) (by decide +kernel)
theorem allAtoms_all (ts : List Jvm.Cond) (a : Array Jvm.Value) (st : Jvm.State) : (allAtoms ts).before a st = ts.all (fun c => c.before a st) := by
  induction ts with
  | nil => rfl
  | cons c t ih =>
    show (Jvm.Cond.and c (allAtoms t)).before a st = _
    rw [Jvm.Cond.before_and, ih, List.all_cons]
def words1 : List Jvm.Cond := Jvm.Cond.code x code maxLocals ret :: tables_1
/-- a 'code' word, met by the world's own term for the bytes: nothing is compared byte by byte -/
theorem code_word {y : MethodName} {bytes : ByteArray} {mx : Nat} {rt : Option FieldType} {a : Array Value} {s : State} {m : MethodId} {meth : Method} {c : Code} (h1 : s.methodNamed? y = some m) (h2 : s.vm.method? m = some meth) (h3 : meth.code = some c) (h4 : c.code = bytes)
    (h5 : (c.maxLocals == mx && c.exceptionTable.isEmpty && decide (c.maxStack ≤ mostOperands) && decide (meth.sig.returnType = rt) && !meth.locks && decide (parseMethodDescriptor y.desc = some meth.sig)) = true) : (Jvm.Cond.code y bytes mx rt).before a s = true := by
  simp only [Bool.and_eq_true, beq_iff_eq, Bool.not_eq_true', decide_eq_true_eq] at h5
  obtain ⟨⟨⟨⟨⟨g1, g2⟩, g3⟩, g4⟩, g5⟩, g6⟩ := h5
  simp [Cond.before, Cond.holds, Cond.value, h1, h2, h3, h4, g1, g2, g3, g4, g5, g6]
def isCode : Jvm.Cond → Bool
  | .code _ _ _ _ => true
  | _ => false
theorem all_split {L : List Jvm.Cond} {P : Jvm.Cond → Bool} (h1 : L.all (fun c => isCode c || P c) = true) (h2 : ∀ c ∈ L.filter isCode, P c = true) : L.all P = true := by
  refine List.all_eq_true.mpr fun c hc => ?_
  have h := List.all_eq_true.mp h1 c hc
  rcases Bool.eq_false_or_eq_true (isCode c) with hi | hi
  · exact h2 c (List.mem_filter.mpr ⟨hc, hi⟩)
  · simpa [hi] using h
set_option maxRecDepth 65536 in
theorem w_c0 : (Jvm.Cond.code x code maxLocals ret).before args0 about1 = true := code_word (m := ⟨1, 2⟩) (meth := k1m2) (c := k1c2) (by decide +kernel) rfl rfl rfl (by decide +kernel)
set_option maxRecDepth 65536 in
theorem w_c1 : (Jvm.Cond.code ({ cls := "com/example/orbweaver/orbweaver/poa/ObjectKeys", name := "transientPrefix", desc := "([B)[B" } : Jvm.MethodName) prog_151_method_2_code (2 : Nat) (Option.some (Jvm.ClassFile.FieldType.array Jvm.ClassFile.FieldType.byte))).before args0 about1 = true := code_word (m := ⟨2, 1⟩) (meth := k2m1) (c := k2c1) (by decide +kernel) rfl rfl rfl (by decide +kernel)
set_option maxRecDepth 65536 in
theorem w_c2 : (Jvm.Cond.code ({ cls := "com/example/orbweaver/orbweaver/poa/ObjectKeysIsTransientPinLaw", name := "put", desc := "([BIB)V" } : Jvm.MethodName) method_2_code (3 : Nat) (Option.none : Option Jvm.ClassFile.FieldType)).before args0 about1 = true := code_word (m := ⟨1, 1⟩) (meth := k1m1) (c := k1c1) (by decide +kernel) rfl rfl rfl (by decide +kernel)
set_option maxRecDepth 65536 in
theorem w_c3 : (Jvm.Cond.code ({ cls := "com/example/orbweaver/orbweaver/poa/ObjectKeys", name := "isTransient", desc := "([B)Z" } : Jvm.MethodName) prog_151_method_4_code (1 : Nat) (Option.some Jvm.ClassFile.FieldType.boolean)).before args0 about1 = true := code_word (m := ⟨2, 2⟩) (meth := k2m2) (c := k2c2) (by decide +kernel) rfl rfl rfl (by decide +kernel)
def codes1 : List Jvm.Cond := [Jvm.Cond.code x code maxLocals ret, Jvm.Cond.code ({ cls := "com/example/orbweaver/orbweaver/poa/ObjectKeys", name := "transientPrefix", desc := "([B)[B" } : Jvm.MethodName) prog_151_method_2_code (2 : Nat) (Option.some (Jvm.ClassFile.FieldType.array Jvm.ClassFile.FieldType.byte)), Jvm.Cond.code ({ cls := "com/example/orbweaver/orbweaver/poa/ObjectKeysIsTransientPinLaw", name := "put", desc := "([BIB)V" } : Jvm.MethodName) method_2_code (3 : Nat) (Option.none : Option Jvm.ClassFile.FieldType), Jvm.Cond.code ({ cls := "com/example/orbweaver/orbweaver/poa/ObjectKeys", name := "isTransient", desc := "([B)Z" } : Jvm.MethodName) prog_151_method_4_code (1 : Nat) (Option.some Jvm.ClassFile.FieldType.boolean)]
set_option maxRecDepth 65536 in
theorem codes_eq : words1.filter isCode = codes1 := rfl
theorem w_codes : ∀ c ∈ words1.filter isCode, c.before args0 about1 = true := by
  rw [codes_eq]
  intro c hc
  simp only [codes1, List.mem_cons, List.not_mem_nil, or_false] at hc
  rcases hc with rfl | rfl | rfl | rfl
  · exact w_c0
  · exact w_c1
  · exact w_c2
  · exact w_c3
set_option maxRecDepth 65536 in
theorem w_t1 : words1.all (fun c => isCode c || c.before args0 about1) = true := by decide +kernel
theorem w_tables : (allAtoms (Jvm.Cond.code x code maxLocals ret :: tables_1)).before args0 about1 = true := by
  rw [allAtoms_all]
  show words1.all (fun c => c.before args0 about1) = true
  refine all_split ?_ w_codes
  rw [w_t1]
set_option maxRecDepth 65536 in
theorem w_case : (Jvm.Cond.and given_1 narrow_1).before args0 about1 = true := by decide +kernel
theorem w_applies : (headSpec (Jvm.Cond.code x code maxLocals ret :: tables_1) room_1).applies x e0.platform about1 = true :=
  (Spec.applies_iff w_frames).mpr ⟨w_running, w_runnable, w_alone, w_named, w_hears, w_ripe, w_room, w_tables⟩
theorem atStart : AtStart classFile x code maxLocals ret World_1 tables_1 room_1 Calls_1 rest_1 Pre_1 launch0 p0 e0 about1 theMethod args0 below0 :=
  ⟨lists_1, trivial, launch0.admits_env _ _ _, launch0.least_env, fairChoices_fair.cas, fairChoices_fair.clock, w_frames, w_args, w_heap, w_applies, trivial, trivial, w_case⟩
end start1
theorem witness_1 : WitnessClaimed_1 := ⟨start1.p0, start1.e0, start1.about1, start1.theMethod, start1.args0, start1.below0, start1.atStart⟩
end Jvm.Pilot.@@N@@
