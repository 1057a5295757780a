import JvmDerived
import JvmDerived.Pilot.@@N@@Statement
import JvmDerived.Pilot.@@N@@Code
set_option linter.unusedVariables false
set_option linter.unusedSimpArgs false
namespace Jvm.Pilot.@@N@@
open Jvm Jvm.ClassFile Sem Op Lib Jvm.Free Jvm.Stand Jvm.LawKit Jvm.RoadKit Bundle Jvm.Pilot.@@N@@.Jvm.D
section OwnNums
theorem own_toInt (n : Nat) (h : n < 2 ^ 31) : (Int32.ofNat n).toInt = n := Int32.toInt_ofNat_of_lt h
theorem own_eq {x : Int32} {n : Nat} (h : n < 2 ^ 31) (e : x.toInt = n) : x = Int32.ofNat n := by rw [← Int32.toInt_inj, own_toInt n h, e]
theorem own_ltN (a b : Nat) (ha : a < 2 ^ 31) (hb : b < 2 ^ 31) : Int32.ofNat a < Int32.ofNat b ↔ a < b := by
  rw [Int32.lt_iff_toInt_lt, own_toInt a ha, own_toInt b hb]; omega
theorem own_eqN (a b : Nat) (ha : a < 2 ^ 31) (hb : b < 2 ^ 31) : Int32.ofNat a = Int32.ofNat b ↔ a = b := by
  rw [← Int32.toInt_inj, own_toInt a ha, own_toInt b hb]; omega
theorem own_addN (a b : Nat) : Int32.ofNat a + Int32.ofNat b = Int32.ofNat (a + b) := (Int32.ofNat_add a b).symm
theorem own_subI (a b : Nat) (ha : a < 2 ^ 31) (hb : b < 2 ^ 31) : (Int32.ofNat a - Int32.ofNat b).toInt = (a : Int) - b := by
  rw [Int32.toInt_sub, own_toInt a ha, own_toInt b hb]
  exact Int.bmod_eq_of_le (by omega) (by omega)
theorem own_subN (a b : Nat) (ha : a < 2 ^ 31) (hb : b ≤ a) : Int32.ofNat a - Int32.ofNat b = Int32.ofNat (a - b) :=
  own_eq (by omega) (by rw [own_subI a b ha (by omega)]; omega)
theorem own_clamp (a : Nat) (ha : a < 2 ^ 31) : (Int32.ofNat a).toNatClampNeg = a := by
  show (Int32.ofNat a).toInt.toNat = a
  rw [own_toInt a ha]; rfl
theorem own_nneg (a : Nat) (ha : a < 2 ^ 31) : ¬ Int32.ofNat a < 0 := by
  rw [Int32.lt_iff_toInt_lt, own_toInt a ha]
  have : (0 : Int32).toInt = 0 := rfl
  omega
theorem own_ixs (a b : Nat) (ha : a < 2 ^ 31) (hb : b ≤ a) : ¬ (Int32.ofNat a - Int32.ofNat b < 0) ∧ (Int32.ofNat a - Int32.ofNat b).toNatClampNeg = a - b := by
  rw [own_subN a b ha hb]; exact ⟨own_nneg _ (by omega), own_clamp _ (by omega)⟩
theorem own_ixa (a b : Nat) (ha : a + b < 2 ^ 31) : ¬ (Int32.ofNat a + Int32.ofNat b < 0) ∧ (Int32.ofNat a + Int32.ofNat b).toNatClampNeg = a + b := by
  rw [own_addN]; exact ⟨own_nneg _ ha, own_clamp _ ha⟩
/-- a small natural behind a mask and a remainder -/
theorem own_small (x : Int32) (k : Nat) (hk0 : 0 < k) (hk : k < 2 ^ 31) : ∃ n : Nat, n < k ∧ (x &&& 2147483647) % Int32.ofNat k = Int32.ofNat n := by
  obtain ⟨q1, q2⟩ := c_and x 2147483647 (by decide)
  obtain ⟨c1, -⟩ := c_irem (x &&& 2147483647) (Int32.ofNat k) k (own_toInt k hk)
  have h1 := c1 q1
  have h2 := Int.emod_nonneg (x &&& 2147483647).toInt (b := (k : Int)) (by omega)
  have h3 := Int.emod_lt_of_pos (x &&& 2147483647).toInt (b := (k : Int)) (by omega)
  exact ⟨((x &&& 2147483647) % Int32.ofNat k).toInt.toNat, by omega, own_eq (by omega) (by omega)⟩
/-- a small natural behind a mask -/
theorem own_masked (x : Int32) (k : Nat) (hk : k < 2 ^ 31) : ∃ n : Nat, n ≤ k ∧ x &&& Int32.ofNat k = Int32.ofNat n := by
  have h0 := own_toInt k hk
  obtain ⟨q1, q2⟩ := c_and x (Int32.ofNat k) (by omega)
  exact ⟨(x &&& Int32.ofNat k).toInt.toNat, by omega, own_eq (by omega) (by omega)⟩
theorem own_cmp (x y : Int64) : XT.cmpL x y = 0 ↔ x = y := lw_eq x y
theorem own_cmplt (x y : Int64) : XT.cmpL x y < 0 ↔ x < y := lw_lt x y
theorem own_cmpgt (x y : Int64) : 0 < XT.cmpL x y ↔ y < x := lw_gt x y
end OwnNums
section OwnLayer
variable {p : Program} {l : Launch} {e : Env} {R : Room} {s : State} {m : MethodId} {args : Array Value} {below : List Frame} {meth : Method} {c : Code} {T : State} {locs : List Loc} {cells slots : Nat} {Z : State} {a0 : Array Value} {h h' : Heap}
/-- from U the run comes to a return of which Q tells (value, heap, written places), within rc cells and rs slots -/
def Goes (p : Program) (e : Env) (below : List Frame) (s : State) (rc rs : Nat) (Q : Option Value → Heap → List Loc → Prop) (U : State) : Prop :=
  ∃ t o, Steps p.tables e below U t ∧ t.status = .running ∧ Ended t below o ∧ ∃ v L, o = .returned v ∧ Q v t.heap L ∧ FrameEnd s o t L rc rs
theorem Goes.step {rc rs : Nat} {Q : Option Value → Heap → List Loc → Prop} {U V : State} (st : ∀ t, Steps p.tables e below V t → Steps p.tables e below U t) (k : Goes p e below s rc rs Q V) : Goes p e below s rc rs Q U := by
  obtain ⟨t, o, k1, k2⟩ := k
  exact ⟨t, o, st t k1, k2⟩
theorem Goes.ret {rc rs : Nat} {Q : Option Value → Heap → List Loc → Prop} (X : Stand p l e R s m args below meth c T locs cells slots) (hx : p.tables.exec = Jvm.exec) (hlk : meth.locks = false) {pc : Nat} {Ls : Array Slot} {w : Value} {t : FieldType} {i : Instr} {rest : List Value} (hret : meth.sig.returnType = some t) (hn : narrow t w = w)
    (hi : (i = .ireturn ∧ (t = .int ∨ t = .boolean ∨ t = .byte ∨ t = .char ∨ t = .short) ∧ ∃ z, w = .int z) ∨ (i = .lreturn ∧ t = .long ∧ ∃ z, w = .long z) ∨ (i = .dreturn ∧ t = .double ∧ ∃ z, w = .double z) ∨ (i = .freturn ∧ t = .float ∧ ∃ z, w = .float z) ∨ (i = .areturn ∧ t.isReference = true ∧ w.isRef = true))
    (hd : decode c.code pc = .ok (i, 1)) (hc : cells ≤ rc) (hs : slots ≤ rs) (hQ : Q (some w) T.heap locs) : Goes p e below s rc rs Q (T.setTop (mkF m pc Ls (w :: rest))) := by
  obtain ⟨fs, hr, hrun, hended, hW, hsame⟩ := X.leave (v := some w) (fun h => by rw [hret] at h; cases h) hlk
  exact ⟨_, _, retOut X hx hret hn hi hd hr, hrun, hended, _, _, rfl, hQ, ⟨_, rfl⟩, hW, hsame.mono hc hs⟩
theorem Goes.retI {rc rs : Nat} {Q : Option Value → Heap → List Loc → Prop} (X : Stand p l e R s m args below meth c T locs cells slots) (hx : p.tables.exec = Jvm.exec) (hlk : meth.locks = false) {pc : Nat} {Ls : Array Slot} {z : Int32} {rest : List Value} (hret : meth.sig.returnType = some .int)
    (hd : decode c.code pc = .ok (.ireturn, 1)) (hc : cells ≤ rc) (hs : slots ≤ rs) (hQ : Q (some (.int z)) T.heap locs) : Goes p e below s rc rs Q (T.setTop (mkF m pc Ls (.int z :: rest))) :=
  Goes.ret X hx hlk hret rfl (Or.inl ⟨rfl, Or.inl rfl, _, rfl⟩) hd hc hs hQ
theorem Goes.retZ {rc rs : Nat} {Q : Option Value → Heap → List Loc → Prop} (X : Stand p l e R s m args below meth c T locs cells slots) (hx : p.tables.exec = Jvm.exec) (hlk : meth.locks = false) {pc : Nat} {Ls : Array Slot} {z : Int32} {t : FieldType} {rest : List Value} (hret : meth.sig.returnType = some t)
    (ht : t = .boolean ∨ t = .byte ∨ t = .char ∨ t = .short) (hn : narrow t (.int z) = .int z)
    (hd : decode c.code pc = .ok (.ireturn, 1)) (hc : cells ≤ rc) (hs : slots ≤ rs) (hQ : Q (some (.int z)) T.heap locs) : Goes p e below s rc rs Q (T.setTop (mkF m pc Ls (.int z :: rest))) :=
  Goes.ret X hx hlk hret hn (Or.inl ⟨rfl, Or.inr ht, _, rfl⟩) hd hc hs hQ
theorem Goes.retJ {rc rs : Nat} {Q : Option Value → Heap → List Loc → Prop} (X : Stand p l e R s m args below meth c T locs cells slots) (hx : p.tables.exec = Jvm.exec) (hlk : meth.locks = false) {pc : Nat} {Ls : Array Slot} {z : Int64} {rest : List Value} (hret : meth.sig.returnType = some .long)
    (hd : decode c.code pc = .ok (.lreturn, 1)) (hc : cells ≤ rc) (hs : slots ≤ rs) (hQ : Q (some (.long z)) T.heap locs) : Goes p e below s rc rs Q (T.setTop (mkF m pc Ls (.long z :: rest))) :=
  Goes.ret X hx hlk hret rfl (Or.inr (Or.inl ⟨rfl, rfl, _, rfl⟩)) hd hc hs hQ
theorem own_narrow_ref {t : FieldType} {w : Value} (hw : w.isRef = true) : narrow t w = w := by
  cases w <;> simp [Value.isRef] at hw <;> cases t <;> rfl
theorem Goes.retA {rc rs : Nat} {Q : Option Value → Heap → List Loc → Prop} (X : Stand p l e R s m args below meth c T locs cells slots) (hx : p.tables.exec = Jvm.exec) (hlk : meth.locks = false) {pc : Nat} {Ls : Array Slot} {w : Value} {t : FieldType} {rest : List Value} (hret : meth.sig.returnType = some t)
    (ht : t.isReference = true) (hw : w.isRef = true)
    (hd : decode c.code pc = .ok (.areturn, 1)) (hc : cells ≤ rc) (hs : slots ≤ rs) (hQ : Q (some w) T.heap locs) : Goes p e below s rc rs Q (T.setTop (mkF m pc Ls (w :: rest))) :=
  Goes.ret X hx hlk hret (own_narrow_ref hw) (Or.inr (Or.inr (Or.inr (Or.inr ⟨rfl, ht, hw⟩)))) hd hc hs hQ
theorem Goes.retV {rc rs : Nat} {Q : Option Value → Heap → List Loc → Prop} (X : Stand p l e R s m args below meth c T locs cells slots) (hx : p.tables.exec = Jvm.exec) (hlk : meth.locks = false) {pc : Nat} {Ls : Array Slot} (hret : meth.sig.returnType = none)
    (hd : decode c.code pc = .ok (.return_, 1)) (hc : cells ≤ rc) (hs : slots ≤ rs) (hQ : Q none T.heap locs) : Goes p e below s rc rs Q (T.setTop (mkF m pc Ls [])) := by
  obtain ⟨fs, hr, hrun, hended, hW, hsame⟩ := X.leave (v := none) (fun _ => rfl) hlk
  exact ⟨_, _, X.returnOut hx hret hd hr, hrun, hended, _, _, rfl, hQ, ⟨_, rfl⟩, hW, hsame.mono hc hs⟩
/-- a static call by its contract -/
theorem own_callS (X : Stand p l e R s m args below meth c T locs cells slots) (hx : p.tables.exec = Jvm.exec) (hZ : Z.Warmed39 s.vm) {own : String} {index : Nat} {y : MethodName} {bytes : ByteArray} {maxL : Nat} {ret : Option FieldType} (hown : s.vm.findClass own = some m.cls)
    (w1 : (Cond.methodLink own index y).before a0 Z = true) (w2 : (Cond.static y).before a0 Z = true) (w3 : (Cond.initialized y.cls).before a0 Z = true) (w4 : (Cond.code y bytes maxL ret).before a0 Z = true) (hy : y.cls ≠ "java/lang/invoke/MethodHandle" ∧ y.cls ≠ "java/lang/invoke/VarHandle")
    {rm : Room} {argsL : List Value} {Q : Option Value → Heap → List Loc → Prop}
    (hM : MetFree l y (head1 [Cond.code y bytes maxL ret] rm) (fun a U => a = argsL.toArray ∧ Z.Warmed39 U.vm ∧ U.heap = h) (fun _ _ _ _ _ => True) (fun _ U o U' => ∃ v L, o = .returned v ∧ Q v U'.heap L ∧ FrameEnd U o U' L rm.cells rm.slots))
    (eT : T.heap = h) {W : Nat} (hf : rm.frames + 1 ≤ R.frames) (hl : W + (maxL + 11) + rm.locals ≤ R.locals) (hc : cells + rm.cells ≤ R.cells) (hsl : slots + rm.slots ≤ R.slots)
    {g : JFrame} (hg : g.method = m) (hsize : g.locals.size = c.maxLocals) {rest : List Value} (hlen : ∀ sig, parseMethodDescriptor y.desc = some sig → argsL.length = sig.parameters.length)
    (hstack : g.stack = argsL.reverse ++ rest) (hW : 2 * g.monitorRoom + (rest.map fun v => v.category).sum ≤ W) (hdg : decode c.code g.pc = .ok (.invokestatic index, 3)) :
    ∃ (v : Option Value) (T' : State) (L : List Loc), Stand p l e R s m args below meth c T' (locs ++ L) (cells + rm.cells) (slots + rm.slots) ∧ Q v T'.heap L ∧
      ∀ t, Steps p.tables e below (T'.setTop { g with pc := g.pc + 3, stack := v.toList ++ rest }) t → Steps p.tables e below (T.setTop g) t := by
  obtain ⟨v, _, ⟨U, Ls, k, n⟩, -, X', ⟨Lc, hQ, l1, y1, z1⟩, st⟩ := Jvm.LawKit.callS X hx (y := y) hown (mvT hZ w1) (mvT hZ w2) (mvT hZ w3) (mvT hZ w4) hy (backOf (W := W) hM hZ w4 w3 hf hl) hg hsize (argsL := argsL) (rest := rest) hlen hstack hW hdg (fun _ _ => ⟨rfl, eT, hc, hsl⟩)
  dsimp only [Pt.U, Pt.locs, Pt.cells, Pt.slots] at X' l1 y1 z1 st hQ
  subst l1 y1 z1
  exact ⟨v, U, Lc, X', hQ, st⟩
/-- a constructor's call by its contract -/
theorem own_callN (X : Stand p l e R s m args below meth c T locs cells slots) (hx : p.tables.exec = Jvm.exec) (hZ : Z.Warmed39 s.vm) {own : String} {index : Nat} {y : MethodName} {bytes : ByteArray} {maxL : Nat} (hy1 : y.name = "<init>") (hown : s.vm.findClass own = some m.cls)
    (w1 : (Cond.methodLink own index y).before a0 Z = true) (w2 : (Cond.instanceMethod y).before a0 Z = true) (w3 : (Cond.initialized y.cls).before a0 Z = true) (w4 : (Cond.code y bytes maxL none).before a0 Z = true) (hy : y.cls ≠ "java/lang/invoke/MethodHandle" ∧ y.cls ≠ "java/lang/invoke/VarHandle")
    {rm : Room} {a : Addr} {argsL : List Value} {Q : Option Value → Heap → List Loc → Prop}
    (hM : MetFree l y (head1 [Cond.code y bytes maxL none] rm) (fun b U => b = (.ref a :: argsL).toArray ∧ Z.Warmed39 U.vm ∧ U.heap = h) (fun _ _ _ _ _ => True) (fun _ U o U' => ∃ v L, o = .returned v ∧ Q v U'.heap L ∧ FrameEnd U o U' L rm.cells rm.slots))
    (eT : T.heap = h) {W : Nat} (hf : rm.frames + 1 ≤ R.frames) (hl : W + (maxL + 11) + rm.locals ≤ R.locals) (hc : cells + rm.cells ≤ R.cells) (hsl : slots + rm.slots ≤ R.slots)
    {g : JFrame} (hg : g.method = m) (hsize : g.locals.size = c.maxLocals) {rest : List Value} (hlen : ∀ sig, parseMethodDescriptor y.desc = some sig → argsL.length = sig.parameters.length)
    (hstack : g.stack = argsL.reverse ++ .ref a :: rest) (hW : 2 * g.monitorRoom + (rest.map fun v => v.category).sum ≤ W) (hdg : decode c.code g.pc = .ok (.invokespecial index, 3)) :
    ∃ (v : Option Value) (T' : State) (L : List Loc), Stand p l e R s m args below meth c T' (locs ++ L) (cells + rm.cells) (slots + rm.slots) ∧ Q v T'.heap L ∧
      ∀ t, Steps p.tables e below (T'.setTop { g with pc := g.pc + 3, stack := v.toList ++ rest }) t → Steps p.tables e below (T.setTop g) t := by
  obtain ⟨v, _, ⟨U, Ls, k, n⟩, -, X', ⟨Lc, hQ, l1, y1, z1⟩, st⟩ := X.specialBack hx (y := y) hy1 hown (mvT hZ w1) (mvT hZ w2) (mvT hZ w4) hy (backOf (W := W) hM hZ w4 w3 hf hl) hg hsize (Steps.refl _) (a := a) (argsL := argsL) (rest := rest) hlen hstack hW hdg (fun _ _ => ⟨rfl, eT, hc, hsl⟩)
  dsimp only [Pt.U, Pt.locs, Pt.cells, Pt.slots] at X' l1 y1 z1 st hQ
  subst l1 y1 z1
  exact ⟨v, U, Lc, X', hQ, fun t k => st.trans k⟩
/-- an instance method's call by its contract -/
theorem own_callV (X : Stand p l e R s m args below meth c T locs cells slots) (hx : p.tables.exec = Jvm.exec) (hZ : Z.Warmed39 s.vm) {own C : String} {index : Nat} {y : MethodName} {bytes : ByteArray} {maxL : Nat} {ret : Option FieldType} (hown : s.vm.findClass own = some m.cls)
    (w1 : (Cond.methodLink own index y).before a0 Z = true) (w2 : (Cond.declares y).before a0 Z = true) (w5 : (Cond.selects C y y).before a0 Z = true) (w6 : (Cond.instanceMethod y).before a0 Z = true) (w3 : (Cond.initialized y.cls).before a0 Z = true) (w4 : (Cond.code y bytes maxL ret).before a0 Z = true) (hy : y.cls ≠ "java/lang/invoke/MethodHandle" ∧ y.cls ≠ "java/lang/invoke/VarHandle")
    {rm : Room} {a : Addr} {argsL : List Value} {Q : Option Value → Heap → List Loc → Prop}
    (hM : MetFree l y (head1 [Cond.code y bytes maxL ret] rm) (fun b U => b = (.ref a :: argsL).toArray ∧ Z.Warmed39 U.vm ∧ U.heap = h) (fun _ _ _ _ _ => True) (fun _ U o U' => ∃ v L, o = .returned v ∧ Q v U'.heap L ∧ FrameEnd U o U' L rm.cells rm.slots))
    (eT : T.heap = h) (E : Exa Z h a C) {W : Nat} (hf : rm.frames + 1 ≤ R.frames) (hl : W + (maxL + 11) + rm.locals ≤ R.locals) (hc : cells + rm.cells ≤ R.cells) (hsl : slots + rm.slots ≤ R.slots)
    {g : JFrame} (hg : g.method = m) (hsize : g.locals.size = c.maxLocals) {rest : List Value} (hlen : ∀ sig, parseMethodDescriptor y.desc = some sig → argsL.length = sig.parameters.length)
    (hstack : g.stack = argsL.reverse ++ .ref a :: rest) (hW : 2 * g.monitorRoom + (rest.map fun v => v.category).sum ≤ W) (hdg : decode c.code g.pc = .ok (.invokevirtual index, 3)) :
    ∃ (v : Option Value) (T' : State) (L : List Loc), Stand p l e R s m args below meth c T' (locs ++ L) (cells + rm.cells) (slots + rm.slots) ∧ Q v T'.heap L ∧
      ∀ t, Steps p.tables e below (T'.setTop { g with pc := g.pc + 3, stack := v.toList ++ rest }) t → Steps p.tables e below (T.setTop g) t := by
  obtain ⟨cB, kB, qa, qb, qc⟩ := isOf hZ eT E
  obtain ⟨v, _, ⟨U, Ls, k, n⟩, -, X', ⟨Lc, hQ, l1, y1, z1⟩, st⟩ := X.virtualBack hx (y := y) (z := y) hown (mvT hZ w1) (mvT hZ w2) (notFace_of_selects (args := #[]) (mvT hZ w5)) (mvT hZ w5) (mvT hZ w6) hy (backOf (W := W) hM hZ w4 w3 hf hl) qa qc hg hsize (Steps.refl _) (argsL := argsL) (rest := rest) hlen hstack hW hdg (fun _ _ => ⟨rfl, eT, hc, hsl⟩)
  dsimp only [Pt.U, Pt.locs, Pt.cells, Pt.slots] at X' l1 y1 z1 st hQ
  subst l1 y1 z1
  exact ⟨v, U, Lc, X', hQ, fun t k => st.trans k⟩
/-- an interface method's call by its contract -/
theorem own_callI (X : Stand p l e R s m args below meth c T locs cells slots) (hx : p.tables.exec = Jvm.exec) (hZ : Z.Warmed39 s.vm) {own C : String} {index count : Nat} {xi z : MethodName} {bytes : ByteArray} {maxL : Nat} {ret : Option FieldType} (hown : s.vm.findClass own = some m.cls)
    (w1 : (Cond.methodLink own index xi).before a0 Z = true) (w2 : (Cond.declares xi).before a0 Z = true) (w7 : (Cond.interfaceMethod xi.cls xi.cls xi.name xi.desc).before a0 Z = true) (w5 : (Cond.selects C xi z).before a0 Z = true) (w6 : (Cond.instanceMethod z).before a0 Z = true) (w8 : (Cond.publicMethod z).before a0 Z = true) (w9 : (Cond.unhidden C xi.name xi.desc).before a0 Z = true) (w10 : (Cond.castable C xi.cls).before a0 Z = true)
    (hfa : ((Cond.interfaceMethod xi.cls xi.cls xi.name xi.desc).onTables && (Cond.interfaceMethod xi.cls xi.cls xi.name xi.desc).keepsFace) = true) (w3 : (Cond.initialized z.cls).before a0 Z = true) (w4 : (Cond.code z bytes maxL ret).before a0 Z = true) (hy : xi.cls ≠ "java/lang/invoke/MethodHandle" ∧ xi.cls ≠ "java/lang/invoke/VarHandle")
    {rm : Room} {a : Addr} {argsL : List Value} {Q : Option Value → Heap → List Loc → Prop}
    (hM : MetFree l z (head1 [Cond.code z bytes maxL ret] rm) (fun b U => b = (.ref a :: argsL).toArray ∧ Z.Warmed39 U.vm ∧ U.heap = h) (fun _ _ _ _ _ => True) (fun _ U o U' => ∃ v L, o = .returned v ∧ Q v U'.heap L ∧ FrameEnd U o U' L rm.cells rm.slots))
    (eT : T.heap = h) (E : Exa Z h a C) {W : Nat} (hf : rm.frames + 1 ≤ R.frames) (hl : W + (maxL + 11) + rm.locals ≤ R.locals) (hc : cells + rm.cells ≤ R.cells) (hsl : slots + rm.slots ≤ R.slots)
    {g : JFrame} (hg : g.method = m) (hsize : g.locals.size = c.maxLocals) {rest : List Value} (hlen : ∀ sig, parseMethodDescriptor xi.desc = some sig → argsL.length = sig.parameters.length)
    (hstack : g.stack = argsL.reverse ++ .ref a :: rest) (hW : 2 * g.monitorRoom + (rest.map fun v => v.category).sum ≤ W) (hdg : decode c.code g.pc = .ok (.invokeinterface index count, 5)) :
    ∃ (v : Option Value) (T' : State) (L : List Loc), Stand p l e R s m args below meth c T' (locs ++ L) (cells + rm.cells) (slots + rm.slots) ∧ Q v T'.heap L ∧
      ∀ t, Steps p.tables e below (T'.setTop { g with pc := g.pc + 5, stack := v.toList ++ rest }) t → Steps p.tables e below (T.setTop g) t := by
  obtain ⟨cB, kB, qa, qb, qc⟩ := isOf hZ eT E
  obtain ⟨v, _, ⟨U, Ls, k, n⟩, -, X', ⟨Lc, hQ, l1, y1, z1⟩, st⟩ := X.interfaceBack hx (xi := xi) (y := z) hown (mvT hZ w1) (mvT hZ w2) (mvT hZ w7 hfa) (mvT hZ w5) (mvT hZ w6) (mvT hZ w8) (mvT hZ w9) (mvT hZ w10) hy (backOf (W := W) hM hZ w4 w3 hf hl) qa qb qc hg hsize (Steps.refl _) (argsL := argsL) (rest := rest) hlen hstack hW hdg (fun _ _ => ⟨rfl, eT, hc, hsl⟩)
  dsimp only [Pt.U, Pt.locs, Pt.cells, Pt.slots] at X' l1 y1 z1 st hQ
  subst l1 y1 z1
  exact ⟨v, U, Lc, X', hQ, fun t k => st.trans k⟩
/-- an array: of n places, place j holds f j -/
def OA (Z : State) (h : Heap) (a : Addr) (ty : FieldType) (n : Nat) (f : Nat → Value) : Prop :=
  ∃ c : Cell, Arr Z h a c ty ∧ c.slots.size = n ∧ n < 2 ^ 31 ∧ ∀ j, j < n → c.slots[j]? = some (f j) ∧ fits ty (f j) = true
variable {a b : Addr} {ty : FieldType} {n k sl : Nat} {f f' : Nat → Value} {v w : Value} {j : Int32} {ws : List Addr}
theorem OA.ext (A : OA Z h a ty n f) (E : Ext h h') : OA Z h' a ty n f := by obtain ⟨c, A, r⟩ := A; exact ⟨c, A.ext E, r⟩
theorem OA.other (A : OA Z h b ty n f) (W : Wr h h' a sl v) (q : b ≠ a) : OA Z h' b ty n f := by obtain ⟨c, A, r⟩ := A; exact ⟨c, A.other W q, r⟩
theorem OA.keep (A : OA Z h a ty n f) (K : Keep h h' ws) (q : a ∉ ws) : OA Z h' a ty n f := by obtain ⟨c, A, r⟩ := A; exact ⟨c, ⟨K.2.1 a c A.1 q, A.2⟩, r⟩
theorem OA.lt (A : OA Z h a ty n f) : a < h.size := by obtain ⟨c, A, -⟩ := A; exact A.lt
theorem OA.congr (A : OA Z h a ty n f) (q : ∀ j, j < n → f j = f' j) : OA Z h a ty n f' := by
  obtain ⟨c, A, r1, r2, H⟩ := A
  exact ⟨c, A, r1, r2, fun j hj => by rw [← q j hj]; exact H j hj⟩
theorem OA.new {cA : ClassId} {z : Int32} (A : Arr Z h a (newA cA ty z) ty) (hf : fits ty (defaultValue ty) = true) (e : z.toNatClampNeg = n) : OA Z h a ty n (fun _ => defaultValue ty) := by
  refine ⟨_, A, by rw [sz_new]; exact e, ?_, fun j hj => ⟨?_, hf⟩⟩
  · have := z.toInt_lt
    have h2 : z.toNatClampNeg = z.toInt.toNat := rfl
    omega
  · simp [newA, e, hj]
theorem OA.set (A : OA Z h a ty n f) (W : Wr h h' a j.toNatClampNeg v) (e : j.toNatClampNeg = k) (hv : fits ty v = true) : OA Z h' a ty n (fun i => if i = k then v else f i) := by
  obtain ⟨c, A, r1, r2, H⟩ := A
  refine ⟨_, A.same W, by rw [sz_set]; exact r1, r2, fun i hi => ?_⟩
  obtain ⟨H1, H2⟩ := H i hi
  subst e
  by_cases q : i = j.toNatClampNeg
  · subst q
    dsimp only
    rw [if_pos rfl]
    exact ⟨by simp [Cell.setSlot, r1, hi], hv⟩
  · dsimp only
    rw [if_neg q]
    refine ⟨?_, H2⟩
    rw [← H1]
    simp [Cell.setSlot, Array.getElem?_setIfInBounds, Ne.symm q]
theorem OA.at (A : OA Z h a ty n f) (hj : ¬ j < 0) (e : j.toNatClampNeg = k) (hk : k < n) : ∃ c : Cell, Arr Z h a c ty ∧ ¬ (j < 0 ∨ c.slots.size ≤ j.toNatClampNeg) ∧ c.slots[j.toNatClampNeg]? = some (f k) ∧ fits ty (f k) = true := by
  obtain ⟨c, A, r1, r2, H⟩ := A
  obtain ⟨H1, H2⟩ := H k hk
  refine ⟨c, A, ?_, by rw [e]; exact H1, H2⟩
  rintro (q | q)
  · exact hj q
  · omega
theorem OA.fits (A : OA Z h a ty n f) (hk : k < n) : fits ty (f k) = true := by
  obtain ⟨c, A, r1, r2, H⟩ := A
  exact (H k hk).2
theorem own_alen (X : Stand p l e R s m args below meth c T locs cells slots) (hx : p.tables.exec = Jvm.exec) (hZ : Z.Warmed39 s.vm) (eT : T.heap = h) (A : OA Z h a ty n f) {z : Int32} (hz : z = n.toInt32)
    {g : JFrame} (hg : g.method = m) {rest : List Value} (hs : g.stack = .ref a :: rest) (hd : decode c.code g.pc = .ok (.arraylength, 1)) :
    ∀ t, Steps p.tables e below (T.setTop { g with pc := g.pc + 1, stack := .int z :: rest }) t → Steps p.tables e below (T.setTop g) t := by
  obtain ⟨cl, A, r1, r2, H⟩ := A
  intro t k
  refine X.arraylength hx (by rw [eT]; exact A.1) (State.isArrayOf_alike hZ.alike A.2.1) hg hs hd t ?_
  rw [r1, ← hz]
  exact k
theorem own_iaload (X : Stand p l e R s m args below meth c T locs cells slots) (hx : p.tables.exec = Jvm.exec) (hZ : Z.Warmed39 s.vm) (eT : T.heap = h) (A : OA Z h a .int n f) (hj : ¬ j < 0) (ek : j.toNatClampNeg = k) (hk : k < n) (hv : f k = v)
    {g : JFrame} (hg : g.method = m) {rest : List Value} (hs : g.stack = .int j :: .ref a :: rest) (hd : decode c.code g.pc = .ok (.iaload, 1)) :
    ∀ t, Steps p.tables e below (T.setTop { g with pc := g.pc + 1, stack := v :: rest }) t → Steps p.tables e below (T.setTop g) t := by
  obtain ⟨cl, A, q1, q2, q3⟩ := A.at hj ek hk
  subst hv
  exact fun t k => X.iaload hx (by rw [eT]; exact A.1) (State.isArrayOf_alike hZ.alike A.2.1) A.2.2 q1 q2 hg hs hd t k
theorem own_laload (X : Stand p l e R s m args below meth c T locs cells slots) (hx : p.tables.exec = Jvm.exec) (hZ : Z.Warmed39 s.vm) (eT : T.heap = h) (A : OA Z h a .long n f) (hj : ¬ j < 0) (ek : j.toNatClampNeg = k) (hk : k < n) (hv : f k = v)
    {g : JFrame} (hg : g.method = m) {rest : List Value} (hs : g.stack = .int j :: .ref a :: rest) (hd : decode c.code g.pc = .ok (.laload, 1)) :
    ∀ t, Steps p.tables e below (T.setTop { g with pc := g.pc + 1, stack := v :: rest }) t → Steps p.tables e below (T.setTop g) t := by
  obtain ⟨cl, A, q1, q2, q3⟩ := A.at hj ek hk
  subst hv
  exact fun t k => X.laload hx (by rw [eT]; exact A.1) (State.isArrayOf_alike hZ.alike A.2.1) A.2.2 q1 q2 hg hs hd t k
theorem own_caload (X : Stand p l e R s m args below meth c T locs cells slots) (hx : p.tables.exec = Jvm.exec) (hZ : Z.Warmed39 s.vm) (eT : T.heap = h) (A : OA Z h a .char n f) (hj : ¬ j < 0) (ek : j.toNatClampNeg = k) (hk : k < n) (hv : f k = v)
    {g : JFrame} (hg : g.method = m) {rest : List Value} (hs : g.stack = .int j :: .ref a :: rest) (hd : decode c.code g.pc = .ok (.caload, 1)) :
    ∀ t, Steps p.tables e below (T.setTop { g with pc := g.pc + 1, stack := v :: rest }) t → Steps p.tables e below (T.setTop g) t := by
  obtain ⟨cl, A, q1, q2, q3⟩ := A.at hj ek hk
  subst hv
  exact fun t k => X.caload hx (by rw [eT]; exact A.1) (State.isArrayOf_alike hZ.alike A.2.1) A.2.2 q1 q2 hg hs hd t k
theorem own_baload (X : Stand p l e R s m args below meth c T locs cells slots) (hx : p.tables.exec = Jvm.exec) (hZ : Z.Warmed39 s.vm) (eT : T.heap = h) (A : OA Z h a .byte n f) (hj : ¬ j < 0) (ek : j.toNatClampNeg = k) (hk : k < n) (hv : f k = v)
    {g : JFrame} (hg : g.method = m) {rest : List Value} (hs : g.stack = .int j :: .ref a :: rest) (hd : decode c.code g.pc = .ok (.baload, 1)) :
    ∀ t, Steps p.tables e below (T.setTop { g with pc := g.pc + 1, stack := v :: rest }) t → Steps p.tables e below (T.setTop g) t := by
  obtain ⟨cl, A, q1, q2, q3⟩ := A.at hj ek hk
  subst hv
  exact fun t k => X.baloadBytes hx (by rw [eT]; exact A.1) (State.isArrayOf_alike hZ.alike A.2.1) A.2.2 q1 q2 hg hs hd t k
theorem own_aaload (X : Stand p l e R s m args below meth c T locs cells slots) (hx : p.tables.exec = Jvm.exec) (hZ : Z.Warmed39 s.vm) (eT : T.heap = h) (A : OA Z h a ty n f) (hty : ty.isReference = true) (hj : ¬ j < 0) (ek : j.toNatClampNeg = k) (hk : k < n) (hv : f k = v)
    {g : JFrame} (hg : g.method = m) {rest : List Value} (hs : g.stack = .int j :: .ref a :: rest) (hd : decode c.code g.pc = .ok (.aaload, 1)) :
    ∀ t, Steps p.tables e below (T.setTop { g with pc := g.pc + 1, stack := v :: rest }) t → Steps p.tables e below (T.setTop g) t := by
  obtain ⟨cl, A, q1, q2, q3⟩ := A.at hj ek hk
  subst hv
  exact fun t k => X.aaload hx (by rw [eT]; exact A.1) (State.isArrayOf_alike hZ.alike A.2.1) hty A.2.2 q1 q2 hg hs hd t k
/-- stores: the new heap, the array's new values -/
theorem own_stI (X : Stand p l e R s m args below meth c T locs cells slots) (hx : p.tables.exec = Jvm.exec) (hZ : Z.Warmed39 s.vm) (eT : T.heap = h) (A : OA Z h a .int n f) {x : Int32} (hj : ¬ j < 0) (ek : j.toNatClampNeg = k) (hk : k < n)
    {g : JFrame} (hg : g.method = m) {rest : List Value} (hs : g.stack = .int x :: .int j :: .ref a :: rest) (hd : decode c.code g.pc = .ok (.iastore, 1)) :
    ∃ T' h', Stand p l e R s m args below meth c T' (locs ++ [⟨a, j.toNatClampNeg⟩]) cells slots ∧ T'.heap = h' ∧ Wr h h' a j.toNatClampNeg (.int x) ∧ OA Z h' a .int n (fun i => if i = k then .int x else f i) ∧
      ∀ t, Steps p.tables e below (T'.setTop { g with pc := g.pc + 1, stack := rest }) t → Steps p.tables e below (T.setTop g) t := by
  obtain ⟨cl, A', q1, q2, q3⟩ := A.at hj ek hk
  obtain ⟨T', h', X', e', W', st⟩ := stI X hx hZ eT A' q1 hg hs hd
  exact ⟨T', h', X', e', W', A.set W' ek rfl, st⟩
theorem own_stJ (X : Stand p l e R s m args below meth c T locs cells slots) (hx : p.tables.exec = Jvm.exec) (hZ : Z.Warmed39 s.vm) (eT : T.heap = h) (A : OA Z h a .long n f) {x : Int64} (hj : ¬ j < 0) (ek : j.toNatClampNeg = k) (hk : k < n)
    {g : JFrame} (hg : g.method = m) {rest : List Value} (hs : g.stack = .long x :: .int j :: .ref a :: rest) (hd : decode c.code g.pc = .ok (.lastore, 1)) :
    ∃ T' h', Stand p l e R s m args below meth c T' (locs ++ [⟨a, j.toNatClampNeg⟩]) cells slots ∧ T'.heap = h' ∧ Wr h h' a j.toNatClampNeg (.long x) ∧ OA Z h' a .long n (fun i => if i = k then .long x else f i) ∧
      ∀ t, Steps p.tables e below (T'.setTop { g with pc := g.pc + 1, stack := rest }) t → Steps p.tables e below (T.setTop g) t := by
  obtain ⟨cl, A', q1, q2, q3⟩ := A.at hj ek hk
  obtain ⟨T', h', X', e', W', st⟩ := stJ X hx hZ eT A' q1 hg hs hd
  exact ⟨T', h', X', e', W', A.set W' ek rfl, st⟩
theorem own_stB (X : Stand p l e R s m args below meth c T locs cells slots) (hx : p.tables.exec = Jvm.exec) (hZ : Z.Warmed39 s.vm) (eT : T.heap = h) (A : OA Z h a .byte n f) {x : Int32} (hj : ¬ j < 0) (ek : j.toNatClampNeg = k) (hk : k < n)
    {g : JFrame} (hg : g.method = m) {rest : List Value} (hs : g.stack = .int x :: .int j :: .ref a :: rest) (hd : decode c.code g.pc = .ok (.bastore, 1)) :
    ∃ T' h', Stand p l e R s m args below meth c T' (locs ++ [⟨a, j.toNatClampNeg⟩]) cells slots ∧ T'.heap = h' ∧ Wr h h' a j.toNatClampNeg (.int (nar .byte x)) ∧ OA Z h' a .byte n (fun i => if i = k then .int (nar .byte x) else f i) ∧
      ∀ t, Steps p.tables e below (T'.setTop { g with pc := g.pc + 1, stack := rest }) t → Steps p.tables e below (T.setTop g) t := by
  obtain ⟨cl, A', q1, q2, q3⟩ := A.at hj ek hk
  obtain ⟨T', h', X', e', W', st⟩ := stB X hx hZ eT A' q1 hg hs hd
  exact ⟨T', h', X', e', W', A.set W' ek (fits_nar_byte _), st⟩
theorem own_stC (X : Stand p l e R s m args below meth c T locs cells slots) (hx : p.tables.exec = Jvm.exec) (hZ : Z.Warmed39 s.vm) (eT : T.heap = h) (A : OA Z h a .char n f) {x : Int32} (hj : ¬ j < 0) (ek : j.toNatClampNeg = k) (hk : k < n)
    {g : JFrame} (hg : g.method = m) {rest : List Value} (hs : g.stack = .int x :: .int j :: .ref a :: rest) (hd : decode c.code g.pc = .ok (.castore, 1)) :
    ∃ T' h', Stand p l e R s m args below meth c T' (locs ++ [⟨a, j.toNatClampNeg⟩]) cells slots ∧ T'.heap = h' ∧ Wr h h' a j.toNatClampNeg (.int (nar .char x)) ∧ OA Z h' a .char n (fun i => if i = k then .int (nar .char x) else f i) ∧
      ∀ t, Steps p.tables e below (T'.setTop { g with pc := g.pc + 1, stack := rest }) t → Steps p.tables e below (T.setTop g) t := by
  obtain ⟨cl, A', q1, q2, q3⟩ := A.at hj ek hk
  obtain ⟨T', h', X', e', W', st⟩ := stC X hx hZ eT A' q1 hg hs hd
  exact ⟨T', h', X', e', W', A.set W' ek (fits_nar_char _), st⟩
theorem own_newP (X : Stand p l e R s m args below meth c T locs cells slots) (hx : p.tables.exec = Jvm.exec) (hZ : Z.Warmed39 s.vm) {aty : ArrayType} (w : (Cond.arrayClass (newarray.typeOf aty)).before a0 Z = true) (eT : T.heap = h) {z : Int32} (hz : ¬ z < 0) (en : z.toNatClampNeg = n) {cap : Nat} (hcap : n ≤ cap) (hb : cap * 8 ≤ 536870912) (hc : cells + 1 ≤ R.cells) (hl : slots + cap ≤ R.slots)
    {g : JFrame} (hg : g.method = m) {rest : List Value} (hs : g.stack = .int z :: rest) (hd : decode c.code g.pc = .ok (.newarray aty, 2)) :
    ∃ T' h', Stand p l e R s m args below meth c T' locs (cells + 1) (slots + cap) ∧ T'.heap = h' ∧ Ext h h' ∧ OA Z h' h.size (newarray.typeOf aty) n (fun _ => defaultValue (newarray.typeOf aty)) ∧
      ∀ t, Steps p.tables e below (T'.setTop { g with pc := g.pc + 2, stack := .ref h.size :: rest }) t → Steps p.tables e below (T.setTop g) t := by
  obtain ⟨T', h', cA, X', e', E', A', st⟩ := newP X hx hZ w eT hg hd hs hz (cap := cap) (en ▸ hcap) hb hc hl
  exact ⟨T', h', X', e', E', OA.new A' (by cases aty <;> rfl) en, st⟩
theorem OA.arv (A : OA Z h a ty n f) (d : Value) : ∃ k, Arv Z h a k ty (Int32.ofNat n) ((List.range n).map f) d := by
  obtain ⟨c, A, r1, r2, H⟩ := A
  have q : ∀ i, i < n → ((List.range n).map f).getD i d = f i := fun i hi => by simp [hi]
  exact ⟨c.cls, c, A, rfl, by rw [own_clamp n r2]; exact r1, own_nneg n r2, fun i hi => by rw [q i (by omega)]; exact (H i (by omega)).1, fun i hi => by rw [q i (by omega)]; exact (H i (by omega)).2⟩
theorem OA.of_arv {k : ClassId} {vs : List Value} {d : Value} {z : Int32} (A : Arv Z h a k ty z vs d) (e : z.toNatClampNeg = n) (q : ∀ i, i < n → vs.getD i d = f i) : OA Z h a ty n f := by
  obtain ⟨c, A, r1, r2, r3, H, G⟩ := A
  refine ⟨c, A, by omega, ?_, fun i hi => ?_⟩
  · have := z.toInt_lt
    have h2 : z.toNatClampNeg = z.toInt.toNat := rfl
    omega
  · rw [← q i hi]
    exact ⟨H i (by omega), G i (by omega)⟩
theorem own_spliced (vd us : List Value) (d : Value) (dp m : Nat) (hu : us.length = m) (hl : dp + m ≤ vd.length) (i : Nat) : (vd.take dp ++ us ++ vd.drop (dp + m)).getD i d = if dp ≤ i ∧ i < dp + m then us.getD (i - dp) d else vd.getD i d := by
  have h1 : (vd.take dp).length = dp := by rw [List.length_take]; omega
  by_cases c1 : i < dp
  · rw [if_neg (by omega)]
    simp only [List.getD_eq_getElem?_getD]
    rw [List.append_assoc, List.getElem?_append_left (by omega), List.getElem?_take_of_lt c1]
  · by_cases c2 : i < dp + m
    · rw [if_pos ⟨by omega, c2⟩]
      simp only [List.getD_eq_getElem?_getD]
      rw [List.append_assoc, List.getElem?_append_right (by omega), h1, List.getElem?_append_left (by omega)]
    · rw [if_neg (by omega)]
      simp only [List.getD_eq_getElem?_getD]
      rw [List.getElem?_append_right (by rw [List.length_append]; omega), List.getElem?_drop, List.length_append, h1, hu]
      have e : dp + m + (i - (dp + m)) = i := by omega
      rw [e]
/-- System.arraycopy between arrays of one primitive kind -/
theorem own_copy (X : Stand p l e R s m args below meth c T locs cells slots) (hx : p.tables.exec = Jvm.exec) (hZ : Z.Warmed39 s.vm) {own : String} {index : Nat} (hown : s.vm.findClass own = some m.cls)
    (w1 : (Cond.methodLink own index Jvm.Stand.acN).before a0 Z = true) (w2 : (Cond.native Jvm.Stand.acN).before a0 Z = true) (w3 : (Cond.static Jvm.Stand.acN).before a0 Z = true) (w4 : (Cond.initialized "java/lang/System").before a0 Z = true) (eT : T.heap = h)
    {n' sp dp nn : Nat} (A : OA Z h a ty n f) (B : OA Z h b ty n' f') (hty : refKind ty = false) (h1 : sp + nn ≤ n) (h2 : dp + nn ≤ n') {n0 : Nat} (N : Fr n0 locs) (ge : n0 ≤ b)
    {g : JFrame} (hg : g.method = m) (hsize : g.locals.size = c.maxLocals) {rest : List Value} (hs : g.stack = .int (Int32.ofNat nn) :: .int (Int32.ofNat dp) :: .ref b :: .int (Int32.ofNat sp) :: .ref a :: rest) (hd : decode c.code g.pc = .ok (.invokestatic index, 3))
    (hf : 1 ≤ R.frames) {W : Nat} (hW : 2 * g.monitorRoom + (rest.map fun v => v.category).sum ≤ W) (hlo : W + 18 ≤ R.locals) :
    ∃ T' h' L, Stand p l e R s m args below meth c T' L cells slots ∧ T'.heap = h' ∧ Fr n0 L ∧ Keep h h' [b] ∧ OA Z h' b ty n' (fun i => if dp ≤ i ∧ i < dp + nn then f (sp + (i - dp)) else f' i) ∧
      ∀ t, Steps p.tables e below (T'.setTop { g with pc := g.pc + 3, stack := rest }) t → Steps p.tables e below (T.setTop g) t := by
  have hn : n < 2 ^ 31 := by obtain ⟨c, A, r1, r2, H⟩ := A; exact r2
  have hn' : n' < 2 ^ 31 := by obtain ⟨c, A, r1, r2, H⟩ := B; exact r2
  obtain ⟨k, A'⟩ := A.arv (.int 0)
  obtain ⟨k', B'⟩ := B.arv (.int 0)
  have c1 := own_clamp sp (by omega)
  have c2 := own_clamp dp (by omega)
  have c3 := own_clamp nn (by omega)
  obtain ⟨T', h', L, X', e', N', K', A2, st⟩ := cpA X hx hZ hown w1 w2 w3 w4 eT A' B' (Or.inl ⟨rfl, hty⟩) (own_nneg sp (by omega)) (own_nneg dp (by omega)) (own_nneg nn (by omega)) (by rw [c1, c3, own_clamp n hn]; exact h1) (by rw [c2, c3, own_clamp n' hn']; exact h2) rfl (by rw [c2, c3]; simpa using h2) N ge hg hsize hs hd hf hW hlo
  refine ⟨T', h', L, X', e', N', K', OA.of_arv A2 (own_clamp n' hn') (fun i hi => ?_), st⟩
  rw [c1, c2, c3, own_spliced _ _ _ _ _ (by simp) (by simpa using h2)]
  by_cases q : dp ≤ i ∧ i < dp + nn
  · rw [if_pos q, if_pos q]
    have q3 : i - dp < nn := by omega
    have q4 : sp + (i - dp) < n := by omega
    simp [q3, q4]
  · rw [if_neg q, if_neg q]
    simp [hi]
/-- an array of references of class C: of n places, place j holds f j -/
def OR (Z : State) (h : Heap) (a : Addr) (C : String) (n : Nat) (f : Nat → Value) : Prop :=
  ∃ c : Cell, Arr Z h a c (.object C) ∧ Ovr Z c.cls C ∧ c.slots.size = n ∧ n < 2 ^ 31 ∧ ∀ j, j < n → c.slots[j]? = some (f j) ∧ (f j).isRef = true
variable {C : String}
theorem OR.ext (A : OR Z h a C n f) (E : Ext h h') : OR Z h' a C n f := by obtain ⟨c, A, r⟩ := A; exact ⟨c, A.ext E, r⟩
theorem OR.other (A : OR Z h b C n f) (W : Wr h h' a sl v) (q : b ≠ a) : OR Z h' b C n f := by obtain ⟨c, A, r⟩ := A; exact ⟨c, A.other W q, r⟩
theorem OR.keep (A : OR Z h a C n f) (K : Keep h h' ws) (q : a ∉ ws) : OR Z h' a C n f := by obtain ⟨c, A, r⟩ := A; exact ⟨c, ⟨K.2.1 a c A.1 q, A.2⟩, r⟩
theorem OR.lt (A : OR Z h a C n f) : a < h.size := by obtain ⟨c, A, -⟩ := A; exact A.lt
theorem OR.congr (A : OR Z h a C n f) (q : ∀ j, j < n → f j = f' j) : OR Z h a C n f' := by
  obtain ⟨c, A, o, r1, r2, H⟩ := A
  exact ⟨c, A, o, r1, r2, fun j hj => by rw [← q j hj]; exact H j hj⟩
theorem own_newR (X : Stand p l e R s m args below meth c T locs cells slots) (hx : p.tables.exec = Jvm.exec) (hZ : Z.Warmed39 s.vm) {own : String} {index : Nat} (hown : s.vm.findClass own = some m.cls) (w1 : (Cond.classLink own index C).before a0 Z = true) (w2 : (Cond.arrayOver (.object C)).before a0 Z = true) (eT : T.heap = h) {z : Int32} (hz : ¬ z < 0) (en : z.toNatClampNeg = n) {cap : Nat} (hcap : n ≤ cap) (hb : cap * 8 ≤ 536870912) (hc : cells + 1 ≤ R.cells) (hl : slots + cap ≤ R.slots)
    {g : JFrame} (hg : g.method = m) {rest : List Value} (hs : g.stack = .int z :: rest) (hd : decode c.code g.pc = .ok (.anewarray index, 3)) :
    ∃ T' h', Stand p l e R s m args below meth c T' locs (cells + 1) (slots + cap) ∧ T'.heap = h' ∧ Ext h h' ∧ OR Z h' h.size C n (fun _ => .null) ∧
      ∀ t, Steps p.tables e below (T'.setTop { g with pc := g.pc + 3, stack := .ref h.size :: rest }) t → Steps p.tables e below (T.setTop g) t := by
  obtain ⟨T', h', cA, X', e', E', A', O', st⟩ := newR X hx hZ hown w1 w2 eT hg hd hs hz (cap := cap) (en ▸ hcap) hb hc hl
  refine ⟨T', h', X', e', E', ⟨_, A', O', by rw [sz_new]; exact en, ?_, fun j hj => ⟨?_, rfl⟩⟩, st⟩
  · have := z.toInt_lt
    have h2 : z.toNatClampNeg = z.toInt.toNat := rfl
    omega
  · simp [newA, en, hj, defaultValue]
theorem own_stR (X : Stand p l e R s m args below meth c T locs cells slots) (hx : p.tables.exec = Jvm.exec) (hZ : Z.Warmed39 s.vm) (eT : T.heap = h) (A : OR Z h a C n f) {y : Addr} (I : Ins Z h y C true) (hj : ¬ j < 0) (ek : j.toNatClampNeg = k) (hk : k < n)
    {g : JFrame} (hg : g.method = m) {rest : List Value} (hs : g.stack = .ref y :: .int j :: .ref a :: rest) (hd : decode c.code g.pc = .ok (.aastore, 1)) :
    ∃ T' h', Stand p l e R s m args below meth c T' (locs ++ [⟨a, j.toNatClampNeg⟩]) cells slots ∧ T'.heap = h' ∧ Wr h h' a j.toNatClampNeg (.ref y) ∧ OR Z h' a C n (fun i => if i = k then .ref y else f i) ∧
      ∀ t, Steps p.tables e below (T'.setTop { g with pc := g.pc + 1, stack := rest }) t → Steps p.tables e below (T.setTop g) t := by
  obtain ⟨cl, A', O', r1, r2, H⟩ := A
  have q1 : ¬ (j < 0 ∨ cl.slots.size ≤ j.toNatClampNeg) := by
    rintro (q | q)
    · exact hj q
    · omega
  obtain ⟨T', h', X', e', W', st⟩ := stR X hx hZ eT A' q1 rfl (Sto.of A' O' I) hg hs hd
  refine ⟨T', h', X', e', W', ⟨_, A'.same W', O', by rw [sz_set]; exact r1, r2, fun i hi => ?_⟩, st⟩
  obtain ⟨H1, H2⟩ := H i hi
  subst ek
  by_cases q : i = j.toNatClampNeg
  · subst q
    dsimp only
    rw [if_pos rfl]
    exact ⟨by simp [Cell.setSlot, r1, hi], rfl⟩
  · dsimp only
    rw [if_neg q]
    refine ⟨?_, H2⟩
    rw [← H1]
    simp [Cell.setSlot, Array.getElem?_setIfInBounds, Ne.symm q]
theorem own_raload (X : Stand p l e R s m args below meth c T locs cells slots) (hx : p.tables.exec = Jvm.exec) (hZ : Z.Warmed39 s.vm) (eT : T.heap = h) (A : OR Z h a C n f) (hj : ¬ j < 0) (ek : j.toNatClampNeg = k) (hk : k < n) (hv : f k = v)
    {g : JFrame} (hg : g.method = m) {rest : List Value} (hs : g.stack = .int j :: .ref a :: rest) (hd : decode c.code g.pc = .ok (.aaload, 1)) :
    ∀ t, Steps p.tables e below (T.setTop { g with pc := g.pc + 1, stack := v :: rest }) t → Steps p.tables e below (T.setTop g) t := by
  obtain ⟨cl, A', O', r1, r2, H⟩ := A
  have q1 : ¬ (j < 0 ∨ cl.slots.size ≤ j.toNatClampNeg) := by
    rintro (q | q)
    · exact hj q
    · omega
  subst hv
  exact fun t k' => X.aaload hx (by rw [eT]; exact A'.1) (State.isArrayOf_alike hZ.alike A'.2.1) rfl A'.2.2 q1 (by rw [ek]; exact (H k hk).1) hg hs hd t k'
theorem own_fits_ref {t : FieldType} {w : Value} (ht : t.isReference = true) (hw : w.isRef = true) : fits t w = true := by
  cases w <;> simp [Value.isRef] at hw <;> cases t <;> first | rfl | (simp [FieldType.isReference] at ht)
end OwnLayer
def own_S (Z : State) (h : Heap) (K : Nat → Addr) : Prop := Sta Z h "com/example/orbweaver/orbweaver/idl/BasicType" "SHORT" "Lcom/example/orbweaver/orbweaver/idl/BasicType;" (.ref (K 0)) ∧ Sta Z h "com/example/orbweaver/orbweaver/idl/BasicType" "LONG" "Lcom/example/orbweaver/orbweaver/idl/BasicType;" (.ref (K 1)) ∧ Sta Z h "com/example/orbweaver/orbweaver/idl/BasicType" "LONG_LONG" "Lcom/example/orbweaver/orbweaver/idl/BasicType;" (.ref (K 2)) ∧ Sta Z h "com/example/orbweaver/orbweaver/idl/BasicType" "UNSIGNED_SHORT" "Lcom/example/orbweaver/orbweaver/idl/BasicType;" (.ref (K 3)) ∧ Sta Z h "com/example/orbweaver/orbweaver/idl/BasicType" "UNSIGNED_LONG" "Lcom/example/orbweaver/orbweaver/idl/BasicType;" (.ref (K 4)) ∧ Sta Z h "com/example/orbweaver/orbweaver/idl/BasicType" "UNSIGNED_LONG_LONG" "Lcom/example/orbweaver/orbweaver/idl/BasicType;" (.ref (K 5)) ∧ Sta Z h "com/example/orbweaver/orbweaver/idl/BasicType" "OCTET" "Lcom/example/orbweaver/orbweaver/idl/BasicType;" (.ref (K 6)) ∧ Sta Z h "com/example/orbweaver/orbweaver/idl/BasicType" "FLOAT" "Lcom/example/orbweaver/orbweaver/idl/BasicType;" (.ref (K 7)) ∧ Sta Z h "com/example/orbweaver/orbweaver/idl/BasicType" "DOUBLE" "Lcom/example/orbweaver/orbweaver/idl/BasicType;" (.ref (K 8)) ∧ Sta Z h "com/example/orbweaver/orbweaver/idl/BasicType" "LONG_DOUBLE" "Lcom/example/orbweaver/orbweaver/idl/BasicType;" (.ref (K 9)) ∧ Sta Z h "com/example/orbweaver/orbweaver/idl/BasicType" "CHAR" "Lcom/example/orbweaver/orbweaver/idl/BasicType;" (.ref (K 10)) ∧ Sta Z h "com/example/orbweaver/orbweaver/idl/BasicType" "WCHAR" "Lcom/example/orbweaver/orbweaver/idl/BasicType;" (.ref (K 11)) ∧ Sta Z h "com/example/orbweaver/orbweaver/idl/BasicType" "BOOLEAN" "Lcom/example/orbweaver/orbweaver/idl/BasicType;" (.ref (K 12)) ∧ Sta Z h "com/example/orbweaver/orbweaver/idl/BasicType" "ANY" "Lcom/example/orbweaver/orbweaver/idl/BasicType;" (.ref (K 13)) ∧ Sta Z h "com/example/orbweaver/orbweaver/idl/BasicType" "OBJECT" "Lcom/example/orbweaver/orbweaver/idl/BasicType;" (.ref (K 14)) ∧ Sta Z h "com/example/orbweaver/orbweaver/idl/BasicType" "VALUE_BASE" "Lcom/example/orbweaver/orbweaver/idl/BasicType;" (.ref (K 15)) ∧ Sta Z h "com/example/orbweaver/orbweaver/idl/BasicType" "VOID" "Lcom/example/orbweaver/orbweaver/idl/BasicType;" (.ref (K 16))
theorem ef_isInt (m : MethodId) (x0 : Addr) : entryFrame m #[(.ref x0)] 1 = mkF m 0 #[.val (.ref x0)] [] := by first | (simp [entryFrame, mkF, argsToLocals, Value.category]; done) | rfl
theorem pn_com_example_orbweaver_orbweaver_idl_BasicType : plainName "com/example/orbweaver/orbweaver/idl/BasicType" = true := by first | (simp [plainName, overriddenIn]; done) | decide +kernel
theorem d_prog_15_method_5_code_0 : decode prog_15_method_5_code 0 = .ok (.aload_n 0, 1) := by decide +kernel
theorem d_prog_15_method_5_code_1 : decode prog_15_method_5_code 1 = .ok (.getfield 78, 3) := by decide +kernel
theorem d_prog_15_method_5_code_4 : decode prog_15_method_5_code 4 = .ok (.ifnull 7, 3) := by decide +kernel
theorem d_prog_15_method_5_code_11 : decode prog_15_method_5_code 11 = .ok (.iconst 0, 1) := by decide +kernel
theorem d_prog_15_method_5_code_12 : decode prog_15_method_5_code 12 = .ok (.ireturn, 1) := by decide +kernel
theorem d_prog_15_method_5_code_7 : decode prog_15_method_5_code 7 = .ok (.iconst 1, 1) := by decide +kernel
theorem d_prog_15_method_5_code_8 : decode prog_15_method_5_code 8 = .ok (.goto 4, 3) := by decide +kernel
def Q_isInt (Z : State) (a1 : Addr) (mv : Value) (h0 : Heap) (n0 : Nat) (v : Option Value) (h : Heap) (L : List Loc) : Prop := v = some (.int (if mv = Value.null then 0 else 1)) ∧ Fr n0 L ∧ h = h0
set_option maxRecDepth 65536 in
set_option maxHeartbeats 40000000 in
theorem rm_isInt (l : Launch) (Z : State) (a0 : Array Value) (hw : ∀ d ∈ tables_1, d.before a0 Z = true) (ws : List Jvm.Cond) (a1 : Addr) (mv : Value) (h0 : Heap) (n0 : Nat) (Z0 : n0 ≤ h0.size) (hm : mv = .null ∨ ∃ y, mv = .ref y) (F : Fld Z h0 a1 "com/example/orbweaver/orbweaver/idl/BasicType" "min" "Ljava/math/BigInteger;" mv) :
    MetFree l (⟨"com/example/orbweaver/orbweaver/idl/BasicType", "isInteger", "()Z"⟩ : MethodName) (head1 (Jvm.Cond.code (⟨"com/example/orbweaver/orbweaver/idl/BasicType", "isInteger", "()Z"⟩ : MethodName) prog_15_method_5_code 1 (some .boolean) :: ws) ({ frames := 0, cells := 0, slots := 0, locals := 0 } : Room)) (fun a U => a = #[(.ref a1)] ∧ Z.Warmed39 U.vm ∧ U.heap = h0) (fun _ _ _ _ _ => True) (fun _ U o U' => ∃ v L, o = .returned v ∧ Q_isInt Z a1 mv h0 n0 v U'.heap L ∧ FrameEnd U o U' L ({ frames := 0, cells := 0, slots := 0, locals := 0 } : Room).cells ({ frames := 0, cells := 0, slots := 0, locals := 0 } : Room).slots) := by
  refine MetFree.of_bodySF (plainFor_of_name pn_com_example_orbweaver_orbweaver_idl_BasicType) hisR ?_
  intro p ee s m args below meth cc s₁ Bd hml0 hP hK
  obtain ⟨rfl, hZ, hh⟩ := hP
  have hx := Bd.exec
  have hby := Bd.bytes
  have hml : cc.maxLocals = 1 := hml0
  have hown : s.vm.findClass "com/example/orbweaver/orbweaver/idl/BasicType" = some m.cls := findClass_of_methodNamed Bd.named
  have hnm := (name_of_methodNamed Bd.named Bd.method).1
  have X0 : Stand p l ee ({ frames := 0, cells := 0, slots := 0, locals := 0 } : Room) s m #[(.ref a1)] below meth cc s₁ [] 0 0 := Stand.of_body Bd
  have e0 : s₁.heap = h0 := by rw [← hh, Bd.state]; rfl
  have N0 := Fr.nil n0
  show Goes p ee below s ({ frames := 0, cells := 0, slots := 0, locals := 0 } : Room).cells ({ frames := 0, cells := 0, slots := 0, locals := 0 } : Room).slots (Q_isInt Z a1 mv h0 n0) (s₁.setTop (entryFrame m #[(.ref a1)] 1))
  refine Goes.step (fun _ hr_ => castTop (ef_isInt m a1) hr_) ?_
  show Goes p ee below s _ _ _ (s₁.setTop (mkF m 0 #[.val (.ref a1)] []))
  refine Goes.step (fun _ hr_ => XS.aloadN X0.here hx rfl (hb hby d_prog_15_method_5_code_0) rfl rfl hr_) ?_
  show Goes p ee below s _ _ _ (s₁.setTop (mkF m 1 #[.val (.ref a1)] [(.ref a1)]))
  obtain ⟨T1, X1, e1, st1⟩ := getF X0 hx hZ hown (host := "") (Or.inl (hw _ (List.mem_of_getElem? (i := 44) rfl))) Via.refl e0 F (g := (mkF m 1 #[.val (.ref a1)] [(.ref a1)])) rfl rfl (hb hby d_prog_15_method_5_code_1)
  refine Goes.step st1 ?_
  show Goes p ee below s _ _ _ (T1.setTop (mkF m 4 #[.val (.ref a1)] [mv]))
  rcases hm with rfl | ⟨y, rfl⟩
  · show Goes p ee below s _ _ _ (T1.setTop (mkF m 4 #[.val (.ref a1)] [.null]))
    refine Goes.step (fun _ hr_ => XS.ifnullYes X1.here hx rfl (pc0 := 4) (pc' := 11) rfl (hb hby d_prog_15_method_5_code_4) rfl (by decide) (by decide) hr_) ?_
    show Goes p ee below s _ _ _ (T1.setTop (mkF m 11 #[.val (.ref a1)] []))
    refine Goes.step (fun _ hr_ => XS.iconst X1.here hx rfl (hb hby d_prog_15_method_5_code_11) hr_) ?_
    show Goes p ee below s _ _ _ (T1.setTop (mkF m 12 #[.val (.ref a1)] [(.int (0 : Int32))]))
    refine Goes.retZ X1 hx Bd.notSynchronized Bd.returns (by simp) rfl (hb hby d_prog_15_method_5_code_12) (by decide) (by decide) ?_
    exact ⟨rfl, N0, e1⟩
  · show Goes p ee below s _ _ _ (T1.setTop (mkF m 4 #[.val (.ref a1)] [(.ref y)]))
    refine Goes.step (fun _ hr_ => XS.ifnullNo X1.here hx rfl (hb hby d_prog_15_method_5_code_4) rfl hr_) ?_
    show Goes p ee below s _ _ _ (T1.setTop (mkF m 7 #[.val (.ref a1)] []))
    refine Goes.step (fun _ hr_ => XS.iconst X1.here hx rfl (hb hby d_prog_15_method_5_code_7) hr_) ?_
    show Goes p ee below s _ _ _ (T1.setTop (mkF m 8 #[.val (.ref a1)] [(.int (1 : Int32))]))
    refine Goes.step (fun _ hr_ => XS.goto X1.here hx rfl (pc0 := 8) (pc' := 12) rfl (hb hby d_prog_15_method_5_code_8) (by decide) (by decide) hr_) ?_
    show Goes p ee below s _ _ _ (T1.setTop (mkF m 12 #[.val (.ref a1)] [(.int (1 : Int32))]))
    refine Goes.retZ X1 hx Bd.notSynchronized Bd.returns (by simp) rfl (hb hby d_prog_15_method_5_code_12) (by decide) (by decide) ?_
    exact ⟨rfl, N0, e1⟩
theorem own_q (x : Int32) : ¬ ((x &&& 2147483647) % 17 < 0) ∧ ((x &&& 2147483647) % 17).toNatClampNeg < 17 := by
  obtain ⟨q1, q2⟩ := c_and x 2147483647 (by decide)
  obtain ⟨c1, -⟩ := c_irem (x &&& 2147483647) 17 17 rfl
  have := c1 q1
  have h2 : ((x &&& 2147483647) % 17).toNatClampNeg = ((x &&& 2147483647) % 17).toInt.toNat := rfl
  rw [Int32.lt_iff_toInt_lt]
  have h3 : (0 : Int32).toInt = 0 := rfl
  omega
theorem own_end (z : Int32) (M : Nat → Value) (q : Nat) (hq : q < 17) (hz : ¬ z < 0) (e : z.toNatClampNeg = q) (h1 : ∀ j, j < 7 → M j ≠ .null) (h2 : ∀ j, j < 17 → ¬ j < 7 → M j = .null) :
    ((if M q = Value.null then (0 : Int32) else 1) = 1 ∧ z < 7) ∨ ((if M q = Value.null then (0 : Int32) else 1) = 0 ∧ ¬ z < 7) := by
  have h3 : z.toNatClampNeg = z.toInt.toNat := rfl
  have h4 : (7 : Int32).toInt = 7 := rfl
  have h5 : (0 : Int32).toInt = 0 := rfl
  rw [Int32.lt_iff_toInt_lt] at hz ⊢
  by_cases h : q < 7
  · exact Or.inl ⟨if_neg (h1 q h), by omega⟩
  · exact Or.inr ⟨if_pos (h2 q hq h), by omega⟩
theorem ef_law (m : MethodId) (x0 : Int32) : entryFrame m #[(.int x0)] maxLocals = mkF m 0 #[.val (.int x0), .unset, .unset, .unset] [] := by first | (simp [entryFrame, mkF, argsToLocals, Value.category, maxLocals]; done) | rfl
theorem pn_com_example_orbweaver_orbweaver_idl_BasicTypeIsIntegerPinLaw : plainName "com/example/orbweaver/orbweaver/idl/BasicTypeIsIntegerPinLaw" = true := by first | (simp [plainName, overriddenIn]; done) | decide +kernel
theorem pd_0 : parseMethodDescriptor "()Z" = some ⟨[], some .boolean⟩ := by decide +kernel
def Q_law (Z : State) (p1 : Int32) (K : Nat → Addr) (M : Nat → Value) (h0 : Heap) (n0 : Nat) (v : Option Value) (h : Heap) (L : List Loc) : Prop := v = some (.int 1) ∧ Fr n0 L
set_option maxRecDepth 65536 in
set_option maxHeartbeats 40000000 in
theorem rm_law (l : Launch) (Z : State) (a0 : Array Value) (hw : ∀ d ∈ tables_1, d.before a0 Z = true) (ws : List Jvm.Cond) (p1 : Int32) (K : Nat → Addr) (M : Nat → Value) (h0 : Heap) (n0 : Nat) (Z0 : n0 ≤ h0.size) (O0 : Old Z n0 h0) (SS : own_S Z Z.heap K) (EE : ∀ j, j < 17 → Exa Z Z.heap (K j) "com/example/orbweaver/orbweaver/idl/BasicType") (FF : ∀ j, j < 17 → Fld Z Z.heap (K j) "com/example/orbweaver/orbweaver/idl/BasicType" "min" "Ljava/math/BigInteger;" (M j)) (hM : ∀ j, j < 17 → M j = .null ∨ ∃ y, M j = .ref y) (hm1 : ∀ j, j < 7 → M j ≠ .null) (hm2 : ∀ j, j < 17 → ¬ j < 7 → M j = .null) :
    MetFree l x (head1 (Jvm.Cond.code x code maxLocals ret :: ws) room_1) (fun a U => a = #[(.int p1)] ∧ Z.Warmed39 U.vm ∧ U.heap = h0) (fun _ _ _ _ _ => True) (fun _ U o U' => ∃ v L, o = .returned v ∧ Q_law Z p1 K M h0 n0 v U'.heap L ∧ FrameEnd U o U' L room_1.cells room_1.slots) := by
  refine MetFree.of_bodySF (plainFor_of_name pn_com_example_orbweaver_orbweaver_idl_BasicTypeIsIntegerPinLaw) hisR ?_
  intro p ee s m args below meth cc s₁ Bd hml0 hP hK
  obtain ⟨rfl, hZ, hh⟩ := hP
  have hx := Bd.exec
  have hby := Bd.bytes
  have hml : cc.maxLocals = 4 := hml0
  have hown : s.vm.findClass "com/example/orbweaver/orbweaver/idl/BasicTypeIsIntegerPinLaw" = some m.cls := findClass_of_methodNamed Bd.named
  have hnm := (name_of_methodNamed Bd.named Bd.method).1
  have X0 : Stand p l ee room_1 s m #[(.int p1)] below meth cc s₁ [] 0 0 := Stand.of_body Bd
  have e0 : s₁.heap = h0 := by rw [← hh, Bd.state]; rfl
  have N0 := Fr.nil n0
  show Goes p ee below s room_1.cells room_1.slots (Q_law Z p1 K M h0 n0) (s₁.setTop (entryFrame m #[(.int p1)] maxLocals))
  refine Goes.step (fun _ hr_ => castTop (ef_law m p1) hr_) ?_
  show Goes p ee below s _ _ _ (s₁.setTop (mkF m 0 #[.val (.int p1), .unset, .unset, .unset] []))
  have OO := O0
  refine Goes.step (fun _ hr_ => XS.bipush X0.here hx rfl (hb hby at_0) hr_) ?_
  show Goes p ee below s _ _ _ (s₁.setTop (mkF m 2 #[.val (.int p1), .unset, .unset, .unset] [(.int (17 : Int32))]))
  obtain ⟨T1, h1, X1, e1, E1, A1, st1⟩ := own_newR X0 hx hZ hown (hw _ (List.mem_of_getElem? (i := 0) rfl)) (hw _ (List.mem_of_getElem? (i := 1) rfl)) e0 (z := (17 : Int32)) (by decide) (n := 17) rfl (cap := 17) (Nat.le_refl _) (by decide) (by decide) (by decide) (g := (mkF m 2 #[.val (.int p1), .unset, .unset, .unset] [(.int (17 : Int32))])) rfl rfl (hb hby at_2)
  obtain ⟨b1, g_b1⟩ : ∃ z, z = h0.size := ⟨_, rfl⟩
  have ge_b1 : n0 ≤ b1 := Nat.le_trans Z0 (Nat.le_of_eq g_b1.symm)
  rw [← g_b1] at A1 st1
  have Zp2 := Nat.le_trans Z0 E1.1
  have OO := OO.ext E1
  refine Goes.step st1 ?_
  have A_b1 := A1
  show Goes p ee below s _ _ _ (T1.setTop (mkF m 5 #[.val (.int p1), .unset, .unset, .unset] [(.ref b1)]))
  refine Goes.step (fun _ hr_ => XS.dup X1.here hx rfl (hb hby at_5) rfl rfl hr_) ?_
  show Goes p ee below s _ _ _ (T1.setTop (mkF m 6 #[.val (.int p1), .unset, .unset, .unset] [(.ref b1), (.ref b1)]))
  refine Goes.step (fun _ hr_ => XS.iconst X1.here hx rfl (hb hby at_6) hr_) ?_
  show Goes p ee below s _ _ _ (T1.setTop (mkF m 7 #[.val (.int p1), .unset, .unset, .unset] [(.int (0 : Int32)), (.ref b1), (.ref b1)]))
  obtain ⟨T3, X3, e3, st3⟩ := getS X1 hx hZ (host := "") hown (hw _ (List.mem_of_getElem? (i := 2) rfl)) Via.refl e1 ((SS.1).ext OO.2) (g := (mkF m 7 #[.val (.int p1), .unset, .unset, .unset] [(.int (0 : Int32)), (.ref b1), (.ref b1)])) rfl (hb hby at_7)
  refine Goes.step st3 ?_
  show Goes p ee below s _ _ _ (T3.setTop (mkF m 10 #[.val (.int p1), .unset, .unset, .unset] [(.ref (K 0)), (.int (0 : Int32)), (.ref b1), (.ref b1)]))
  obtain ⟨T4, h4, X4, e4, W4, A4, st4⟩ := own_stR X3 hx hZ e3 A_b1 (y := (K 0)) (Ins.self ((EE 0 (by decide)).ext OO.2)) (j := (0 : Int32)) (by decide) (k := 0) rfl (by decide) (g := (mkF m 10 #[.val (.int p1), .unset, .unset, .unset] [(.ref (K 0)), (.int (0 : Int32)), (.ref b1), (.ref b1)])) rfl rfl (hb hby at_10)
  refine Goes.step st4 ?_
  have Zp5 := Nat.le_trans Zp2 (Keep.of_wr W4).1
  have N6 := Fr.snoc X4 N0 ge_b1
  have OO := OO.wr W4 ge_b1
  have A_b1 : OR Z h4 b1 "com/example/orbweaver/orbweaver/idl/BasicType" 17 (fun i => [(.ref (K 0)), .null, .null, .null, .null, .null, .null, .null, .null, .null, .null, .null, .null, .null, .null, .null, .null].getD i .null) := A4.congr (fun i hi => by match i, hi with | 0, _ => rfl | 1, _ => rfl | 2, _ => rfl | 3, _ => rfl | 4, _ => rfl | 5, _ => rfl | 6, _ => rfl | 7, _ => rfl | 8, _ => rfl | 9, _ => rfl | 10, _ => rfl | 11, _ => rfl | 12, _ => rfl | 13, _ => rfl | 14, _ => rfl | 15, _ => rfl | 16, _ => rfl | i + 17, hi => omega)
  show Goes p ee below s _ _ _ (T4.setTop (mkF m 11 #[.val (.int p1), .unset, .unset, .unset] [(.ref b1)]))
  refine Goes.step (fun _ hr_ => XS.dup X4.here hx rfl (hb hby at_11) rfl rfl hr_) ?_
  show Goes p ee below s _ _ _ (T4.setTop (mkF m 12 #[.val (.int p1), .unset, .unset, .unset] [(.ref b1), (.ref b1)]))
  refine Goes.step (fun _ hr_ => XS.iconst X4.here hx rfl (hb hby at_12) hr_) ?_
  show Goes p ee below s _ _ _ (T4.setTop (mkF m 13 #[.val (.int p1), .unset, .unset, .unset] [(.int (1 : Int32)), (.ref b1), (.ref b1)]))
  obtain ⟨T7, X7, e7, st7⟩ := getS X4 hx hZ (host := "") hown (hw _ (List.mem_of_getElem? (i := 6) rfl)) Via.refl e4 ((SS.2.1).ext OO.2) (g := (mkF m 13 #[.val (.int p1), .unset, .unset, .unset] [(.int (1 : Int32)), (.ref b1), (.ref b1)])) rfl (hb hby at_13)
  refine Goes.step st7 ?_
  show Goes p ee below s _ _ _ (T7.setTop (mkF m 16 #[.val (.int p1), .unset, .unset, .unset] [(.ref (K 1)), (.int (1 : Int32)), (.ref b1), (.ref b1)]))
  obtain ⟨T8, h8, X8, e8, W8, A8, st8⟩ := own_stR X7 hx hZ e7 A_b1 (y := (K 1)) (Ins.self ((EE 1 (by decide)).ext OO.2)) (j := (1 : Int32)) (by decide) (k := 1) rfl (by decide) (g := (mkF m 16 #[.val (.int p1), .unset, .unset, .unset] [(.ref (K 1)), (.int (1 : Int32)), (.ref b1), (.ref b1)])) rfl rfl (hb hby at_16)
  refine Goes.step st8 ?_
  have Zp9 := Nat.le_trans Zp5 (Keep.of_wr W8).1
  have N10 := Fr.snoc X8 N6 ge_b1
  have OO := OO.wr W8 ge_b1
  have A_b1 : OR Z h8 b1 "com/example/orbweaver/orbweaver/idl/BasicType" 17 (fun i => [(.ref (K 0)), (.ref (K 1)), .null, .null, .null, .null, .null, .null, .null, .null, .null, .null, .null, .null, .null, .null, .null].getD i .null) := A8.congr (fun i hi => by match i, hi with | 0, _ => rfl | 1, _ => rfl | 2, _ => rfl | 3, _ => rfl | 4, _ => rfl | 5, _ => rfl | 6, _ => rfl | 7, _ => rfl | 8, _ => rfl | 9, _ => rfl | 10, _ => rfl | 11, _ => rfl | 12, _ => rfl | 13, _ => rfl | 14, _ => rfl | 15, _ => rfl | 16, _ => rfl | i + 17, hi => omega)
  show Goes p ee below s _ _ _ (T8.setTop (mkF m 17 #[.val (.int p1), .unset, .unset, .unset] [(.ref b1)]))
  refine Goes.step (fun _ hr_ => XS.dup X8.here hx rfl (hb hby at_17) rfl rfl hr_) ?_
  show Goes p ee below s _ _ _ (T8.setTop (mkF m 18 #[.val (.int p1), .unset, .unset, .unset] [(.ref b1), (.ref b1)]))
  refine Goes.step (fun _ hr_ => XS.iconst X8.here hx rfl (hb hby at_18) hr_) ?_
  show Goes p ee below s _ _ _ (T8.setTop (mkF m 19 #[.val (.int p1), .unset, .unset, .unset] [(.int (2 : Int32)), (.ref b1), (.ref b1)]))
  obtain ⟨T11, X11, e11, st11⟩ := getS X8 hx hZ (host := "") hown (hw _ (List.mem_of_getElem? (i := 8) rfl)) Via.refl e8 ((SS.2.2.1).ext OO.2) (g := (mkF m 19 #[.val (.int p1), .unset, .unset, .unset] [(.int (2 : Int32)), (.ref b1), (.ref b1)])) rfl (hb hby at_19)
  refine Goes.step st11 ?_
  show Goes p ee below s _ _ _ (T11.setTop (mkF m 22 #[.val (.int p1), .unset, .unset, .unset] [(.ref (K 2)), (.int (2 : Int32)), (.ref b1), (.ref b1)]))
  obtain ⟨T12, h12, X12, e12, W12, A12, st12⟩ := own_stR X11 hx hZ e11 A_b1 (y := (K 2)) (Ins.self ((EE 2 (by decide)).ext OO.2)) (j := (2 : Int32)) (by decide) (k := 2) rfl (by decide) (g := (mkF m 22 #[.val (.int p1), .unset, .unset, .unset] [(.ref (K 2)), (.int (2 : Int32)), (.ref b1), (.ref b1)])) rfl rfl (hb hby at_22)
  refine Goes.step st12 ?_
  have Zp13 := Nat.le_trans Zp9 (Keep.of_wr W12).1
  have N14 := Fr.snoc X12 N10 ge_b1
  have OO := OO.wr W12 ge_b1
  have A_b1 : OR Z h12 b1 "com/example/orbweaver/orbweaver/idl/BasicType" 17 (fun i => [(.ref (K 0)), (.ref (K 1)), (.ref (K 2)), .null, .null, .null, .null, .null, .null, .null, .null, .null, .null, .null, .null, .null, .null].getD i .null) := A12.congr (fun i hi => by match i, hi with | 0, _ => rfl | 1, _ => rfl | 2, _ => rfl | 3, _ => rfl | 4, _ => rfl | 5, _ => rfl | 6, _ => rfl | 7, _ => rfl | 8, _ => rfl | 9, _ => rfl | 10, _ => rfl | 11, _ => rfl | 12, _ => rfl | 13, _ => rfl | 14, _ => rfl | 15, _ => rfl | 16, _ => rfl | i + 17, hi => omega)
  show Goes p ee below s _ _ _ (T12.setTop (mkF m 23 #[.val (.int p1), .unset, .unset, .unset] [(.ref b1)]))
  refine Goes.step (fun _ hr_ => XS.dup X12.here hx rfl (hb hby at_23) rfl rfl hr_) ?_
  show Goes p ee below s _ _ _ (T12.setTop (mkF m 24 #[.val (.int p1), .unset, .unset, .unset] [(.ref b1), (.ref b1)]))
  refine Goes.step (fun _ hr_ => XS.iconst X12.here hx rfl (hb hby at_24) hr_) ?_
  show Goes p ee below s _ _ _ (T12.setTop (mkF m 25 #[.val (.int p1), .unset, .unset, .unset] [(.int (3 : Int32)), (.ref b1), (.ref b1)]))
  obtain ⟨T15, X15, e15, st15⟩ := getS X12 hx hZ (host := "") hown (hw _ (List.mem_of_getElem? (i := 10) rfl)) Via.refl e12 ((SS.2.2.2.1).ext OO.2) (g := (mkF m 25 #[.val (.int p1), .unset, .unset, .unset] [(.int (3 : Int32)), (.ref b1), (.ref b1)])) rfl (hb hby at_25)
  refine Goes.step st15 ?_
  show Goes p ee below s _ _ _ (T15.setTop (mkF m 28 #[.val (.int p1), .unset, .unset, .unset] [(.ref (K 3)), (.int (3 : Int32)), (.ref b1), (.ref b1)]))
  obtain ⟨T16, h16, X16, e16, W16, A16, st16⟩ := own_stR X15 hx hZ e15 A_b1 (y := (K 3)) (Ins.self ((EE 3 (by decide)).ext OO.2)) (j := (3 : Int32)) (by decide) (k := 3) rfl (by decide) (g := (mkF m 28 #[.val (.int p1), .unset, .unset, .unset] [(.ref (K 3)), (.int (3 : Int32)), (.ref b1), (.ref b1)])) rfl rfl (hb hby at_28)
  refine Goes.step st16 ?_
  have Zp17 := Nat.le_trans Zp13 (Keep.of_wr W16).1
  have N18 := Fr.snoc X16 N14 ge_b1
  have OO := OO.wr W16 ge_b1
  have A_b1 : OR Z h16 b1 "com/example/orbweaver/orbweaver/idl/BasicType" 17 (fun i => [(.ref (K 0)), (.ref (K 1)), (.ref (K 2)), (.ref (K 3)), .null, .null, .null, .null, .null, .null, .null, .null, .null, .null, .null, .null, .null].getD i .null) := A16.congr (fun i hi => by match i, hi with | 0, _ => rfl | 1, _ => rfl | 2, _ => rfl | 3, _ => rfl | 4, _ => rfl | 5, _ => rfl | 6, _ => rfl | 7, _ => rfl | 8, _ => rfl | 9, _ => rfl | 10, _ => rfl | 11, _ => rfl | 12, _ => rfl | 13, _ => rfl | 14, _ => rfl | 15, _ => rfl | 16, _ => rfl | i + 17, hi => omega)
  show Goes p ee below s _ _ _ (T16.setTop (mkF m 29 #[.val (.int p1), .unset, .unset, .unset] [(.ref b1)]))
  refine Goes.step (fun _ hr_ => XS.dup X16.here hx rfl (hb hby at_29) rfl rfl hr_) ?_
  show Goes p ee below s _ _ _ (T16.setTop (mkF m 30 #[.val (.int p1), .unset, .unset, .unset] [(.ref b1), (.ref b1)]))
  refine Goes.step (fun _ hr_ => XS.iconst X16.here hx rfl (hb hby at_30) hr_) ?_
  show Goes p ee below s _ _ _ (T16.setTop (mkF m 31 #[.val (.int p1), .unset, .unset, .unset] [(.int (4 : Int32)), (.ref b1), (.ref b1)]))
  obtain ⟨T19, X19, e19, st19⟩ := getS X16 hx hZ (host := "") hown (hw _ (List.mem_of_getElem? (i := 12) rfl)) Via.refl e16 ((SS.2.2.2.2.1).ext OO.2) (g := (mkF m 31 #[.val (.int p1), .unset, .unset, .unset] [(.int (4 : Int32)), (.ref b1), (.ref b1)])) rfl (hb hby at_31)
  refine Goes.step st19 ?_
  show Goes p ee below s _ _ _ (T19.setTop (mkF m 34 #[.val (.int p1), .unset, .unset, .unset] [(.ref (K 4)), (.int (4 : Int32)), (.ref b1), (.ref b1)]))
  obtain ⟨T20, h20, X20, e20, W20, A20, st20⟩ := own_stR X19 hx hZ e19 A_b1 (y := (K 4)) (Ins.self ((EE 4 (by decide)).ext OO.2)) (j := (4 : Int32)) (by decide) (k := 4) rfl (by decide) (g := (mkF m 34 #[.val (.int p1), .unset, .unset, .unset] [(.ref (K 4)), (.int (4 : Int32)), (.ref b1), (.ref b1)])) rfl rfl (hb hby at_34)
  refine Goes.step st20 ?_
  have Zp21 := Nat.le_trans Zp17 (Keep.of_wr W20).1
  have N22 := Fr.snoc X20 N18 ge_b1
  have OO := OO.wr W20 ge_b1
  have A_b1 : OR Z h20 b1 "com/example/orbweaver/orbweaver/idl/BasicType" 17 (fun i => [(.ref (K 0)), (.ref (K 1)), (.ref (K 2)), (.ref (K 3)), (.ref (K 4)), .null, .null, .null, .null, .null, .null, .null, .null, .null, .null, .null, .null].getD i .null) := A20.congr (fun i hi => by match i, hi with | 0, _ => rfl | 1, _ => rfl | 2, _ => rfl | 3, _ => rfl | 4, _ => rfl | 5, _ => rfl | 6, _ => rfl | 7, _ => rfl | 8, _ => rfl | 9, _ => rfl | 10, _ => rfl | 11, _ => rfl | 12, _ => rfl | 13, _ => rfl | 14, _ => rfl | 15, _ => rfl | 16, _ => rfl | i + 17, hi => omega)
  show Goes p ee below s _ _ _ (T20.setTop (mkF m 35 #[.val (.int p1), .unset, .unset, .unset] [(.ref b1)]))
  refine Goes.step (fun _ hr_ => XS.dup X20.here hx rfl (hb hby at_35) rfl rfl hr_) ?_
  show Goes p ee below s _ _ _ (T20.setTop (mkF m 36 #[.val (.int p1), .unset, .unset, .unset] [(.ref b1), (.ref b1)]))
  refine Goes.step (fun _ hr_ => XS.iconst X20.here hx rfl (hb hby at_36) hr_) ?_
  show Goes p ee below s _ _ _ (T20.setTop (mkF m 37 #[.val (.int p1), .unset, .unset, .unset] [(.int (5 : Int32)), (.ref b1), (.ref b1)]))
  obtain ⟨T23, X23, e23, st23⟩ := getS X20 hx hZ (host := "") hown (hw _ (List.mem_of_getElem? (i := 14) rfl)) Via.refl e20 ((SS.2.2.2.2.2.1).ext OO.2) (g := (mkF m 37 #[.val (.int p1), .unset, .unset, .unset] [(.int (5 : Int32)), (.ref b1), (.ref b1)])) rfl (hb hby at_37)
  refine Goes.step st23 ?_
  show Goes p ee below s _ _ _ (T23.setTop (mkF m 40 #[.val (.int p1), .unset, .unset, .unset] [(.ref (K 5)), (.int (5 : Int32)), (.ref b1), (.ref b1)]))
  obtain ⟨T24, h24, X24, e24, W24, A24, st24⟩ := own_stR X23 hx hZ e23 A_b1 (y := (K 5)) (Ins.self ((EE 5 (by decide)).ext OO.2)) (j := (5 : Int32)) (by decide) (k := 5) rfl (by decide) (g := (mkF m 40 #[.val (.int p1), .unset, .unset, .unset] [(.ref (K 5)), (.int (5 : Int32)), (.ref b1), (.ref b1)])) rfl rfl (hb hby at_40)
  refine Goes.step st24 ?_
  have Zp25 := Nat.le_trans Zp21 (Keep.of_wr W24).1
  have N26 := Fr.snoc X24 N22 ge_b1
  have OO := OO.wr W24 ge_b1
  have A_b1 : OR Z h24 b1 "com/example/orbweaver/orbweaver/idl/BasicType" 17 (fun i => [(.ref (K 0)), (.ref (K 1)), (.ref (K 2)), (.ref (K 3)), (.ref (K 4)), (.ref (K 5)), .null, .null, .null, .null, .null, .null, .null, .null, .null, .null, .null].getD i .null) := A24.congr (fun i hi => by match i, hi with | 0, _ => rfl | 1, _ => rfl | 2, _ => rfl | 3, _ => rfl | 4, _ => rfl | 5, _ => rfl | 6, _ => rfl | 7, _ => rfl | 8, _ => rfl | 9, _ => rfl | 10, _ => rfl | 11, _ => rfl | 12, _ => rfl | 13, _ => rfl | 14, _ => rfl | 15, _ => rfl | 16, _ => rfl | i + 17, hi => omega)
  show Goes p ee below s _ _ _ (T24.setTop (mkF m 41 #[.val (.int p1), .unset, .unset, .unset] [(.ref b1)]))
  refine Goes.step (fun _ hr_ => XS.dup X24.here hx rfl (hb hby at_41) rfl rfl hr_) ?_
  show Goes p ee below s _ _ _ (T24.setTop (mkF m 42 #[.val (.int p1), .unset, .unset, .unset] [(.ref b1), (.ref b1)]))
  refine Goes.step (fun _ hr_ => XS.bipush X24.here hx rfl (hb hby at_42) hr_) ?_
  show Goes p ee below s _ _ _ (T24.setTop (mkF m 44 #[.val (.int p1), .unset, .unset, .unset] [(.int (6 : Int32)), (.ref b1), (.ref b1)]))
  obtain ⟨T27, X27, e27, st27⟩ := getS X24 hx hZ (host := "") hown (hw _ (List.mem_of_getElem? (i := 16) rfl)) Via.refl e24 ((SS.2.2.2.2.2.2.1).ext OO.2) (g := (mkF m 44 #[.val (.int p1), .unset, .unset, .unset] [(.int (6 : Int32)), (.ref b1), (.ref b1)])) rfl (hb hby at_44)
  refine Goes.step st27 ?_
  show Goes p ee below s _ _ _ (T27.setTop (mkF m 47 #[.val (.int p1), .unset, .unset, .unset] [(.ref (K 6)), (.int (6 : Int32)), (.ref b1), (.ref b1)]))
  obtain ⟨T28, h28, X28, e28, W28, A28, st28⟩ := own_stR X27 hx hZ e27 A_b1 (y := (K 6)) (Ins.self ((EE 6 (by decide)).ext OO.2)) (j := (6 : Int32)) (by decide) (k := 6) rfl (by decide) (g := (mkF m 47 #[.val (.int p1), .unset, .unset, .unset] [(.ref (K 6)), (.int (6 : Int32)), (.ref b1), (.ref b1)])) rfl rfl (hb hby at_47)
  refine Goes.step st28 ?_
  have Zp29 := Nat.le_trans Zp25 (Keep.of_wr W28).1
  have N30 := Fr.snoc X28 N26 ge_b1
  have OO := OO.wr W28 ge_b1
  have A_b1 : OR Z h28 b1 "com/example/orbweaver/orbweaver/idl/BasicType" 17 (fun i => [(.ref (K 0)), (.ref (K 1)), (.ref (K 2)), (.ref (K 3)), (.ref (K 4)), (.ref (K 5)), (.ref (K 6)), .null, .null, .null, .null, .null, .null, .null, .null, .null, .null].getD i .null) := A28.congr (fun i hi => by match i, hi with | 0, _ => rfl | 1, _ => rfl | 2, _ => rfl | 3, _ => rfl | 4, _ => rfl | 5, _ => rfl | 6, _ => rfl | 7, _ => rfl | 8, _ => rfl | 9, _ => rfl | 10, _ => rfl | 11, _ => rfl | 12, _ => rfl | 13, _ => rfl | 14, _ => rfl | 15, _ => rfl | 16, _ => rfl | i + 17, hi => omega)
  show Goes p ee below s _ _ _ (T28.setTop (mkF m 48 #[.val (.int p1), .unset, .unset, .unset] [(.ref b1)]))
  refine Goes.step (fun _ hr_ => XS.dup X28.here hx rfl (hb hby at_48) rfl rfl hr_) ?_
  show Goes p ee below s _ _ _ (T28.setTop (mkF m 49 #[.val (.int p1), .unset, .unset, .unset] [(.ref b1), (.ref b1)]))
  refine Goes.step (fun _ hr_ => XS.bipush X28.here hx rfl (hb hby at_49) hr_) ?_
  show Goes p ee below s _ _ _ (T28.setTop (mkF m 51 #[.val (.int p1), .unset, .unset, .unset] [(.int (7 : Int32)), (.ref b1), (.ref b1)]))
  obtain ⟨T31, X31, e31, st31⟩ := getS X28 hx hZ (host := "") hown (hw _ (List.mem_of_getElem? (i := 18) rfl)) Via.refl e28 ((SS.2.2.2.2.2.2.2.1).ext OO.2) (g := (mkF m 51 #[.val (.int p1), .unset, .unset, .unset] [(.int (7 : Int32)), (.ref b1), (.ref b1)])) rfl (hb hby at_51)
  refine Goes.step st31 ?_
  show Goes p ee below s _ _ _ (T31.setTop (mkF m 54 #[.val (.int p1), .unset, .unset, .unset] [(.ref (K 7)), (.int (7 : Int32)), (.ref b1), (.ref b1)]))
  obtain ⟨T32, h32, X32, e32, W32, A32, st32⟩ := own_stR X31 hx hZ e31 A_b1 (y := (K 7)) (Ins.self ((EE 7 (by decide)).ext OO.2)) (j := (7 : Int32)) (by decide) (k := 7) rfl (by decide) (g := (mkF m 54 #[.val (.int p1), .unset, .unset, .unset] [(.ref (K 7)), (.int (7 : Int32)), (.ref b1), (.ref b1)])) rfl rfl (hb hby at_54)
  refine Goes.step st32 ?_
  have Zp33 := Nat.le_trans Zp29 (Keep.of_wr W32).1
  have N34 := Fr.snoc X32 N30 ge_b1
  have OO := OO.wr W32 ge_b1
  have A_b1 : OR Z h32 b1 "com/example/orbweaver/orbweaver/idl/BasicType" 17 (fun i => [(.ref (K 0)), (.ref (K 1)), (.ref (K 2)), (.ref (K 3)), (.ref (K 4)), (.ref (K 5)), (.ref (K 6)), (.ref (K 7)), .null, .null, .null, .null, .null, .null, .null, .null, .null].getD i .null) := A32.congr (fun i hi => by match i, hi with | 0, _ => rfl | 1, _ => rfl | 2, _ => rfl | 3, _ => rfl | 4, _ => rfl | 5, _ => rfl | 6, _ => rfl | 7, _ => rfl | 8, _ => rfl | 9, _ => rfl | 10, _ => rfl | 11, _ => rfl | 12, _ => rfl | 13, _ => rfl | 14, _ => rfl | 15, _ => rfl | 16, _ => rfl | i + 17, hi => omega)
  show Goes p ee below s _ _ _ (T32.setTop (mkF m 55 #[.val (.int p1), .unset, .unset, .unset] [(.ref b1)]))
  refine Goes.step (fun _ hr_ => XS.dup X32.here hx rfl (hb hby at_55) rfl rfl hr_) ?_
  show Goes p ee below s _ _ _ (T32.setTop (mkF m 56 #[.val (.int p1), .unset, .unset, .unset] [(.ref b1), (.ref b1)]))
  refine Goes.step (fun _ hr_ => XS.bipush X32.here hx rfl (hb hby at_56) hr_) ?_
  show Goes p ee below s _ _ _ (T32.setTop (mkF m 58 #[.val (.int p1), .unset, .unset, .unset] [(.int (8 : Int32)), (.ref b1), (.ref b1)]))
  obtain ⟨T35, X35, e35, st35⟩ := getS X32 hx hZ (host := "") hown (hw _ (List.mem_of_getElem? (i := 20) rfl)) Via.refl e32 ((SS.2.2.2.2.2.2.2.2.1).ext OO.2) (g := (mkF m 58 #[.val (.int p1), .unset, .unset, .unset] [(.int (8 : Int32)), (.ref b1), (.ref b1)])) rfl (hb hby at_58)
  refine Goes.step st35 ?_
  show Goes p ee below s _ _ _ (T35.setTop (mkF m 61 #[.val (.int p1), .unset, .unset, .unset] [(.ref (K 8)), (.int (8 : Int32)), (.ref b1), (.ref b1)]))
  obtain ⟨T36, h36, X36, e36, W36, A36, st36⟩ := own_stR X35 hx hZ e35 A_b1 (y := (K 8)) (Ins.self ((EE 8 (by decide)).ext OO.2)) (j := (8 : Int32)) (by decide) (k := 8) rfl (by decide) (g := (mkF m 61 #[.val (.int p1), .unset, .unset, .unset] [(.ref (K 8)), (.int (8 : Int32)), (.ref b1), (.ref b1)])) rfl rfl (hb hby at_61)
  refine Goes.step st36 ?_
  have Zp37 := Nat.le_trans Zp33 (Keep.of_wr W36).1
  have N38 := Fr.snoc X36 N34 ge_b1
  have OO := OO.wr W36 ge_b1
  have A_b1 : OR Z h36 b1 "com/example/orbweaver/orbweaver/idl/BasicType" 17 (fun i => [(.ref (K 0)), (.ref (K 1)), (.ref (K 2)), (.ref (K 3)), (.ref (K 4)), (.ref (K 5)), (.ref (K 6)), (.ref (K 7)), (.ref (K 8)), .null, .null, .null, .null, .null, .null, .null, .null].getD i .null) := A36.congr (fun i hi => by match i, hi with | 0, _ => rfl | 1, _ => rfl | 2, _ => rfl | 3, _ => rfl | 4, _ => rfl | 5, _ => rfl | 6, _ => rfl | 7, _ => rfl | 8, _ => rfl | 9, _ => rfl | 10, _ => rfl | 11, _ => rfl | 12, _ => rfl | 13, _ => rfl | 14, _ => rfl | 15, _ => rfl | 16, _ => rfl | i + 17, hi => omega)
  show Goes p ee below s _ _ _ (T36.setTop (mkF m 62 #[.val (.int p1), .unset, .unset, .unset] [(.ref b1)]))
  refine Goes.step (fun _ hr_ => XS.dup X36.here hx rfl (hb hby at_62) rfl rfl hr_) ?_
  show Goes p ee below s _ _ _ (T36.setTop (mkF m 63 #[.val (.int p1), .unset, .unset, .unset] [(.ref b1), (.ref b1)]))
  refine Goes.step (fun _ hr_ => XS.bipush X36.here hx rfl (hb hby at_63) hr_) ?_
  show Goes p ee below s _ _ _ (T36.setTop (mkF m 65 #[.val (.int p1), .unset, .unset, .unset] [(.int (9 : Int32)), (.ref b1), (.ref b1)]))
  obtain ⟨T39, X39, e39, st39⟩ := getS X36 hx hZ (host := "") hown (hw _ (List.mem_of_getElem? (i := 22) rfl)) Via.refl e36 ((SS.2.2.2.2.2.2.2.2.2.1).ext OO.2) (g := (mkF m 65 #[.val (.int p1), .unset, .unset, .unset] [(.int (9 : Int32)), (.ref b1), (.ref b1)])) rfl (hb hby at_65)
  refine Goes.step st39 ?_
  show Goes p ee below s _ _ _ (T39.setTop (mkF m 68 #[.val (.int p1), .unset, .unset, .unset] [(.ref (K 9)), (.int (9 : Int32)), (.ref b1), (.ref b1)]))
  obtain ⟨T40, h40, X40, e40, W40, A40, st40⟩ := own_stR X39 hx hZ e39 A_b1 (y := (K 9)) (Ins.self ((EE 9 (by decide)).ext OO.2)) (j := (9 : Int32)) (by decide) (k := 9) rfl (by decide) (g := (mkF m 68 #[.val (.int p1), .unset, .unset, .unset] [(.ref (K 9)), (.int (9 : Int32)), (.ref b1), (.ref b1)])) rfl rfl (hb hby at_68)
  refine Goes.step st40 ?_
  have Zp41 := Nat.le_trans Zp37 (Keep.of_wr W40).1
  have N42 := Fr.snoc X40 N38 ge_b1
  have OO := OO.wr W40 ge_b1
  have A_b1 : OR Z h40 b1 "com/example/orbweaver/orbweaver/idl/BasicType" 17 (fun i => [(.ref (K 0)), (.ref (K 1)), (.ref (K 2)), (.ref (K 3)), (.ref (K 4)), (.ref (K 5)), (.ref (K 6)), (.ref (K 7)), (.ref (K 8)), (.ref (K 9)), .null, .null, .null, .null, .null, .null, .null].getD i .null) := A40.congr (fun i hi => by match i, hi with | 0, _ => rfl | 1, _ => rfl | 2, _ => rfl | 3, _ => rfl | 4, _ => rfl | 5, _ => rfl | 6, _ => rfl | 7, _ => rfl | 8, _ => rfl | 9, _ => rfl | 10, _ => rfl | 11, _ => rfl | 12, _ => rfl | 13, _ => rfl | 14, _ => rfl | 15, _ => rfl | 16, _ => rfl | i + 17, hi => omega)
  show Goes p ee below s _ _ _ (T40.setTop (mkF m 69 #[.val (.int p1), .unset, .unset, .unset] [(.ref b1)]))
  refine Goes.step (fun _ hr_ => XS.dup X40.here hx rfl (hb hby at_69) rfl rfl hr_) ?_
  show Goes p ee below s _ _ _ (T40.setTop (mkF m 70 #[.val (.int p1), .unset, .unset, .unset] [(.ref b1), (.ref b1)]))
  refine Goes.step (fun _ hr_ => XS.bipush X40.here hx rfl (hb hby at_70) hr_) ?_
  show Goes p ee below s _ _ _ (T40.setTop (mkF m 72 #[.val (.int p1), .unset, .unset, .unset] [(.int (10 : Int32)), (.ref b1), (.ref b1)]))
  obtain ⟨T43, X43, e43, st43⟩ := getS X40 hx hZ (host := "") hown (hw _ (List.mem_of_getElem? (i := 24) rfl)) Via.refl e40 ((SS.2.2.2.2.2.2.2.2.2.2.1).ext OO.2) (g := (mkF m 72 #[.val (.int p1), .unset, .unset, .unset] [(.int (10 : Int32)), (.ref b1), (.ref b1)])) rfl (hb hby at_72)
  refine Goes.step st43 ?_
  show Goes p ee below s _ _ _ (T43.setTop (mkF m 75 #[.val (.int p1), .unset, .unset, .unset] [(.ref (K 10)), (.int (10 : Int32)), (.ref b1), (.ref b1)]))
  obtain ⟨T44, h44, X44, e44, W44, A44, st44⟩ := own_stR X43 hx hZ e43 A_b1 (y := (K 10)) (Ins.self ((EE 10 (by decide)).ext OO.2)) (j := (10 : Int32)) (by decide) (k := 10) rfl (by decide) (g := (mkF m 75 #[.val (.int p1), .unset, .unset, .unset] [(.ref (K 10)), (.int (10 : Int32)), (.ref b1), (.ref b1)])) rfl rfl (hb hby at_75)
  refine Goes.step st44 ?_
  have Zp45 := Nat.le_trans Zp41 (Keep.of_wr W44).1
  have N46 := Fr.snoc X44 N42 ge_b1
  have OO := OO.wr W44 ge_b1
  have A_b1 : OR Z h44 b1 "com/example/orbweaver/orbweaver/idl/BasicType" 17 (fun i => [(.ref (K 0)), (.ref (K 1)), (.ref (K 2)), (.ref (K 3)), (.ref (K 4)), (.ref (K 5)), (.ref (K 6)), (.ref (K 7)), (.ref (K 8)), (.ref (K 9)), (.ref (K 10)), .null, .null, .null, .null, .null, .null].getD i .null) := A44.congr (fun i hi => by match i, hi with | 0, _ => rfl | 1, _ => rfl | 2, _ => rfl | 3, _ => rfl | 4, _ => rfl | 5, _ => rfl | 6, _ => rfl | 7, _ => rfl | 8, _ => rfl | 9, _ => rfl | 10, _ => rfl | 11, _ => rfl | 12, _ => rfl | 13, _ => rfl | 14, _ => rfl | 15, _ => rfl | 16, _ => rfl | i + 17, hi => omega)
  show Goes p ee below s _ _ _ (T44.setTop (mkF m 76 #[.val (.int p1), .unset, .unset, .unset] [(.ref b1)]))
  refine Goes.step (fun _ hr_ => XS.dup X44.here hx rfl (hb hby at_76) rfl rfl hr_) ?_
  show Goes p ee below s _ _ _ (T44.setTop (mkF m 77 #[.val (.int p1), .unset, .unset, .unset] [(.ref b1), (.ref b1)]))
  refine Goes.step (fun _ hr_ => XS.bipush X44.here hx rfl (hb hby at_77) hr_) ?_
  show Goes p ee below s _ _ _ (T44.setTop (mkF m 79 #[.val (.int p1), .unset, .unset, .unset] [(.int (11 : Int32)), (.ref b1), (.ref b1)]))
  obtain ⟨T47, X47, e47, st47⟩ := getS X44 hx hZ (host := "") hown (hw _ (List.mem_of_getElem? (i := 26) rfl)) Via.refl e44 ((SS.2.2.2.2.2.2.2.2.2.2.2.1).ext OO.2) (g := (mkF m 79 #[.val (.int p1), .unset, .unset, .unset] [(.int (11 : Int32)), (.ref b1), (.ref b1)])) rfl (hb hby at_79)
  refine Goes.step st47 ?_
  show Goes p ee below s _ _ _ (T47.setTop (mkF m 82 #[.val (.int p1), .unset, .unset, .unset] [(.ref (K 11)), (.int (11 : Int32)), (.ref b1), (.ref b1)]))
  obtain ⟨T48, h48, X48, e48, W48, A48, st48⟩ := own_stR X47 hx hZ e47 A_b1 (y := (K 11)) (Ins.self ((EE 11 (by decide)).ext OO.2)) (j := (11 : Int32)) (by decide) (k := 11) rfl (by decide) (g := (mkF m 82 #[.val (.int p1), .unset, .unset, .unset] [(.ref (K 11)), (.int (11 : Int32)), (.ref b1), (.ref b1)])) rfl rfl (hb hby at_82)
  refine Goes.step st48 ?_
  have Zp49 := Nat.le_trans Zp45 (Keep.of_wr W48).1
  have N50 := Fr.snoc X48 N46 ge_b1
  have OO := OO.wr W48 ge_b1
  have A_b1 : OR Z h48 b1 "com/example/orbweaver/orbweaver/idl/BasicType" 17 (fun i => [(.ref (K 0)), (.ref (K 1)), (.ref (K 2)), (.ref (K 3)), (.ref (K 4)), (.ref (K 5)), (.ref (K 6)), (.ref (K 7)), (.ref (K 8)), (.ref (K 9)), (.ref (K 10)), (.ref (K 11)), .null, .null, .null, .null, .null].getD i .null) := A48.congr (fun i hi => by match i, hi with | 0, _ => rfl | 1, _ => rfl | 2, _ => rfl | 3, _ => rfl | 4, _ => rfl | 5, _ => rfl | 6, _ => rfl | 7, _ => rfl | 8, _ => rfl | 9, _ => rfl | 10, _ => rfl | 11, _ => rfl | 12, _ => rfl | 13, _ => rfl | 14, _ => rfl | 15, _ => rfl | 16, _ => rfl | i + 17, hi => omega)
  show Goes p ee below s _ _ _ (T48.setTop (mkF m 83 #[.val (.int p1), .unset, .unset, .unset] [(.ref b1)]))
  refine Goes.step (fun _ hr_ => XS.dup X48.here hx rfl (hb hby at_83) rfl rfl hr_) ?_
  show Goes p ee below s _ _ _ (T48.setTop (mkF m 84 #[.val (.int p1), .unset, .unset, .unset] [(.ref b1), (.ref b1)]))
  refine Goes.step (fun _ hr_ => XS.bipush X48.here hx rfl (hb hby at_84) hr_) ?_
  show Goes p ee below s _ _ _ (T48.setTop (mkF m 86 #[.val (.int p1), .unset, .unset, .unset] [(.int (12 : Int32)), (.ref b1), (.ref b1)]))
  obtain ⟨T51, X51, e51, st51⟩ := getS X48 hx hZ (host := "") hown (hw _ (List.mem_of_getElem? (i := 28) rfl)) Via.refl e48 ((SS.2.2.2.2.2.2.2.2.2.2.2.2.1).ext OO.2) (g := (mkF m 86 #[.val (.int p1), .unset, .unset, .unset] [(.int (12 : Int32)), (.ref b1), (.ref b1)])) rfl (hb hby at_86)
  refine Goes.step st51 ?_
  show Goes p ee below s _ _ _ (T51.setTop (mkF m 89 #[.val (.int p1), .unset, .unset, .unset] [(.ref (K 12)), (.int (12 : Int32)), (.ref b1), (.ref b1)]))
  obtain ⟨T52, h52, X52, e52, W52, A52, st52⟩ := own_stR X51 hx hZ e51 A_b1 (y := (K 12)) (Ins.self ((EE 12 (by decide)).ext OO.2)) (j := (12 : Int32)) (by decide) (k := 12) rfl (by decide) (g := (mkF m 89 #[.val (.int p1), .unset, .unset, .unset] [(.ref (K 12)), (.int (12 : Int32)), (.ref b1), (.ref b1)])) rfl rfl (hb hby at_89)
  refine Goes.step st52 ?_
  have Zp53 := Nat.le_trans Zp49 (Keep.of_wr W52).1
  have N54 := Fr.snoc X52 N50 ge_b1
  have OO := OO.wr W52 ge_b1
  have A_b1 : OR Z h52 b1 "com/example/orbweaver/orbweaver/idl/BasicType" 17 (fun i => [(.ref (K 0)), (.ref (K 1)), (.ref (K 2)), (.ref (K 3)), (.ref (K 4)), (.ref (K 5)), (.ref (K 6)), (.ref (K 7)), (.ref (K 8)), (.ref (K 9)), (.ref (K 10)), (.ref (K 11)), (.ref (K 12)), .null, .null, .null, .null].getD i .null) := A52.congr (fun i hi => by match i, hi with | 0, _ => rfl | 1, _ => rfl | 2, _ => rfl | 3, _ => rfl | 4, _ => rfl | 5, _ => rfl | 6, _ => rfl | 7, _ => rfl | 8, _ => rfl | 9, _ => rfl | 10, _ => rfl | 11, _ => rfl | 12, _ => rfl | 13, _ => rfl | 14, _ => rfl | 15, _ => rfl | 16, _ => rfl | i + 17, hi => omega)
  show Goes p ee below s _ _ _ (T52.setTop (mkF m 90 #[.val (.int p1), .unset, .unset, .unset] [(.ref b1)]))
  refine Goes.step (fun _ hr_ => XS.dup X52.here hx rfl (hb hby at_90) rfl rfl hr_) ?_
  show Goes p ee below s _ _ _ (T52.setTop (mkF m 91 #[.val (.int p1), .unset, .unset, .unset] [(.ref b1), (.ref b1)]))
  refine Goes.step (fun _ hr_ => XS.bipush X52.here hx rfl (hb hby at_91) hr_) ?_
  show Goes p ee below s _ _ _ (T52.setTop (mkF m 93 #[.val (.int p1), .unset, .unset, .unset] [(.int (13 : Int32)), (.ref b1), (.ref b1)]))
  obtain ⟨T55, X55, e55, st55⟩ := getS X52 hx hZ (host := "") hown (hw _ (List.mem_of_getElem? (i := 30) rfl)) Via.refl e52 ((SS.2.2.2.2.2.2.2.2.2.2.2.2.2.1).ext OO.2) (g := (mkF m 93 #[.val (.int p1), .unset, .unset, .unset] [(.int (13 : Int32)), (.ref b1), (.ref b1)])) rfl (hb hby at_93)
  refine Goes.step st55 ?_
  show Goes p ee below s _ _ _ (T55.setTop (mkF m 96 #[.val (.int p1), .unset, .unset, .unset] [(.ref (K 13)), (.int (13 : Int32)), (.ref b1), (.ref b1)]))
  obtain ⟨T56, h56, X56, e56, W56, A56, st56⟩ := own_stR X55 hx hZ e55 A_b1 (y := (K 13)) (Ins.self ((EE 13 (by decide)).ext OO.2)) (j := (13 : Int32)) (by decide) (k := 13) rfl (by decide) (g := (mkF m 96 #[.val (.int p1), .unset, .unset, .unset] [(.ref (K 13)), (.int (13 : Int32)), (.ref b1), (.ref b1)])) rfl rfl (hb hby at_96)
  refine Goes.step st56 ?_
  have Zp57 := Nat.le_trans Zp53 (Keep.of_wr W56).1
  have N58 := Fr.snoc X56 N54 ge_b1
  have OO := OO.wr W56 ge_b1
  have A_b1 : OR Z h56 b1 "com/example/orbweaver/orbweaver/idl/BasicType" 17 (fun i => [(.ref (K 0)), (.ref (K 1)), (.ref (K 2)), (.ref (K 3)), (.ref (K 4)), (.ref (K 5)), (.ref (K 6)), (.ref (K 7)), (.ref (K 8)), (.ref (K 9)), (.ref (K 10)), (.ref (K 11)), (.ref (K 12)), (.ref (K 13)), .null, .null, .null].getD i .null) := A56.congr (fun i hi => by match i, hi with | 0, _ => rfl | 1, _ => rfl | 2, _ => rfl | 3, _ => rfl | 4, _ => rfl | 5, _ => rfl | 6, _ => rfl | 7, _ => rfl | 8, _ => rfl | 9, _ => rfl | 10, _ => rfl | 11, _ => rfl | 12, _ => rfl | 13, _ => rfl | 14, _ => rfl | 15, _ => rfl | 16, _ => rfl | i + 17, hi => omega)
  show Goes p ee below s _ _ _ (T56.setTop (mkF m 97 #[.val (.int p1), .unset, .unset, .unset] [(.ref b1)]))
  refine Goes.step (fun _ hr_ => XS.dup X56.here hx rfl (hb hby at_97) rfl rfl hr_) ?_
  show Goes p ee below s _ _ _ (T56.setTop (mkF m 98 #[.val (.int p1), .unset, .unset, .unset] [(.ref b1), (.ref b1)]))
  refine Goes.step (fun _ hr_ => XS.bipush X56.here hx rfl (hb hby at_98) hr_) ?_
  show Goes p ee below s _ _ _ (T56.setTop (mkF m 100 #[.val (.int p1), .unset, .unset, .unset] [(.int (14 : Int32)), (.ref b1), (.ref b1)]))
  obtain ⟨T59, X59, e59, st59⟩ := getS X56 hx hZ (host := "") hown (hw _ (List.mem_of_getElem? (i := 32) rfl)) Via.refl e56 ((SS.2.2.2.2.2.2.2.2.2.2.2.2.2.2.1).ext OO.2) (g := (mkF m 100 #[.val (.int p1), .unset, .unset, .unset] [(.int (14 : Int32)), (.ref b1), (.ref b1)])) rfl (hb hby at_100)
  refine Goes.step st59 ?_
  show Goes p ee below s _ _ _ (T59.setTop (mkF m 103 #[.val (.int p1), .unset, .unset, .unset] [(.ref (K 14)), (.int (14 : Int32)), (.ref b1), (.ref b1)]))
  obtain ⟨T60, h60, X60, e60, W60, A60, st60⟩ := own_stR X59 hx hZ e59 A_b1 (y := (K 14)) (Ins.self ((EE 14 (by decide)).ext OO.2)) (j := (14 : Int32)) (by decide) (k := 14) rfl (by decide) (g := (mkF m 103 #[.val (.int p1), .unset, .unset, .unset] [(.ref (K 14)), (.int (14 : Int32)), (.ref b1), (.ref b1)])) rfl rfl (hb hby at_103)
  refine Goes.step st60 ?_
  have Zp61 := Nat.le_trans Zp57 (Keep.of_wr W60).1
  have N62 := Fr.snoc X60 N58 ge_b1
  have OO := OO.wr W60 ge_b1
  have A_b1 : OR Z h60 b1 "com/example/orbweaver/orbweaver/idl/BasicType" 17 (fun i => [(.ref (K 0)), (.ref (K 1)), (.ref (K 2)), (.ref (K 3)), (.ref (K 4)), (.ref (K 5)), (.ref (K 6)), (.ref (K 7)), (.ref (K 8)), (.ref (K 9)), (.ref (K 10)), (.ref (K 11)), (.ref (K 12)), (.ref (K 13)), (.ref (K 14)), .null, .null].getD i .null) := A60.congr (fun i hi => by match i, hi with | 0, _ => rfl | 1, _ => rfl | 2, _ => rfl | 3, _ => rfl | 4, _ => rfl | 5, _ => rfl | 6, _ => rfl | 7, _ => rfl | 8, _ => rfl | 9, _ => rfl | 10, _ => rfl | 11, _ => rfl | 12, _ => rfl | 13, _ => rfl | 14, _ => rfl | 15, _ => rfl | 16, _ => rfl | i + 17, hi => omega)
  show Goes p ee below s _ _ _ (T60.setTop (mkF m 104 #[.val (.int p1), .unset, .unset, .unset] [(.ref b1)]))
  refine Goes.step (fun _ hr_ => XS.dup X60.here hx rfl (hb hby at_104) rfl rfl hr_) ?_
  show Goes p ee below s _ _ _ (T60.setTop (mkF m 105 #[.val (.int p1), .unset, .unset, .unset] [(.ref b1), (.ref b1)]))
  refine Goes.step (fun _ hr_ => XS.bipush X60.here hx rfl (hb hby at_105) hr_) ?_
  show Goes p ee below s _ _ _ (T60.setTop (mkF m 107 #[.val (.int p1), .unset, .unset, .unset] [(.int (15 : Int32)), (.ref b1), (.ref b1)]))
  obtain ⟨T63, X63, e63, st63⟩ := getS X60 hx hZ (host := "") hown (hw _ (List.mem_of_getElem? (i := 34) rfl)) Via.refl e60 ((SS.2.2.2.2.2.2.2.2.2.2.2.2.2.2.2.1).ext OO.2) (g := (mkF m 107 #[.val (.int p1), .unset, .unset, .unset] [(.int (15 : Int32)), (.ref b1), (.ref b1)])) rfl (hb hby at_107)
  refine Goes.step st63 ?_
  show Goes p ee below s _ _ _ (T63.setTop (mkF m 110 #[.val (.int p1), .unset, .unset, .unset] [(.ref (K 15)), (.int (15 : Int32)), (.ref b1), (.ref b1)]))
  obtain ⟨T64, h64, X64, e64, W64, A64, st64⟩ := own_stR X63 hx hZ e63 A_b1 (y := (K 15)) (Ins.self ((EE 15 (by decide)).ext OO.2)) (j := (15 : Int32)) (by decide) (k := 15) rfl (by decide) (g := (mkF m 110 #[.val (.int p1), .unset, .unset, .unset] [(.ref (K 15)), (.int (15 : Int32)), (.ref b1), (.ref b1)])) rfl rfl (hb hby at_110)
  refine Goes.step st64 ?_
  have Zp65 := Nat.le_trans Zp61 (Keep.of_wr W64).1
  have N66 := Fr.snoc X64 N62 ge_b1
  have OO := OO.wr W64 ge_b1
  have A_b1 : OR Z h64 b1 "com/example/orbweaver/orbweaver/idl/BasicType" 17 (fun i => [(.ref (K 0)), (.ref (K 1)), (.ref (K 2)), (.ref (K 3)), (.ref (K 4)), (.ref (K 5)), (.ref (K 6)), (.ref (K 7)), (.ref (K 8)), (.ref (K 9)), (.ref (K 10)), (.ref (K 11)), (.ref (K 12)), (.ref (K 13)), (.ref (K 14)), (.ref (K 15)), .null].getD i .null) := A64.congr (fun i hi => by match i, hi with | 0, _ => rfl | 1, _ => rfl | 2, _ => rfl | 3, _ => rfl | 4, _ => rfl | 5, _ => rfl | 6, _ => rfl | 7, _ => rfl | 8, _ => rfl | 9, _ => rfl | 10, _ => rfl | 11, _ => rfl | 12, _ => rfl | 13, _ => rfl | 14, _ => rfl | 15, _ => rfl | 16, _ => rfl | i + 17, hi => omega)
  show Goes p ee below s _ _ _ (T64.setTop (mkF m 111 #[.val (.int p1), .unset, .unset, .unset] [(.ref b1)]))
  refine Goes.step (fun _ hr_ => XS.dup X64.here hx rfl (hb hby at_111) rfl rfl hr_) ?_
  show Goes p ee below s _ _ _ (T64.setTop (mkF m 112 #[.val (.int p1), .unset, .unset, .unset] [(.ref b1), (.ref b1)]))
  refine Goes.step (fun _ hr_ => XS.bipush X64.here hx rfl (hb hby at_112) hr_) ?_
  show Goes p ee below s _ _ _ (T64.setTop (mkF m 114 #[.val (.int p1), .unset, .unset, .unset] [(.int (16 : Int32)), (.ref b1), (.ref b1)]))
  obtain ⟨T67, X67, e67, st67⟩ := getS X64 hx hZ (host := "") hown (hw _ (List.mem_of_getElem? (i := 36) rfl)) Via.refl e64 ((SS.2.2.2.2.2.2.2.2.2.2.2.2.2.2.2.2).ext OO.2) (g := (mkF m 114 #[.val (.int p1), .unset, .unset, .unset] [(.int (16 : Int32)), (.ref b1), (.ref b1)])) rfl (hb hby at_114)
  refine Goes.step st67 ?_
  show Goes p ee below s _ _ _ (T67.setTop (mkF m 117 #[.val (.int p1), .unset, .unset, .unset] [(.ref (K 16)), (.int (16 : Int32)), (.ref b1), (.ref b1)]))
  obtain ⟨T68, h68, X68, e68, W68, A68, st68⟩ := own_stR X67 hx hZ e67 A_b1 (y := (K 16)) (Ins.self ((EE 16 (by decide)).ext OO.2)) (j := (16 : Int32)) (by decide) (k := 16) rfl (by decide) (g := (mkF m 117 #[.val (.int p1), .unset, .unset, .unset] [(.ref (K 16)), (.int (16 : Int32)), (.ref b1), (.ref b1)])) rfl rfl (hb hby at_117)
  refine Goes.step st68 ?_
  have Zp69 := Nat.le_trans Zp65 (Keep.of_wr W68).1
  have N70 := Fr.snoc X68 N66 ge_b1
  have OO := OO.wr W68 ge_b1
  have A_b1 : OR Z h68 b1 "com/example/orbweaver/orbweaver/idl/BasicType" 17 (fun i => [(.ref (K 0)), (.ref (K 1)), (.ref (K 2)), (.ref (K 3)), (.ref (K 4)), (.ref (K 5)), (.ref (K 6)), (.ref (K 7)), (.ref (K 8)), (.ref (K 9)), (.ref (K 10)), (.ref (K 11)), (.ref (K 12)), (.ref (K 13)), (.ref (K 14)), (.ref (K 15)), (.ref (K 16))].getD i .null) := A68.congr (fun i hi => by match i, hi with | 0, _ => rfl | 1, _ => rfl | 2, _ => rfl | 3, _ => rfl | 4, _ => rfl | 5, _ => rfl | 6, _ => rfl | 7, _ => rfl | 8, _ => rfl | 9, _ => rfl | 10, _ => rfl | 11, _ => rfl | 12, _ => rfl | 13, _ => rfl | 14, _ => rfl | 15, _ => rfl | 16, _ => rfl | i + 17, hi => omega)
  show Goes p ee below s _ _ _ (T68.setTop (mkF m 118 #[.val (.int p1), .unset, .unset, .unset] [(.ref b1)]))
  refine Goes.step (fun _ hr_ => XS.astoreN X68.here hx rfl (hb hby at_118) rfl rfl (l' := #[.val (.int p1), .val (.ref b1), .unset, .unset]) rfl hr_) ?_
  show Goes p ee below s _ _ _ (T68.setTop (mkF m 119 #[.val (.int p1), .val (.ref b1), .unset, .unset] []))
  refine Goes.step (fun _ hr_ => XS.iloadN X68.here hx rfl (hb hby at_119) rfl  hr_) ?_
  show Goes p ee below s _ _ _ (T68.setTop (mkF m 120 #[.val (.int p1), .val (.ref b1), .unset, .unset] [(.int p1)]))
  refine Goes.step (X68.ldcInt hx hown (mvT hZ (hw _ (List.mem_of_getElem? (i := 38) rfl))) (g := (mkF m 120 #[.val (.int p1), .val (.ref b1), .unset, .unset] [(.int p1)])) rfl (hb hby at_120)) ?_
  show Goes p ee below s _ _ _ (T68.setTop (mkF m 122 #[.val (.int p1), .val (.ref b1), .unset, .unset] [(.int (2147483647 : Int32)), (.int p1)]))
  refine Goes.step (fun _ hr_ => XS.iand X68.here hx rfl (hb hby at_122) rfl hr_) ?_
  show Goes p ee below s _ _ _ (T68.setTop (mkF m 123 #[.val (.int p1), .val (.ref b1), .unset, .unset] [(.int (p1 &&& (2147483647 : Int32)))]))
  refine Goes.step (fun _ hr_ => XS.bipush X68.here hx rfl (hb hby at_123) hr_) ?_
  show Goes p ee below s _ _ _ (T68.setTop (mkF m 125 #[.val (.int p1), .val (.ref b1), .unset, .unset] [(.int (17 : Int32)), (.int (p1 &&& (2147483647 : Int32)))]))
  refine Goes.step (fun _ hr_ => iremM (g := (mkF m 125 #[.val (.int p1), .val (.ref b1), .unset, .unset] [(.int (17 : Int32)), (.int (p1 &&& (2147483647 : Int32)))])) X68 hx rfl (hb hby at_125) rfl (by decide) hr_) ?_
  show Goes p ee below s _ _ _ (T68.setTop (mkF m 126 #[.val (.int p1), .val (.ref b1), .unset, .unset] [(.int ((p1 &&& (2147483647 : Int32)) % (17 : Int32)))]))
  refine Goes.step (fun _ hr_ => XS.istoreN X68.here hx rfl (hb hby at_126) rfl  (l' := #[.val (.int p1), .val (.ref b1), .val (.int ((p1 &&& (2147483647 : Int32)) % (17 : Int32))), .unset]) rfl hr_) ?_
  show Goes p ee below s _ _ _ (T68.setTop (mkF m 127 #[.val (.int p1), .val (.ref b1), .val (.int ((p1 &&& (2147483647 : Int32)) % (17 : Int32))), .unset] []))
  obtain ⟨hz, hq0⟩ := own_q p1
  obtain ⟨q, hqe⟩ : ∃ q, (((p1 &&& (2147483647 : Int32)) % (17 : Int32))).toNatClampNeg = q := ⟨_, rfl⟩
  have hq : q < 17 := hqe ▸ hq0
  generalize hzz : ((p1 &&& (2147483647 : Int32)) % (17 : Int32)) = z at hz hqe ⊢
  show Goes p ee below s _ _ _ (T68.setTop (mkF m 127 #[.val (.int p1), .val (.ref b1), .val (.int z), .unset] []))
  refine Goes.step (fun _ hr_ => XS.iloadN X68.here hx rfl (hb hby at_127) rfl  hr_) ?_
  show Goes p ee below s _ _ _ (T68.setTop (mkF m 128 #[.val (.int p1), .val (.ref b1), .val (.int z), .unset] [(.int z)]))
  refine Goes.step (fun _ hr_ => XS.bipush X68.here hx rfl (hb hby at_128) hr_) ?_
  show Goes p ee below s _ _ _ (T68.setTop (mkF m 130 #[.val (.int p1), .val (.ref b1), .val (.int z), .unset] [(.int (7 : Int32)), (.int z)]))
  rcases own_end z M q hq hz hqe hm1 hm2 with ⟨hr, hzl⟩ | ⟨hr, hzl⟩
  · show Goes p ee below s _ _ _ (T68.setTop (mkF m 130 #[.val (.int p1), .val (.ref b1), .val (.int z), .unset] [(.int (7 : Int32)), (.int z)]))
    refine Goes.step (fun _ hr_ => XS.icmpNo X68.here hx rfl (hb hby at_130) rfl (tlt hzl).2.1 hr_) ?_
    show Goes p ee below s _ _ _ (T68.setTop (mkF m 133 #[.val (.int p1), .val (.ref b1), .val (.int z), .unset] []))
    refine Goes.step (fun _ hr_ => XS.iconst X68.here hx rfl (hb hby at_133) hr_) ?_
    show Goes p ee below s _ _ _ (T68.setTop (mkF m 134 #[.val (.int p1), .val (.ref b1), .val (.int z), .unset] [(.int (1 : Int32))]))
    refine Goes.step (fun _ hr_ => XS.goto X68.here hx rfl (pc0 := 134) (pc' := 138) rfl (hb hby at_134) (by decide) (by decide) hr_) ?_
    show Goes p ee below s _ _ _ (T68.setTop (mkF m 138 #[.val (.int p1), .val (.ref b1), .val (.int z), .unset] [(.int (1 : Int32))]))
    refine Goes.step (fun _ hr_ => XS.istoreN X68.here hx rfl (hb hby at_138) rfl  (l' := #[.val (.int p1), .val (.ref b1), .val (.int z), .val (.int (1 : Int32))]) rfl hr_) ?_
    show Goes p ee below s _ _ _ (T68.setTop (mkF m 139 #[.val (.int p1), .val (.ref b1), .val (.int z), .val (.int (1 : Int32))] []))
    refine Goes.step (fun _ hr_ => XS.aloadN X68.here hx rfl (hb hby at_139) rfl rfl hr_) ?_
    show Goes p ee below s _ _ _ (T68.setTop (mkF m 140 #[.val (.int p1), .val (.ref b1), .val (.int z), .val (.int (1 : Int32))] [(.ref b1)]))
    refine Goes.step (fun _ hr_ => XS.iloadN X68.here hx rfl (hb hby at_140) rfl  hr_) ?_
    show Goes p ee below s _ _ _ (T68.setTop (mkF m 141 #[.val (.int p1), .val (.ref b1), .val (.int z), .val (.int (1 : Int32))] [(.int z), (.ref b1)]))
    refine Goes.step (own_raload X68 hx hZ e68 A_b1 (j := z) hz (k := q) hqe hq (v := (.ref (K q))) (by match q, hq with | 0, _ => rfl | 1, _ => rfl | 2, _ => rfl | 3, _ => rfl | 4, _ => rfl | 5, _ => rfl | 6, _ => rfl | 7, _ => rfl | 8, _ => rfl | 9, _ => rfl | 10, _ => rfl | 11, _ => rfl | 12, _ => rfl | 13, _ => rfl | 14, _ => rfl | 15, _ => rfl | 16, _ => rfl | q + 17, hq => omega) (g := (mkF m 141 #[.val (.int p1), .val (.ref b1), .val (.int z), .val (.int (1 : Int32))] [(.int z), (.ref b1)])) rfl rfl (hb hby at_141)) ?_
    show Goes p ee below s _ _ _ (T68.setTop (mkF m 142 #[.val (.int p1), .val (.ref b1), .val (.int z), .val (.int (1 : Int32))] [(.ref (K q))]))
    have Ek := (EE q hq).ext OO.2
    have lt_b1 := A_b1.lt
    obtain ⟨v71, T71, L71, X71, hQ71, st71⟩ := own_callV X68 hx hZ (y := (⟨"com/example/orbweaver/orbweaver/idl/BasicType", "isInteger", "()Z"⟩ : MethodName)) hown (hw _ (List.mem_of_getElem? (i := 39) rfl)) (hw _ (List.mem_of_getElem? (i := 40) rfl)) (hw _ (List.mem_of_getElem? (i := 42) rfl)) (hw _ (List.mem_of_getElem? (i := 41) rfl)) (hw _ (List.mem_of_getElem? (i := 3) rfl)) (hw _ (List.mem_of_getElem? (i := 43) rfl)) (by decide) (a := (K q)) (argsL := []) (rm_isInt l Z a0 hw [] (K q) (M q) h68 n0 Zp69 (hM q hq) ((FF q hq).ext OO.2)) e68 Ek (W := 0) (by decide) (by decide) (by decide) (by decide) (g := (mkF m 142 #[.val (.int p1), .val (.ref b1), .val (.int z), .val (.int (1 : Int32))] [(.ref (K q))])) rfl (by rw [hml]; rfl) (rest := []) (lenOf pd_0 rfl) rfl (by show 2 * 0 + _ ≤ _; exact Nat.le_of_eq rfl) (hb hby at_142)
    refine Goes.step st71 ?_
    obtain ⟨rfl, N71, e71⟩ := hQ71
    have N72 := Fr.app N70 N71
    show Goes p ee below s _ _ _ (T71.setTop (mkF m 145 #[.val (.int p1), .val (.ref b1), .val (.int z), .val (.int (1 : Int32))] [(.int (if M q = Value.null then (0 : Int32) else 1))]))
    refine Goes.step (fun _ hr_ => XS.iloadN X71.here hx rfl (hb hby at_145) rfl  hr_) ?_
    show Goes p ee below s _ _ _ (T71.setTop (mkF m 146 #[.val (.int p1), .val (.ref b1), .val (.int z), .val (.int (1 : Int32))] [(.int (1 : Int32)), (.int (if M q = Value.null then (0 : Int32) else 1))]))
    refine Goes.step (fun _ hr_ => XS.icmpNo X71.here hx rfl (hb hby at_146) rfl (teq hr).2 hr_) ?_
    show Goes p ee below s _ _ _ (T71.setTop (mkF m 149 #[.val (.int p1), .val (.ref b1), .val (.int z), .val (.int (1 : Int32))] []))
    refine Goes.step (fun _ hr_ => XS.iconst X71.here hx rfl (hb hby at_149) hr_) ?_
    show Goes p ee below s _ _ _ (T71.setTop (mkF m 150 #[.val (.int p1), .val (.ref b1), .val (.int z), .val (.int (1 : Int32))] [(.int (1 : Int32))]))
    refine Goes.step (fun _ hr_ => XS.goto X71.here hx rfl (pc0 := 150) (pc' := 154) rfl (hb hby at_150) (by decide) (by decide) hr_) ?_
    show Goes p ee below s _ _ _ (T71.setTop (mkF m 154 #[.val (.int p1), .val (.ref b1), .val (.int z), .val (.int (1 : Int32))] [(.int (1 : Int32))]))
    refine Goes.retZ X71 hx Bd.notSynchronized Bd.returns (by simp) rfl (hb hby at_154) (by decide) (by decide) ?_
    exact ⟨rfl, N72⟩
  · show Goes p ee below s _ _ _ (T68.setTop (mkF m 130 #[.val (.int p1), .val (.ref b1), .val (.int z), .unset] [(.int (7 : Int32)), (.int z)]))
    refine Goes.step (fun _ hr_ => XS.icmpYes X68.here hx rfl (pc0 := 130) (pc' := 137) rfl (hb hby at_130) rfl (flt hzl).2.1 (by decide) (by decide) hr_) ?_
    show Goes p ee below s _ _ _ (T68.setTop (mkF m 137 #[.val (.int p1), .val (.ref b1), .val (.int z), .unset] []))
    refine Goes.step (fun _ hr_ => XS.iconst X68.here hx rfl (hb hby at_137) hr_) ?_
    show Goes p ee below s _ _ _ (T68.setTop (mkF m 138 #[.val (.int p1), .val (.ref b1), .val (.int z), .unset] [(.int (0 : Int32))]))
    refine Goes.step (fun _ hr_ => XS.istoreN X68.here hx rfl (hb hby at_138) rfl  (l' := #[.val (.int p1), .val (.ref b1), .val (.int z), .val (.int (0 : Int32))]) rfl hr_) ?_
    show Goes p ee below s _ _ _ (T68.setTop (mkF m 139 #[.val (.int p1), .val (.ref b1), .val (.int z), .val (.int (0 : Int32))] []))
    refine Goes.step (fun _ hr_ => XS.aloadN X68.here hx rfl (hb hby at_139) rfl rfl hr_) ?_
    show Goes p ee below s _ _ _ (T68.setTop (mkF m 140 #[.val (.int p1), .val (.ref b1), .val (.int z), .val (.int (0 : Int32))] [(.ref b1)]))
    refine Goes.step (fun _ hr_ => XS.iloadN X68.here hx rfl (hb hby at_140) rfl  hr_) ?_
    show Goes p ee below s _ _ _ (T68.setTop (mkF m 141 #[.val (.int p1), .val (.ref b1), .val (.int z), .val (.int (0 : Int32))] [(.int z), (.ref b1)]))
    refine Goes.step (own_raload X68 hx hZ e68 A_b1 (j := z) hz (k := q) hqe hq (v := (.ref (K q))) (by match q, hq with | 0, _ => rfl | 1, _ => rfl | 2, _ => rfl | 3, _ => rfl | 4, _ => rfl | 5, _ => rfl | 6, _ => rfl | 7, _ => rfl | 8, _ => rfl | 9, _ => rfl | 10, _ => rfl | 11, _ => rfl | 12, _ => rfl | 13, _ => rfl | 14, _ => rfl | 15, _ => rfl | 16, _ => rfl | q + 17, hq => omega) (g := (mkF m 141 #[.val (.int p1), .val (.ref b1), .val (.int z), .val (.int (0 : Int32))] [(.int z), (.ref b1)])) rfl rfl (hb hby at_141)) ?_
    show Goes p ee below s _ _ _ (T68.setTop (mkF m 142 #[.val (.int p1), .val (.ref b1), .val (.int z), .val (.int (0 : Int32))] [(.ref (K q))]))
    have Ek := (EE q hq).ext OO.2
    have lt_b1 := A_b1.lt
    obtain ⟨v73, T73, L73, X73, hQ73, st73⟩ := own_callV X68 hx hZ (y := (⟨"com/example/orbweaver/orbweaver/idl/BasicType", "isInteger", "()Z"⟩ : MethodName)) hown (hw _ (List.mem_of_getElem? (i := 39) rfl)) (hw _ (List.mem_of_getElem? (i := 40) rfl)) (hw _ (List.mem_of_getElem? (i := 42) rfl)) (hw _ (List.mem_of_getElem? (i := 41) rfl)) (hw _ (List.mem_of_getElem? (i := 3) rfl)) (hw _ (List.mem_of_getElem? (i := 43) rfl)) (by decide) (a := (K q)) (argsL := []) (rm_isInt l Z a0 hw [] (K q) (M q) h68 n0 Zp69 (hM q hq) ((FF q hq).ext OO.2)) e68 Ek (W := 0) (by decide) (by decide) (by decide) (by decide) (g := (mkF m 142 #[.val (.int p1), .val (.ref b1), .val (.int z), .val (.int (0 : Int32))] [(.ref (K q))])) rfl (by rw [hml]; rfl) (rest := []) (lenOf pd_0 rfl) rfl (by show 2 * 0 + _ ≤ _; exact Nat.le_of_eq rfl) (hb hby at_142)
    refine Goes.step st73 ?_
    obtain ⟨rfl, N73, e73⟩ := hQ73
    have N74 := Fr.app N70 N73
    show Goes p ee below s _ _ _ (T73.setTop (mkF m 145 #[.val (.int p1), .val (.ref b1), .val (.int z), .val (.int (0 : Int32))] [(.int (if M q = Value.null then (0 : Int32) else 1))]))
    refine Goes.step (fun _ hr_ => XS.iloadN X73.here hx rfl (hb hby at_145) rfl  hr_) ?_
    show Goes p ee below s _ _ _ (T73.setTop (mkF m 146 #[.val (.int p1), .val (.ref b1), .val (.int z), .val (.int (0 : Int32))] [(.int (0 : Int32)), (.int (if M q = Value.null then (0 : Int32) else 1))]))
    refine Goes.step (fun _ hr_ => XS.icmpNo X73.here hx rfl (hb hby at_146) rfl (teq hr).2 hr_) ?_
    show Goes p ee below s _ _ _ (T73.setTop (mkF m 149 #[.val (.int p1), .val (.ref b1), .val (.int z), .val (.int (0 : Int32))] []))
    refine Goes.step (fun _ hr_ => XS.iconst X73.here hx rfl (hb hby at_149) hr_) ?_
    show Goes p ee below s _ _ _ (T73.setTop (mkF m 150 #[.val (.int p1), .val (.ref b1), .val (.int z), .val (.int (0 : Int32))] [(.int (1 : Int32))]))
    refine Goes.step (fun _ hr_ => XS.goto X73.here hx rfl (pc0 := 150) (pc' := 154) rfl (hb hby at_150) (by decide) (by decide) hr_) ?_
    show Goes p ee below s _ _ _ (T73.setTop (mkF m 154 #[.val (.int p1), .val (.ref b1), .val (.int z), .val (.int (0 : Int32))] [(.int (1 : Int32))]))
    refine Goes.retZ X73 hx Bd.notSynchronized Bd.returns (by simp) rfl (hb hby at_154) (by decide) (by decide) ?_
    exact ⟨rfl, N74⟩
theorem own_eqref {args : Array Value} {s : State} {t u : Term} {y : Addr} (ev : u.eval args s none [] s = some (.ref y)) (h : (Cond.eq t u).value args s none s [] = some true) : t.eval args s none [] s = some (.ref y) := by
  obtain ⟨x, z, h1, h2, h3, h4⟩ := cmp_v (Or.inl h)
  rw [ev] at h2
  obtain rfl := Option.some.inj h2
  have q := eq_R h1 ev h4.2 rfl
  have := gotT q h
  subst this
  exact h1
set_option maxRecDepth 65536 in
set_option maxHeartbeats 40000000 in
theorem comes_1 {Post : Tables → Env → Array Value → State → Outcome → State → Prop} (hpost : ∀ tb e args s v u, (limb_1_1.after args s (.returned v) u = true ∧ limb_1_2.after args s (.returned v) u = true ∧ True) → FrameEnd s (.returned v) u (Jvm.fieldLocs frame_1_writes args s ++ Jvm.arrayLocs frame_1_arrays args s ++ Jvm.staticLocs frame_1_statics s) 16 128 → Post tb e args s (.returned v) u) :
    ArmFor flags0 classFile x code maxLocals ret World_1 tables_1 room_1 Calls_1 rest_1 Pre_1 Post := by
  intro l hfl _ _ p e ha hc hk s m args below hf hA hF happ hP
  obtain ⟨hcalls, hrest, hpre⟩ := hP
  obtain ⟨-, -, -, hnamed, -, -, -, hat⟩ := (Spec.applies_iff hf).mp happ
  obtain ⟨hg, hn⟩ := and_e (Cond.before_iff.mp (show (Jvm.Cond.and given_1 narrow_1).before args s = true from hpre))
  obtain ⟨hcount, k0⟩ := and_e hg
  obtain ⟨w0, rfl⟩ : ∃ w0 : Value, args = #[w0] := by
    have hs : args.size = 1 := by simpa [Cond.value, given_1] using hcount
    obtain ⟨L⟩ := args
    match L, hs with
    | [w0], _ => exact ⟨w0, rfl⟩
  have hw := fun d (hd : d ∈ tables_1) => atoms_spec (ws := Jvm.Cond.code x code maxLocals ret :: tables_1) hat d (List.mem_cons_of_mem _ hd)
  obtain ⟨i0, ei0⟩ := is_v k0
  obtain rfl : w0 = (.int i0) := Option.some.inj ei0
  obtain ⟨c0, n0⟩ := and_e hn
  obtain ⟨c1, n1⟩ := and_e n0
  obtain ⟨c2, n2⟩ := and_e n1
  obtain ⟨c3, n3⟩ := and_e n2
  obtain ⟨c4, n4⟩ := and_e n3
  obtain ⟨c5, n5⟩ := and_e n4
  obtain ⟨c6, n6⟩ := and_e n5
  obtain ⟨c7, n7⟩ := and_e n6
  obtain ⟨c8, n8⟩ := and_e n7
  obtain ⟨c9, n9⟩ := and_e n8
  obtain ⟨c10, n10⟩ := and_e n9
  obtain ⟨c11, n11⟩ := and_e n10
  obtain ⟨c12, n12⟩ := and_e n11
  obtain ⟨c13, n13⟩ := and_e n12
  obtain ⟨c14, n14⟩ := and_e n13
  obtain ⟨c15, n15⟩ := and_e n14
  obtain ⟨c16, n16⟩ := and_e n15
  obtain ⟨c17, n17⟩ := and_e n16
  obtain ⟨c18, n18⟩ := and_e n17
  obtain ⟨c19, n19⟩ := and_e n18
  obtain ⟨c20, n20⟩ := and_e n19
  obtain ⟨c21, n21⟩ := and_e n20
  obtain ⟨c22, n22⟩ := and_e n21
  obtain ⟨c23, n23⟩ := and_e n22
  obtain ⟨c24, n24⟩ := and_e n23
  obtain ⟨c25, n25⟩ := and_e n24
  obtain ⟨c26, n26⟩ := and_e n25
  obtain ⟨c27, n27⟩ := and_e n26
  obtain ⟨c28, n28⟩ := and_e n27
  obtain ⟨c29, n29⟩ := and_e n28
  obtain ⟨c30, n30⟩ := and_e n29
  obtain ⟨c31, n31⟩ := and_e n30
  obtain ⟨c32, n32⟩ := and_e n31
  have c33 := n32
  obtain ⟨x0, v0⟩ := exa_v c0
  have E0 := Exa.start v0 c0
  have S0 := Sta.start v0 (Or.inr ⟨(hw _ (List.mem_of_getElem? (i := 3) rfl)), (hw _ (List.mem_of_getElem? (i := 4) rfl))⟩)
  obtain ⟨x1, v1⟩ := exa_v c1
  have E1 := Exa.start v1 c1
  have S1 := Sta.start v1 (Or.inr ⟨(hw _ (List.mem_of_getElem? (i := 3) rfl)), (hw _ (List.mem_of_getElem? (i := 7) rfl))⟩)
  obtain ⟨x2, v2⟩ := exa_v c2
  have E2 := Exa.start v2 c2
  have S2 := Sta.start v2 (Or.inr ⟨(hw _ (List.mem_of_getElem? (i := 3) rfl)), (hw _ (List.mem_of_getElem? (i := 9) rfl))⟩)
  obtain ⟨x3, v3⟩ := exa_v c3
  have E3 := Exa.start v3 c3
  have S3 := Sta.start v3 (Or.inr ⟨(hw _ (List.mem_of_getElem? (i := 3) rfl)), (hw _ (List.mem_of_getElem? (i := 11) rfl))⟩)
  obtain ⟨x4, v4⟩ := exa_v c4
  have E4 := Exa.start v4 c4
  have S4 := Sta.start v4 (Or.inr ⟨(hw _ (List.mem_of_getElem? (i := 3) rfl)), (hw _ (List.mem_of_getElem? (i := 13) rfl))⟩)
  obtain ⟨x5, v5⟩ := exa_v c5
  have E5 := Exa.start v5 c5
  have S5 := Sta.start v5 (Or.inr ⟨(hw _ (List.mem_of_getElem? (i := 3) rfl)), (hw _ (List.mem_of_getElem? (i := 15) rfl))⟩)
  obtain ⟨x6, v6⟩ := exa_v c6
  have E6 := Exa.start v6 c6
  have S6 := Sta.start v6 (Or.inr ⟨(hw _ (List.mem_of_getElem? (i := 3) rfl)), (hw _ (List.mem_of_getElem? (i := 17) rfl))⟩)
  obtain ⟨x7, v7⟩ := exa_v c7
  have E7 := Exa.start v7 c7
  have S7 := Sta.start v7 (Or.inr ⟨(hw _ (List.mem_of_getElem? (i := 3) rfl)), (hw _ (List.mem_of_getElem? (i := 19) rfl))⟩)
  obtain ⟨x8, v8⟩ := exa_v c8
  have E8 := Exa.start v8 c8
  have S8 := Sta.start v8 (Or.inr ⟨(hw _ (List.mem_of_getElem? (i := 3) rfl)), (hw _ (List.mem_of_getElem? (i := 21) rfl))⟩)
  obtain ⟨x9, v9⟩ := exa_v c9
  have E9 := Exa.start v9 c9
  have S9 := Sta.start v9 (Or.inr ⟨(hw _ (List.mem_of_getElem? (i := 3) rfl)), (hw _ (List.mem_of_getElem? (i := 23) rfl))⟩)
  obtain ⟨x10, v10⟩ := exa_v c10
  have E10 := Exa.start v10 c10
  have S10 := Sta.start v10 (Or.inr ⟨(hw _ (List.mem_of_getElem? (i := 3) rfl)), (hw _ (List.mem_of_getElem? (i := 25) rfl))⟩)
  obtain ⟨x11, v11⟩ := exa_v c11
  have E11 := Exa.start v11 c11
  have S11 := Sta.start v11 (Or.inr ⟨(hw _ (List.mem_of_getElem? (i := 3) rfl)), (hw _ (List.mem_of_getElem? (i := 27) rfl))⟩)
  obtain ⟨x12, v12⟩ := exa_v c12
  have E12 := Exa.start v12 c12
  have S12 := Sta.start v12 (Or.inr ⟨(hw _ (List.mem_of_getElem? (i := 3) rfl)), (hw _ (List.mem_of_getElem? (i := 29) rfl))⟩)
  obtain ⟨x13, v13⟩ := exa_v c13
  have E13 := Exa.start v13 c13
  have S13 := Sta.start v13 (Or.inr ⟨(hw _ (List.mem_of_getElem? (i := 3) rfl)), (hw _ (List.mem_of_getElem? (i := 31) rfl))⟩)
  obtain ⟨x14, v14⟩ := exa_v c14
  have E14 := Exa.start v14 c14
  have S14 := Sta.start v14 (Or.inr ⟨(hw _ (List.mem_of_getElem? (i := 3) rfl)), (hw _ (List.mem_of_getElem? (i := 33) rfl))⟩)
  obtain ⟨x15, v15⟩ := exa_v c15
  have E15 := Exa.start v15 c15
  have S15 := Sta.start v15 (Or.inr ⟨(hw _ (List.mem_of_getElem? (i := 3) rfl)), (hw _ (List.mem_of_getElem? (i := 35) rfl))⟩)
  obtain ⟨x16, v16⟩ := exa_v c16
  have E16 := Exa.start v16 c16
  have S16 := Sta.start v16 (Or.inr ⟨(hw _ (List.mem_of_getElem? (i := 3) rfl)), (hw _ (List.mem_of_getElem? (i := 37) rfl))⟩)
  obtain ⟨y0, u0⟩ := exa_v c17
  have F0 := Fld.start ((fld_at v0).symm.trans u0)
  obtain ⟨y1, u1⟩ := exa_v c25
  have F1 := Fld.start ((fld_at v1).symm.trans u1)
  obtain ⟨y2, u2⟩ := exa_v c23
  have F2 := Fld.start ((fld_at v2).symm.trans u2)
  obtain ⟨y3, u3⟩ := exa_v c18
  have F3 := Fld.start ((fld_at v3).symm.trans u3)
  have u7 := null_v c22
  have F7 := Fld.start ((fld_at v7).symm.trans u7)
  have u8 := null_v c19
  have F8 := Fld.start ((fld_at v8).symm.trans u8)
  have u9 := null_v c20
  have F9 := Fld.start ((fld_at v9).symm.trans u9)
  have u10 := null_v c28
  have F10 := Fld.start ((fld_at v10).symm.trans u10)
  have u11 := null_v c24
  have F11 := Fld.start ((fld_at v11).symm.trans u11)
  have u12 := null_v c33
  have F12 := Fld.start ((fld_at v12).symm.trans u12)
  have u13 := null_v c26
  have F13 := Fld.start ((fld_at v13).symm.trans u13)
  have u14 := null_v c32
  have F14 := Fld.start ((fld_at v14).symm.trans u14)
  have u15 := null_v c30
  have F15 := Fld.start ((fld_at v15).symm.trans u15)
  have u16 := null_v c29
  have F16 := Fld.start ((fld_at v16).symm.trans u16)
  have u4 := own_eqref u3 c27
  have F4 := Fld.start ((fld_at v4).symm.trans u4)
  have u5 := own_eqref u3 c31
  have F5 := Fld.start ((fld_at v5).symm.trans u5)
  have u6 := own_eqref u3 c21
  have F6 := Fld.start ((fld_at v6).symm.trans u6)
  have EE : ∀ j, j < 17 → Exa s s.heap ([x0, x1, x2, x3, x4, x5, x6, x7, x8, x9, x10, x11, x12, x13, x14, x15, x16].getD j 0) "com/example/orbweaver/orbweaver/idl/BasicType" := fun j hj => by
    match j, hj with
    | 0, _ => exact E0
    | 1, _ => exact E1
    | 2, _ => exact E2
    | 3, _ => exact E3
    | 4, _ => exact E4
    | 5, _ => exact E5
    | 6, _ => exact E6
    | 7, _ => exact E7
    | 8, _ => exact E8
    | 9, _ => exact E9
    | 10, _ => exact E10
    | 11, _ => exact E11
    | 12, _ => exact E12
    | 13, _ => exact E13
    | 14, _ => exact E14
    | 15, _ => exact E15
    | 16, _ => exact E16
    | j + 17, h => omega
  have FF : ∀ j, j < 17 → Fld s s.heap ([x0, x1, x2, x3, x4, x5, x6, x7, x8, x9, x10, x11, x12, x13, x14, x15, x16].getD j 0) "com/example/orbweaver/orbweaver/idl/BasicType" "min" "Ljava/math/BigInteger;" ([.ref y0, .ref y1, .ref y2, .ref y3, .ref y3, .ref y3, .ref y3, .null, .null, .null, .null, .null, .null, .null, .null, .null, .null].getD j Value.null) := fun j hj => by
    match j, hj with
    | 0, _ => exact F0
    | 1, _ => exact F1
    | 2, _ => exact F2
    | 3, _ => exact F3
    | 4, _ => exact F4
    | 5, _ => exact F5
    | 6, _ => exact F6
    | 7, _ => exact F7
    | 8, _ => exact F8
    | 9, _ => exact F9
    | 10, _ => exact F10
    | 11, _ => exact F11
    | 12, _ => exact F12
    | 13, _ => exact F13
    | 14, _ => exact F14
    | 15, _ => exact F15
    | 16, _ => exact F16
    | j + 17, h => omega
  have hM : ∀ j, j < 17 → ([.ref y0, .ref y1, .ref y2, .ref y3, .ref y3, .ref y3, .ref y3, .null, .null, .null, .null, .null, .null, .null, .null, .null, .null].getD j Value.null) = .null ∨ ∃ y, ([.ref y0, .ref y1, .ref y2, .ref y3, .ref y3, .ref y3, .ref y3, .null, .null, .null, .null, .null, .null, .null, .null, .null, .null].getD j Value.null) = .ref y := fun j hj => by
    match j, hj with
    | 0, _ => exact Or.inr ⟨_, rfl⟩
    | 1, _ => exact Or.inr ⟨_, rfl⟩
    | 2, _ => exact Or.inr ⟨_, rfl⟩
    | 3, _ => exact Or.inr ⟨_, rfl⟩
    | 4, _ => exact Or.inr ⟨_, rfl⟩
    | 5, _ => exact Or.inr ⟨_, rfl⟩
    | 6, _ => exact Or.inr ⟨_, rfl⟩
    | 7, _ => exact Or.inl rfl
    | 8, _ => exact Or.inl rfl
    | 9, _ => exact Or.inl rfl
    | 10, _ => exact Or.inl rfl
    | 11, _ => exact Or.inl rfl
    | 12, _ => exact Or.inl rfl
    | 13, _ => exact Or.inl rfl
    | 14, _ => exact Or.inl rfl
    | 15, _ => exact Or.inl rfl
    | 16, _ => exact Or.inl rfl
    | j + 17, h => omega
  have hm1 : ∀ j, j < 7 → ([.ref y0, .ref y1, .ref y2, .ref y3, .ref y3, .ref y3, .ref y3, .null, .null, .null, .null, .null, .null, .null, .null, .null, .null].getD j Value.null) ≠ .null := fun j hj => by
    match j, hj with
    | 0, _ => exact nofun
    | 1, _ => exact nofun
    | 2, _ => exact nofun
    | 3, _ => exact nofun
    | 4, _ => exact nofun
    | 5, _ => exact nofun
    | 6, _ => exact nofun
    | j + 7, h => omega
  have hm2 : ∀ j, j < 17 → ¬ j < 7 → ([.ref y0, .ref y1, .ref y2, .ref y3, .ref y3, .ref y3, .ref y3, .null, .null, .null, .null, .null, .null, .null, .null, .null, .null].getD j Value.null) = .null := fun j hj hh => by
    match j, hj, hh with
    | 7, _, _ => rfl
    | 8, _, _ => rfl
    | 9, _, _ => rfl
    | 10, _, _ => rfl
    | 11, _, _ => rfl
    | 12, _, _ => rfl
    | 13, _, _ => rfl
    | 14, _, _ => rfl
    | 15, _, _ => rfl
    | 16, _, _ => rfl
    | j + 17, h, _ => omega
    | 0, _, h => exact absurd (by decide) h
    | 1, _, h => exact absurd (by decide) h
    | 2, _, h => exact absurd (by decide) h
    | 3, _, h => exact absurd (by decide) h
    | 4, _, h => exact absurd (by decide) h
    | 5, _, h => exact absurd (by decide) h
    | 6, _, h => exact absurd (by decide) h
  obtain ⟨n, o, h1, h2, h3, _, L, rfl, ⟨rfl, N⟩, hq⟩ := rm_law l s _ hw tables_1 i0 (fun j => [x0, x1, x2, x3, x4, x5, x6, x7, x8, x9, x10, x11, x12, x13, x14, x15, x16].getD j 0) (fun j => [.ref y0, .ref y1, .ref y2, .ref y3, .ref y3, .ref y3, .ref y3, .null, .null, .null, .null, .null, .null, .null, .null, .null, .null].getD j Value.null) s.heap s.heap.size (Nat.le_refl _) (Old.start s) ⟨S0, S1, S2, S3, S4, S5, S6, S7, S8, S9, S10, S11, S12, S13, S14, S15, S16⟩ EE FF hM hm1 hm2 p e ha hc hk s m _ below hf ((Spec.applies_iff_loose hf).mp happ).1 ⟨rfl, State.Warmed39.refl s, rfl⟩ trivial
  refine ⟨n, _, h1, h2, h3, hpost _ _ _ _ _ _ ⟨Cond.after_iff.mpr rfl, Cond.after_iff.mpr (eq_i res_at (Term.int_eval (1)) rfl), trivial⟩ ⟨hq.1, hq.2.1, (hq.2.2.sift fun y hy => Or.inr (N y hy)).mono (by decide) (by decide)⟩⟩
theorem main_1_1 : Claimed_1_1 := comes_1 fun _ _ _ _ _ _ h hF => ⟨h.1, hF⟩
theorem main_1_2 : Claimed_1_2 := comes_1 fun _ _ _ _ _ _ h hF => ⟨h.2.1, hF⟩
end Jvm.Pilot.@@N@@
namespace Jvm.Pilot.@@N@@
open Jvm Jvm.ClassFile Sem Op Lib Jvm.Free Jvm.Stand Jvm.Pilot.@@N@@.Jvm.D
/-! MADE BY PROGRAM (witnessworld.py) out of the Statement's table words and the real class files: 16 classes; the members and pool entries that the words name. The judged class is class 1, her method 1. -/
namespace start1
open Jvm.ClassFile
def u (s : String) : CpInfo := .utf8 (stringToUtf16 s)
/-- a pool by its gaps: so many unusable entries, then the entry; so many at the end -/
def gap : Nat → List CpInfo → List CpInfo
  | 0, r => r
  | n + 1, r => .unusable :: gap n r
def poolList (es : List (Nat × CpInfo)) (last : Nat) : List CpInfo := es.foldr (fun e r => gap e.1 (e.2 :: r)) (gap last [])
def pool (es : List (Nat × CpInfo)) (last : Nat) : Array CpInfo := ⟨poolList es last⟩
def fileOf (pool : Array CpInfo) (this : Nat) (attrs : Array Attribute := #[]) (ms : Array MethodInfo := #[]) (fl : Nat := 33) (sup : Nat := 0) (ifs : Array Nat := #[]) (fds : Array FieldInfo := #[]) : ClassFile where
  minorVersion := 0
  majorVersion := 65
  constantPool := pool
  accessFlags := fl
  thisClass := this
  superClass := sup
  interfaces := ifs
  fields := fds
  methods := ms
  attributes := attrs
def plain (name : String) (sup : Option ClassId) : Class where
  name := name
  kind := .ordinary
  loader := none
  accessFlags := 33
  super := sup
  interfaces := #[]
  cf := none
  fields := #[]
  methods := #[]
  instanceTypes := #[]
  staticTypes := #[]
  resolved := #[]
  callSites := []
  init := .initialized
  statics := none
  mirror := none

def pool0 : Array CpInfo := pool [(5, u "<init>"), (0, u "()V"), (1, .class_ 10), (1, u "java/lang/Object")] 113

def k0m0 : Method := { name := "<init>", desc := "()V", sig := { parameters := [], returnType := none }, accessFlags := 1, code := none }
/-- java/lang/Object -/
def k0 : Class := { plain "java/lang/Object" none with
  accessFlags := 33
  interfaces := #[]
  cf := some (fileOf pool0 8 #[] #[{ accessFlags := 1, nameIndex := 5, descriptorIndex := 6, attributes := #[] }] 33 0 #[] #[])
  fields := #[]
  methods := #[k0m0]
  instanceTypes := #[]
  staticTypes := #[]
  resolved := Array.replicate 124 none
  statics := none }

def pool1 : Array CpInfo := pool [(2, .class_ 4), (1, u "java/lang/Object"), (0, u "<init>"), (0, u "()V"), (0, .class_ 8), (0, u "com/example/orbweaver/orbweaver/idl/BasicType"), (0, .fieldref 7 10), (0, .nameAndType 11 12), (0, u "SHORT"), (0, u "Lcom/example/orbweaver/orbweaver/idl/BasicType;"), (0, .fieldref 7 14), (0, .nameAndType 15 12), (0, u "LONG"), (0, .fieldref 7 17), (0, .nameAndType 18 12), (0, u "LONG_LONG"), (0, .fieldref 7 20), (0, .nameAndType 21 12), (0, u "UNSIGNED_SHORT"), (0, .fieldref 7 23), (0, .nameAndType 24 12), (0, u "UNSIGNED_LONG"), (0, .fieldref 7 26), (0, .nameAndType 27 12), (0, u "UNSIGNED_LONG_LONG"), (0, .fieldref 7 29), (0, .nameAndType 30 12), (0, u "OCTET"), (0, .fieldref 7 32), (0, .nameAndType 33 12), (0, u "FLOAT"), (0, .fieldref 7 35), (0, .nameAndType 36 12), (0, u "DOUBLE"), (0, .fieldref 7 38), (0, .nameAndType 39 12), (0, u "LONG_DOUBLE"), (0, .fieldref 7 41), (0, .nameAndType 42 12), (0, u "CHAR"), (0, .fieldref 7 44), (0, .nameAndType 45 12), (0, u "WCHAR"), (0, .fieldref 7 47), (0, .nameAndType 48 12), (0, u "BOOLEAN"), (0, .fieldref 7 50), (0, .nameAndType 51 12), (0, u "ANY"), (0, .fieldref 7 53), (0, .nameAndType 54 12), (0, u "OBJECT"), (0, .fieldref 7 56), (0, .nameAndType 57 12), (0, u "VALUE_BASE"), (0, .fieldref 7 59), (0, .nameAndType 60 12), (0, u "VOID"), (0, .integer 2147483647), (0, .methodref 7 63), (0, .nameAndType 64 65), (0, u "isInteger"), (0, u "()Z"), (0, .class_ 67), (0, u "com/example/orbweaver/orbweaver/idl/BasicTypeIsIntegerPinLaw"), (2, u "law"), (0, u "(I)Z")] 5

def k1m0 : Method := { name := "<init>", desc := "()V", sig := { parameters := [], returnType := none }, accessFlags := 1, code := none }
def k1c1 : Code := { maxStack := 4, maxLocals := 4, code := code, exceptionTable := #[], attributes := #[] }
def k1m1 : Method := { name := "law", desc := "(I)Z", sig := { parameters := [.int], returnType := some .boolean }, accessFlags := 9, code := some k1c1 }
/-- com/example/orbweaver/orbweaver/idl/BasicTypeIsIntegerPinLaw -/
def k1 : Class := { plain "com/example/orbweaver/orbweaver/idl/BasicTypeIsIntegerPinLaw" (some 0) with
  accessFlags := 49
  interfaces := #[]
  cf := some (fileOf pool1 66 #[] #[{ accessFlags := 1, nameIndex := 5, descriptorIndex := 6, attributes := #[] }, { accessFlags := 9, nameIndex := 70, descriptorIndex := 71, attributes := #[] }] 49 2 #[] #[])
  fields := #[]
  methods := #[k1m0, k1m1]
  instanceTypes := #[]
  staticTypes := #[]
  resolved := Array.replicate 77 none
  statics := none }

def pool2 : Array CpInfo := pool [(1, .class_ 2), (0, u "java/lang/constant/Constable"), (0, .class_ 4), (0, u "java/lang/Object")] 6

/-- java/lang/constant/Constable -/
def k2 : Class := { plain "java/lang/constant/Constable" (some 0) with
  accessFlags := 1537
  interfaces := #[]
  cf := some (fileOf pool2 1 #[] #[] 1537 3 #[] #[])
  fields := #[]
  methods := #[]
  instanceTypes := #[]
  staticTypes := #[]
  resolved := Array.replicate 11 none
  statics := none }

def pool3 : Array CpInfo := pool [(1, .class_ 2), (0, u "java/lang/Comparable"), (0, .class_ 4), (0, u "java/lang/Object")] 7

/-- java/lang/Comparable -/
def k3 : Class := { plain "java/lang/Comparable" (some 0) with
  accessFlags := 1537
  interfaces := #[]
  cf := some (fileOf pool3 1 #[] #[] 1537 3 #[] #[])
  fields := #[]
  methods := #[]
  instanceTypes := #[]
  staticTypes := #[]
  resolved := Array.replicate 12 none
  statics := none }

def pool4 : Array CpInfo := pool [(1, .class_ 2), (0, u "java/io/Serializable"), (0, .class_ 4), (0, u "java/lang/Object")] 2

/-- java/io/Serializable -/
def k4 : Class := { plain "java/io/Serializable" (some 0) with
  accessFlags := 1537
  interfaces := #[]
  cf := some (fileOf pool4 1 #[] #[] 1537 3 #[] #[])
  fields := #[]
  methods := #[]
  instanceTypes := #[]
  staticTypes := #[]
  resolved := Array.replicate 7 none
  statics := none }

def pool5 : Array CpInfo := pool [(2, .class_ 4), (1, u "java/lang/Enum"), (0, u "name"), (0, u "Ljava/lang/String;"), (2, u "ordinal"), (0, u "I"), (1, .class_ 14), (1, u "java/lang/Object"), (4, u "hash"), (86, .class_ 108), (1, u "java/lang/Enum$EnumDesc"), (2, .class_ 112), (0, u "java/lang/constant/Constable"), (0, .class_ 114), (0, u "java/lang/Comparable"), (0, .class_ 116), (0, u "java/io/Serializable")] 87

/-- java/lang/Enum -/
def k5 : Class := { plain "java/lang/Enum" (some 0) with
  accessFlags := 1057
  interfaces := #[2, 3, 4]
  cf := some (fileOf pool5 2 #[.nestMembers #[106]] #[] 1057 12 #[111, 113, 115] #[{ accessFlags := 18, nameIndex := 5, descriptorIndex := 6, attributes := #[] }, { accessFlags := 18, nameIndex := 9, descriptorIndex := 10, attributes := #[] }, { accessFlags := 2, nameIndex := 19, descriptorIndex := 10, attributes := #[] }])
  fields := #[{ name := "name", type := (.object "java/lang/String"), accessFlags := 18, slot := 0, constantValue := 0 }, { name := "ordinal", type := .int, accessFlags := 18, slot := 1, constantValue := 0 }, { name := "hash", type := .int, accessFlags := 2, slot := 2, constantValue := 0 }]
  methods := #[]
  instanceTypes := #[(.object "java/lang/String"), .int, .int]
  staticTypes := #[]
  resolved := Array.replicate 204 none
  statics := none }

def pool6 : Array CpInfo := pool [(1, .class_ 2), (0, u "com/example/orbweaver/orbweaver/idl/IdlType"), (0, .class_ 4), (0, u "java/lang/Object")] 6

/-- com/example/orbweaver/orbweaver/idl/IdlType -/
def k6 : Class := { plain "com/example/orbweaver/orbweaver/idl/IdlType" (some 0) with
  accessFlags := 1537
  interfaces := #[]
  cf := some (fileOf pool6 1 #[] #[] 1537 3 #[] #[])
  fields := #[]
  methods := #[]
  instanceTypes := #[]
  staticTypes := #[]
  resolved := Array.replicate 11 none
  statics := none }

def pool7 : Array CpInfo := pool [(1, .class_ 2), (0, u "com/example/orbweaver/orbweaver/idl/BasicType"), (2, u "SHORT"), (0, u "Lcom/example/orbweaver/orbweaver/idl/BasicType;"), (2, u "LONG"), (2, u "LONG_LONG"), (2, u "UNSIGNED_SHORT"), (2, u "UNSIGNED_LONG"), (2, u "UNSIGNED_LONG_LONG"), (2, u "OCTET"), (2, u "FLOAT"), (2, u "DOUBLE"), (2, u "LONG_DOUBLE"), (2, u "CHAR"), (2, u "WCHAR"), (2, u "BOOLEAN"), (2, u "ANY"), (2, u "OBJECT"), (2, u "VALUE_BASE"), (2, u "VOID"), (2, u "$VALUES"), (0, u "[Lcom/example/orbweaver/orbweaver/idl/BasicType;"), (6, .class_ 67), (1, u "java/lang/Enum"), (8, u "spelling"), (0, u "Ljava/lang/String;"), (0, .fieldref 1 79), (0, .nameAndType 80 81), (0, u "min"), (0, u "Ljava/math/BigInteger;"), (2, u "max"), (28, u "isInteger"), (0, u "()Z"), (65, .class_ 181), (0, u "com/example/orbweaver/orbweaver/idl/IdlType")] 19

def k7c0 : Code := { maxStack := 1, maxLocals := 1, code := prog_15_method_5_code, exceptionTable := #[], attributes := #[] }
def k7m0 : Method := { name := "isInteger", desc := "()Z", sig := { parameters := [], returnType := some .boolean }, accessFlags := 1, code := some k7c0 }
/-- com/example/orbweaver/orbweaver/idl/BasicType -/
def k7 : Class := { plain "com/example/orbweaver/orbweaver/idl/BasicType" (some 5) with
  accessFlags := 16433
  interfaces := #[6]
  cf := some (fileOf pool7 1 #[] #[{ accessFlags := 1, nameIndex := 113, descriptorIndex := 114, attributes := #[] }] 16433 65 #[180] #[{ accessFlags := 16409, nameIndex := 5, descriptorIndex := 6, attributes := #[] }, { accessFlags := 16409, nameIndex := 9, descriptorIndex := 6, attributes := #[] }, { accessFlags := 16409, nameIndex := 12, descriptorIndex := 6, attributes := #[] }, { accessFlags := 16409, nameIndex := 15, descriptorIndex := 6, attributes := #[] }, { accessFlags := 16409, nameIndex := 18, descriptorIndex := 6, attributes := #[] }, { accessFlags := 16409, nameIndex := 21, descriptorIndex := 6, attributes := #[] }, { accessFlags := 16409, nameIndex := 24, descriptorIndex := 6, attributes := #[] }, { accessFlags := 16409, nameIndex := 27, descriptorIndex := 6, attributes := #[] }, { accessFlags := 16409, nameIndex := 30, descriptorIndex := 6, attributes := #[] }, { accessFlags := 16409, nameIndex := 33, descriptorIndex := 6, attributes := #[] }, { accessFlags := 16409, nameIndex := 36, descriptorIndex := 6, attributes := #[] }, { accessFlags := 16409, nameIndex := 39, descriptorIndex := 6, attributes := #[] }, { accessFlags := 16409, nameIndex := 42, descriptorIndex := 6, attributes := #[] }, { accessFlags := 16409, nameIndex := 45, descriptorIndex := 6, attributes := #[] }, { accessFlags := 16409, nameIndex := 48, descriptorIndex := 6, attributes := #[] }, { accessFlags := 16409, nameIndex := 51, descriptorIndex := 6, attributes := #[] }, { accessFlags := 16409, nameIndex := 54, descriptorIndex := 6, attributes := #[] }, { accessFlags := 18, nameIndex := 76, descriptorIndex := 77, attributes := #[] }, { accessFlags := 18, nameIndex := 80, descriptorIndex := 81, attributes := #[] }, { accessFlags := 18, nameIndex := 84, descriptorIndex := 81, attributes := #[] }, { accessFlags := 4122, nameIndex := 57, descriptorIndex := 58, attributes := #[] }])
  fields := #[{ name := "SHORT", type := (.object "com/example/orbweaver/orbweaver/idl/BasicType"), accessFlags := 16409, slot := 0, constantValue := 0 }, { name := "LONG", type := (.object "com/example/orbweaver/orbweaver/idl/BasicType"), accessFlags := 16409, slot := 1, constantValue := 0 }, { name := "LONG_LONG", type := (.object "com/example/orbweaver/orbweaver/idl/BasicType"), accessFlags := 16409, slot := 2, constantValue := 0 }, { name := "UNSIGNED_SHORT", type := (.object "com/example/orbweaver/orbweaver/idl/BasicType"), accessFlags := 16409, slot := 3, constantValue := 0 }, { name := "UNSIGNED_LONG", type := (.object "com/example/orbweaver/orbweaver/idl/BasicType"), accessFlags := 16409, slot := 4, constantValue := 0 }, { name := "UNSIGNED_LONG_LONG", type := (.object "com/example/orbweaver/orbweaver/idl/BasicType"), accessFlags := 16409, slot := 5, constantValue := 0 }, { name := "OCTET", type := (.object "com/example/orbweaver/orbweaver/idl/BasicType"), accessFlags := 16409, slot := 6, constantValue := 0 }, { name := "FLOAT", type := (.object "com/example/orbweaver/orbweaver/idl/BasicType"), accessFlags := 16409, slot := 7, constantValue := 0 }, { name := "DOUBLE", type := (.object "com/example/orbweaver/orbweaver/idl/BasicType"), accessFlags := 16409, slot := 8, constantValue := 0 }, { name := "LONG_DOUBLE", type := (.object "com/example/orbweaver/orbweaver/idl/BasicType"), accessFlags := 16409, slot := 9, constantValue := 0 }, { name := "CHAR", type := (.object "com/example/orbweaver/orbweaver/idl/BasicType"), accessFlags := 16409, slot := 10, constantValue := 0 }, { name := "WCHAR", type := (.object "com/example/orbweaver/orbweaver/idl/BasicType"), accessFlags := 16409, slot := 11, constantValue := 0 }, { name := "BOOLEAN", type := (.object "com/example/orbweaver/orbweaver/idl/BasicType"), accessFlags := 16409, slot := 12, constantValue := 0 }, { name := "ANY", type := (.object "com/example/orbweaver/orbweaver/idl/BasicType"), accessFlags := 16409, slot := 13, constantValue := 0 }, { name := "OBJECT", type := (.object "com/example/orbweaver/orbweaver/idl/BasicType"), accessFlags := 16409, slot := 14, constantValue := 0 }, { name := "VALUE_BASE", type := (.object "com/example/orbweaver/orbweaver/idl/BasicType"), accessFlags := 16409, slot := 15, constantValue := 0 }, { name := "VOID", type := (.object "com/example/orbweaver/orbweaver/idl/BasicType"), accessFlags := 16409, slot := 16, constantValue := 0 }, { name := "spelling", type := (.object "java/lang/String"), accessFlags := 18, slot := 3, constantValue := 0 }, { name := "min", type := (.object "java/math/BigInteger"), accessFlags := 18, slot := 4, constantValue := 0 }, { name := "max", type := (.object "java/math/BigInteger"), accessFlags := 18, slot := 5, constantValue := 0 }, { name := "$VALUES", type := (.array (.object "com/example/orbweaver/orbweaver/idl/BasicType")), accessFlags := 4122, slot := 17, constantValue := 0 }]
  methods := #[k7m0]
  instanceTypes := #[(.object "java/lang/String"), .int, .int, (.object "java/lang/String"), (.object "java/math/BigInteger"), (.object "java/math/BigInteger")]
  staticTypes := #[(.object "com/example/orbweaver/orbweaver/idl/BasicType"), (.object "com/example/orbweaver/orbweaver/idl/BasicType"), (.object "com/example/orbweaver/orbweaver/idl/BasicType"), (.object "com/example/orbweaver/orbweaver/idl/BasicType"), (.object "com/example/orbweaver/orbweaver/idl/BasicType"), (.object "com/example/orbweaver/orbweaver/idl/BasicType"), (.object "com/example/orbweaver/orbweaver/idl/BasicType"), (.object "com/example/orbweaver/orbweaver/idl/BasicType"), (.object "com/example/orbweaver/orbweaver/idl/BasicType"), (.object "com/example/orbweaver/orbweaver/idl/BasicType"), (.object "com/example/orbweaver/orbweaver/idl/BasicType"), (.object "com/example/orbweaver/orbweaver/idl/BasicType"), (.object "com/example/orbweaver/orbweaver/idl/BasicType"), (.object "com/example/orbweaver/orbweaver/idl/BasicType"), (.object "com/example/orbweaver/orbweaver/idl/BasicType"), (.object "com/example/orbweaver/orbweaver/idl/BasicType"), (.object "com/example/orbweaver/orbweaver/idl/BasicType"), (.array (.object "com/example/orbweaver/orbweaver/idl/BasicType"))]
  resolved := Array.replicate 201 none
  statics := some 0 }

def pool8 : Array CpInfo := pool [(2, .class_ 4), (1, u "java/lang/Object"), (0, u "<init>"), (0, u "()V"), (1, .class_ 10), (1, u "java/lang/Number"), (2, .class_ 14), (0, u "java/io/Serializable"), (0, u "serialVersionUID"), (0, u "J")] 20

def k8m0 : Method := { name := "<init>", desc := "()V", sig := { parameters := [], returnType := none }, accessFlags := 1, code := none }
/-- java/lang/Number -/
def k8 : Class := { plain "java/lang/Number" (some 0) with
  accessFlags := 1057
  interfaces := #[4]
  cf := some (fileOf pool8 8 #[] #[{ accessFlags := 1, nameIndex := 5, descriptorIndex := 6, attributes := #[] }] 1057 2 #[13] #[{ accessFlags := 26, nameIndex := 15, descriptorIndex := 16, attributes := #[] }])
  fields := #[{ name := "serialVersionUID", type := .long, accessFlags := 26, slot := 0, constantValue := 0 }]
  methods := #[k8m0]
  instanceTypes := #[]
  staticTypes := #[.long]
  resolved := Array.replicate 37 none
  statics := none }

def pool9 : Array CpInfo := pool [(4, .class_ 6), (1, u "java/lang/Number"), (16, .class_ 25), (1, u "java/math/BigInteger"), (0, u "ZERO"), (0, u "Ljava/math/BigInteger;"), (2, u "mag"), (0, u "[I"), (2, u "signum"), (0, u "I"), (59, u "bitsPerDigit"), (0, u "[J"), (9, u "digitsPerInt"), (12, u "intRadix"), (60, u "SMALL_PRIME_PRODUCT"), (79, u "ONE"), (6, u "TWO"), (43, u "$assertionsDisabled"), (0, u "Z"), (36, u "posConst"), (0, u "[Ljava/math/BigInteger;"), (4, u "negConst"), (116, .class_ 474), (1, u "java/math/BigInteger$RecursiveOp"), (106, u "NEGATIVE_ONE"), (91, u "bnExpModThreshTable"), (72, u "lowestSetBitPlusTwo"), (2, u "bitLengthPlusOne"), (2, u "bitCountPlusOne"), (6, u "LOG_TWO"), (0, u "D"), (2, u "logCache"), (0, u "[D"), (13, u "NUM_ZEROS"), (2, u "ZEROS"), (0, u "Ljava/lang/String;"), (9, u "longRadix"), (5, u "digitsPerLong"), (22, u "powerCache"), (0, u "[[Ljava/math/BigInteger;"), (45, u "firstNonzeroIntNumPlusTwo"), (38, .class_ 909), (1, u "java/math/BigInteger$UnsafeHolder"), (141, u "TEN"), (106, u "serialPersistentFields"), (0, u "[Ljava/io/ObjectStreamField;"), (0, .class_ 1161), (0, u "java/lang/Comparable"), (0, u "LONG_MASK"), (0, u "J"), (1, u "MAX_MAG_LENGTH"), (0, u "PRIME_SEARCH_BIT_LENGTH_LIMIT"), (1, u "KARATSUBA_THRESHOLD"), (1, u "TOOM_COOK_THRESHOLD"), (1, u "KARATSUBA_SQUARE_THRESHOLD"), (1, u "TOOM_COOK_SQUARE_THRESHOLD"), (1, u "BURNIKEL_ZIEGLER_THRESHOLD"), (0, u "BURNIKEL_ZIEGLER_OFFSET"), (1, u "SCHOENHAGE_BASE_CONVERSION_THRESHOLD"), (1, u "MULTIPLY_SQUARE_THRESHOLD"), (0, u "MONTGOMERY_INTRINSIC_THRESHOLD"), (1, u "SMALL_PRIME_THRESHOLD"), (1, u "DEFAULT_PRIME_CERTAINTY"), (1, u "MAX_CONSTANT"), (3, u "serialVersionUID"), (338, .class_ 1532), (0, u "java/math/BigInteger$RecursiveOp$RecursiveSquare"), (0, .class_ 1534), (0, u "java/math/BigInteger$RecursiveOp$RecursiveMultiply")] 7

/-- java/math/BigInteger -/
def k9 : Class := { plain "java/math/BigInteger" (some 8) with
  accessFlags := 33
  interfaces := #[3]
  cf := some (fileOf pool9 23 #[.nestMembers #[907, 472, 1531, 1533]] #[] 33 4 #[1160] #[{ accessFlags := 16, nameIndex := 34, descriptorIndex := 35, attributes := #[] }, { accessFlags := 16, nameIndex := 30, descriptorIndex := 31, attributes := #[] }, { accessFlags := 2, nameIndex := 752, descriptorIndex := 35, attributes := #[] }, { accessFlags := 2, nameIndex := 749, descriptorIndex := 35, attributes := #[] }, { accessFlags := 2, nameIndex := 746, descriptorIndex := 35, attributes := #[] }, { accessFlags := 2, nameIndex := 868, descriptorIndex := 35, attributes := #[] }, { accessFlags := 24, nameIndex := 1162, descriptorIndex := 1163, attributes := #[] }, { accessFlags := 26, nameIndex := 1165, descriptorIndex := 35, attributes := #[] }, { accessFlags := 26, nameIndex := 1166, descriptorIndex := 35, attributes := #[] }, { accessFlags := 26, nameIndex := 1168, descriptorIndex := 35, attributes := #[] }, { accessFlags := 26, nameIndex := 1170, descriptorIndex := 35, attributes := #[] }, { accessFlags := 26, nameIndex := 1172, descriptorIndex := 35, attributes := #[] }, { accessFlags := 26, nameIndex := 1174, descriptorIndex := 35, attributes := #[] }, { accessFlags := 24, nameIndex := 1176, descriptorIndex := 35, attributes := #[] }, { accessFlags := 24, nameIndex := 1177, descriptorIndex := 35, attributes := #[] }, { accessFlags := 26, nameIndex := 1179, descriptorIndex := 35, attributes := #[] }, { accessFlags := 26, nameIndex := 1181, descriptorIndex := 35, attributes := #[] }, { accessFlags := 26, nameIndex := 1182, descriptorIndex := 35, attributes := #[] }, { accessFlags := 10, nameIndex := 95, descriptorIndex := 96, attributes := #[] }, { accessFlags := 26, nameIndex := 1184, descriptorIndex := 35, attributes := #[] }, { accessFlags := 26, nameIndex := 1186, descriptorIndex := 35, attributes := #[] }, { accessFlags := 26, nameIndex := 180, descriptorIndex := 27, attributes := #[] }, { accessFlags := 26, nameIndex := 1188, descriptorIndex := 35, attributes := #[] }, { accessFlags := 26, nameIndex := 349, descriptorIndex := 350, attributes := #[] }, { accessFlags := 26, nameIndex := 355, descriptorIndex := 350, attributes := #[] }, { accessFlags := 74, nameIndex := 821, descriptorIndex := 822, attributes := #[] }, { accessFlags := 26, nameIndex := 763, descriptorIndex := 764, attributes := #[] }, { accessFlags := 26, nameIndex := 759, descriptorIndex := 760, attributes := #[] }, { accessFlags := 25, nameIndex := 26, descriptorIndex := 27, attributes := #[] }, { accessFlags := 25, nameIndex := 260, descriptorIndex := 27, attributes := #[] }, { accessFlags := 25, nameIndex := 267, descriptorIndex := 27, attributes := #[] }, { accessFlags := 26, nameIndex := 581, descriptorIndex := 27, attributes := #[] }, { accessFlags := 25, nameIndex := 1051, descriptorIndex := 27, attributes := #[] }, { accessFlags := 8, nameIndex := 673, descriptorIndex := 31, attributes := #[] }, { accessFlags := 10, nameIndex := 778, descriptorIndex := 35, attributes := #[] }, { accessFlags := 26, nameIndex := 781, descriptorIndex := 782, attributes := #[] }, { accessFlags := 10, nameIndex := 798, descriptorIndex := 31, attributes := #[] }, { accessFlags := 10, nameIndex := 792, descriptorIndex := 350, attributes := #[] }, { accessFlags := 10, nameIndex := 106, descriptorIndex := 31, attributes := #[] }, { accessFlags := 10, nameIndex := 119, descriptorIndex := 31, attributes := #[] }, { accessFlags := 26, nameIndex := 1192, descriptorIndex := 1163, attributes := #[] }, { accessFlags := 26, nameIndex := 1158, descriptorIndex := 1159, attributes := #[] }, { accessFlags := 4120, nameIndex := 311, descriptorIndex := 312, attributes := #[] }])
  fields := #[{ name := "signum", type := .int, accessFlags := 16, slot := 0, constantValue := 0 }, { name := "mag", type := (.array .int), accessFlags := 16, slot := 1, constantValue := 0 }, { name := "bitCountPlusOne", type := .int, accessFlags := 2, slot := 2, constantValue := 0 }, { name := "bitLengthPlusOne", type := .int, accessFlags := 2, slot := 3, constantValue := 0 }, { name := "lowestSetBitPlusTwo", type := .int, accessFlags := 2, slot := 4, constantValue := 0 }, { name := "firstNonzeroIntNumPlusTwo", type := .int, accessFlags := 2, slot := 5, constantValue := 0 }, { name := "LONG_MASK", type := .long, accessFlags := 24, slot := 0, constantValue := 0 }, { name := "MAX_MAG_LENGTH", type := .int, accessFlags := 26, slot := 1, constantValue := 0 }, { name := "PRIME_SEARCH_BIT_LENGTH_LIMIT", type := .int, accessFlags := 26, slot := 2, constantValue := 0 }, { name := "KARATSUBA_THRESHOLD", type := .int, accessFlags := 26, slot := 3, constantValue := 0 }, { name := "TOOM_COOK_THRESHOLD", type := .int, accessFlags := 26, slot := 4, constantValue := 0 }, { name := "KARATSUBA_SQUARE_THRESHOLD", type := .int, accessFlags := 26, slot := 5, constantValue := 0 }, { name := "TOOM_COOK_SQUARE_THRESHOLD", type := .int, accessFlags := 26, slot := 6, constantValue := 0 }, { name := "BURNIKEL_ZIEGLER_THRESHOLD", type := .int, accessFlags := 24, slot := 7, constantValue := 0 }, { name := "BURNIKEL_ZIEGLER_OFFSET", type := .int, accessFlags := 24, slot := 8, constantValue := 0 }, { name := "SCHOENHAGE_BASE_CONVERSION_THRESHOLD", type := .int, accessFlags := 26, slot := 9, constantValue := 0 }, { name := "MULTIPLY_SQUARE_THRESHOLD", type := .int, accessFlags := 26, slot := 10, constantValue := 0 }, { name := "MONTGOMERY_INTRINSIC_THRESHOLD", type := .int, accessFlags := 26, slot := 11, constantValue := 0 }, { name := "bitsPerDigit", type := (.array .long), accessFlags := 10, slot := 12, constantValue := 0 }, { name := "SMALL_PRIME_THRESHOLD", type := .int, accessFlags := 26, slot := 13, constantValue := 0 }, { name := "DEFAULT_PRIME_CERTAINTY", type := .int, accessFlags := 26, slot := 14, constantValue := 0 }, { name := "SMALL_PRIME_PRODUCT", type := (.object "java/math/BigInteger"), accessFlags := 26, slot := 15, constantValue := 0 }, { name := "MAX_CONSTANT", type := .int, accessFlags := 26, slot := 16, constantValue := 0 }, { name := "posConst", type := (.array (.object "java/math/BigInteger")), accessFlags := 26, slot := 17, constantValue := 0 }, { name := "negConst", type := (.array (.object "java/math/BigInteger")), accessFlags := 26, slot := 18, constantValue := 0 }, { name := "powerCache", type := (.array (.array (.object "java/math/BigInteger"))), accessFlags := 74, slot := 19, constantValue := 0 }, { name := "logCache", type := (.array .double), accessFlags := 26, slot := 20, constantValue := 0 }, { name := "LOG_TWO", type := .double, accessFlags := 26, slot := 21, constantValue := 0 }, { name := "ZERO", type := (.object "java/math/BigInteger"), accessFlags := 25, slot := 22, constantValue := 0 }, { name := "ONE", type := (.object "java/math/BigInteger"), accessFlags := 25, slot := 23, constantValue := 0 }, { name := "TWO", type := (.object "java/math/BigInteger"), accessFlags := 25, slot := 24, constantValue := 0 }, { name := "NEGATIVE_ONE", type := (.object "java/math/BigInteger"), accessFlags := 26, slot := 25, constantValue := 0 }, { name := "TEN", type := (.object "java/math/BigInteger"), accessFlags := 25, slot := 26, constantValue := 0 }, { name := "bnExpModThreshTable", type := (.array .int), accessFlags := 8, slot := 27, constantValue := 0 }, { name := "NUM_ZEROS", type := .int, accessFlags := 10, slot := 28, constantValue := 0 }, { name := "ZEROS", type := (.object "java/lang/String"), accessFlags := 26, slot := 29, constantValue := 0 }, { name := "digitsPerLong", type := (.array .int), accessFlags := 10, slot := 30, constantValue := 0 }, { name := "longRadix", type := (.array (.object "java/math/BigInteger")), accessFlags := 10, slot := 31, constantValue := 0 }, { name := "digitsPerInt", type := (.array .int), accessFlags := 10, slot := 32, constantValue := 0 }, { name := "intRadix", type := (.array .int), accessFlags := 10, slot := 33, constantValue := 0 }, { name := "serialVersionUID", type := .long, accessFlags := 26, slot := 34, constantValue := 0 }, { name := "serialPersistentFields", type := (.array (.object "java/io/ObjectStreamField")), accessFlags := 26, slot := 35, constantValue := 0 }, { name := "$assertionsDisabled", type := .boolean, accessFlags := 4120, slot := 36, constantValue := 0 }]
  methods := #[]
  instanceTypes := #[.int, (.array .int), .int, .int, .int, .int]
  staticTypes := #[.long, .int, .int, .int, .int, .int, .int, .int, .int, .int, .int, .int, (.array .long), .int, .int, (.object "java/math/BigInteger"), .int, (.array (.object "java/math/BigInteger")), (.array (.object "java/math/BigInteger")), (.array (.array (.object "java/math/BigInteger"))), (.array .double), .double, (.object "java/math/BigInteger"), (.object "java/math/BigInteger"), (.object "java/math/BigInteger"), (.object "java/math/BigInteger"), (.object "java/math/BigInteger"), (.array .int), .int, (.object "java/lang/String"), (.array .int), (.array (.object "java/math/BigInteger")), (.array .int), (.array .int), .long, (.array (.object "java/io/ObjectStreamField")), .boolean]
  resolved := Array.replicate 1542 none
  statics := none }

def pool10 : Array CpInfo := pool [(1, u "java/lang/Cloneable"), (0, .class_ 1), (0, u "java/lang/Object"), (0, .class_ 3)] 3

/-- java/lang/Cloneable -/
def k10 : Class := { plain "java/lang/Cloneable" (some 0) with
  accessFlags := 1537
  interfaces := #[]
  cf := some (fileOf pool10 2 #[] #[] 1537 4 #[] #[])
  fields := #[]
  methods := #[]
  instanceTypes := #[]
  staticTypes := #[]
  resolved := Array.replicate 8 none
  statics := none }

/-- the primitive byte -/
def k11 : Class := { plain "byte" none with kind := .primitive 'B', accessFlags := 0x411 }
/-- [B -/
def k12 : Class := { plain "[B" (some 0) with kind := .array 11 .byte, interfaces := #[10, 4], accessFlags := 1041 }

/-- the primitive int -/
def k13 : Class := { plain "int" none with kind := .primitive 'I', accessFlags := 0x411 }
/-- [I -/
def k14 : Class := { plain "[I" (some 0) with kind := .array 13 .int, interfaces := #[10, 4], accessFlags := 1041 }

/-- [Lcom/example/orbweaver/orbweaver/idl/BasicType; -/
def k15 : Class := { plain "[Lcom/example/orbweaver/orbweaver/idl/BasicType;" (some 0) with kind := .array 7 (.object "com/example/orbweaver/orbweaver/idl/BasicType"), interfaces := #[10, 4], accessFlags := 1041 }

def heap : Heap := #[{ cls := 7, slots := #[.ref 1, .ref 2, .ref 3, .ref 4, .ref 5, .ref 6, .ref 7, .ref 8, .ref 9, .ref 10, .ref 11, .ref 12, .ref 13, .ref 14, .ref 15, .ref 16, .ref 17, .null], vm := .statics 7 },
  { cls := 7, slots := #[.null, .int 0, .int 0, .null, .ref 18, .null], vm := .none },
  { cls := 7, slots := #[.null, .int 1, .int 0, .null, .ref 19, .null], vm := .none },
  { cls := 7, slots := #[.null, .int 2, .int 0, .null, .ref 20, .null], vm := .none },
  { cls := 7, slots := #[.null, .int 3, .int 0, .null, .ref 21, .null], vm := .none },
  { cls := 7, slots := #[.null, .int 4, .int 0, .null, .ref 21, .null], vm := .none },
  { cls := 7, slots := #[.null, .int 5, .int 0, .null, .ref 21, .null], vm := .none },
  { cls := 7, slots := #[.null, .int 6, .int 0, .null, .ref 21, .null], vm := .none },
  { cls := 7, slots := #[.null, .int 7, .int 0, .null, .null, .null], vm := .none },
  { cls := 7, slots := #[.null, .int 8, .int 0, .null, .null, .null], vm := .none },
  { cls := 7, slots := #[.null, .int 9, .int 0, .null, .null, .null], vm := .none },
  { cls := 7, slots := #[.null, .int 10, .int 0, .null, .null, .null], vm := .none },
  { cls := 7, slots := #[.null, .int 11, .int 0, .null, .null, .null], vm := .none },
  { cls := 7, slots := #[.null, .int 12, .int 0, .null, .null, .null], vm := .none },
  { cls := 7, slots := #[.null, .int 13, .int 0, .null, .null, .null], vm := .none },
  { cls := 7, slots := #[.null, .int 14, .int 0, .null, .null, .null], vm := .none },
  { cls := 7, slots := #[.null, .int 15, .int 0, .null, .null, .null], vm := .none },
  { cls := 7, slots := #[.null, .int 16, .int 0, .null, .null, .null], vm := .none },
  { cls := 9, slots := #[.int 0, .null, .int 0, .int 0, .int 0, .int 0], vm := .none },
  { cls := 9, slots := #[.int 0, .null, .int 0, .int 0, .int 0, .int 0], vm := .none },
  { cls := 9, slots := #[.int 0, .null, .int 0, .int 0, .int 0, .int 0], vm := .none },
  { cls := 9, slots := #[.int 0, .null, .int 0, .int 0, .int 0, .int 0], vm := .none },
  { cls := 9, slots := #[.int 0, .null, .int 0, .int 0, .int 0, .int 0], vm := .none },
  { cls := 9, slots := #[.int 0, .null, .int 0, .int 0, .int 0, .int 0], vm := .none },
  { cls := 9, slots := #[.int 0, .null, .int 0, .int 0, .int 0, .int 0], vm := .none },
  { cls := 9, slots := #[.int 0, .null, .int 0, .int 0, .int 0, .int 0], vm := .none },
  { cls := 9, slots := #[.int 0, .null, .int 0, .int 0, .int 0, .int 0], vm := .none },
  { cls := 9, slots := #[.int 0, .null, .int 0, .int 0, .int 0, .int 0], vm := .none },
  { cls := 9, slots := #[.int 0, .null, .int 0, .int 0, .int 0, .int 0], vm := .none },
  { cls := 9, slots := #[.int 0, .null, .int 0, .int 0, .int 0, .int 0], vm := .none },
  { cls := 9, slots := #[.int 0, .null, .int 0, .int 0, .int 0, .int 0], vm := .none },
  { cls := 9, slots := #[.int 0, .null, .int 0, .int 0, .int 0, .int 0], vm := .none },
  { cls := 9, slots := #[.int 0, .null, .int 0, .int 0, .int 0, .int 0], vm := .none },
  { cls := 9, slots := #[.int 0, .null, .int 0, .int 0, .int 0, .int 0], vm := .none },
  { cls := 9, slots := #[.int 0, .null, .int 0, .int 0, .int 0, .int 0], vm := .none }]
def classes : Array Class := #[k0, k1, k2, k3, k4, k5, k6, k7, k8, k9, k10, k11, k12, k13, k14, k15]
def interned : List (Array UInt16 × Addr) := []
def slotsUsed : Nat := 222
def theMethod : MethodId := ⟨1, 1⟩
def args0 : Array Value := #[.int 5]
def aboutOver (below : List Frame) : State where
  vm := { classes := classes, interned := interned.toArray }
  heap := heap
  slotsUsed := slotsUsed
  threads := #[{ frames := .invoking theMethod args0 :: below }]
def below0 : List Frame := [.native { method := ⟨0, 0⟩, args := #[] }]
def about1 : State := aboutOver below0
def p0 : Program := .bare "" "" ""
def e0 : Env := launch0.env 0 0 0
theorem w_frames : about1.frames = Frame.invoking theMethod args0 :: below0 := rfl
set_option maxRecDepth 65536 in
theorem w_args : argsFit about1.vm theMethod args0 = true := by decide +kernel
set_option maxRecDepth 65536 in
theorem w_heap : heapFits about1 = true := by decide +kernel
set_option maxRecDepth 65536 in
theorem w_runnable : about1.curStatus? = some .runnable := by decide +kernel
set_option maxRecDepth 65536 in
theorem w_alone : about1.alone = true := by decide +kernel
set_option maxRecDepth 65536 in
theorem w_named : about1.methodNamed? x = some theMethod := by decide +kernel
set_option maxRecDepth 65536 in
theorem w_hears : about1.hears theMethod below0 = true := by decide +kernel
set_option maxRecDepth 65536 in
theorem w_ripe : about1.ripe theMethod args0 below0 = true := by decide +kernel
theorem w_running : about1.status = .running := rfl
set_option maxRecDepth 65536 in
theorem w_room : about1.hasRoom e0.platform room_1 = true :=
  launch0.hasRoom_least _ room_1 (by decide +kernel) (by decide +kernel) (by decide +kernel) (by decide +kernel) (by decide +kernel) (by decide +kernel)
theorem allAtoms_all (ts : List Jvm.Cond) (a : Array Jvm.Value) (st : Jvm.State) : (allAtoms ts).before a st = ts.all (fun c => c.before a st) := by
  induction ts with
  | nil => rfl
  | cons c t ih =>
    show (Jvm.Cond.and c (allAtoms t)).before a st = _
    rw [Jvm.Cond.before_and, ih, List.all_cons]
def words1 : List Jvm.Cond := Jvm.Cond.code x code maxLocals ret :: tables_1
/-- a 'code' word, met by the world's own term for the bytes: nothing is compared byte by byte -/
theorem code_word {y : MethodName} {bytes : ByteArray} {mx : Nat} {rt : Option FieldType} {a : Array Value} {s : State} {m : MethodId} {meth : Method} {c : Code} (h1 : s.methodNamed? y = some m) (h2 : s.vm.method? m = some meth) (h3 : meth.code = some c) (h4 : c.code = bytes)
    (h5 : (c.maxLocals == mx && c.exceptionTable.isEmpty && decide (c.maxStack ≤ mostOperands) && decide (meth.sig.returnType = rt) && !meth.locks && decide (parseMethodDescriptor y.desc = some meth.sig)) = true) : (Jvm.Cond.code y bytes mx rt).before a s = true := by
  simp only [Bool.and_eq_true, beq_iff_eq, Bool.not_eq_true', decide_eq_true_eq] at h5
  obtain ⟨⟨⟨⟨⟨g1, g2⟩, g3⟩, g4⟩, g5⟩, g6⟩ := h5
  simp [Cond.before, Cond.holds, Cond.value, h1, h2, h3, h4, g1, g2, g3, g4, g5, g6]
def isCode : Jvm.Cond → Bool
  | .code _ _ _ _ => true
  | _ => false
theorem all_split {L : List Jvm.Cond} {P : Jvm.Cond → Bool} (h1 : L.all (fun c => isCode c || P c) = true) (h2 : ∀ c ∈ L.filter isCode, P c = true) : L.all P = true := by
  refine List.all_eq_true.mpr fun c hc => ?_
  have h := List.all_eq_true.mp h1 c hc
  rcases Bool.eq_false_or_eq_true (isCode c) with hi | hi
  · exact h2 c (List.mem_filter.mpr ⟨hc, hi⟩)
  · simpa [hi] using h
set_option maxRecDepth 65536 in
theorem w_c0 : (Jvm.Cond.code x code maxLocals ret).before args0 about1 = true := code_word (m := ⟨1, 1⟩) (meth := k1m1) (c := k1c1) (by decide +kernel) rfl rfl rfl (by decide +kernel)
set_option maxRecDepth 65536 in
theorem w_c1 : (Jvm.Cond.code ({ cls := "com/example/orbweaver/orbweaver/idl/BasicType", name := "isInteger", desc := "()Z" } : Jvm.MethodName) prog_15_method_5_code (1 : Nat) (Option.some Jvm.ClassFile.FieldType.boolean)).before args0 about1 = true := code_word (m := ⟨7, 0⟩) (meth := k7m0) (c := k7c0) (by decide +kernel) rfl rfl rfl (by decide +kernel)
def codes1 : List Jvm.Cond := [Jvm.Cond.code x code maxLocals ret, Jvm.Cond.code ({ cls := "com/example/orbweaver/orbweaver/idl/BasicType", name := "isInteger", desc := "()Z" } : Jvm.MethodName) prog_15_method_5_code (1 : Nat) (Option.some Jvm.ClassFile.FieldType.boolean)]
set_option maxRecDepth 65536 in
theorem codes_eq : words1.filter isCode = codes1 := rfl
theorem w_codes : ∀ c ∈ words1.filter isCode, c.before args0 about1 = true := by
  rw [codes_eq]
  intro c hc
  simp only [codes1, List.mem_cons, List.not_mem_nil, or_false] at hc
  rcases hc with rfl | rfl
  · exact w_c0
  · exact w_c1
set_option maxRecDepth 65536 in
theorem w_t1 : (words1.take 24).all (fun c => isCode c || c.before args0 about1) = true := by decide +kernel
set_option maxRecDepth 65536 in
theorem w_t2 : (words1.drop 24).all (fun c => isCode c || c.before args0 about1) = true := by decide +kernel
theorem w_tables : (allAtoms (Jvm.Cond.code x code maxLocals ret :: tables_1)).before args0 about1 = true := by
  rw [allAtoms_all]
  show words1.all (fun c => c.before args0 about1) = true
  refine all_split ?_ w_codes
  rw [← List.take_append_drop 24 words1, List.all_append, w_t1, w_t2]
  rfl
set_option maxRecDepth 65536 in
theorem w_case : (Jvm.Cond.and given_1 narrow_1).before args0 about1 = true := by decide +kernel
theorem w_applies : (headSpec (Jvm.Cond.code x code maxLocals ret :: tables_1) room_1).applies x e0.platform about1 = true :=
  (Spec.applies_iff w_frames).mpr ⟨w_running, w_runnable, w_alone, w_named, w_hears, w_ripe, w_room, w_tables⟩
theorem atStart : AtStart classFile x code maxLocals ret World_1 tables_1 room_1 Calls_1 rest_1 Pre_1 launch0 p0 e0 about1 theMethod args0 below0 :=
  ⟨lists_1, trivial, launch0.admits_env _ _ _, launch0.least_env, fairChoices_fair.cas, fairChoices_fair.clock, w_frames, w_args, w_heap, w_applies, trivial, trivial, w_case⟩
end start1
theorem witness_1 : WitnessClaimed_1 := ⟨start1.p0, start1.e0, start1.about1, start1.theMethod, start1.args0, start1.below0, start1.atStart⟩
end Jvm.Pilot.@@N@@
