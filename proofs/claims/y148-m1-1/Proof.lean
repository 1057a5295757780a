import JvmDerived
import JvmDerived.Pilot.@@N@@Statement
import JvmDerived.Pilot.@@N@@Code
set_option linter.unusedVariables false
set_option linter.unusedSimpArgs false
namespace Jvm.Pilot.@@N@@
open Jvm Jvm.ClassFile Sem Op Lib Jvm.Free Jvm.Stand Jvm.LawKit Jvm.RoadKit Bundle Jvm.Pilot.@@N@@.Jvm.D
section OwnNums
theorem own_toInt (n : Nat) (h : n < 2 ^ 31) : (Int32.ofNat n).toInt = n := Int32.toInt_ofNat_of_lt h
theorem own_eq {x : Int32} {n : Nat} (h : n < 2 ^ 31) (e : x.toInt = n) : x = Int32.ofNat n := by rw [← Int32.toInt_inj, own_toInt n h, e]
theorem own_ltN (a b : Nat) (ha : a < 2 ^ 31) (hb : b < 2 ^ 31) : Int32.ofNat a < Int32.ofNat b ↔ a < b := by
  rw [Int32.lt_iff_toInt_lt, own_toInt a ha, own_toInt b hb]; omega
theorem own_eqN (a b : Nat) (ha : a < 2 ^ 31) (hb : b < 2 ^ 31) : Int32.ofNat a = Int32.ofNat b ↔ a = b := by
  rw [← Int32.toInt_inj, own_toInt a ha, own_toInt b hb]; omega
theorem own_addN (a b : Nat) : Int32.ofNat a + Int32.ofNat b = Int32.ofNat (a + b) := (Int32.ofNat_add a b).symm
theorem own_subI (a b : Nat) (ha : a < 2 ^ 31) (hb : b < 2 ^ 31) : (Int32.ofNat a - Int32.ofNat b).toInt = (a : Int) - b := by
  rw [Int32.toInt_sub, own_toInt a ha, own_toInt b hb]
  exact Int.bmod_eq_of_le (by omega) (by omega)
theorem own_subN (a b : Nat) (ha : a < 2 ^ 31) (hb : b ≤ a) : Int32.ofNat a - Int32.ofNat b = Int32.ofNat (a - b) :=
  own_eq (by omega) (by rw [own_subI a b ha (by omega)]; omega)
theorem own_clamp (a : Nat) (ha : a < 2 ^ 31) : (Int32.ofNat a).toNatClampNeg = a := by
  show (Int32.ofNat a).toInt.toNat = a
  rw [own_toInt a ha]; rfl
theorem own_nneg (a : Nat) (ha : a < 2 ^ 31) : ¬ Int32.ofNat a < 0 := by
  rw [Int32.lt_iff_toInt_lt, own_toInt a ha]
  have : (0 : Int32).toInt = 0 := rfl
  omega
theorem own_ixs (a b : Nat) (ha : a < 2 ^ 31) (hb : b ≤ a) : ¬ (Int32.ofNat a - Int32.ofNat b < 0) ∧ (Int32.ofNat a - Int32.ofNat b).toNatClampNeg = a - b := by
  rw [own_subN a b ha hb]; exact ⟨own_nneg _ (by omega), own_clamp _ (by omega)⟩
theorem own_ixa (a b : Nat) (ha : a + b < 2 ^ 31) : ¬ (Int32.ofNat a + Int32.ofNat b < 0) ∧ (Int32.ofNat a + Int32.ofNat b).toNatClampNeg = a + b := by
  rw [own_addN]; exact ⟨own_nneg _ ha, own_clamp _ ha⟩
/-- a small natural behind a mask and a remainder -/
theorem own_small (x : Int32) (k : Nat) (hk0 : 0 < k) (hk : k < 2 ^ 31) : ∃ n : Nat, n < k ∧ (x &&& 2147483647) % Int32.ofNat k = Int32.ofNat n := by
  obtain ⟨q1, q2⟩ := c_and x 2147483647 (by decide)
  obtain ⟨c1, -⟩ := c_irem (x &&& 2147483647) (Int32.ofNat k) k (own_toInt k hk)
  have h1 := c1 q1
  have h2 := Int.emod_nonneg (x &&& 2147483647).toInt (b := (k : Int)) (by omega)
  have h3 := Int.emod_lt_of_pos (x &&& 2147483647).toInt (b := (k : Int)) (by omega)
  exact ⟨((x &&& 2147483647) % Int32.ofNat k).toInt.toNat, by omega, own_eq (by omega) (by omega)⟩
/-- a small natural behind a mask -/
theorem own_masked (x : Int32) (k : Nat) (hk : k < 2 ^ 31) : ∃ n : Nat, n ≤ k ∧ x &&& Int32.ofNat k = Int32.ofNat n := by
  have h0 := own_toInt k hk
  obtain ⟨q1, q2⟩ := c_and x (Int32.ofNat k) (by omega)
  exact ⟨(x &&& Int32.ofNat k).toInt.toNat, by omega, own_eq (by omega) (by omega)⟩
theorem own_cmp (x y : Int64) : XT.cmpL x y = 0 ↔ x = y := lw_eq x y
theorem own_cmplt (x y : Int64) : XT.cmpL x y < 0 ↔ x < y := lw_lt x y
theorem own_cmpgt (x y : Int64) : 0 < XT.cmpL x y ↔ y < x := lw_gt x y
end OwnNums
section OwnLayer
variable {p : Program} {l : Launch} {e : Env} {R : Room} {s : State} {m : MethodId} {args : Array Value} {below : List Frame} {meth : Method} {c : Code} {T : State} {locs : List Loc} {cells slots : Nat} {Z : State} {a0 : Array Value} {h h' : Heap}
/-- from U the run comes to a return of which Q tells (value, heap, written places), within rc cells and rs slots -/
def Goes (p : Program) (e : Env) (below : List Frame) (s : State) (rc rs : Nat) (Q : Option Value → Heap → List Loc → Prop) (U : State) : Prop :=
  ∃ t o, Steps p.tables e below U t ∧ t.status = .running ∧ Ended t below o ∧ ∃ v L, o = .returned v ∧ Q v t.heap L ∧ FrameEnd s o t L rc rs
theorem Goes.step {rc rs : Nat} {Q : Option Value → Heap → List Loc → Prop} {U V : State} (st : ∀ t, Steps p.tables e below V t → Steps p.tables e below U t) (k : Goes p e below s rc rs Q V) : Goes p e below s rc rs Q U := by
  obtain ⟨t, o, k1, k2⟩ := k
  exact ⟨t, o, st t k1, k2⟩
theorem Goes.ret {rc rs : Nat} {Q : Option Value → Heap → List Loc → Prop} (X : Stand p l e R s m args below meth c T locs cells slots) (hx : p.tables.exec = Jvm.exec) (hlk : meth.locks = false) {pc : Nat} {Ls : Array Slot} {w : Value} {t : FieldType} {i : Instr} {rest : List Value} (hret : meth.sig.returnType = some t) (hn : narrow t w = w)
    (hi : (i = .ireturn ∧ (t = .int ∨ t = .boolean ∨ t = .byte ∨ t = .char ∨ t = .short) ∧ ∃ z, w = .int z) ∨ (i = .lreturn ∧ t = .long ∧ ∃ z, w = .long z) ∨ (i = .dreturn ∧ t = .double ∧ ∃ z, w = .double z) ∨ (i = .freturn ∧ t = .float ∧ ∃ z, w = .float z) ∨ (i = .areturn ∧ t.isReference = true ∧ w.isRef = true))
    (hd : decode c.code pc = .ok (i, 1)) (hc : cells ≤ rc) (hs : slots ≤ rs) (hQ : Q (some w) T.heap locs) : Goes p e below s rc rs Q (T.setTop (mkF m pc Ls (w :: rest))) := by
  obtain ⟨fs, hr, hrun, hended, hW, hsame⟩ := X.leave (v := some w) (fun h => by rw [hret] at h; cases h) hlk
  exact ⟨_, _, retOut X hx hret hn hi hd hr, hrun, hended, _, _, rfl, hQ, ⟨_, rfl⟩, hW, hsame.mono hc hs⟩
theorem Goes.retI {rc rs : Nat} {Q : Option Value → Heap → List Loc → Prop} (X : Stand p l e R s m args below meth c T locs cells slots) (hx : p.tables.exec = Jvm.exec) (hlk : meth.locks = false) {pc : Nat} {Ls : Array Slot} {z : Int32} {rest : List Value} (hret : meth.sig.returnType = some .int)
    (hd : decode c.code pc = .ok (.ireturn, 1)) (hc : cells ≤ rc) (hs : slots ≤ rs) (hQ : Q (some (.int z)) T.heap locs) : Goes p e below s rc rs Q (T.setTop (mkF m pc Ls (.int z :: rest))) :=
  Goes.ret X hx hlk hret rfl (Or.inl ⟨rfl, Or.inl rfl, _, rfl⟩) hd hc hs hQ
theorem Goes.retZ {rc rs : Nat} {Q : Option Value → Heap → List Loc → Prop} (X : Stand p l e R s m args below meth c T locs cells slots) (hx : p.tables.exec = Jvm.exec) (hlk : meth.locks = false) {pc : Nat} {Ls : Array Slot} {z : Int32} {t : FieldType} {rest : List Value} (hret : meth.sig.returnType = some t)
    (ht : t = .boolean ∨ t = .byte ∨ t = .char ∨ t = .short) (hn : narrow t (.int z) = .int z)
    (hd : decode c.code pc = .ok (.ireturn, 1)) (hc : cells ≤ rc) (hs : slots ≤ rs) (hQ : Q (some (.int z)) T.heap locs) : Goes p e below s rc rs Q (T.setTop (mkF m pc Ls (.int z :: rest))) :=
  Goes.ret X hx hlk hret hn (Or.inl ⟨rfl, Or.inr ht, _, rfl⟩) hd hc hs hQ
theorem Goes.retJ {rc rs : Nat} {Q : Option Value → Heap → List Loc → Prop} (X : Stand p l e R s m args below meth c T locs cells slots) (hx : p.tables.exec = Jvm.exec) (hlk : meth.locks = false) {pc : Nat} {Ls : Array Slot} {z : Int64} {rest : List Value} (hret : meth.sig.returnType = some .long)
    (hd : decode c.code pc = .ok (.lreturn, 1)) (hc : cells ≤ rc) (hs : slots ≤ rs) (hQ : Q (some (.long z)) T.heap locs) : Goes p e below s rc rs Q (T.setTop (mkF m pc Ls (.long z :: rest))) :=
  Goes.ret X hx hlk hret rfl (Or.inr (Or.inl ⟨rfl, rfl, _, rfl⟩)) hd hc hs hQ
theorem own_narrow_ref {t : FieldType} {w : Value} (hw : w.isRef = true) : narrow t w = w := by
  cases w <;> simp [Value.isRef] at hw <;> cases t <;> rfl
theorem Goes.retA {rc rs : Nat} {Q : Option Value → Heap → List Loc → Prop} (X : Stand p l e R s m args below meth c T locs cells slots) (hx : p.tables.exec = Jvm.exec) (hlk : meth.locks = false) {pc : Nat} {Ls : Array Slot} {w : Value} {t : FieldType} {rest : List Value} (hret : meth.sig.returnType = some t)
    (ht : t.isReference = true) (hw : w.isRef = true)
    (hd : decode c.code pc = .ok (.areturn, 1)) (hc : cells ≤ rc) (hs : slots ≤ rs) (hQ : Q (some w) T.heap locs) : Goes p e below s rc rs Q (T.setTop (mkF m pc Ls (w :: rest))) :=
  Goes.ret X hx hlk hret (own_narrow_ref hw) (Or.inr (Or.inr (Or.inr (Or.inr ⟨rfl, ht, hw⟩)))) hd hc hs hQ
theorem Goes.retV {rc rs : Nat} {Q : Option Value → Heap → List Loc → Prop} (X : Stand p l e R s m args below meth c T locs cells slots) (hx : p.tables.exec = Jvm.exec) (hlk : meth.locks = false) {pc : Nat} {Ls : Array Slot} (hret : meth.sig.returnType = none)
    (hd : decode c.code pc = .ok (.return_, 1)) (hc : cells ≤ rc) (hs : slots ≤ rs) (hQ : Q none T.heap locs) : Goes p e below s rc rs Q (T.setTop (mkF m pc Ls [])) := by
  obtain ⟨fs, hr, hrun, hended, hW, hsame⟩ := X.leave (v := none) (fun _ => rfl) hlk
  exact ⟨_, _, X.returnOut hx hret hd hr, hrun, hended, _, _, rfl, hQ, ⟨_, rfl⟩, hW, hsame.mono hc hs⟩
/-- a static call by its contract -/
theorem own_callS (X : Stand p l e R s m args below meth c T locs cells slots) (hx : p.tables.exec = Jvm.exec) (hZ : Z.Warmed39 s.vm) {own : String} {index : Nat} {y : MethodName} {bytes : ByteArray} {maxL : Nat} {ret : Option FieldType} (hown : s.vm.findClass own = some m.cls)
    (w1 : (Cond.methodLink own index y).before a0 Z = true) (w2 : (Cond.static y).before a0 Z = true) (w3 : (Cond.initialized y.cls).before a0 Z = true) (w4 : (Cond.code y bytes maxL ret).before a0 Z = true) (hy : y.cls ≠ "java/lang/invoke/MethodHandle" ∧ y.cls ≠ "java/lang/invoke/VarHandle")
    {rm : Room} {argsL : List Value} {Q : Option Value → Heap → List Loc → Prop}
    (hM : MetFree l y (head1 [Cond.code y bytes maxL ret] rm) (fun a U => a = argsL.toArray ∧ Z.Warmed39 U.vm ∧ U.heap = h) (fun _ _ _ _ _ => True) (fun _ U o U' => ∃ v L, o = .returned v ∧ Q v U'.heap L ∧ FrameEnd U o U' L rm.cells rm.slots))
    (eT : T.heap = h) {W : Nat} (hf : rm.frames + 1 ≤ R.frames) (hl : W + (maxL + 11) + rm.locals ≤ R.locals) (hc : cells + rm.cells ≤ R.cells) (hsl : slots + rm.slots ≤ R.slots)
    {g : JFrame} (hg : g.method = m) (hsize : g.locals.size = c.maxLocals) {rest : List Value} (hlen : ∀ sig, parseMethodDescriptor y.desc = some sig → argsL.length = sig.parameters.length)
    (hstack : g.stack = argsL.reverse ++ rest) (hW : 2 * g.monitorRoom + (rest.map fun v => v.category).sum ≤ W) (hdg : decode c.code g.pc = .ok (.invokestatic index, 3)) :
    ∃ (v : Option Value) (T' : State) (L : List Loc), Stand p l e R s m args below meth c T' (locs ++ L) (cells + rm.cells) (slots + rm.slots) ∧ Q v T'.heap L ∧
      ∀ t, Steps p.tables e below (T'.setTop { g with pc := g.pc + 3, stack := v.toList ++ rest }) t → Steps p.tables e below (T.setTop g) t := by
  obtain ⟨v, _, ⟨U, Ls, k, n⟩, -, X', ⟨Lc, hQ, l1, y1, z1⟩, st⟩ := Jvm.LawKit.callS X hx (y := y) hown (mvT hZ w1) (mvT hZ w2) (mvT hZ w3) (mvT hZ w4) hy (backOf (W := W) hM hZ w4 w3 hf hl) hg hsize (argsL := argsL) (rest := rest) hlen hstack hW hdg (fun _ _ => ⟨rfl, eT, hc, hsl⟩)
  dsimp only [Pt.U, Pt.locs, Pt.cells, Pt.slots] at X' l1 y1 z1 st hQ
  subst l1 y1 z1
  exact ⟨v, U, Lc, X', hQ, st⟩
/-- a constructor's call by its contract -/
theorem own_callN (X : Stand p l e R s m args below meth c T locs cells slots) (hx : p.tables.exec = Jvm.exec) (hZ : Z.Warmed39 s.vm) {own : String} {index : Nat} {y : MethodName} {bytes : ByteArray} {maxL : Nat} (hy1 : y.name = "<init>") (hown : s.vm.findClass own = some m.cls)
    (w1 : (Cond.methodLink own index y).before a0 Z = true) (w2 : (Cond.instanceMethod y).before a0 Z = true) (w3 : (Cond.initialized y.cls).before a0 Z = true) (w4 : (Cond.code y bytes maxL none).before a0 Z = true) (hy : y.cls ≠ "java/lang/invoke/MethodHandle" ∧ y.cls ≠ "java/lang/invoke/VarHandle")
    {rm : Room} {a : Addr} {argsL : List Value} {Q : Option Value → Heap → List Loc → Prop}
    (hM : MetFree l y (head1 [Cond.code y bytes maxL none] rm) (fun b U => b = (.ref a :: argsL).toArray ∧ Z.Warmed39 U.vm ∧ U.heap = h) (fun _ _ _ _ _ => True) (fun _ U o U' => ∃ v L, o = .returned v ∧ Q v U'.heap L ∧ FrameEnd U o U' L rm.cells rm.slots))
    (eT : T.heap = h) {W : Nat} (hf : rm.frames + 1 ≤ R.frames) (hl : W + (maxL + 11) + rm.locals ≤ R.locals) (hc : cells + rm.cells ≤ R.cells) (hsl : slots + rm.slots ≤ R.slots)
    {g : JFrame} (hg : g.method = m) (hsize : g.locals.size = c.maxLocals) {rest : List Value} (hlen : ∀ sig, parseMethodDescriptor y.desc = some sig → argsL.length = sig.parameters.length)
    (hstack : g.stack = argsL.reverse ++ .ref a :: rest) (hW : 2 * g.monitorRoom + (rest.map fun v => v.category).sum ≤ W) (hdg : decode c.code g.pc = .ok (.invokespecial index, 3)) :
    ∃ (v : Option Value) (T' : State) (L : List Loc), Stand p l e R s m args below meth c T' (locs ++ L) (cells + rm.cells) (slots + rm.slots) ∧ Q v T'.heap L ∧
      ∀ t, Steps p.tables e below (T'.setTop { g with pc := g.pc + 3, stack := v.toList ++ rest }) t → Steps p.tables e below (T.setTop g) t := by
  obtain ⟨v, _, ⟨U, Ls, k, n⟩, -, X', ⟨Lc, hQ, l1, y1, z1⟩, st⟩ := X.specialBack hx (y := y) hy1 hown (mvT hZ w1) (mvT hZ w2) (mvT hZ w4) hy (backOf (W := W) hM hZ w4 w3 hf hl) hg hsize (Steps.refl _) (a := a) (argsL := argsL) (rest := rest) hlen hstack hW hdg (fun _ _ => ⟨rfl, eT, hc, hsl⟩)
  dsimp only [Pt.U, Pt.locs, Pt.cells, Pt.slots] at X' l1 y1 z1 st hQ
  subst l1 y1 z1
  exact ⟨v, U, Lc, X', hQ, fun t k => st.trans k⟩
/-- an instance method's call by its contract -/
theorem own_callV (X : Stand p l e R s m args below meth c T locs cells slots) (hx : p.tables.exec = Jvm.exec) (hZ : Z.Warmed39 s.vm) {own C : String} {index : Nat} {y : MethodName} {bytes : ByteArray} {maxL : Nat} {ret : Option FieldType} (hown : s.vm.findClass own = some m.cls)
    (w1 : (Cond.methodLink own index y).before a0 Z = true) (w2 : (Cond.declares y).before a0 Z = true) (w5 : (Cond.selects C y y).before a0 Z = true) (w6 : (Cond.instanceMethod y).before a0 Z = true) (w3 : (Cond.initialized y.cls).before a0 Z = true) (w4 : (Cond.code y bytes maxL ret).before a0 Z = true) (hy : y.cls ≠ "java/lang/invoke/MethodHandle" ∧ y.cls ≠ "java/lang/invoke/VarHandle")
    {rm : Room} {a : Addr} {argsL : List Value} {Q : Option Value → Heap → List Loc → Prop}
    (hM : MetFree l y (head1 [Cond.code y bytes maxL ret] rm) (fun b U => b = (.ref a :: argsL).toArray ∧ Z.Warmed39 U.vm ∧ U.heap = h) (fun _ _ _ _ _ => True) (fun _ U o U' => ∃ v L, o = .returned v ∧ Q v U'.heap L ∧ FrameEnd U o U' L rm.cells rm.slots))
    (eT : T.heap = h) (E : Exa Z h a C) {W : Nat} (hf : rm.frames + 1 ≤ R.frames) (hl : W + (maxL + 11) + rm.locals ≤ R.locals) (hc : cells + rm.cells ≤ R.cells) (hsl : slots + rm.slots ≤ R.slots)
    {g : JFrame} (hg : g.method = m) (hsize : g.locals.size = c.maxLocals) {rest : List Value} (hlen : ∀ sig, parseMethodDescriptor y.desc = some sig → argsL.length = sig.parameters.length)
    (hstack : g.stack = argsL.reverse ++ .ref a :: rest) (hW : 2 * g.monitorRoom + (rest.map fun v => v.category).sum ≤ W) (hdg : decode c.code g.pc = .ok (.invokevirtual index, 3)) :
    ∃ (v : Option Value) (T' : State) (L : List Loc), Stand p l e R s m args below meth c T' (locs ++ L) (cells + rm.cells) (slots + rm.slots) ∧ Q v T'.heap L ∧
      ∀ t, Steps p.tables e below (T'.setTop { g with pc := g.pc + 3, stack := v.toList ++ rest }) t → Steps p.tables e below (T.setTop g) t := by
  obtain ⟨cB, kB, qa, qb, qc⟩ := isOf hZ eT E
  obtain ⟨v, _, ⟨U, Ls, k, n⟩, -, X', ⟨Lc, hQ, l1, y1, z1⟩, st⟩ := X.virtualBack hx (y := y) (z := y) hown (mvT hZ w1) (mvT hZ w2) (notFace_of_selects (args := #[]) (mvT hZ w5)) (mvT hZ w5) (mvT hZ w6) hy (backOf (W := W) hM hZ w4 w3 hf hl) qa qc hg hsize (Steps.refl _) (argsL := argsL) (rest := rest) hlen hstack hW hdg (fun _ _ => ⟨rfl, eT, hc, hsl⟩)
  dsimp only [Pt.U, Pt.locs, Pt.cells, Pt.slots] at X' l1 y1 z1 st hQ
  subst l1 y1 z1
  exact ⟨v, U, Lc, X', hQ, fun t k => st.trans k⟩
/-- an interface method's call by its contract -/
theorem own_callI (X : Stand p l e R s m args below meth c T locs cells slots) (hx : p.tables.exec = Jvm.exec) (hZ : Z.Warmed39 s.vm) {own C : String} {index count : Nat} {xi z : MethodName} {bytes : ByteArray} {maxL : Nat} {ret : Option FieldType} (hown : s.vm.findClass own = some m.cls)
    (w1 : (Cond.methodLink own index xi).before a0 Z = true) (w2 : (Cond.declares xi).before a0 Z = true) (w7 : (Cond.interfaceMethod xi.cls xi.cls xi.name xi.desc).before a0 Z = true) (w5 : (Cond.selects C xi z).before a0 Z = true) (w6 : (Cond.instanceMethod z).before a0 Z = true) (w8 : (Cond.publicMethod z).before a0 Z = true) (w9 : (Cond.unhidden C xi.name xi.desc).before a0 Z = true) (w10 : (Cond.castable C xi.cls).before a0 Z = true)
    (hfa : ((Cond.interfaceMethod xi.cls xi.cls xi.name xi.desc).onTables && (Cond.interfaceMethod xi.cls xi.cls xi.name xi.desc).keepsFace) = true) (w3 : (Cond.initialized z.cls).before a0 Z = true) (w4 : (Cond.code z bytes maxL ret).before a0 Z = true) (hy : xi.cls ≠ "java/lang/invoke/MethodHandle" ∧ xi.cls ≠ "java/lang/invoke/VarHandle")
    {rm : Room} {a : Addr} {argsL : List Value} {Q : Option Value → Heap → List Loc → Prop}
    (hM : MetFree l z (head1 [Cond.code z bytes maxL ret] rm) (fun b U => b = (.ref a :: argsL).toArray ∧ Z.Warmed39 U.vm ∧ U.heap = h) (fun _ _ _ _ _ => True) (fun _ U o U' => ∃ v L, o = .returned v ∧ Q v U'.heap L ∧ FrameEnd U o U' L rm.cells rm.slots))
    (eT : T.heap = h) (E : Exa Z h a C) {W : Nat} (hf : rm.frames + 1 ≤ R.frames) (hl : W + (maxL + 11) + rm.locals ≤ R.locals) (hc : cells + rm.cells ≤ R.cells) (hsl : slots + rm.slots ≤ R.slots)
    {g : JFrame} (hg : g.method = m) (hsize : g.locals.size = c.maxLocals) {rest : List Value} (hlen : ∀ sig, parseMethodDescriptor xi.desc = some sig → argsL.length = sig.parameters.length)
    (hstack : g.stack = argsL.reverse ++ .ref a :: rest) (hW : 2 * g.monitorRoom + (rest.map fun v => v.category).sum ≤ W) (hdg : decode c.code g.pc = .ok (.invokeinterface index count, 5)) :
    ∃ (v : Option Value) (T' : State) (L : List Loc), Stand p l e R s m args below meth c T' (locs ++ L) (cells + rm.cells) (slots + rm.slots) ∧ Q v T'.heap L ∧
      ∀ t, Steps p.tables e below (T'.setTop { g with pc := g.pc + 5, stack := v.toList ++ rest }) t → Steps p.tables e below (T.setTop g) t := by
  obtain ⟨cB, kB, qa, qb, qc⟩ := isOf hZ eT E
  obtain ⟨v, _, ⟨U, Ls, k, n⟩, -, X', ⟨Lc, hQ, l1, y1, z1⟩, st⟩ := X.interfaceBack hx (xi := xi) (y := z) hown (mvT hZ w1) (mvT hZ w2) (mvT hZ w7 hfa) (mvT hZ w5) (mvT hZ w6) (mvT hZ w8) (mvT hZ w9) (mvT hZ w10) hy (backOf (W := W) hM hZ w4 w3 hf hl) qa qb qc hg hsize (Steps.refl _) (argsL := argsL) (rest := rest) hlen hstack hW hdg (fun _ _ => ⟨rfl, eT, hc, hsl⟩)
  dsimp only [Pt.U, Pt.locs, Pt.cells, Pt.slots] at X' l1 y1 z1 st hQ
  subst l1 y1 z1
  exact ⟨v, U, Lc, X', hQ, fun t k => st.trans k⟩
/-- an array: of n places, place j holds f j -/
def OA (Z : State) (h : Heap) (a : Addr) (ty : FieldType) (n : Nat) (f : Nat → Value) : Prop :=
  ∃ c : Cell, Arr Z h a c ty ∧ c.slots.size = n ∧ n < 2 ^ 31 ∧ ∀ j, j < n → c.slots[j]? = some (f j) ∧ fits ty (f j) = true
variable {a b : Addr} {ty : FieldType} {n k sl : Nat} {f f' : Nat → Value} {v w : Value} {j : Int32} {ws : List Addr}
theorem OA.ext (A : OA Z h a ty n f) (E : Ext h h') : OA Z h' a ty n f := by obtain ⟨c, A, r⟩ := A; exact ⟨c, A.ext E, r⟩
theorem OA.other (A : OA Z h b ty n f) (W : Wr h h' a sl v) (q : b ≠ a) : OA Z h' b ty n f := by obtain ⟨c, A, r⟩ := A; exact ⟨c, A.other W q, r⟩
theorem OA.keep (A : OA Z h a ty n f) (K : Keep h h' ws) (q : a ∉ ws) : OA Z h' a ty n f := by obtain ⟨c, A, r⟩ := A; exact ⟨c, ⟨K.2.1 a c A.1 q, A.2⟩, r⟩
theorem OA.lt (A : OA Z h a ty n f) : a < h.size := by obtain ⟨c, A, -⟩ := A; exact A.lt
theorem OA.congr (A : OA Z h a ty n f) (q : ∀ j, j < n → f j = f' j) : OA Z h a ty n f' := by
  obtain ⟨c, A, r1, r2, H⟩ := A
  exact ⟨c, A, r1, r2, fun j hj => by rw [← q j hj]; exact H j hj⟩
theorem OA.new {cA : ClassId} {z : Int32} (A : Arr Z h a (newA cA ty z) ty) (hf : fits ty (defaultValue ty) = true) (e : z.toNatClampNeg = n) : OA Z h a ty n (fun _ => defaultValue ty) := by
  refine ⟨_, A, by rw [sz_new]; exact e, ?_, fun j hj => ⟨?_, hf⟩⟩
  · have := z.toInt_lt
    have h2 : z.toNatClampNeg = z.toInt.toNat := rfl
    omega
  · simp [newA, e, hj]
theorem OA.set (A : OA Z h a ty n f) (W : Wr h h' a j.toNatClampNeg v) (e : j.toNatClampNeg = k) (hv : fits ty v = true) : OA Z h' a ty n (fun i => if i = k then v else f i) := by
  obtain ⟨c, A, r1, r2, H⟩ := A
  refine ⟨_, A.same W, by rw [sz_set]; exact r1, r2, fun i hi => ?_⟩
  obtain ⟨H1, H2⟩ := H i hi
  subst e
  by_cases q : i = j.toNatClampNeg
  · subst q
    dsimp only
    rw [if_pos rfl]
    exact ⟨by simp [Cell.setSlot, r1, hi], hv⟩
  · dsimp only
    rw [if_neg q]
    refine ⟨?_, H2⟩
    rw [← H1]
    simp [Cell.setSlot, Array.getElem?_setIfInBounds, Ne.symm q]
theorem OA.at (A : OA Z h a ty n f) (hj : ¬ j < 0) (e : j.toNatClampNeg = k) (hk : k < n) : ∃ c : Cell, Arr Z h a c ty ∧ ¬ (j < 0 ∨ c.slots.size ≤ j.toNatClampNeg) ∧ c.slots[j.toNatClampNeg]? = some (f k) ∧ fits ty (f k) = true := by
  obtain ⟨c, A, r1, r2, H⟩ := A
  obtain ⟨H1, H2⟩ := H k hk
  refine ⟨c, A, ?_, by rw [e]; exact H1, H2⟩
  rintro (q | q)
  · exact hj q
  · omega
theorem OA.fits (A : OA Z h a ty n f) (hk : k < n) : fits ty (f k) = true := by
  obtain ⟨c, A, r1, r2, H⟩ := A
  exact (H k hk).2
theorem own_alen (X : Stand p l e R s m args below meth c T locs cells slots) (hx : p.tables.exec = Jvm.exec) (hZ : Z.Warmed39 s.vm) (eT : T.heap = h) (A : OA Z h a ty n f) {z : Int32} (hz : z = n.toInt32)
    {g : JFrame} (hg : g.method = m) {rest : List Value} (hs : g.stack = .ref a :: rest) (hd : decode c.code g.pc = .ok (.arraylength, 1)) :
    ∀ t, Steps p.tables e below (T.setTop { g with pc := g.pc + 1, stack := .int z :: rest }) t → Steps p.tables e below (T.setTop g) t := by
  obtain ⟨cl, A, r1, r2, H⟩ := A
  intro t k
  refine X.arraylength hx (by rw [eT]; exact A.1) (State.isArrayOf_alike hZ.alike A.2.1) hg hs hd t ?_
  rw [r1, ← hz]
  exact k
theorem own_iaload (X : Stand p l e R s m args below meth c T locs cells slots) (hx : p.tables.exec = Jvm.exec) (hZ : Z.Warmed39 s.vm) (eT : T.heap = h) (A : OA Z h a .int n f) (hj : ¬ j < 0) (ek : j.toNatClampNeg = k) (hk : k < n) (hv : f k = v)
    {g : JFrame} (hg : g.method = m) {rest : List Value} (hs : g.stack = .int j :: .ref a :: rest) (hd : decode c.code g.pc = .ok (.iaload, 1)) :
    ∀ t, Steps p.tables e below (T.setTop { g with pc := g.pc + 1, stack := v :: rest }) t → Steps p.tables e below (T.setTop g) t := by
  obtain ⟨cl, A, q1, q2, q3⟩ := A.at hj ek hk
  subst hv
  exact fun t k => X.iaload hx (by rw [eT]; exact A.1) (State.isArrayOf_alike hZ.alike A.2.1) A.2.2 q1 q2 hg hs hd t k
theorem own_laload (X : Stand p l e R s m args below meth c T locs cells slots) (hx : p.tables.exec = Jvm.exec) (hZ : Z.Warmed39 s.vm) (eT : T.heap = h) (A : OA Z h a .long n f) (hj : ¬ j < 0) (ek : j.toNatClampNeg = k) (hk : k < n) (hv : f k = v)
    {g : JFrame} (hg : g.method = m) {rest : List Value} (hs : g.stack = .int j :: .ref a :: rest) (hd : decode c.code g.pc = .ok (.laload, 1)) :
    ∀ t, Steps p.tables e below (T.setTop { g with pc := g.pc + 1, stack := v :: rest }) t → Steps p.tables e below (T.setTop g) t := by
  obtain ⟨cl, A, q1, q2, q3⟩ := A.at hj ek hk
  subst hv
  exact fun t k => X.laload hx (by rw [eT]; exact A.1) (State.isArrayOf_alike hZ.alike A.2.1) A.2.2 q1 q2 hg hs hd t k
theorem own_caload (X : Stand p l e R s m args below meth c T locs cells slots) (hx : p.tables.exec = Jvm.exec) (hZ : Z.Warmed39 s.vm) (eT : T.heap = h) (A : OA Z h a .char n f) (hj : ¬ j < 0) (ek : j.toNatClampNeg = k) (hk : k < n) (hv : f k = v)
    {g : JFrame} (hg : g.method = m) {rest : List Value} (hs : g.stack = .int j :: .ref a :: rest) (hd : decode c.code g.pc = .ok (.caload, 1)) :
    ∀ t, Steps p.tables e below (T.setTop { g with pc := g.pc + 1, stack := v :: rest }) t → Steps p.tables e below (T.setTop g) t := by
  obtain ⟨cl, A, q1, q2, q3⟩ := A.at hj ek hk
  subst hv
  exact fun t k => X.caload hx (by rw [eT]; exact A.1) (State.isArrayOf_alike hZ.alike A.2.1) A.2.2 q1 q2 hg hs hd t k
theorem own_baload (X : Stand p l e R s m args below meth c T locs cells slots) (hx : p.tables.exec = Jvm.exec) (hZ : Z.Warmed39 s.vm) (eT : T.heap = h) (A : OA Z h a .byte n f) (hj : ¬ j < 0) (ek : j.toNatClampNeg = k) (hk : k < n) (hv : f k = v)
    {g : JFrame} (hg : g.method = m) {rest : List Value} (hs : g.stack = .int j :: .ref a :: rest) (hd : decode c.code g.pc = .ok (.baload, 1)) :
    ∀ t, Steps p.tables e below (T.setTop { g with pc := g.pc + 1, stack := v :: rest }) t → Steps p.tables e below (T.setTop g) t := by
  obtain ⟨cl, A, q1, q2, q3⟩ := A.at hj ek hk
  subst hv
  exact fun t k => X.baloadBytes hx (by rw [eT]; exact A.1) (State.isArrayOf_alike hZ.alike A.2.1) A.2.2 q1 q2 hg hs hd t k
theorem own_aaload (X : Stand p l e R s m args below meth c T locs cells slots) (hx : p.tables.exec = Jvm.exec) (hZ : Z.Warmed39 s.vm) (eT : T.heap = h) (A : OA Z h a ty n f) (hty : ty.isReference = true) (hj : ¬ j < 0) (ek : j.toNatClampNeg = k) (hk : k < n) (hv : f k = v)
    {g : JFrame} (hg : g.method = m) {rest : List Value} (hs : g.stack = .int j :: .ref a :: rest) (hd : decode c.code g.pc = .ok (.aaload, 1)) :
    ∀ t, Steps p.tables e below (T.setTop { g with pc := g.pc + 1, stack := v :: rest }) t → Steps p.tables e below (T.setTop g) t := by
  obtain ⟨cl, A, q1, q2, q3⟩ := A.at hj ek hk
  subst hv
  exact fun t k => X.aaload hx (by rw [eT]; exact A.1) (State.isArrayOf_alike hZ.alike A.2.1) hty A.2.2 q1 q2 hg hs hd t k
/-- stores: the new heap, the array's new values -/
theorem own_stI (X : Stand p l e R s m args below meth c T locs cells slots) (hx : p.tables.exec = Jvm.exec) (hZ : Z.Warmed39 s.vm) (eT : T.heap = h) (A : OA Z h a .int n f) {x : Int32} (hj : ¬ j < 0) (ek : j.toNatClampNeg = k) (hk : k < n)
    {g : JFrame} (hg : g.method = m) {rest : List Value} (hs : g.stack = .int x :: .int j :: .ref a :: rest) (hd : decode c.code g.pc = .ok (.iastore, 1)) :
    ∃ T' h', Stand p l e R s m args below meth c T' (locs ++ [⟨a, j.toNatClampNeg⟩]) cells slots ∧ T'.heap = h' ∧ Wr h h' a j.toNatClampNeg (.int x) ∧ OA Z h' a .int n (fun i => if i = k then .int x else f i) ∧
      ∀ t, Steps p.tables e below (T'.setTop { g with pc := g.pc + 1, stack := rest }) t → Steps p.tables e below (T.setTop g) t := by
  obtain ⟨cl, A', q1, q2, q3⟩ := A.at hj ek hk
  obtain ⟨T', h', X', e', W', st⟩ := stI X hx hZ eT A' q1 hg hs hd
  exact ⟨T', h', X', e', W', A.set W' ek rfl, st⟩
theorem own_stJ (X : Stand p l e R s m args below meth c T locs cells slots) (hx : p.tables.exec = Jvm.exec) (hZ : Z.Warmed39 s.vm) (eT : T.heap = h) (A : OA Z h a .long n f) {x : Int64} (hj : ¬ j < 0) (ek : j.toNatClampNeg = k) (hk : k < n)
    {g : JFrame} (hg : g.method = m) {rest : List Value} (hs : g.stack = .long x :: .int j :: .ref a :: rest) (hd : decode c.code g.pc = .ok (.lastore, 1)) :
    ∃ T' h', Stand p l e R s m args below meth c T' (locs ++ [⟨a, j.toNatClampNeg⟩]) cells slots ∧ T'.heap = h' ∧ Wr h h' a j.toNatClampNeg (.long x) ∧ OA Z h' a .long n (fun i => if i = k then .long x else f i) ∧
      ∀ t, Steps p.tables e below (T'.setTop { g with pc := g.pc + 1, stack := rest }) t → Steps p.tables e below (T.setTop g) t := by
  obtain ⟨cl, A', q1, q2, q3⟩ := A.at hj ek hk
  obtain ⟨T', h', X', e', W', st⟩ := stJ X hx hZ eT A' q1 hg hs hd
  exact ⟨T', h', X', e', W', A.set W' ek rfl, st⟩
theorem own_stB (X : Stand p l e R s m args below meth c T locs cells slots) (hx : p.tables.exec = Jvm.exec) (hZ : Z.Warmed39 s.vm) (eT : T.heap = h) (A : OA Z h a .byte n f) {x : Int32} (hj : ¬ j < 0) (ek : j.toNatClampNeg = k) (hk : k < n)
    {g : JFrame} (hg : g.method = m) {rest : List Value} (hs : g.stack = .int x :: .int j :: .ref a :: rest) (hd : decode c.code g.pc = .ok (.bastore, 1)) :
    ∃ T' h', Stand p l e R s m args below meth c T' (locs ++ [⟨a, j.toNatClampNeg⟩]) cells slots ∧ T'.heap = h' ∧ Wr h h' a j.toNatClampNeg (.int (nar .byte x)) ∧ OA Z h' a .byte n (fun i => if i = k then .int (nar .byte x) else f i) ∧
      ∀ t, Steps p.tables e below (T'.setTop { g with pc := g.pc + 1, stack := rest }) t → Steps p.tables e below (T.setTop g) t := by
  obtain ⟨cl, A', q1, q2, q3⟩ := A.at hj ek hk
  obtain ⟨T', h', X', e', W', st⟩ := stB X hx hZ eT A' q1 hg hs hd
  exact ⟨T', h', X', e', W', A.set W' ek (fits_nar_byte _), st⟩
theorem own_stC (X : Stand p l e R s m args below meth c T locs cells slots) (hx : p.tables.exec = Jvm.exec) (hZ : Z.Warmed39 s.vm) (eT : T.heap = h) (A : OA Z h a .char n f) {x : Int32} (hj : ¬ j < 0) (ek : j.toNatClampNeg = k) (hk : k < n)
    {g : JFrame} (hg : g.method = m) {rest : List Value} (hs : g.stack = .int x :: .int j :: .ref a :: rest) (hd : decode c.code g.pc = .ok (.castore, 1)) :
    ∃ T' h', Stand p l e R s m args below meth c T' (locs ++ [⟨a, j.toNatClampNeg⟩]) cells slots ∧ T'.heap = h' ∧ Wr h h' a j.toNatClampNeg (.int (nar .char x)) ∧ OA Z h' a .char n (fun i => if i = k then .int (nar .char x) else f i) ∧
      ∀ t, Steps p.tables e below (T'.setTop { g with pc := g.pc + 1, stack := rest }) t → Steps p.tables e below (T.setTop g) t := by
  obtain ⟨cl, A', q1, q2, q3⟩ := A.at hj ek hk
  obtain ⟨T', h', X', e', W', st⟩ := stC X hx hZ eT A' q1 hg hs hd
  exact ⟨T', h', X', e', W', A.set W' ek (fits_nar_char _), st⟩
theorem own_newP (X : Stand p l e R s m args below meth c T locs cells slots) (hx : p.tables.exec = Jvm.exec) (hZ : Z.Warmed39 s.vm) {aty : ArrayType} (w : (Cond.arrayClass (newarray.typeOf aty)).before a0 Z = true) (eT : T.heap = h) {z : Int32} (hz : ¬ z < 0) (en : z.toNatClampNeg = n) {cap : Nat} (hcap : n ≤ cap) (hb : cap * 8 ≤ 536870912) (hc : cells + 1 ≤ R.cells) (hl : slots + cap ≤ R.slots)
    {g : JFrame} (hg : g.method = m) {rest : List Value} (hs : g.stack = .int z :: rest) (hd : decode c.code g.pc = .ok (.newarray aty, 2)) :
    ∃ T' h', Stand p l e R s m args below meth c T' locs (cells + 1) (slots + cap) ∧ T'.heap = h' ∧ Ext h h' ∧ OA Z h' h.size (newarray.typeOf aty) n (fun _ => defaultValue (newarray.typeOf aty)) ∧
      ∀ t, Steps p.tables e below (T'.setTop { g with pc := g.pc + 2, stack := .ref h.size :: rest }) t → Steps p.tables e below (T.setTop g) t := by
  obtain ⟨T', h', cA, X', e', E', A', st⟩ := newP X hx hZ w eT hg hd hs hz (cap := cap) (en ▸ hcap) hb hc hl
  exact ⟨T', h', X', e', E', OA.new A' (by cases aty <;> rfl) en, st⟩
theorem OA.arv (A : OA Z h a ty n f) (d : Value) : ∃ k, Arv Z h a k ty (Int32.ofNat n) ((List.range n).map f) d := by
  obtain ⟨c, A, r1, r2, H⟩ := A
  have q : ∀ i, i < n → ((List.range n).map f).getD i d = f i := fun i hi => by simp [hi]
  exact ⟨c.cls, c, A, rfl, by rw [own_clamp n r2]; exact r1, own_nneg n r2, fun i hi => by rw [q i (by omega)]; exact (H i (by omega)).1, fun i hi => by rw [q i (by omega)]; exact (H i (by omega)).2⟩
theorem OA.of_arv {k : ClassId} {vs : List Value} {d : Value} {z : Int32} (A : Arv Z h a k ty z vs d) (e : z.toNatClampNeg = n) (q : ∀ i, i < n → vs.getD i d = f i) : OA Z h a ty n f := by
  obtain ⟨c, A, r1, r2, r3, H, G⟩ := A
  refine ⟨c, A, by omega, ?_, fun i hi => ?_⟩
  · have := z.toInt_lt
    have h2 : z.toNatClampNeg = z.toInt.toNat := rfl
    omega
  · rw [← q i hi]
    exact ⟨H i (by omega), G i (by omega)⟩
theorem own_spliced (vd us : List Value) (d : Value) (dp m : Nat) (hu : us.length = m) (hl : dp + m ≤ vd.length) (i : Nat) : (vd.take dp ++ us ++ vd.drop (dp + m)).getD i d = if dp ≤ i ∧ i < dp + m then us.getD (i - dp) d else vd.getD i d := by
  have h1 : (vd.take dp).length = dp := by rw [List.length_take]; omega
  by_cases c1 : i < dp
  · rw [if_neg (by omega)]
    simp only [List.getD_eq_getElem?_getD]
    rw [List.append_assoc, List.getElem?_append_left (by omega), List.getElem?_take_of_lt c1]
  · by_cases c2 : i < dp + m
    · rw [if_pos ⟨by omega, c2⟩]
      simp only [List.getD_eq_getElem?_getD]
      rw [List.append_assoc, List.getElem?_append_right (by omega), h1, List.getElem?_append_left (by omega)]
    · rw [if_neg (by omega)]
      simp only [List.getD_eq_getElem?_getD]
      rw [List.getElem?_append_right (by rw [List.length_append]; omega), List.getElem?_drop, List.length_append, h1, hu]
      have e : dp + m + (i - (dp + m)) = i := by omega
      rw [e]
/-- System.arraycopy between arrays of one primitive kind -/
theorem own_copy (X : Stand p l e R s m args below meth c T locs cells slots) (hx : p.tables.exec = Jvm.exec) (hZ : Z.Warmed39 s.vm) {own : String} {index : Nat} (hown : s.vm.findClass own = some m.cls)
    (w1 : (Cond.methodLink own index Jvm.Stand.acN).before a0 Z = true) (w2 : (Cond.native Jvm.Stand.acN).before a0 Z = true) (w3 : (Cond.static Jvm.Stand.acN).before a0 Z = true) (w4 : (Cond.initialized "java/lang/System").before a0 Z = true) (eT : T.heap = h)
    {n' sp dp nn : Nat} (A : OA Z h a ty n f) (B : OA Z h b ty n' f') (hty : refKind ty = false) (h1 : sp + nn ≤ n) (h2 : dp + nn ≤ n') {n0 : Nat} (N : Fr n0 locs) (ge : n0 ≤ b)
    {g : JFrame} (hg : g.method = m) (hsize : g.locals.size = c.maxLocals) {rest : List Value} (hs : g.stack = .int (Int32.ofNat nn) :: .int (Int32.ofNat dp) :: .ref b :: .int (Int32.ofNat sp) :: .ref a :: rest) (hd : decode c.code g.pc = .ok (.invokestatic index, 3))
    (hf : 1 ≤ R.frames) {W : Nat} (hW : 2 * g.monitorRoom + (rest.map fun v => v.category).sum ≤ W) (hlo : W + 18 ≤ R.locals) :
    ∃ T' h' L, Stand p l e R s m args below meth c T' L cells slots ∧ T'.heap = h' ∧ Fr n0 L ∧ Keep h h' [b] ∧ OA Z h' b ty n' (fun i => if dp ≤ i ∧ i < dp + nn then f (sp + (i - dp)) else f' i) ∧
      ∀ t, Steps p.tables e below (T'.setTop { g with pc := g.pc + 3, stack := rest }) t → Steps p.tables e below (T.setTop g) t := by
  have hn : n < 2 ^ 31 := by obtain ⟨c, A, r1, r2, H⟩ := A; exact r2
  have hn' : n' < 2 ^ 31 := by obtain ⟨c, A, r1, r2, H⟩ := B; exact r2
  obtain ⟨k, A'⟩ := A.arv (.int 0)
  obtain ⟨k', B'⟩ := B.arv (.int 0)
  have c1 := own_clamp sp (by omega)
  have c2 := own_clamp dp (by omega)
  have c3 := own_clamp nn (by omega)
  obtain ⟨T', h', L, X', e', N', K', A2, st⟩ := cpA X hx hZ hown w1 w2 w3 w4 eT A' B' (Or.inl ⟨rfl, hty⟩) (own_nneg sp (by omega)) (own_nneg dp (by omega)) (own_nneg nn (by omega)) (by rw [c1, c3, own_clamp n hn]; exact h1) (by rw [c2, c3, own_clamp n' hn']; exact h2) rfl (by rw [c2, c3]; simpa using h2) N ge hg hsize hs hd hf hW hlo
  refine ⟨T', h', L, X', e', N', K', OA.of_arv A2 (own_clamp n' hn') (fun i hi => ?_), st⟩
  rw [c1, c2, c3, own_spliced _ _ _ _ _ (by simp) (by simpa using h2)]
  by_cases q : dp ≤ i ∧ i < dp + nn
  · rw [if_pos q, if_pos q]
    have q3 : i - dp < nn := by omega
    have q4 : sp + (i - dp) < n := by omega
    simp [q3, q4]
  · rw [if_neg q, if_neg q]
    simp [hi]
/-- an array of references of class C: of n places, place j holds f j -/
def OR (Z : State) (h : Heap) (a : Addr) (C : String) (n : Nat) (f : Nat → Value) : Prop :=
  ∃ c : Cell, Arr Z h a c (.object C) ∧ Ovr Z c.cls C ∧ c.slots.size = n ∧ n < 2 ^ 31 ∧ ∀ j, j < n → c.slots[j]? = some (f j) ∧ (f j).isRef = true
variable {C : String}
theorem OR.ext (A : OR Z h a C n f) (E : Ext h h') : OR Z h' a C n f := by obtain ⟨c, A, r⟩ := A; exact ⟨c, A.ext E, r⟩
theorem OR.other (A : OR Z h b C n f) (W : Wr h h' a sl v) (q : b ≠ a) : OR Z h' b C n f := by obtain ⟨c, A, r⟩ := A; exact ⟨c, A.other W q, r⟩
theorem OR.keep (A : OR Z h a C n f) (K : Keep h h' ws) (q : a ∉ ws) : OR Z h' a C n f := by obtain ⟨c, A, r⟩ := A; exact ⟨c, ⟨K.2.1 a c A.1 q, A.2⟩, r⟩
theorem OR.lt (A : OR Z h a C n f) : a < h.size := by obtain ⟨c, A, -⟩ := A; exact A.lt
theorem OR.congr (A : OR Z h a C n f) (q : ∀ j, j < n → f j = f' j) : OR Z h a C n f' := by
  obtain ⟨c, A, o, r1, r2, H⟩ := A
  exact ⟨c, A, o, r1, r2, fun j hj => by rw [← q j hj]; exact H j hj⟩
theorem own_newR (X : Stand p l e R s m args below meth c T locs cells slots) (hx : p.tables.exec = Jvm.exec) (hZ : Z.Warmed39 s.vm) {own : String} {index : Nat} (hown : s.vm.findClass own = some m.cls) (w1 : (Cond.classLink own index C).before a0 Z = true) (w2 : (Cond.arrayOver (.object C)).before a0 Z = true) (eT : T.heap = h) {z : Int32} (hz : ¬ z < 0) (en : z.toNatClampNeg = n) {cap : Nat} (hcap : n ≤ cap) (hb : cap * 8 ≤ 536870912) (hc : cells + 1 ≤ R.cells) (hl : slots + cap ≤ R.slots)
    {g : JFrame} (hg : g.method = m) {rest : List Value} (hs : g.stack = .int z :: rest) (hd : decode c.code g.pc = .ok (.anewarray index, 3)) :
    ∃ T' h', Stand p l e R s m args below meth c T' locs (cells + 1) (slots + cap) ∧ T'.heap = h' ∧ Ext h h' ∧ OR Z h' h.size C n (fun _ => .null) ∧
      ∀ t, Steps p.tables e below (T'.setTop { g with pc := g.pc + 3, stack := .ref h.size :: rest }) t → Steps p.tables e below (T.setTop g) t := by
  obtain ⟨T', h', cA, X', e', E', A', O', st⟩ := newR X hx hZ hown w1 w2 eT hg hd hs hz (cap := cap) (en ▸ hcap) hb hc hl
  refine ⟨T', h', X', e', E', ⟨_, A', O', by rw [sz_new]; exact en, ?_, fun j hj => ⟨?_, rfl⟩⟩, st⟩
  · have := z.toInt_lt
    have h2 : z.toNatClampNeg = z.toInt.toNat := rfl
    omega
  · simp [newA, en, hj, defaultValue]
theorem own_stR (X : Stand p l e R s m args below meth c T locs cells slots) (hx : p.tables.exec = Jvm.exec) (hZ : Z.Warmed39 s.vm) (eT : T.heap = h) (A : OR Z h a C n f) {y : Addr} (I : Ins Z h y C true) (hj : ¬ j < 0) (ek : j.toNatClampNeg = k) (hk : k < n)
    {g : JFrame} (hg : g.method = m) {rest : List Value} (hs : g.stack = .ref y :: .int j :: .ref a :: rest) (hd : decode c.code g.pc = .ok (.aastore, 1)) :
    ∃ T' h', Stand p l e R s m args below meth c T' (locs ++ [⟨a, j.toNatClampNeg⟩]) cells slots ∧ T'.heap = h' ∧ Wr h h' a j.toNatClampNeg (.ref y) ∧ OR Z h' a C n (fun i => if i = k then .ref y else f i) ∧
      ∀ t, Steps p.tables e below (T'.setTop { g with pc := g.pc + 1, stack := rest }) t → Steps p.tables e below (T.setTop g) t := by
  obtain ⟨cl, A', O', r1, r2, H⟩ := A
  have q1 : ¬ (j < 0 ∨ cl.slots.size ≤ j.toNatClampNeg) := by
    rintro (q | q)
    · exact hj q
    · omega
  obtain ⟨T', h', X', e', W', st⟩ := stR X hx hZ eT A' q1 rfl (Sto.of A' O' I) hg hs hd
  refine ⟨T', h', X', e', W', ⟨_, A'.same W', O', by rw [sz_set]; exact r1, r2, fun i hi => ?_⟩, st⟩
  obtain ⟨H1, H2⟩ := H i hi
  subst ek
  by_cases q : i = j.toNatClampNeg
  · subst q
    dsimp only
    rw [if_pos rfl]
    exact ⟨by simp [Cell.setSlot, r1, hi], rfl⟩
  · dsimp only
    rw [if_neg q]
    refine ⟨?_, H2⟩
    rw [← H1]
    simp [Cell.setSlot, Array.getElem?_setIfInBounds, Ne.symm q]
theorem own_raload (X : Stand p l e R s m args below meth c T locs cells slots) (hx : p.tables.exec = Jvm.exec) (hZ : Z.Warmed39 s.vm) (eT : T.heap = h) (A : OR Z h a C n f) (hj : ¬ j < 0) (ek : j.toNatClampNeg = k) (hk : k < n) (hv : f k = v)
    {g : JFrame} (hg : g.method = m) {rest : List Value} (hs : g.stack = .int j :: .ref a :: rest) (hd : decode c.code g.pc = .ok (.aaload, 1)) :
    ∀ t, Steps p.tables e below (T.setTop { g with pc := g.pc + 1, stack := v :: rest }) t → Steps p.tables e below (T.setTop g) t := by
  obtain ⟨cl, A', O', r1, r2, H⟩ := A
  have q1 : ¬ (j < 0 ∨ cl.slots.size ≤ j.toNatClampNeg) := by
    rintro (q | q)
    · exact hj q
    · omega
  subst hv
  exact fun t k' => X.aaload hx (by rw [eT]; exact A'.1) (State.isArrayOf_alike hZ.alike A'.2.1) rfl A'.2.2 q1 (by rw [ek]; exact (H k hk).1) hg hs hd t k'
theorem own_fits_ref {t : FieldType} {w : Value} (ht : t.isReference = true) (hw : w.isRef = true) : fits t w = true := by
  cases w <;> simp [Value.isRef] at hw <;> cases t <;> first | rfl | (simp [FieldType.isReference] at ht)
end OwnLayer
def own_E (y : Nat → Int32) (fr to e : Nat) : Prop := fr + 2 ≤ e ∧ e ≤ to ∧ y (e - 1) = 10 ∧ (y (e - 2) = 10 ∨ (fr + 3 ≤ e ∧ y (e - 3) = 10 ∧ y (e - 2) = 13))
theorem own_byte (x : Int32) : narrow .byte (.int x.toInt8.toInt32) = .int x.toInt8.toInt32 := by
  show Value.int (x.toInt8.toInt32.toInt8.toInt32) = _
  simp
theorem own_sublt (e fr : Nat) (he : e < 2 ^ 31) (hf : fr < 2 ^ 30) : Int32.ofNat e - 3 < Int32.ofNat fr ↔ e < fr + 3 := by
  have := own_subI e 3 he (by decide)
  rw [Int32.lt_iff_toInt_lt, show (Int32.ofNat e - 3).toInt = (e : Int) - (3 : Nat) from this, own_toInt fr (by omega)]
  omega
theorem own_addlt (e fr k : Nat) (he : e < 2 ^ 31) (hf : fr + k < 2 ^ 31) : Int32.ofNat e < Int32.ofNat fr + Int32.ofNat k ↔ e < fr + k := by
  rw [own_addN]; exact own_ltN _ _ he hf
theorem own_addlt2 (e fr k : Nat) (he : e < 2 ^ 31) (hf : fr + k < 2 ^ 31) : Int32.ofNat fr + Int32.ofNat k < Int32.ofNat e ↔ fr + k < e := by
  rw [own_addN]; exact own_ltN _ _ hf he
theorem ef_pick (m : MethodId) (x0 : Int64) (x1 : Int32) : entryFrame m #[(.long x0), (.int x1)] 6 = mkF m 0 #[.val (.long x0), .second, .val (.int x1), .unset, .unset, .unset] [] := by first | (simp [entryFrame, mkF, argsToLocals, Value.category]; done) | rfl
theorem pn_com_example_hansou_hansou_RequestHeadEndPinLaw : plainName "com/example/hansou/hansou/RequestHeadEndPinLaw" = true := by first | (simp [plainName, overriddenIn]; done) | decide +kernel
theorem d_method_2_code_0 : decode method_2_code 0 = .ok (.lload_n 0, 1) := by decide +kernel
theorem d_method_2_code_1 : decode method_2_code 1 = .ok (.bipush 10, 2) := by decide +kernel
theorem d_method_2_code_3 : decode method_2_code 3 = .ok (.iload_n 2, 1) := by decide +kernel
theorem d_method_2_code_4 : decode method_2_code 4 = .ok (.imul, 1) := by decide +kernel
theorem d_method_2_code_5 : decode method_2_code 5 = .ok (.lushr, 1) := by decide +kernel
theorem d_method_2_code_6 : decode method_2_code 6 = .ok (.ldc2_w 7, 3) := by decide +kernel
theorem d_method_2_code_9 : decode method_2_code 9 = .ok (.land, 1) := by decide +kernel
theorem d_method_2_code_10 : decode method_2_code 10 = .ok (.lstore_n 3, 1) := by decide +kernel
theorem d_method_2_code_11 : decode method_2_code 11 = .ok (.lload_n 3, 1) := by decide +kernel
theorem d_method_2_code_12 : decode method_2_code 12 = .ok (.ldc2_w 9, 3) := by decide +kernel
theorem d_method_2_code_15 : decode method_2_code 15 = .ok (.land, 1) := by decide +kernel
theorem d_method_2_code_16 : decode method_2_code 16 = .ok (.l2i, 1) := by decide +kernel
theorem d_method_2_code_17 : decode method_2_code 17 = .ok (.istore 5, 2) := by decide +kernel
theorem d_method_2_code_19 : decode method_2_code 19 = .ok (.iload 5, 2) := by decide +kernel
theorem d_method_2_code_21 : decode method_2_code 21 = .ok (.ifCond .ne 6, 3) := by decide +kernel
theorem d_method_2_code_24 : decode method_2_code 24 = .ok (.bipush 10, 2) := by decide +kernel
theorem d_method_2_code_26 : decode method_2_code 26 = .ok (.ireturn, 1) := by decide +kernel
theorem d_method_2_code_27 : decode method_2_code 27 = .ok (.iload 5, 2) := by decide +kernel
theorem d_method_2_code_29 : decode method_2_code 29 = .ok (.iconst 1, 1) := by decide +kernel
theorem d_method_2_code_30 : decode method_2_code 30 = .ok (.if_icmp .ne 6, 3) := by decide +kernel
theorem d_method_2_code_33 : decode method_2_code 33 = .ok (.bipush 13, 2) := by decide +kernel
theorem d_method_2_code_35 : decode method_2_code 35 = .ok (.ireturn, 1) := by decide +kernel
theorem d_method_2_code_36 : decode method_2_code 36 = .ok (.lload_n 3, 1) := by decide +kernel
theorem d_method_2_code_37 : decode method_2_code 37 = .ok (.iconst 2, 1) := by decide +kernel
theorem d_method_2_code_38 : decode method_2_code 38 = .ok (.lushr, 1) := by decide +kernel
theorem d_method_2_code_39 : decode method_2_code 39 = .ok (.l2i, 1) := by decide +kernel
theorem d_method_2_code_40 : decode method_2_code 40 = .ok (.i2b, 1) := by decide +kernel
theorem d_method_2_code_41 : decode method_2_code 41 = .ok (.ireturn, 1) := by decide +kernel
def Q_pick (Z : State) (p1 : Int64) (p2 : Int32) (h0 : Heap) (n0 : Nat) (v : Option Value) (h : Heap) (L : List Loc) : Prop := (∃ z : Int32, v = some (.int z)) ∧ Fr n0 L ∧ h = h0
set_option maxRecDepth 65536 in
set_option maxHeartbeats 40000000 in
theorem rm_pick (l : Launch) (Z : State) (a0 : Array Value) (hw : ∀ d ∈ tables_1, d.before a0 Z = true) (ws : List Jvm.Cond) (p1 : Int64) (p2 : Int32) (h0 : Heap) (n0 : Nat) (Z0 : n0 ≤ h0.size)  :
    MetFree l (⟨"com/example/hansou/hansou/RequestHeadEndPinLaw", "pick", "(JI)B"⟩ : MethodName) (head1 (Jvm.Cond.code (⟨"com/example/hansou/hansou/RequestHeadEndPinLaw", "pick", "(JI)B"⟩ : MethodName) method_2_code 6 (some .byte) :: ws) ({ frames := 0, cells := 0, slots := 0, locals := 0 } : Room)) (fun a U => a = #[(.long p1), (.int p2)] ∧ Z.Warmed39 U.vm ∧ U.heap = h0) (fun _ _ _ _ _ => True) (fun _ U o U' => ∃ v L, o = .returned v ∧ Q_pick Z p1 p2 h0 n0 v U'.heap L ∧ FrameEnd U o U' L ({ frames := 0, cells := 0, slots := 0, locals := 0 } : Room).cells ({ frames := 0, cells := 0, slots := 0, locals := 0 } : Room).slots) := by
  refine MetFree.of_bodySF (plainFor_of_name pn_com_example_hansou_hansou_RequestHeadEndPinLaw) hisR ?_
  intro p ee s m args below meth cc s₁ Bd hml0 hP hK
  obtain ⟨rfl, hZ, hh⟩ := hP
  have hx := Bd.exec
  have hby := Bd.bytes
  have hml : cc.maxLocals = 6 := hml0
  have hown : s.vm.findClass "com/example/hansou/hansou/RequestHeadEndPinLaw" = some m.cls := findClass_of_methodNamed Bd.named
  have hnm := (name_of_methodNamed Bd.named Bd.method).1
  have X0 : Stand p l ee ({ frames := 0, cells := 0, slots := 0, locals := 0 } : Room) s m #[(.long p1), (.int p2)] below meth cc s₁ [] 0 0 := Stand.of_body Bd
  have e0 : s₁.heap = h0 := by rw [← hh, Bd.state]; rfl
  have N0 := Fr.nil n0
  show Goes p ee below s ({ frames := 0, cells := 0, slots := 0, locals := 0 } : Room).cells ({ frames := 0, cells := 0, slots := 0, locals := 0 } : Room).slots (Q_pick Z p1 p2 h0 n0) (s₁.setTop (entryFrame m #[(.long p1), (.int p2)] 6))
  refine Goes.step (fun _ hr => castTop (ef_pick m p1 p2) hr) ?_
  show Goes p ee below s _ _ _ (s₁.setTop (mkF m 0 #[.val (.long p1), .second, .val (.int p2), .unset, .unset, .unset] []))
  refine Goes.step (fun _ hr => XT.lloadN X0.here hx rfl (hb hby d_method_2_code_0) rfl  hr) ?_
  show Goes p ee below s _ _ _ (s₁.setTop (mkF m 1 #[.val (.long p1), .second, .val (.int p2), .unset, .unset, .unset] [(.long p1)]))
  refine Goes.step (fun _ hr => XS.bipush X0.here hx rfl (hb hby d_method_2_code_1) hr) ?_
  show Goes p ee below s _ _ _ (s₁.setTop (mkF m 3 #[.val (.long p1), .second, .val (.int p2), .unset, .unset, .unset] [(.int (10 : Int32)), (.long p1)]))
  refine Goes.step (fun _ hr => XS.iloadN X0.here hx rfl (hb hby d_method_2_code_3) rfl  hr) ?_
  show Goes p ee below s _ _ _ (s₁.setTop (mkF m 4 #[.val (.long p1), .second, .val (.int p2), .unset, .unset, .unset] [(.int p2), (.int (10 : Int32)), (.long p1)]))
  refine Goes.step (fun _ hr => XS.imul X0.here hx rfl (hb hby d_method_2_code_4) rfl hr) ?_
  show Goes p ee below s _ _ _ (s₁.setTop (mkF m 5 #[.val (.long p1), .second, .val (.int p2), .unset, .unset, .unset] [(.int ((10 : Int32) * p2)), (.long p1)]))
  refine Goes.step (fun _ hr => XT.lushr X0.here hx rfl (hb hby d_method_2_code_5) rfl hr) ?_
  show Goes p ee below s _ _ _ (s₁.setTop (mkF m 6 #[.val (.long p1), .second, .val (.int p2), .unset, .unset, .unset] [(.long (XT.ushrL p1 ((10 : Int32) * p2)))]))
  refine Goes.step (X0.ldc2Long hx hown (mvT hZ (hw _ (List.mem_of_getElem? (i := 5) rfl))) (g := (mkF m 6 #[.val (.long p1), .second, .val (.int p2), .unset, .unset, .unset] [(.long (XT.ushrL p1 ((10 : Int32) * p2)))])) rfl (hb hby d_method_2_code_6)) ?_
  show Goes p ee below s _ _ _ (s₁.setTop (mkF m 9 #[.val (.long p1), .second, .val (.int p2), .unset, .unset, .unset] [(.long (1023 : Int64)), (.long (XT.ushrL p1 ((10 : Int32) * p2)))]))
  refine Goes.step (fun _ hr => XT.land X0.here hx rfl (hb hby d_method_2_code_9) rfl hr) ?_
  show Goes p ee below s _ _ _ (s₁.setTop (mkF m 10 #[.val (.long p1), .second, .val (.int p2), .unset, .unset, .unset] [(.long ((XT.ushrL p1 ((10 : Int32) * p2)) &&& (1023 : Int64)))]))
  refine Goes.step (fun _ hr => XT.lstoreN X0.here hx rfl (hb hby d_method_2_code_10) rfl  (l' := #[.val (.long p1), .second, .val (.int p2), .val (.long ((XT.ushrL p1 ((10 : Int32) * p2)) &&& (1023 : Int64))), .second, .unset]) rfl hr) ?_
  show Goes p ee below s _ _ _ (s₁.setTop (mkF m 11 #[.val (.long p1), .second, .val (.int p2), .val (.long ((XT.ushrL p1 ((10 : Int32) * p2)) &&& (1023 : Int64))), .second, .unset] []))
  refine Goes.step (fun _ hr => XT.lloadN X0.here hx rfl (hb hby d_method_2_code_11) rfl  hr) ?_
  show Goes p ee below s _ _ _ (s₁.setTop (mkF m 12 #[.val (.long p1), .second, .val (.int p2), .val (.long ((XT.ushrL p1 ((10 : Int32) * p2)) &&& (1023 : Int64))), .second, .unset] [(.long ((XT.ushrL p1 ((10 : Int32) * p2)) &&& (1023 : Int64)))]))
  refine Goes.step (X0.ldc2Long hx hown (mvT hZ (hw _ (List.mem_of_getElem? (i := 6) rfl))) (g := (mkF m 12 #[.val (.long p1), .second, .val (.int p2), .val (.long ((XT.ushrL p1 ((10 : Int32) * p2)) &&& (1023 : Int64))), .second, .unset] [(.long ((XT.ushrL p1 ((10 : Int32) * p2)) &&& (1023 : Int64)))])) rfl (hb hby d_method_2_code_12)) ?_
  show Goes p ee below s _ _ _ (s₁.setTop (mkF m 15 #[.val (.long p1), .second, .val (.int p2), .val (.long ((XT.ushrL p1 ((10 : Int32) * p2)) &&& (1023 : Int64))), .second, .unset] [(.long (3 : Int64)), (.long ((XT.ushrL p1 ((10 : Int32) * p2)) &&& (1023 : Int64)))]))
  refine Goes.step (fun _ hr => XT.land X0.here hx rfl (hb hby d_method_2_code_15) rfl hr) ?_
  show Goes p ee below s _ _ _ (s₁.setTop (mkF m 16 #[.val (.long p1), .second, .val (.int p2), .val (.long ((XT.ushrL p1 ((10 : Int32) * p2)) &&& (1023 : Int64))), .second, .unset] [(.long (((XT.ushrL p1 ((10 : Int32) * p2)) &&& (1023 : Int64)) &&& (3 : Int64)))]))
  refine Goes.step (fun _ hr => XT.l2i X0.here hx rfl (hb hby d_method_2_code_16) rfl hr) ?_
  show Goes p ee below s _ _ _ (s₁.setTop (mkF m 17 #[.val (.long p1), .second, .val (.int p2), .val (.long ((XT.ushrL p1 ((10 : Int32) * p2)) &&& (1023 : Int64))), .second, .unset] [(.int (((XT.ushrL p1 ((10 : Int32) * p2)) &&& (1023 : Int64)) &&& (3 : Int64)).toInt32)]))
  refine Goes.step (fun _ hr => XS.istore X0.here hx rfl (hb hby d_method_2_code_17) rfl  (l' := #[.val (.long p1), .second, .val (.int p2), .val (.long ((XT.ushrL p1 ((10 : Int32) * p2)) &&& (1023 : Int64))), .second, .val (.int (((XT.ushrL p1 ((10 : Int32) * p2)) &&& (1023 : Int64)) &&& (3 : Int64)).toInt32)]) rfl hr) ?_
  show Goes p ee below s _ _ _ (s₁.setTop (mkF m 19 #[.val (.long p1), .second, .val (.int p2), .val (.long ((XT.ushrL p1 ((10 : Int32) * p2)) &&& (1023 : Int64))), .second, .val (.int (((XT.ushrL p1 ((10 : Int32) * p2)) &&& (1023 : Int64)) &&& (3 : Int64)).toInt32)] []))
  refine Goes.step (fun _ hr => XS.iload X0.here hx rfl (hb hby d_method_2_code_19) rfl  hr) ?_
  show Goes p ee below s _ _ _ (s₁.setTop (mkF m 21 #[.val (.long p1), .second, .val (.int p2), .val (.long ((XT.ushrL p1 ((10 : Int32) * p2)) &&& (1023 : Int64))), .second, .val (.int (((XT.ushrL p1 ((10 : Int32) * p2)) &&& (1023 : Int64)) &&& (3 : Int64)).toInt32)] [(.int (((XT.ushrL p1 ((10 : Int32) * p2)) &&& (1023 : Int64)) &&& (3 : Int64)).toInt32)]))
  by_cases hc21_1 : (((XT.ushrL p1 ((10 : Int32) * p2)) &&& (1023 : Int64)) &&& (3 : Int64)).toInt32 = (0 : Int32)
  · refine Goes.step (fun _ hr => XS.ifNo X0.here hx rfl (hb hby d_method_2_code_21) rfl ((if0 _ _).trans (teq hc21_1).2) hr) ?_
    show Goes p ee below s _ _ _ (s₁.setTop (mkF m 24 #[.val (.long p1), .second, .val (.int p2), .val (.long ((XT.ushrL p1 ((10 : Int32) * p2)) &&& (1023 : Int64))), .second, .val (.int (((XT.ushrL p1 ((10 : Int32) * p2)) &&& (1023 : Int64)) &&& (3 : Int64)).toInt32)] []))
    refine Goes.step (fun _ hr => XS.bipush X0.here hx rfl (hb hby d_method_2_code_24) hr) ?_
    show Goes p ee below s _ _ _ (s₁.setTop (mkF m 26 #[.val (.long p1), .second, .val (.int p2), .val (.long ((XT.ushrL p1 ((10 : Int32) * p2)) &&& (1023 : Int64))), .second, .val (.int (((XT.ushrL p1 ((10 : Int32) * p2)) &&& (1023 : Int64)) &&& (3 : Int64)).toInt32)] [(.int (10 : Int32))]))
    refine Goes.retZ X0 hx Bd.notSynchronized Bd.returns (by simp) rfl (hb hby d_method_2_code_26) (by decide) (by decide) ?_
    exact ⟨⟨_, rfl⟩, N0, e0⟩
  · refine Goes.step (fun _ hr => XS.ifYes X0.here hx rfl (pc0 := 21) (pc' := 27) rfl (hb hby d_method_2_code_21) rfl ((if0 _ _).trans (feq hc21_1).2) (by decide) (by decide) hr) ?_
    show Goes p ee below s _ _ _ (s₁.setTop (mkF m 27 #[.val (.long p1), .second, .val (.int p2), .val (.long ((XT.ushrL p1 ((10 : Int32) * p2)) &&& (1023 : Int64))), .second, .val (.int (((XT.ushrL p1 ((10 : Int32) * p2)) &&& (1023 : Int64)) &&& (3 : Int64)).toInt32)] []))
    refine Goes.step (fun _ hr => XS.iload X0.here hx rfl (hb hby d_method_2_code_27) rfl  hr) ?_
    show Goes p ee below s _ _ _ (s₁.setTop (mkF m 29 #[.val (.long p1), .second, .val (.int p2), .val (.long ((XT.ushrL p1 ((10 : Int32) * p2)) &&& (1023 : Int64))), .second, .val (.int (((XT.ushrL p1 ((10 : Int32) * p2)) &&& (1023 : Int64)) &&& (3 : Int64)).toInt32)] [(.int (((XT.ushrL p1 ((10 : Int32) * p2)) &&& (1023 : Int64)) &&& (3 : Int64)).toInt32)]))
    refine Goes.step (fun _ hr => XS.iconst X0.here hx rfl (hb hby d_method_2_code_29) hr) ?_
    show Goes p ee below s _ _ _ (s₁.setTop (mkF m 30 #[.val (.long p1), .second, .val (.int p2), .val (.long ((XT.ushrL p1 ((10 : Int32) * p2)) &&& (1023 : Int64))), .second, .val (.int (((XT.ushrL p1 ((10 : Int32) * p2)) &&& (1023 : Int64)) &&& (3 : Int64)).toInt32)] [(.int (1 : Int32)), (.int (((XT.ushrL p1 ((10 : Int32) * p2)) &&& (1023 : Int64)) &&& (3 : Int64)).toInt32)]))
    by_cases hc30_2 : (((XT.ushrL p1 ((10 : Int32) * p2)) &&& (1023 : Int64)) &&& (3 : Int64)).toInt32 = (1 : Int32)
    · refine Goes.step (fun _ hr => XS.icmpNo X0.here hx rfl (hb hby d_method_2_code_30) rfl (teq hc30_2).2 hr) ?_
      show Goes p ee below s _ _ _ (s₁.setTop (mkF m 33 #[.val (.long p1), .second, .val (.int p2), .val (.long ((XT.ushrL p1 ((10 : Int32) * p2)) &&& (1023 : Int64))), .second, .val (.int (((XT.ushrL p1 ((10 : Int32) * p2)) &&& (1023 : Int64)) &&& (3 : Int64)).toInt32)] []))
      refine Goes.step (fun _ hr => XS.bipush X0.here hx rfl (hb hby d_method_2_code_33) hr) ?_
      show Goes p ee below s _ _ _ (s₁.setTop (mkF m 35 #[.val (.long p1), .second, .val (.int p2), .val (.long ((XT.ushrL p1 ((10 : Int32) * p2)) &&& (1023 : Int64))), .second, .val (.int (((XT.ushrL p1 ((10 : Int32) * p2)) &&& (1023 : Int64)) &&& (3 : Int64)).toInt32)] [(.int (13 : Int32))]))
      refine Goes.retZ X0 hx Bd.notSynchronized Bd.returns (by simp) rfl (hb hby d_method_2_code_35) (by decide) (by decide) ?_
      exact ⟨⟨_, rfl⟩, N0, e0⟩
    · refine Goes.step (fun _ hr => XS.icmpYes X0.here hx rfl (pc0 := 30) (pc' := 36) rfl (hb hby d_method_2_code_30) rfl (feq hc30_2).2 (by decide) (by decide) hr) ?_
      show Goes p ee below s _ _ _ (s₁.setTop (mkF m 36 #[.val (.long p1), .second, .val (.int p2), .val (.long ((XT.ushrL p1 ((10 : Int32) * p2)) &&& (1023 : Int64))), .second, .val (.int (((XT.ushrL p1 ((10 : Int32) * p2)) &&& (1023 : Int64)) &&& (3 : Int64)).toInt32)] []))
      refine Goes.step (fun _ hr => XT.lloadN X0.here hx rfl (hb hby d_method_2_code_36) rfl  hr) ?_
      show Goes p ee below s _ _ _ (s₁.setTop (mkF m 37 #[.val (.long p1), .second, .val (.int p2), .val (.long ((XT.ushrL p1 ((10 : Int32) * p2)) &&& (1023 : Int64))), .second, .val (.int (((XT.ushrL p1 ((10 : Int32) * p2)) &&& (1023 : Int64)) &&& (3 : Int64)).toInt32)] [(.long ((XT.ushrL p1 ((10 : Int32) * p2)) &&& (1023 : Int64)))]))
      refine Goes.step (fun _ hr => XS.iconst X0.here hx rfl (hb hby d_method_2_code_37) hr) ?_
      show Goes p ee below s _ _ _ (s₁.setTop (mkF m 38 #[.val (.long p1), .second, .val (.int p2), .val (.long ((XT.ushrL p1 ((10 : Int32) * p2)) &&& (1023 : Int64))), .second, .val (.int (((XT.ushrL p1 ((10 : Int32) * p2)) &&& (1023 : Int64)) &&& (3 : Int64)).toInt32)] [(.int (2 : Int32)), (.long ((XT.ushrL p1 ((10 : Int32) * p2)) &&& (1023 : Int64)))]))
      refine Goes.step (fun _ hr => XT.lushr X0.here hx rfl (hb hby d_method_2_code_38) rfl hr) ?_
      show Goes p ee below s _ _ _ (s₁.setTop (mkF m 39 #[.val (.long p1), .second, .val (.int p2), .val (.long ((XT.ushrL p1 ((10 : Int32) * p2)) &&& (1023 : Int64))), .second, .val (.int (((XT.ushrL p1 ((10 : Int32) * p2)) &&& (1023 : Int64)) &&& (3 : Int64)).toInt32)] [(.long (XT.ushrL ((XT.ushrL p1 ((10 : Int32) * p2)) &&& (1023 : Int64)) (2 : Int32)))]))
      refine Goes.step (fun _ hr => XT.l2i X0.here hx rfl (hb hby d_method_2_code_39) rfl hr) ?_
      show Goes p ee below s _ _ _ (s₁.setTop (mkF m 40 #[.val (.long p1), .second, .val (.int p2), .val (.long ((XT.ushrL p1 ((10 : Int32) * p2)) &&& (1023 : Int64))), .second, .val (.int (((XT.ushrL p1 ((10 : Int32) * p2)) &&& (1023 : Int64)) &&& (3 : Int64)).toInt32)] [(.int (XT.ushrL ((XT.ushrL p1 ((10 : Int32) * p2)) &&& (1023 : Int64)) (2 : Int32)).toInt32)]))
      refine Goes.step (fun _ hr => XT.i2b X0.here hx rfl (hb hby d_method_2_code_40) rfl hr) ?_
      show Goes p ee below s _ _ _ (s₁.setTop (mkF m 41 #[.val (.long p1), .second, .val (.int p2), .val (.long ((XT.ushrL p1 ((10 : Int32) * p2)) &&& (1023 : Int64))), .second, .val (.int (((XT.ushrL p1 ((10 : Int32) * p2)) &&& (1023 : Int64)) &&& (3 : Int64)).toInt32)] [(.int ((XT.ushrL ((XT.ushrL p1 ((10 : Int32) * p2)) &&& (1023 : Int64)) (2 : Int32)).toInt32).toInt8.toInt32)]))
      refine Goes.retZ X0 hx Bd.notSynchronized Bd.returns (by simp) (own_byte _) (hb hby d_method_2_code_41) (by decide) (by decide) ?_
      exact ⟨⟨_, rfl⟩, N0, e0⟩
theorem ef_ends (m : MethodId) (x0 : Addr) (x1 : Int32) (x2 : Int32) (x3 : Int32) : entryFrame m #[(.ref x0), (.int x1), (.int x2), (.int x3)] 4 = mkF m 0 #[.val (.ref x0), .val (.int x1), .val (.int x2), .val (.int x3)] [] := by first | (simp [entryFrame, mkF, argsToLocals, Value.category]; done) | rfl
theorem d_method_3_code_0 : decode method_3_code 0 = .ok (.iload_n 1, 1) := by decide +kernel
theorem d_method_3_code_1 : decode method_3_code 1 = .ok (.iload_n 3, 1) := by decide +kernel
theorem d_method_3_code_2 : decode method_3_code 2 = .ok (.if_icmp .gt 10, 3) := by decide +kernel
theorem d_method_3_code_12 : decode method_3_code 12 = .ok (.iconst 0, 1) := by decide +kernel
theorem d_method_3_code_13 : decode method_3_code 13 = .ok (.ireturn, 1) := by decide +kernel
theorem d_method_3_code_5 : decode method_3_code 5 = .ok (.iload_n 1, 1) := by decide +kernel
theorem d_method_3_code_6 : decode method_3_code 6 = .ok (.iload_n 2, 1) := by decide +kernel
theorem d_method_3_code_7 : decode method_3_code 7 = .ok (.iconst 2, 1) := by decide +kernel
theorem d_method_3_code_8 : decode method_3_code 8 = .ok (.iadd, 1) := by decide +kernel
theorem d_method_3_code_9 : decode method_3_code 9 = .ok (.if_icmp .ge 5, 3) := by decide +kernel
theorem d_method_3_code_14 : decode method_3_code 14 = .ok (.aload_n 0, 1) := by decide +kernel
theorem d_method_3_code_15 : decode method_3_code 15 = .ok (.iload_n 1, 1) := by decide +kernel
theorem d_method_3_code_16 : decode method_3_code 16 = .ok (.iconst 1, 1) := by decide +kernel
theorem d_method_3_code_17 : decode method_3_code 17 = .ok (.isub, 1) := by decide +kernel
theorem d_method_3_code_18 : decode method_3_code 18 = .ok (.baload, 1) := by decide +kernel
theorem d_method_3_code_19 : decode method_3_code 19 = .ok (.bipush 10, 2) := by decide +kernel
theorem d_method_3_code_21 : decode method_3_code 21 = .ok (.if_icmp .eq 5, 3) := by decide +kernel
theorem d_method_3_code_26 : decode method_3_code 26 = .ok (.aload_n 0, 1) := by decide +kernel
theorem d_method_3_code_27 : decode method_3_code 27 = .ok (.iload_n 1, 1) := by decide +kernel
theorem d_method_3_code_28 : decode method_3_code 28 = .ok (.iconst 2, 1) := by decide +kernel
theorem d_method_3_code_29 : decode method_3_code 29 = .ok (.isub, 1) := by decide +kernel
theorem d_method_3_code_30 : decode method_3_code 30 = .ok (.baload, 1) := by decide +kernel
theorem d_method_3_code_31 : decode method_3_code 31 = .ok (.bipush 10, 2) := by decide +kernel
theorem d_method_3_code_33 : decode method_3_code 33 = .ok (.if_icmp .ne 5, 3) := by decide +kernel
theorem d_method_3_code_36 : decode method_3_code 36 = .ok (.iconst 1, 1) := by decide +kernel
theorem d_method_3_code_37 : decode method_3_code 37 = .ok (.ireturn, 1) := by decide +kernel
theorem d_method_3_code_38 : decode method_3_code 38 = .ok (.iload_n 1, 1) := by decide +kernel
theorem d_method_3_code_39 : decode method_3_code 39 = .ok (.iconst 3, 1) := by decide +kernel
theorem d_method_3_code_40 : decode method_3_code 40 = .ok (.isub, 1) := by decide +kernel
theorem d_method_3_code_41 : decode method_3_code 41 = .ok (.iload_n 2, 1) := by decide +kernel
theorem d_method_3_code_42 : decode method_3_code 42 = .ok (.if_icmp .lt 27, 3) := by decide +kernel
theorem d_method_3_code_69 : decode method_3_code 69 = .ok (.iconst 0, 1) := by decide +kernel
theorem d_method_3_code_70 : decode method_3_code 70 = .ok (.ireturn, 1) := by decide +kernel
theorem d_method_3_code_45 : decode method_3_code 45 = .ok (.aload_n 0, 1) := by decide +kernel
theorem d_method_3_code_46 : decode method_3_code 46 = .ok (.iload_n 1, 1) := by decide +kernel
theorem d_method_3_code_47 : decode method_3_code 47 = .ok (.iconst 3, 1) := by decide +kernel
theorem d_method_3_code_48 : decode method_3_code 48 = .ok (.isub, 1) := by decide +kernel
theorem d_method_3_code_49 : decode method_3_code 49 = .ok (.baload, 1) := by decide +kernel
theorem d_method_3_code_50 : decode method_3_code 50 = .ok (.bipush 10, 2) := by decide +kernel
theorem d_method_3_code_52 : decode method_3_code 52 = .ok (.if_icmp .ne 17, 3) := by decide +kernel
theorem d_method_3_code_55 : decode method_3_code 55 = .ok (.aload_n 0, 1) := by decide +kernel
theorem d_method_3_code_56 : decode method_3_code 56 = .ok (.iload_n 1, 1) := by decide +kernel
theorem d_method_3_code_57 : decode method_3_code 57 = .ok (.iconst 2, 1) := by decide +kernel
theorem d_method_3_code_58 : decode method_3_code 58 = .ok (.isub, 1) := by decide +kernel
theorem d_method_3_code_59 : decode method_3_code 59 = .ok (.baload, 1) := by decide +kernel
theorem d_method_3_code_60 : decode method_3_code 60 = .ok (.bipush 13, 2) := by decide +kernel
theorem d_method_3_code_62 : decode method_3_code 62 = .ok (.if_icmp .ne 7, 3) := by decide +kernel
theorem d_method_3_code_65 : decode method_3_code 65 = .ok (.iconst 1, 1) := by decide +kernel
theorem d_method_3_code_66 : decode method_3_code 66 = .ok (.goto 4, 3) := by decide +kernel
theorem d_method_3_code_24 : decode method_3_code 24 = .ok (.iconst 0, 1) := by decide +kernel
theorem d_method_3_code_25 : decode method_3_code 25 = .ok (.ireturn, 1) := by decide +kernel
def Q_ends (Z : State) (a1 : Addr) (e fr to : Nat) (y : Nat → Int32) (h0 : Heap) (n0 : Nat) (v : Option Value) (h : Heap) (L : List Loc) : Prop := ((v = some (.int 1) ∧ own_E y fr to e) ∨ (v = some (.int 0) ∧ ¬ own_E y fr to e)) ∧ Fr n0 L ∧ h = h0
set_option maxRecDepth 65536 in
set_option maxHeartbeats 40000000 in
theorem rm_ends (l : Launch) (Z : State) (a0 : Array Value) (hw : ∀ d ∈ tables_1, d.before a0 Z = true) (ws : List Jvm.Cond) (a1 : Addr) (e fr to : Nat) (y : Nat → Int32) (h0 : Heap) (n0 : Nat) (Z0 : n0 ≤ h0.size) (he : 2 ≤ e) (he6 : e ≤ 6) (hf : fr ≤ 6) (ht : to ≤ 6) (A : OA Z h0 a1 .byte 6 (fun i => .int (y i))) :
    MetFree l (⟨"com/example/hansou/hansou/RequestHeadEndPinLaw", "endsAt", "([BIII)Z"⟩ : MethodName) (head1 (Jvm.Cond.code (⟨"com/example/hansou/hansou/RequestHeadEndPinLaw", "endsAt", "([BIII)Z"⟩ : MethodName) method_3_code 4 (some .boolean) :: ws) ({ frames := 0, cells := 0, slots := 0, locals := 0 } : Room)) (fun a U => a = #[(.ref a1), (.int (Int32.ofNat e)), (.int (Int32.ofNat fr)), (.int (Int32.ofNat to))] ∧ Z.Warmed39 U.vm ∧ U.heap = h0) (fun _ _ _ _ _ => True) (fun _ U o U' => ∃ v L, o = .returned v ∧ Q_ends Z a1 e fr to y h0 n0 v U'.heap L ∧ FrameEnd U o U' L ({ frames := 0, cells := 0, slots := 0, locals := 0 } : Room).cells ({ frames := 0, cells := 0, slots := 0, locals := 0 } : Room).slots) := by
  refine MetFree.of_bodySF (plainFor_of_name pn_com_example_hansou_hansou_RequestHeadEndPinLaw) hisR ?_
  intro p ee s m args below meth cc s₁ Bd hml0 hP hK
  obtain ⟨rfl, hZ, hh⟩ := hP
  have hx := Bd.exec
  have hby := Bd.bytes
  have hml : cc.maxLocals = 4 := hml0
  have hown : s.vm.findClass "com/example/hansou/hansou/RequestHeadEndPinLaw" = some m.cls := findClass_of_methodNamed Bd.named
  have hnm := (name_of_methodNamed Bd.named Bd.method).1
  have X0 : Stand p l ee ({ frames := 0, cells := 0, slots := 0, locals := 0 } : Room) s m #[(.ref a1), (.int (Int32.ofNat e)), (.int (Int32.ofNat fr)), (.int (Int32.ofNat to))] below meth cc s₁ [] 0 0 := Stand.of_body Bd
  have e0 : s₁.heap = h0 := by rw [← hh, Bd.state]; rfl
  have N0 := Fr.nil n0
  show Goes p ee below s ({ frames := 0, cells := 0, slots := 0, locals := 0 } : Room).cells ({ frames := 0, cells := 0, slots := 0, locals := 0 } : Room).slots (Q_ends Z a1 e fr to y h0 n0) (s₁.setTop (entryFrame m #[(.ref a1), (.int (Int32.ofNat e)), (.int (Int32.ofNat fr)), (.int (Int32.ofNat to))] 4))
  refine Goes.step (fun _ hr => castTop (ef_ends m a1 (Int32.ofNat e) (Int32.ofNat fr) (Int32.ofNat to)) hr) ?_
  show Goes p ee below s _ _ _ (s₁.setTop (mkF m 0 #[.val (.ref a1), .val (.int (Int32.ofNat e)), .val (.int (Int32.ofNat fr)), .val (.int (Int32.ofNat to))] []))
  refine Goes.step (fun _ hr => XS.iloadN X0.here hx rfl (hb hby d_method_3_code_0) rfl  hr) ?_
  show Goes p ee below s _ _ _ (s₁.setTop (mkF m 1 #[.val (.ref a1), .val (.int (Int32.ofNat e)), .val (.int (Int32.ofNat fr)), .val (.int (Int32.ofNat to))] [(.int (Int32.ofNat e))]))
  refine Goes.step (fun _ hr => XS.iloadN X0.here hx rfl (hb hby d_method_3_code_1) rfl  hr) ?_
  show Goes p ee below s _ _ _ (s₁.setTop (mkF m 2 #[.val (.ref a1), .val (.int (Int32.ofNat e)), .val (.int (Int32.ofNat fr)), .val (.int (Int32.ofNat to))] [(.int (Int32.ofNat to)), (.int (Int32.ofNat e))]))
  by_cases hn2_1 : to < e
  · refine Goes.step (fun _ hr => XS.icmpYes X0.here hx rfl (pc0 := 2) (pc' := 12) rfl (hb hby d_method_3_code_2) rfl (tlt ((own_ltN to e (by omega) (by omega)).mpr hn2_1)).2.2.1 (by decide) (by decide) hr) ?_
    show Goes p ee below s _ _ _ (s₁.setTop (mkF m 12 #[.val (.ref a1), .val (.int (Int32.ofNat e)), .val (.int (Int32.ofNat fr)), .val (.int (Int32.ofNat to))] []))
    refine Goes.step (fun _ hr => XS.iconst X0.here hx rfl (hb hby d_method_3_code_12) hr) ?_
    show Goes p ee below s _ _ _ (s₁.setTop (mkF m 13 #[.val (.ref a1), .val (.int (Int32.ofNat e)), .val (.int (Int32.ofNat fr)), .val (.int (Int32.ofNat to))] [(.int (0 : Int32))]))
    refine Goes.retZ X0 hx Bd.notSynchronized Bd.returns (by simp) rfl (hb hby d_method_3_code_13) (by decide) (by decide) ?_
    refine ⟨Or.inr ⟨rfl, ?_⟩, N0, e0⟩
    unfold own_E
    rintro ⟨q1, q2, q3, q4 | ⟨q4, q5, q6⟩⟩ <;> first | omega | (simp_all; done)
  · refine Goes.step (fun _ hr => XS.icmpNo X0.here hx rfl (hb hby d_method_3_code_2) rfl (flt (fun z => hn2_1 ((own_ltN to e (by omega) (by omega)).mp z))).2.2.1 hr) ?_
    show Goes p ee below s _ _ _ (s₁.setTop (mkF m 5 #[.val (.ref a1), .val (.int (Int32.ofNat e)), .val (.int (Int32.ofNat fr)), .val (.int (Int32.ofNat to))] []))
    refine Goes.step (fun _ hr => XS.iloadN X0.here hx rfl (hb hby d_method_3_code_5) rfl  hr) ?_
    show Goes p ee below s _ _ _ (s₁.setTop (mkF m 6 #[.val (.ref a1), .val (.int (Int32.ofNat e)), .val (.int (Int32.ofNat fr)), .val (.int (Int32.ofNat to))] [(.int (Int32.ofNat e))]))
    refine Goes.step (fun _ hr => XS.iloadN X0.here hx rfl (hb hby d_method_3_code_6) rfl  hr) ?_
    show Goes p ee below s _ _ _ (s₁.setTop (mkF m 7 #[.val (.ref a1), .val (.int (Int32.ofNat e)), .val (.int (Int32.ofNat fr)), .val (.int (Int32.ofNat to))] [(.int (Int32.ofNat fr)), (.int (Int32.ofNat e))]))
    refine Goes.step (fun _ hr => XS.iconst X0.here hx rfl (hb hby d_method_3_code_7) hr) ?_
    show Goes p ee below s _ _ _ (s₁.setTop (mkF m 8 #[.val (.ref a1), .val (.int (Int32.ofNat e)), .val (.int (Int32.ofNat fr)), .val (.int (Int32.ofNat to))] [(.int (2 : Int32)), (.int (Int32.ofNat fr)), (.int (Int32.ofNat e))]))
    refine Goes.step (fun _ hr => XS.iadd X0.here hx rfl (hb hby d_method_3_code_8) rfl hr) ?_
    show Goes p ee below s _ _ _ (s₁.setTop (mkF m 9 #[.val (.ref a1), .val (.int (Int32.ofNat e)), .val (.int (Int32.ofNat fr)), .val (.int (Int32.ofNat to))] [(.int ((Int32.ofNat fr) + (2 : Int32))), (.int (Int32.ofNat e))]))
    by_cases hn9_2 : e < fr + 2
    · refine Goes.step (fun _ hr => XS.icmpNo X0.here hx rfl (hb hby d_method_3_code_9) rfl (tlt ((own_addlt e fr 2 (by omega) (by omega)).mpr hn9_2)).2.1 hr) ?_
      show Goes p ee below s _ _ _ (s₁.setTop (mkF m 12 #[.val (.ref a1), .val (.int (Int32.ofNat e)), .val (.int (Int32.ofNat fr)), .val (.int (Int32.ofNat to))] []))
      refine Goes.step (fun _ hr => XS.iconst X0.here hx rfl (hb hby d_method_3_code_12) hr) ?_
      show Goes p ee below s _ _ _ (s₁.setTop (mkF m 13 #[.val (.ref a1), .val (.int (Int32.ofNat e)), .val (.int (Int32.ofNat fr)), .val (.int (Int32.ofNat to))] [(.int (0 : Int32))]))
      refine Goes.retZ X0 hx Bd.notSynchronized Bd.returns (by simp) rfl (hb hby d_method_3_code_13) (by decide) (by decide) ?_
      refine ⟨Or.inr ⟨rfl, ?_⟩, N0, e0⟩
      unfold own_E
      rintro ⟨q1, q2, q3, q4 | ⟨q4, q5, q6⟩⟩ <;> first | omega | (simp_all; done)
    · refine Goes.step (fun _ hr => XS.icmpYes X0.here hx rfl (pc0 := 9) (pc' := 14) rfl (hb hby d_method_3_code_9) rfl (flt (fun z => hn9_2 ((own_addlt e fr 2 (by omega) (by omega)).mp z))).2.1 (by decide) (by decide) hr) ?_
      show Goes p ee below s _ _ _ (s₁.setTop (mkF m 14 #[.val (.ref a1), .val (.int (Int32.ofNat e)), .val (.int (Int32.ofNat fr)), .val (.int (Int32.ofNat to))] []))
      refine Goes.step (fun _ hr => XS.aloadN X0.here hx rfl (hb hby d_method_3_code_14) rfl rfl hr) ?_
      show Goes p ee below s _ _ _ (s₁.setTop (mkF m 15 #[.val (.ref a1), .val (.int (Int32.ofNat e)), .val (.int (Int32.ofNat fr)), .val (.int (Int32.ofNat to))] [(.ref a1)]))
      refine Goes.step (fun _ hr => XS.iloadN X0.here hx rfl (hb hby d_method_3_code_15) rfl  hr) ?_
      show Goes p ee below s _ _ _ (s₁.setTop (mkF m 16 #[.val (.ref a1), .val (.int (Int32.ofNat e)), .val (.int (Int32.ofNat fr)), .val (.int (Int32.ofNat to))] [(.int (Int32.ofNat e)), (.ref a1)]))
      refine Goes.step (fun _ hr => XS.iconst X0.here hx rfl (hb hby d_method_3_code_16) hr) ?_
      show Goes p ee below s _ _ _ (s₁.setTop (mkF m 17 #[.val (.ref a1), .val (.int (Int32.ofNat e)), .val (.int (Int32.ofNat fr)), .val (.int (Int32.ofNat to))] [(.int (1 : Int32)), (.int (Int32.ofNat e)), (.ref a1)]))
      refine Goes.step (fun _ hr => XS.isub X0.here hx rfl (hb hby d_method_3_code_17) rfl hr) ?_
      show Goes p ee below s _ _ _ (s₁.setTop (mkF m 18 #[.val (.ref a1), .val (.int (Int32.ofNat e)), .val (.int (Int32.ofNat fr)), .val (.int (Int32.ofNat to))] [(.int ((Int32.ofNat e) - (1 : Int32))), (.ref a1)]))
      refine Goes.step (own_baload X0 hx hZ e0 A (j := ((Int32.ofNat e) - (1 : Int32))) (own_ixs e 1 (by omega) (by omega)).1 (k := (e - 1)) (own_ixs e 1 (by omega) (by omega)).2 (by omega) (v := (.int (y (e - 1)))) rfl (g := (mkF m 18 #[.val (.ref a1), .val (.int (Int32.ofNat e)), .val (.int (Int32.ofNat fr)), .val (.int (Int32.ofNat to))] [(.int ((Int32.ofNat e) - (1 : Int32))), (.ref a1)])) rfl rfl (hb hby d_method_3_code_18)) ?_
      show Goes p ee below s _ _ _ (s₁.setTop (mkF m 19 #[.val (.ref a1), .val (.int (Int32.ofNat e)), .val (.int (Int32.ofNat fr)), .val (.int (Int32.ofNat to))] [(.int (y (e - 1)))]))
      refine Goes.step (fun _ hr => XS.bipush X0.here hx rfl (hb hby d_method_3_code_19) hr) ?_
      show Goes p ee below s _ _ _ (s₁.setTop (mkF m 21 #[.val (.ref a1), .val (.int (Int32.ofNat e)), .val (.int (Int32.ofNat fr)), .val (.int (Int32.ofNat to))] [(.int (10 : Int32)), (.int (y (e - 1)))]))
      by_cases hc21_3 : (y (e - 1)) = (10 : Int32)
      · refine Goes.step (fun _ hr => XS.icmpYes X0.here hx rfl (pc0 := 21) (pc' := 26) rfl (hb hby d_method_3_code_21) rfl (teq hc21_3).1 (by decide) (by decide) hr) ?_
        show Goes p ee below s _ _ _ (s₁.setTop (mkF m 26 #[.val (.ref a1), .val (.int (Int32.ofNat e)), .val (.int (Int32.ofNat fr)), .val (.int (Int32.ofNat to))] []))
        refine Goes.step (fun _ hr => XS.aloadN X0.here hx rfl (hb hby d_method_3_code_26) rfl rfl hr) ?_
        show Goes p ee below s _ _ _ (s₁.setTop (mkF m 27 #[.val (.ref a1), .val (.int (Int32.ofNat e)), .val (.int (Int32.ofNat fr)), .val (.int (Int32.ofNat to))] [(.ref a1)]))
        refine Goes.step (fun _ hr => XS.iloadN X0.here hx rfl (hb hby d_method_3_code_27) rfl  hr) ?_
        show Goes p ee below s _ _ _ (s₁.setTop (mkF m 28 #[.val (.ref a1), .val (.int (Int32.ofNat e)), .val (.int (Int32.ofNat fr)), .val (.int (Int32.ofNat to))] [(.int (Int32.ofNat e)), (.ref a1)]))
        refine Goes.step (fun _ hr => XS.iconst X0.here hx rfl (hb hby d_method_3_code_28) hr) ?_
        show Goes p ee below s _ _ _ (s₁.setTop (mkF m 29 #[.val (.ref a1), .val (.int (Int32.ofNat e)), .val (.int (Int32.ofNat fr)), .val (.int (Int32.ofNat to))] [(.int (2 : Int32)), (.int (Int32.ofNat e)), (.ref a1)]))
        refine Goes.step (fun _ hr => XS.isub X0.here hx rfl (hb hby d_method_3_code_29) rfl hr) ?_
        show Goes p ee below s _ _ _ (s₁.setTop (mkF m 30 #[.val (.ref a1), .val (.int (Int32.ofNat e)), .val (.int (Int32.ofNat fr)), .val (.int (Int32.ofNat to))] [(.int ((Int32.ofNat e) - (2 : Int32))), (.ref a1)]))
        refine Goes.step (own_baload X0 hx hZ e0 A (j := ((Int32.ofNat e) - (2 : Int32))) (own_ixs e 2 (by omega) (by omega)).1 (k := (e - 2)) (own_ixs e 2 (by omega) (by omega)).2 (by omega) (v := (.int (y (e - 2)))) rfl (g := (mkF m 30 #[.val (.ref a1), .val (.int (Int32.ofNat e)), .val (.int (Int32.ofNat fr)), .val (.int (Int32.ofNat to))] [(.int ((Int32.ofNat e) - (2 : Int32))), (.ref a1)])) rfl rfl (hb hby d_method_3_code_30)) ?_
        show Goes p ee below s _ _ _ (s₁.setTop (mkF m 31 #[.val (.ref a1), .val (.int (Int32.ofNat e)), .val (.int (Int32.ofNat fr)), .val (.int (Int32.ofNat to))] [(.int (y (e - 2)))]))
        refine Goes.step (fun _ hr => XS.bipush X0.here hx rfl (hb hby d_method_3_code_31) hr) ?_
        show Goes p ee below s _ _ _ (s₁.setTop (mkF m 33 #[.val (.ref a1), .val (.int (Int32.ofNat e)), .val (.int (Int32.ofNat fr)), .val (.int (Int32.ofNat to))] [(.int (10 : Int32)), (.int (y (e - 2)))]))
        by_cases hc33_4 : (y (e - 2)) = (10 : Int32)
        · refine Goes.step (fun _ hr => XS.icmpNo X0.here hx rfl (hb hby d_method_3_code_33) rfl (teq hc33_4).2 hr) ?_
          show Goes p ee below s _ _ _ (s₁.setTop (mkF m 36 #[.val (.ref a1), .val (.int (Int32.ofNat e)), .val (.int (Int32.ofNat fr)), .val (.int (Int32.ofNat to))] []))
          refine Goes.step (fun _ hr => XS.iconst X0.here hx rfl (hb hby d_method_3_code_36) hr) ?_
          show Goes p ee below s _ _ _ (s₁.setTop (mkF m 37 #[.val (.ref a1), .val (.int (Int32.ofNat e)), .val (.int (Int32.ofNat fr)), .val (.int (Int32.ofNat to))] [(.int (1 : Int32))]))
          refine Goes.retZ X0 hx Bd.notSynchronized Bd.returns (by simp) rfl (hb hby d_method_3_code_37) (by decide) (by decide) ?_
          refine ⟨Or.inl ⟨rfl, ?_⟩, N0, e0⟩
          unfold own_E
          refine ⟨by omega, by omega, by assumption, ?_⟩
          first | (left; assumption) | (right; exact ⟨by omega, by assumption, by assumption⟩)
        · refine Goes.step (fun _ hr => XS.icmpYes X0.here hx rfl (pc0 := 33) (pc' := 38) rfl (hb hby d_method_3_code_33) rfl (feq hc33_4).2 (by decide) (by decide) hr) ?_
          show Goes p ee below s _ _ _ (s₁.setTop (mkF m 38 #[.val (.ref a1), .val (.int (Int32.ofNat e)), .val (.int (Int32.ofNat fr)), .val (.int (Int32.ofNat to))] []))
          refine Goes.step (fun _ hr => XS.iloadN X0.here hx rfl (hb hby d_method_3_code_38) rfl  hr) ?_
          show Goes p ee below s _ _ _ (s₁.setTop (mkF m 39 #[.val (.ref a1), .val (.int (Int32.ofNat e)), .val (.int (Int32.ofNat fr)), .val (.int (Int32.ofNat to))] [(.int (Int32.ofNat e))]))
          refine Goes.step (fun _ hr => XS.iconst X0.here hx rfl (hb hby d_method_3_code_39) hr) ?_
          show Goes p ee below s _ _ _ (s₁.setTop (mkF m 40 #[.val (.ref a1), .val (.int (Int32.ofNat e)), .val (.int (Int32.ofNat fr)), .val (.int (Int32.ofNat to))] [(.int (3 : Int32)), (.int (Int32.ofNat e))]))
          refine Goes.step (fun _ hr => XS.isub X0.here hx rfl (hb hby d_method_3_code_40) rfl hr) ?_
          show Goes p ee below s _ _ _ (s₁.setTop (mkF m 41 #[.val (.ref a1), .val (.int (Int32.ofNat e)), .val (.int (Int32.ofNat fr)), .val (.int (Int32.ofNat to))] [(.int ((Int32.ofNat e) - (3 : Int32)))]))
          refine Goes.step (fun _ hr => XS.iloadN X0.here hx rfl (hb hby d_method_3_code_41) rfl  hr) ?_
          show Goes p ee below s _ _ _ (s₁.setTop (mkF m 42 #[.val (.ref a1), .val (.int (Int32.ofNat e)), .val (.int (Int32.ofNat fr)), .val (.int (Int32.ofNat to))] [(.int (Int32.ofNat fr)), (.int ((Int32.ofNat e) - (3 : Int32)))]))
          by_cases hn42_5 : e < fr + 3
          · refine Goes.step (fun _ hr => XS.icmpYes X0.here hx rfl (pc0 := 42) (pc' := 69) rfl (hb hby d_method_3_code_42) rfl (tlt ((own_sublt e fr (by omega) (by omega)).mpr hn42_5)).1 (by decide) (by decide) hr) ?_
            show Goes p ee below s _ _ _ (s₁.setTop (mkF m 69 #[.val (.ref a1), .val (.int (Int32.ofNat e)), .val (.int (Int32.ofNat fr)), .val (.int (Int32.ofNat to))] []))
            refine Goes.step (fun _ hr => XS.iconst X0.here hx rfl (hb hby d_method_3_code_69) hr) ?_
            show Goes p ee below s _ _ _ (s₁.setTop (mkF m 70 #[.val (.ref a1), .val (.int (Int32.ofNat e)), .val (.int (Int32.ofNat fr)), .val (.int (Int32.ofNat to))] [(.int (0 : Int32))]))
            refine Goes.retZ X0 hx Bd.notSynchronized Bd.returns (by simp) rfl (hb hby d_method_3_code_70) (by decide) (by decide) ?_
            refine ⟨Or.inr ⟨rfl, ?_⟩, N0, e0⟩
            unfold own_E
            rintro ⟨q1, q2, q3, q4 | ⟨q4, q5, q6⟩⟩ <;> first | omega | (simp_all; done)
          · refine Goes.step (fun _ hr => XS.icmpNo X0.here hx rfl (hb hby d_method_3_code_42) rfl (flt (fun z => hn42_5 ((own_sublt e fr (by omega) (by omega)).mp z))).1 hr) ?_
            show Goes p ee below s _ _ _ (s₁.setTop (mkF m 45 #[.val (.ref a1), .val (.int (Int32.ofNat e)), .val (.int (Int32.ofNat fr)), .val (.int (Int32.ofNat to))] []))
            refine Goes.step (fun _ hr => XS.aloadN X0.here hx rfl (hb hby d_method_3_code_45) rfl rfl hr) ?_
            show Goes p ee below s _ _ _ (s₁.setTop (mkF m 46 #[.val (.ref a1), .val (.int (Int32.ofNat e)), .val (.int (Int32.ofNat fr)), .val (.int (Int32.ofNat to))] [(.ref a1)]))
            refine Goes.step (fun _ hr => XS.iloadN X0.here hx rfl (hb hby d_method_3_code_46) rfl  hr) ?_
            show Goes p ee below s _ _ _ (s₁.setTop (mkF m 47 #[.val (.ref a1), .val (.int (Int32.ofNat e)), .val (.int (Int32.ofNat fr)), .val (.int (Int32.ofNat to))] [(.int (Int32.ofNat e)), (.ref a1)]))
            refine Goes.step (fun _ hr => XS.iconst X0.here hx rfl (hb hby d_method_3_code_47) hr) ?_
            show Goes p ee below s _ _ _ (s₁.setTop (mkF m 48 #[.val (.ref a1), .val (.int (Int32.ofNat e)), .val (.int (Int32.ofNat fr)), .val (.int (Int32.ofNat to))] [(.int (3 : Int32)), (.int (Int32.ofNat e)), (.ref a1)]))
            refine Goes.step (fun _ hr => XS.isub X0.here hx rfl (hb hby d_method_3_code_48) rfl hr) ?_
            show Goes p ee below s _ _ _ (s₁.setTop (mkF m 49 #[.val (.ref a1), .val (.int (Int32.ofNat e)), .val (.int (Int32.ofNat fr)), .val (.int (Int32.ofNat to))] [(.int ((Int32.ofNat e) - (3 : Int32))), (.ref a1)]))
            refine Goes.step (own_baload X0 hx hZ e0 A (j := ((Int32.ofNat e) - (3 : Int32))) (own_ixs e 3 (by omega) (by omega)).1 (k := (e - 3)) (own_ixs e 3 (by omega) (by omega)).2 (by omega) (v := (.int (y (e - 3)))) rfl (g := (mkF m 49 #[.val (.ref a1), .val (.int (Int32.ofNat e)), .val (.int (Int32.ofNat fr)), .val (.int (Int32.ofNat to))] [(.int ((Int32.ofNat e) - (3 : Int32))), (.ref a1)])) rfl rfl (hb hby d_method_3_code_49)) ?_
            show Goes p ee below s _ _ _ (s₁.setTop (mkF m 50 #[.val (.ref a1), .val (.int (Int32.ofNat e)), .val (.int (Int32.ofNat fr)), .val (.int (Int32.ofNat to))] [(.int (y (e - 3)))]))
            refine Goes.step (fun _ hr => XS.bipush X0.here hx rfl (hb hby d_method_3_code_50) hr) ?_
            show Goes p ee below s _ _ _ (s₁.setTop (mkF m 52 #[.val (.ref a1), .val (.int (Int32.ofNat e)), .val (.int (Int32.ofNat fr)), .val (.int (Int32.ofNat to))] [(.int (10 : Int32)), (.int (y (e - 3)))]))
            by_cases hc52_6 : (y (e - 3)) = (10 : Int32)
            · refine Goes.step (fun _ hr => XS.icmpNo X0.here hx rfl (hb hby d_method_3_code_52) rfl (teq hc52_6).2 hr) ?_
              show Goes p ee below s _ _ _ (s₁.setTop (mkF m 55 #[.val (.ref a1), .val (.int (Int32.ofNat e)), .val (.int (Int32.ofNat fr)), .val (.int (Int32.ofNat to))] []))
              refine Goes.step (fun _ hr => XS.aloadN X0.here hx rfl (hb hby d_method_3_code_55) rfl rfl hr) ?_
              show Goes p ee below s _ _ _ (s₁.setTop (mkF m 56 #[.val (.ref a1), .val (.int (Int32.ofNat e)), .val (.int (Int32.ofNat fr)), .val (.int (Int32.ofNat to))] [(.ref a1)]))
              refine Goes.step (fun _ hr => XS.iloadN X0.here hx rfl (hb hby d_method_3_code_56) rfl  hr) ?_
              show Goes p ee below s _ _ _ (s₁.setTop (mkF m 57 #[.val (.ref a1), .val (.int (Int32.ofNat e)), .val (.int (Int32.ofNat fr)), .val (.int (Int32.ofNat to))] [(.int (Int32.ofNat e)), (.ref a1)]))
              refine Goes.step (fun _ hr => XS.iconst X0.here hx rfl (hb hby d_method_3_code_57) hr) ?_
              show Goes p ee below s _ _ _ (s₁.setTop (mkF m 58 #[.val (.ref a1), .val (.int (Int32.ofNat e)), .val (.int (Int32.ofNat fr)), .val (.int (Int32.ofNat to))] [(.int (2 : Int32)), (.int (Int32.ofNat e)), (.ref a1)]))
              refine Goes.step (fun _ hr => XS.isub X0.here hx rfl (hb hby d_method_3_code_58) rfl hr) ?_
              show Goes p ee below s _ _ _ (s₁.setTop (mkF m 59 #[.val (.ref a1), .val (.int (Int32.ofNat e)), .val (.int (Int32.ofNat fr)), .val (.int (Int32.ofNat to))] [(.int ((Int32.ofNat e) - (2 : Int32))), (.ref a1)]))
              refine Goes.step (own_baload X0 hx hZ e0 A (j := ((Int32.ofNat e) - (2 : Int32))) (own_ixs e 2 (by omega) (by omega)).1 (k := (e - 2)) (own_ixs e 2 (by omega) (by omega)).2 (by omega) (v := (.int (y (e - 2)))) rfl (g := (mkF m 59 #[.val (.ref a1), .val (.int (Int32.ofNat e)), .val (.int (Int32.ofNat fr)), .val (.int (Int32.ofNat to))] [(.int ((Int32.ofNat e) - (2 : Int32))), (.ref a1)])) rfl rfl (hb hby d_method_3_code_59)) ?_
              show Goes p ee below s _ _ _ (s₁.setTop (mkF m 60 #[.val (.ref a1), .val (.int (Int32.ofNat e)), .val (.int (Int32.ofNat fr)), .val (.int (Int32.ofNat to))] [(.int (y (e - 2)))]))
              refine Goes.step (fun _ hr => XS.bipush X0.here hx rfl (hb hby d_method_3_code_60) hr) ?_
              show Goes p ee below s _ _ _ (s₁.setTop (mkF m 62 #[.val (.ref a1), .val (.int (Int32.ofNat e)), .val (.int (Int32.ofNat fr)), .val (.int (Int32.ofNat to))] [(.int (13 : Int32)), (.int (y (e - 2)))]))
              by_cases hc62_7 : (y (e - 2)) = (13 : Int32)
              · refine Goes.step (fun _ hr => XS.icmpNo X0.here hx rfl (hb hby d_method_3_code_62) rfl (teq hc62_7).2 hr) ?_
                show Goes p ee below s _ _ _ (s₁.setTop (mkF m 65 #[.val (.ref a1), .val (.int (Int32.ofNat e)), .val (.int (Int32.ofNat fr)), .val (.int (Int32.ofNat to))] []))
                refine Goes.step (fun _ hr => XS.iconst X0.here hx rfl (hb hby d_method_3_code_65) hr) ?_
                show Goes p ee below s _ _ _ (s₁.setTop (mkF m 66 #[.val (.ref a1), .val (.int (Int32.ofNat e)), .val (.int (Int32.ofNat fr)), .val (.int (Int32.ofNat to))] [(.int (1 : Int32))]))
                refine Goes.step (fun _ hr => XS.goto X0.here hx rfl (pc0 := 66) (pc' := 70) rfl (hb hby d_method_3_code_66) (by decide) (by decide) hr) ?_
                show Goes p ee below s _ _ _ (s₁.setTop (mkF m 70 #[.val (.ref a1), .val (.int (Int32.ofNat e)), .val (.int (Int32.ofNat fr)), .val (.int (Int32.ofNat to))] [(.int (1 : Int32))]))
                refine Goes.retZ X0 hx Bd.notSynchronized Bd.returns (by simp) rfl (hb hby d_method_3_code_70) (by decide) (by decide) ?_
                refine ⟨Or.inl ⟨rfl, ?_⟩, N0, e0⟩
                unfold own_E
                refine ⟨by omega, by omega, by assumption, ?_⟩
                first | (left; assumption) | (right; exact ⟨by omega, by assumption, by assumption⟩)
              · refine Goes.step (fun _ hr => XS.icmpYes X0.here hx rfl (pc0 := 62) (pc' := 69) rfl (hb hby d_method_3_code_62) rfl (feq hc62_7).2 (by decide) (by decide) hr) ?_
                show Goes p ee below s _ _ _ (s₁.setTop (mkF m 69 #[.val (.ref a1), .val (.int (Int32.ofNat e)), .val (.int (Int32.ofNat fr)), .val (.int (Int32.ofNat to))] []))
                refine Goes.step (fun _ hr => XS.iconst X0.here hx rfl (hb hby d_method_3_code_69) hr) ?_
                show Goes p ee below s _ _ _ (s₁.setTop (mkF m 70 #[.val (.ref a1), .val (.int (Int32.ofNat e)), .val (.int (Int32.ofNat fr)), .val (.int (Int32.ofNat to))] [(.int (0 : Int32))]))
                refine Goes.retZ X0 hx Bd.notSynchronized Bd.returns (by simp) rfl (hb hby d_method_3_code_70) (by decide) (by decide) ?_
                refine ⟨Or.inr ⟨rfl, ?_⟩, N0, e0⟩
                unfold own_E
                rintro ⟨q1, q2, q3, q4 | ⟨q4, q5, q6⟩⟩ <;> first | omega | (simp_all; done)
            · refine Goes.step (fun _ hr => XS.icmpYes X0.here hx rfl (pc0 := 52) (pc' := 69) rfl (hb hby d_method_3_code_52) rfl (feq hc52_6).2 (by decide) (by decide) hr) ?_
              show Goes p ee below s _ _ _ (s₁.setTop (mkF m 69 #[.val (.ref a1), .val (.int (Int32.ofNat e)), .val (.int (Int32.ofNat fr)), .val (.int (Int32.ofNat to))] []))
              refine Goes.step (fun _ hr => XS.iconst X0.here hx rfl (hb hby d_method_3_code_69) hr) ?_
              show Goes p ee below s _ _ _ (s₁.setTop (mkF m 70 #[.val (.ref a1), .val (.int (Int32.ofNat e)), .val (.int (Int32.ofNat fr)), .val (.int (Int32.ofNat to))] [(.int (0 : Int32))]))
              refine Goes.retZ X0 hx Bd.notSynchronized Bd.returns (by simp) rfl (hb hby d_method_3_code_70) (by decide) (by decide) ?_
              refine ⟨Or.inr ⟨rfl, ?_⟩, N0, e0⟩
              unfold own_E
              rintro ⟨q1, q2, q3, q4 | ⟨q4, q5, q6⟩⟩ <;> first | omega | (simp_all; done)
      · refine Goes.step (fun _ hr => XS.icmpNo X0.here hx rfl (hb hby d_method_3_code_21) rfl (feq hc21_3).1 hr) ?_
        show Goes p ee below s _ _ _ (s₁.setTop (mkF m 24 #[.val (.ref a1), .val (.int (Int32.ofNat e)), .val (.int (Int32.ofNat fr)), .val (.int (Int32.ofNat to))] []))
        refine Goes.step (fun _ hr => XS.iconst X0.here hx rfl (hb hby d_method_3_code_24) hr) ?_
        show Goes p ee below s _ _ _ (s₁.setTop (mkF m 25 #[.val (.ref a1), .val (.int (Int32.ofNat e)), .val (.int (Int32.ofNat fr)), .val (.int (Int32.ofNat to))] [(.int (0 : Int32))]))
        refine Goes.retZ X0 hx Bd.notSynchronized Bd.returns (by simp) rfl (hb hby d_method_3_code_25) (by decide) (by decide) ?_
        refine ⟨Or.inr ⟨rfl, ?_⟩, N0, e0⟩
        unfold own_E
        rintro ⟨q1, q2, q3, q4 | ⟨q4, q5, q6⟩⟩ <;> first | omega | (simp_all; done)
theorem ef_end (m : MethodId) (x0 : Addr) (x1 : Int32) (x2 : Int32) : entryFrame m #[(.ref x0), (.int x1), (.int x2)] 4 = mkF m 0 #[.val (.ref x0), .val (.int x1), .val (.int x2), .unset] [] := by first | (simp [entryFrame, mkF, argsToLocals, Value.category]; done) | rfl
theorem pn_com_example_hansou_hansou_RequestHead : plainName "com/example/hansou/hansou/RequestHead" = true := by first | (simp [plainName, overriddenIn]; done) | decide +kernel
theorem own_1013 {z : Int32} (h : z = 10) (h2 : z = 13) : False := by subst h; exact absurd h2 (by decide)
theorem own_next (y : Nat → Int32) (fr to i e : Nat) (q1 : fr + 2 ≤ e) (q2 : e ≤ to) (q3 : y (e - 1) = 10) (q4 : y (e - 2) = 10 ∨ (fr + 3 ≤ e ∧ y (e - 3) = 10 ∧ y (e - 2) = 13)) (g1 : i + 2 ≤ e) (g2 : e = i + 2 → y (e - 2) = 10)
    (hno : ¬ y i = 10 ∨ ((¬ i + 1 < to ∨ ¬ y (i + 1) = 10) ∧ (¬ i + 2 < to ∨ ¬ y (i + 1) = 13 ∨ ¬ y (i + 2) = 10))) : i + 1 + 2 ≤ e ∧ (e = i + 1 + 2 → y (e - 2) = 10) := by
  by_cases e2 : e = i + 2
  · subst e2
    have g := g2 rfl
    exfalso
    rcases hno with h | ⟨h | h, -⟩
    · exact h g
    · omega
    · exact h q3
  · refine ⟨by omega, fun e3 => ?_⟩
    subst e3
    rcases q4 with q4 | ⟨q4, q5, q6⟩
    · exact q4
    · exfalso
      rcases hno with h | ⟨-, h | h | h⟩
      · exact h q5
      · omega
      · exact h q6
      · exact h q3
theorem d_prog_11_method_2_code_2 : decode prog_11_method_2_code 2 = .ok (.iload_n 3, 1) := by decide +kernel
theorem d_prog_11_method_2_code_3 : decode prog_11_method_2_code 3 = .ok (.iload_n 2, 1) := by decide +kernel
theorem d_prog_11_method_2_code_4 : decode prog_11_method_2_code 4 = .ok (.if_icmp .ge 69, 3) := by decide +kernel
theorem d_prog_11_method_2_code_7 : decode prog_11_method_2_code 7 = .ok (.aload_n 0, 1) := by decide +kernel
theorem d_prog_11_method_2_code_8 : decode prog_11_method_2_code 8 = .ok (.iload_n 3, 1) := by decide +kernel
theorem d_prog_11_method_2_code_9 : decode prog_11_method_2_code 9 = .ok (.baload, 1) := by decide +kernel
theorem d_prog_11_method_2_code_10 : decode prog_11_method_2_code 10 = .ok (.bipush 10, 2) := by decide +kernel
theorem d_prog_11_method_2_code_12 : decode prog_11_method_2_code 12 = .ok (.if_icmp .ne 55, 3) := by decide +kernel
theorem d_prog_11_method_2_code_15 : decode prog_11_method_2_code 15 = .ok (.iload_n 3, 1) := by decide +kernel
theorem d_prog_11_method_2_code_16 : decode prog_11_method_2_code 16 = .ok (.iconst 1, 1) := by decide +kernel
theorem d_prog_11_method_2_code_17 : decode prog_11_method_2_code 17 = .ok (.iadd, 1) := by decide +kernel
theorem d_prog_11_method_2_code_18 : decode prog_11_method_2_code 18 = .ok (.iload_n 2, 1) := by decide +kernel
theorem d_prog_11_method_2_code_19 : decode prog_11_method_2_code 19 = .ok (.if_icmp .ge 17, 3) := by decide +kernel
theorem d_prog_11_method_2_code_22 : decode prog_11_method_2_code 22 = .ok (.aload_n 0, 1) := by decide +kernel
theorem d_prog_11_method_2_code_23 : decode prog_11_method_2_code 23 = .ok (.iload_n 3, 1) := by decide +kernel
theorem d_prog_11_method_2_code_24 : decode prog_11_method_2_code 24 = .ok (.iconst 1, 1) := by decide +kernel
theorem d_prog_11_method_2_code_25 : decode prog_11_method_2_code 25 = .ok (.iadd, 1) := by decide +kernel
theorem d_prog_11_method_2_code_26 : decode prog_11_method_2_code 26 = .ok (.baload, 1) := by decide +kernel
theorem d_prog_11_method_2_code_27 : decode prog_11_method_2_code 27 = .ok (.bipush 10, 2) := by decide +kernel
theorem d_prog_11_method_2_code_29 : decode prog_11_method_2_code 29 = .ok (.if_icmp .ne 7, 3) := by decide +kernel
theorem d_prog_11_method_2_code_32 : decode prog_11_method_2_code 32 = .ok (.iload_n 3, 1) := by decide +kernel
theorem d_prog_11_method_2_code_33 : decode prog_11_method_2_code 33 = .ok (.iconst 2, 1) := by decide +kernel
theorem d_prog_11_method_2_code_34 : decode prog_11_method_2_code 34 = .ok (.iadd, 1) := by decide +kernel
theorem d_prog_11_method_2_code_35 : decode prog_11_method_2_code 35 = .ok (.ireturn, 1) := by decide +kernel
theorem d_prog_11_method_2_code_36 : decode prog_11_method_2_code 36 = .ok (.iload_n 3, 1) := by decide +kernel
theorem d_prog_11_method_2_code_37 : decode prog_11_method_2_code 37 = .ok (.iconst 2, 1) := by decide +kernel
theorem d_prog_11_method_2_code_38 : decode prog_11_method_2_code 38 = .ok (.iadd, 1) := by decide +kernel
theorem d_prog_11_method_2_code_39 : decode prog_11_method_2_code 39 = .ok (.iload_n 2, 1) := by decide +kernel
theorem d_prog_11_method_2_code_40 : decode prog_11_method_2_code 40 = .ok (.if_icmp .ge 27, 3) := by decide +kernel
theorem d_prog_11_method_2_code_43 : decode prog_11_method_2_code 43 = .ok (.aload_n 0, 1) := by decide +kernel
theorem d_prog_11_method_2_code_44 : decode prog_11_method_2_code 44 = .ok (.iload_n 3, 1) := by decide +kernel
theorem d_prog_11_method_2_code_45 : decode prog_11_method_2_code 45 = .ok (.iconst 1, 1) := by decide +kernel
theorem d_prog_11_method_2_code_46 : decode prog_11_method_2_code 46 = .ok (.iadd, 1) := by decide +kernel
theorem d_prog_11_method_2_code_47 : decode prog_11_method_2_code 47 = .ok (.baload, 1) := by decide +kernel
theorem d_prog_11_method_2_code_48 : decode prog_11_method_2_code 48 = .ok (.bipush 13, 2) := by decide +kernel
theorem d_prog_11_method_2_code_50 : decode prog_11_method_2_code 50 = .ok (.if_icmp .ne 17, 3) := by decide +kernel
theorem d_prog_11_method_2_code_53 : decode prog_11_method_2_code 53 = .ok (.aload_n 0, 1) := by decide +kernel
theorem d_prog_11_method_2_code_54 : decode prog_11_method_2_code 54 = .ok (.iload_n 3, 1) := by decide +kernel
theorem d_prog_11_method_2_code_55 : decode prog_11_method_2_code 55 = .ok (.iconst 2, 1) := by decide +kernel
theorem d_prog_11_method_2_code_56 : decode prog_11_method_2_code 56 = .ok (.iadd, 1) := by decide +kernel
theorem d_prog_11_method_2_code_57 : decode prog_11_method_2_code 57 = .ok (.baload, 1) := by decide +kernel
theorem d_prog_11_method_2_code_58 : decode prog_11_method_2_code 58 = .ok (.bipush 10, 2) := by decide +kernel
theorem d_prog_11_method_2_code_60 : decode prog_11_method_2_code 60 = .ok (.if_icmp .ne 7, 3) := by decide +kernel
theorem d_prog_11_method_2_code_63 : decode prog_11_method_2_code 63 = .ok (.iload_n 3, 1) := by decide +kernel
theorem d_prog_11_method_2_code_64 : decode prog_11_method_2_code 64 = .ok (.iconst 3, 1) := by decide +kernel
theorem d_prog_11_method_2_code_65 : decode prog_11_method_2_code 65 = .ok (.iadd, 1) := by decide +kernel
theorem d_prog_11_method_2_code_66 : decode prog_11_method_2_code 66 = .ok (.ireturn, 1) := by decide +kernel
theorem d_prog_11_method_2_code_67 : decode prog_11_method_2_code 67 = .ok (.iinc 3 1, 3) := by decide +kernel
theorem d_prog_11_method_2_code_70 : decode prog_11_method_2_code 70 = .ok (.goto (-68), 3) := by decide +kernel
theorem d_prog_11_method_2_code_73 : decode prog_11_method_2_code 73 = .ok (.iconst (-1), 1) := by decide +kernel
theorem d_prog_11_method_2_code_74 : decode prog_11_method_2_code 74 = .ok (.ireturn, 1) := by decide +kernel
theorem d_prog_11_method_2_code_0 : decode prog_11_method_2_code 0 = .ok (.iload_n 1, 1) := by decide +kernel
theorem d_prog_11_method_2_code_1 : decode prog_11_method_2_code 1 = .ok (.istore_n 3, 1) := by decide +kernel
def Q_end (Z : State) (a1 : Addr) (fr to : Nat) (y : Nat → Int32) (h0 : Heap) (n0 : Nat) (v : Option Value) (h : Heap) (L : List Loc) : Prop := ((v = some (.int (-1)) ∧ ∀ e, ¬ own_E y fr to e) ∨ ∃ k, v = some (.int (Int32.ofNat k)) ∧ own_E y fr to k ∧ ∀ e, e < k → ¬ own_E y fr to e) ∧ Fr n0 L ∧ h = h0
set_option maxRecDepth 65536 in
set_option maxHeartbeats 40000000 in
theorem rm_end (l : Launch) (Z : State) (a0 : Array Value) (hw : ∀ d ∈ tables_1, d.before a0 Z = true) (ws : List Jvm.Cond) (a1 : Addr) (fr to : Nat) (y : Nat → Int32) (h0 : Heap) (n0 : Nat) (Z0 : n0 ≤ h0.size) (hf : fr ≤ 6) (ht : to ≤ 6) (A : OA Z h0 a1 .byte 6 (fun i => .int (y i))) :
    MetFree l (⟨"com/example/hansou/hansou/RequestHead", "end", "([BII)I"⟩ : MethodName) (head1 (Jvm.Cond.code (⟨"com/example/hansou/hansou/RequestHead", "end", "([BII)I"⟩ : MethodName) prog_11_method_2_code 4 (some .int) :: ws) ({ frames := 0, cells := 0, slots := 0, locals := 0 } : Room)) (fun a U => a = #[(.ref a1), (.int (Int32.ofNat fr)), (.int (Int32.ofNat to))] ∧ Z.Warmed39 U.vm ∧ U.heap = h0) (fun _ _ _ _ _ => True) (fun _ U o U' => ∃ v L, o = .returned v ∧ Q_end Z a1 fr to y h0 n0 v U'.heap L ∧ FrameEnd U o U' L ({ frames := 0, cells := 0, slots := 0, locals := 0 } : Room).cells ({ frames := 0, cells := 0, slots := 0, locals := 0 } : Room).slots) := by
  refine MetFree.of_bodySF (plainFor_of_name pn_com_example_hansou_hansou_RequestHead) hisR ?_
  intro p ee s m args below meth cc s₁ Bd hml0 hP hK
  obtain ⟨rfl, hZ, hh⟩ := hP
  have hx := Bd.exec
  have hby := Bd.bytes
  have hml : cc.maxLocals = 4 := hml0
  have hown : s.vm.findClass "com/example/hansou/hansou/RequestHead" = some m.cls := findClass_of_methodNamed Bd.named
  have hnm := (name_of_methodNamed Bd.named Bd.method).1
  have X0 : Stand p l ee ({ frames := 0, cells := 0, slots := 0, locals := 0 } : Room) s m #[(.ref a1), (.int (Int32.ofNat fr)), (.int (Int32.ofNat to))] below meth cc s₁ [] 0 0 := Stand.of_body Bd
  have e0 : s₁.heap = h0 := by rw [← hh, Bd.state]; rfl
  have N0 := Fr.nil n0
  show Goes p ee below s ({ frames := 0, cells := 0, slots := 0, locals := 0 } : Room).cells ({ frames := 0, cells := 0, slots := 0, locals := 0 } : Room).slots (Q_end Z a1 fr to y h0 n0) (s₁.setTop (entryFrame m #[(.ref a1), (.int (Int32.ofNat fr)), (.int (Int32.ofNat to))] 4))
  refine Goes.step (fun _ hr => castTop (ef_end m a1 (Int32.ofNat fr) (Int32.ofNat to)) hr) ?_
  show Goes p ee below s _ _ _ (s₁.setTop (mkF m 0 #[.val (.ref a1), .val (.int (Int32.ofNat fr)), .val (.int (Int32.ofNat to)), .unset] []))
  have loop : ∀ (d i : Nat), 0 < d → to < i + d → fr ≤ i → i ≤ 7 → (∀ e, own_E y fr to e → i + 2 ≤ e ∧ (e = i + 2 → y (e - 2) = 10)) → Goes p ee below s ({ frames := 0, cells := 0, slots := 0, locals := 0 } : Room).cells ({ frames := 0, cells := 0, slots := 0, locals := 0 } : Room).slots (Q_end Z a1 fr to y h0 n0) (s₁.setTop (mkF m 2 #[.val (.ref a1), .val (.int (Int32.ofNat fr)), .val (.int (Int32.ofNat to)), .val (.int (Int32.ofNat i))] [])) := by
    intro d
    induction d with
    | zero => intro i h1; omega
    | succ d ih =>
      intro i h1 h2 h3 h4 inv
      show Goes p ee below s _ _ _ (s₁.setTop (mkF m 2 #[.val (.ref a1), .val (.int (Int32.ofNat fr)), .val (.int (Int32.ofNat to)), .val (.int (Int32.ofNat i))] []))
      refine Goes.step (fun _ hr => XS.iloadN X0.here hx rfl (hb hby d_prog_11_method_2_code_2) rfl  hr) ?_
      show Goes p ee below s _ _ _ (s₁.setTop (mkF m 3 #[.val (.ref a1), .val (.int (Int32.ofNat fr)), .val (.int (Int32.ofNat to)), .val (.int (Int32.ofNat i))] [(.int (Int32.ofNat i))]))
      refine Goes.step (fun _ hr => XS.iloadN X0.here hx rfl (hb hby d_prog_11_method_2_code_3) rfl  hr) ?_
      show Goes p ee below s _ _ _ (s₁.setTop (mkF m 4 #[.val (.ref a1), .val (.int (Int32.ofNat fr)), .val (.int (Int32.ofNat to)), .val (.int (Int32.ofNat i))] [(.int (Int32.ofNat to)), (.int (Int32.ofNat i))]))
      by_cases hn4_1 : i < to
      · refine Goes.step (fun _ hr => XS.icmpNo X0.here hx rfl (hb hby d_prog_11_method_2_code_4) rfl (tlt ((own_ltN i to (by omega) (by omega)).mpr hn4_1)).2.1 hr) ?_
        show Goes p ee below s _ _ _ (s₁.setTop (mkF m 7 #[.val (.ref a1), .val (.int (Int32.ofNat fr)), .val (.int (Int32.ofNat to)), .val (.int (Int32.ofNat i))] []))
        refine Goes.step (fun _ hr => XS.aloadN X0.here hx rfl (hb hby d_prog_11_method_2_code_7) rfl rfl hr) ?_
        show Goes p ee below s _ _ _ (s₁.setTop (mkF m 8 #[.val (.ref a1), .val (.int (Int32.ofNat fr)), .val (.int (Int32.ofNat to)), .val (.int (Int32.ofNat i))] [(.ref a1)]))
        refine Goes.step (fun _ hr => XS.iloadN X0.here hx rfl (hb hby d_prog_11_method_2_code_8) rfl  hr) ?_
        show Goes p ee below s _ _ _ (s₁.setTop (mkF m 9 #[.val (.ref a1), .val (.int (Int32.ofNat fr)), .val (.int (Int32.ofNat to)), .val (.int (Int32.ofNat i))] [(.int (Int32.ofNat i)), (.ref a1)]))
        refine Goes.step (own_baload X0 hx hZ e0 A (j := (Int32.ofNat i)) (own_nneg i (by omega)) (k := i) (own_clamp i (by omega)) (by omega) (v := (.int (y i))) rfl (g := (mkF m 9 #[.val (.ref a1), .val (.int (Int32.ofNat fr)), .val (.int (Int32.ofNat to)), .val (.int (Int32.ofNat i))] [(.int (Int32.ofNat i)), (.ref a1)])) rfl rfl (hb hby d_prog_11_method_2_code_9)) ?_
        show Goes p ee below s _ _ _ (s₁.setTop (mkF m 10 #[.val (.ref a1), .val (.int (Int32.ofNat fr)), .val (.int (Int32.ofNat to)), .val (.int (Int32.ofNat i))] [(.int (y i))]))
        refine Goes.step (fun _ hr => XS.bipush X0.here hx rfl (hb hby d_prog_11_method_2_code_10) hr) ?_
        show Goes p ee below s _ _ _ (s₁.setTop (mkF m 12 #[.val (.ref a1), .val (.int (Int32.ofNat fr)), .val (.int (Int32.ofNat to)), .val (.int (Int32.ofNat i))] [(.int (10 : Int32)), (.int (y i))]))
        by_cases hc12_2 : (y i) = (10 : Int32)
        · refine Goes.step (fun _ hr => XS.icmpNo X0.here hx rfl (hb hby d_prog_11_method_2_code_12) rfl (teq hc12_2).2 hr) ?_
          show Goes p ee below s _ _ _ (s₁.setTop (mkF m 15 #[.val (.ref a1), .val (.int (Int32.ofNat fr)), .val (.int (Int32.ofNat to)), .val (.int (Int32.ofNat i))] []))
          refine Goes.step (fun _ hr => XS.iloadN X0.here hx rfl (hb hby d_prog_11_method_2_code_15) rfl  hr) ?_
          show Goes p ee below s _ _ _ (s₁.setTop (mkF m 16 #[.val (.ref a1), .val (.int (Int32.ofNat fr)), .val (.int (Int32.ofNat to)), .val (.int (Int32.ofNat i))] [(.int (Int32.ofNat i))]))
          refine Goes.step (fun _ hr => XS.iconst X0.here hx rfl (hb hby d_prog_11_method_2_code_16) hr) ?_
          show Goes p ee below s _ _ _ (s₁.setTop (mkF m 17 #[.val (.ref a1), .val (.int (Int32.ofNat fr)), .val (.int (Int32.ofNat to)), .val (.int (Int32.ofNat i))] [(.int (1 : Int32)), (.int (Int32.ofNat i))]))
          refine Goes.step (fun _ hr => XS.iadd X0.here hx rfl (hb hby d_prog_11_method_2_code_17) rfl hr) ?_
          show Goes p ee below s _ _ _ (s₁.setTop (mkF m 18 #[.val (.ref a1), .val (.int (Int32.ofNat fr)), .val (.int (Int32.ofNat to)), .val (.int (Int32.ofNat i))] [(.int ((Int32.ofNat i) + (1 : Int32)))]))
          refine Goes.step (fun _ hr => XS.iloadN X0.here hx rfl (hb hby d_prog_11_method_2_code_18) rfl  hr) ?_
          show Goes p ee below s _ _ _ (s₁.setTop (mkF m 19 #[.val (.ref a1), .val (.int (Int32.ofNat fr)), .val (.int (Int32.ofNat to)), .val (.int (Int32.ofNat i))] [(.int (Int32.ofNat to)), (.int ((Int32.ofNat i) + (1 : Int32)))]))
          by_cases hn19_3 : i + 1 < to
          · refine Goes.step (fun _ hr => XS.icmpNo X0.here hx rfl (hb hby d_prog_11_method_2_code_19) rfl (tlt ((own_addlt2 to i 1 (by omega) (by omega)).mpr hn19_3)).2.1 hr) ?_
            show Goes p ee below s _ _ _ (s₁.setTop (mkF m 22 #[.val (.ref a1), .val (.int (Int32.ofNat fr)), .val (.int (Int32.ofNat to)), .val (.int (Int32.ofNat i))] []))
            refine Goes.step (fun _ hr => XS.aloadN X0.here hx rfl (hb hby d_prog_11_method_2_code_22) rfl rfl hr) ?_
            show Goes p ee below s _ _ _ (s₁.setTop (mkF m 23 #[.val (.ref a1), .val (.int (Int32.ofNat fr)), .val (.int (Int32.ofNat to)), .val (.int (Int32.ofNat i))] [(.ref a1)]))
            refine Goes.step (fun _ hr => XS.iloadN X0.here hx rfl (hb hby d_prog_11_method_2_code_23) rfl  hr) ?_
            show Goes p ee below s _ _ _ (s₁.setTop (mkF m 24 #[.val (.ref a1), .val (.int (Int32.ofNat fr)), .val (.int (Int32.ofNat to)), .val (.int (Int32.ofNat i))] [(.int (Int32.ofNat i)), (.ref a1)]))
            refine Goes.step (fun _ hr => XS.iconst X0.here hx rfl (hb hby d_prog_11_method_2_code_24) hr) ?_
            show Goes p ee below s _ _ _ (s₁.setTop (mkF m 25 #[.val (.ref a1), .val (.int (Int32.ofNat fr)), .val (.int (Int32.ofNat to)), .val (.int (Int32.ofNat i))] [(.int (1 : Int32)), (.int (Int32.ofNat i)), (.ref a1)]))
            refine Goes.step (fun _ hr => XS.iadd X0.here hx rfl (hb hby d_prog_11_method_2_code_25) rfl hr) ?_
            show Goes p ee below s _ _ _ (s₁.setTop (mkF m 26 #[.val (.ref a1), .val (.int (Int32.ofNat fr)), .val (.int (Int32.ofNat to)), .val (.int (Int32.ofNat i))] [(.int ((Int32.ofNat i) + (1 : Int32))), (.ref a1)]))
            refine Goes.step (own_baload X0 hx hZ e0 A (j := ((Int32.ofNat i) + (1 : Int32))) (own_ixa i 1 (by omega)).1 (k := (i + 1)) (own_ixa i 1 (by omega)).2 (by omega) (v := (.int (y (i + 1)))) rfl (g := (mkF m 26 #[.val (.ref a1), .val (.int (Int32.ofNat fr)), .val (.int (Int32.ofNat to)), .val (.int (Int32.ofNat i))] [(.int ((Int32.ofNat i) + (1 : Int32))), (.ref a1)])) rfl rfl (hb hby d_prog_11_method_2_code_26)) ?_
            show Goes p ee below s _ _ _ (s₁.setTop (mkF m 27 #[.val (.ref a1), .val (.int (Int32.ofNat fr)), .val (.int (Int32.ofNat to)), .val (.int (Int32.ofNat i))] [(.int (y (i + 1)))]))
            refine Goes.step (fun _ hr => XS.bipush X0.here hx rfl (hb hby d_prog_11_method_2_code_27) hr) ?_
            show Goes p ee below s _ _ _ (s₁.setTop (mkF m 29 #[.val (.ref a1), .val (.int (Int32.ofNat fr)), .val (.int (Int32.ofNat to)), .val (.int (Int32.ofNat i))] [(.int (10 : Int32)), (.int (y (i + 1)))]))
            by_cases hc29_4 : (y (i + 1)) = (10 : Int32)
            · refine Goes.step (fun _ hr => XS.icmpNo X0.here hx rfl (hb hby d_prog_11_method_2_code_29) rfl (teq hc29_4).2 hr) ?_
              show Goes p ee below s _ _ _ (s₁.setTop (mkF m 32 #[.val (.ref a1), .val (.int (Int32.ofNat fr)), .val (.int (Int32.ofNat to)), .val (.int (Int32.ofNat i))] []))
              refine Goes.step (fun _ hr => XS.iloadN X0.here hx rfl (hb hby d_prog_11_method_2_code_32) rfl  hr) ?_
              show Goes p ee below s _ _ _ (s₁.setTop (mkF m 33 #[.val (.ref a1), .val (.int (Int32.ofNat fr)), .val (.int (Int32.ofNat to)), .val (.int (Int32.ofNat i))] [(.int (Int32.ofNat i))]))
              refine Goes.step (fun _ hr => XS.iconst X0.here hx rfl (hb hby d_prog_11_method_2_code_33) hr) ?_
              show Goes p ee below s _ _ _ (s₁.setTop (mkF m 34 #[.val (.ref a1), .val (.int (Int32.ofNat fr)), .val (.int (Int32.ofNat to)), .val (.int (Int32.ofNat i))] [(.int (2 : Int32)), (.int (Int32.ofNat i))]))
              refine Goes.step (fun _ hr => XS.iadd X0.here hx rfl (hb hby d_prog_11_method_2_code_34) rfl hr) ?_
              show Goes p ee below s _ _ _ (s₁.setTop (mkF m 35 #[.val (.ref a1), .val (.int (Int32.ofNat fr)), .val (.int (Int32.ofNat to)), .val (.int (Int32.ofNat i))] [(.int ((Int32.ofNat i) + (2 : Int32)))]))
              refine Goes.retI X0 hx Bd.notSynchronized Bd.returns (hb hby d_prog_11_method_2_code_35) (by decide) (by decide) ?_
              rw [show Int32.ofNat i + (2 : Int32) = Int32.ofNat (i + 2) from own_addN i 2]
              refine ⟨Or.inr ⟨i + 2, rfl, ⟨by omega, by omega, by assumption, Or.inl (by assumption)⟩, fun e h he => ?_⟩, N0, e0⟩
              have := (inv e he).1
              omega
            · refine Goes.step (fun _ hr => XS.icmpYes X0.here hx rfl (pc0 := 29) (pc' := 36) rfl (hb hby d_prog_11_method_2_code_29) rfl (feq hc29_4).2 (by decide) (by decide) hr) ?_
              show Goes p ee below s _ _ _ (s₁.setTop (mkF m 36 #[.val (.ref a1), .val (.int (Int32.ofNat fr)), .val (.int (Int32.ofNat to)), .val (.int (Int32.ofNat i))] []))
              refine Goes.step (fun _ hr => XS.iloadN X0.here hx rfl (hb hby d_prog_11_method_2_code_36) rfl  hr) ?_
              show Goes p ee below s _ _ _ (s₁.setTop (mkF m 37 #[.val (.ref a1), .val (.int (Int32.ofNat fr)), .val (.int (Int32.ofNat to)), .val (.int (Int32.ofNat i))] [(.int (Int32.ofNat i))]))
              refine Goes.step (fun _ hr => XS.iconst X0.here hx rfl (hb hby d_prog_11_method_2_code_37) hr) ?_
              show Goes p ee below s _ _ _ (s₁.setTop (mkF m 38 #[.val (.ref a1), .val (.int (Int32.ofNat fr)), .val (.int (Int32.ofNat to)), .val (.int (Int32.ofNat i))] [(.int (2 : Int32)), (.int (Int32.ofNat i))]))
              refine Goes.step (fun _ hr => XS.iadd X0.here hx rfl (hb hby d_prog_11_method_2_code_38) rfl hr) ?_
              show Goes p ee below s _ _ _ (s₁.setTop (mkF m 39 #[.val (.ref a1), .val (.int (Int32.ofNat fr)), .val (.int (Int32.ofNat to)), .val (.int (Int32.ofNat i))] [(.int ((Int32.ofNat i) + (2 : Int32)))]))
              refine Goes.step (fun _ hr => XS.iloadN X0.here hx rfl (hb hby d_prog_11_method_2_code_39) rfl  hr) ?_
              show Goes p ee below s _ _ _ (s₁.setTop (mkF m 40 #[.val (.ref a1), .val (.int (Int32.ofNat fr)), .val (.int (Int32.ofNat to)), .val (.int (Int32.ofNat i))] [(.int (Int32.ofNat to)), (.int ((Int32.ofNat i) + (2 : Int32)))]))
              by_cases hn40_5 : i + 2 < to
              · refine Goes.step (fun _ hr => XS.icmpNo X0.here hx rfl (hb hby d_prog_11_method_2_code_40) rfl (tlt ((own_addlt2 to i 2 (by omega) (by omega)).mpr hn40_5)).2.1 hr) ?_
                show Goes p ee below s _ _ _ (s₁.setTop (mkF m 43 #[.val (.ref a1), .val (.int (Int32.ofNat fr)), .val (.int (Int32.ofNat to)), .val (.int (Int32.ofNat i))] []))
                refine Goes.step (fun _ hr => XS.aloadN X0.here hx rfl (hb hby d_prog_11_method_2_code_43) rfl rfl hr) ?_
                show Goes p ee below s _ _ _ (s₁.setTop (mkF m 44 #[.val (.ref a1), .val (.int (Int32.ofNat fr)), .val (.int (Int32.ofNat to)), .val (.int (Int32.ofNat i))] [(.ref a1)]))
                refine Goes.step (fun _ hr => XS.iloadN X0.here hx rfl (hb hby d_prog_11_method_2_code_44) rfl  hr) ?_
                show Goes p ee below s _ _ _ (s₁.setTop (mkF m 45 #[.val (.ref a1), .val (.int (Int32.ofNat fr)), .val (.int (Int32.ofNat to)), .val (.int (Int32.ofNat i))] [(.int (Int32.ofNat i)), (.ref a1)]))
                refine Goes.step (fun _ hr => XS.iconst X0.here hx rfl (hb hby d_prog_11_method_2_code_45) hr) ?_
                show Goes p ee below s _ _ _ (s₁.setTop (mkF m 46 #[.val (.ref a1), .val (.int (Int32.ofNat fr)), .val (.int (Int32.ofNat to)), .val (.int (Int32.ofNat i))] [(.int (1 : Int32)), (.int (Int32.ofNat i)), (.ref a1)]))
                refine Goes.step (fun _ hr => XS.iadd X0.here hx rfl (hb hby d_prog_11_method_2_code_46) rfl hr) ?_
                show Goes p ee below s _ _ _ (s₁.setTop (mkF m 47 #[.val (.ref a1), .val (.int (Int32.ofNat fr)), .val (.int (Int32.ofNat to)), .val (.int (Int32.ofNat i))] [(.int ((Int32.ofNat i) + (1 : Int32))), (.ref a1)]))
                refine Goes.step (own_baload X0 hx hZ e0 A (j := ((Int32.ofNat i) + (1 : Int32))) (own_ixa i 1 (by omega)).1 (k := (i + 1)) (own_ixa i 1 (by omega)).2 (by omega) (v := (.int (y (i + 1)))) rfl (g := (mkF m 47 #[.val (.ref a1), .val (.int (Int32.ofNat fr)), .val (.int (Int32.ofNat to)), .val (.int (Int32.ofNat i))] [(.int ((Int32.ofNat i) + (1 : Int32))), (.ref a1)])) rfl rfl (hb hby d_prog_11_method_2_code_47)) ?_
                show Goes p ee below s _ _ _ (s₁.setTop (mkF m 48 #[.val (.ref a1), .val (.int (Int32.ofNat fr)), .val (.int (Int32.ofNat to)), .val (.int (Int32.ofNat i))] [(.int (y (i + 1)))]))
                refine Goes.step (fun _ hr => XS.bipush X0.here hx rfl (hb hby d_prog_11_method_2_code_48) hr) ?_
                show Goes p ee below s _ _ _ (s₁.setTop (mkF m 50 #[.val (.ref a1), .val (.int (Int32.ofNat fr)), .val (.int (Int32.ofNat to)), .val (.int (Int32.ofNat i))] [(.int (13 : Int32)), (.int (y (i + 1)))]))
                by_cases hc50_6 : (y (i + 1)) = (13 : Int32)
                · refine Goes.step (fun _ hr => XS.icmpNo X0.here hx rfl (hb hby d_prog_11_method_2_code_50) rfl (teq hc50_6).2 hr) ?_
                  show Goes p ee below s _ _ _ (s₁.setTop (mkF m 53 #[.val (.ref a1), .val (.int (Int32.ofNat fr)), .val (.int (Int32.ofNat to)), .val (.int (Int32.ofNat i))] []))
                  refine Goes.step (fun _ hr => XS.aloadN X0.here hx rfl (hb hby d_prog_11_method_2_code_53) rfl rfl hr) ?_
                  show Goes p ee below s _ _ _ (s₁.setTop (mkF m 54 #[.val (.ref a1), .val (.int (Int32.ofNat fr)), .val (.int (Int32.ofNat to)), .val (.int (Int32.ofNat i))] [(.ref a1)]))
                  refine Goes.step (fun _ hr => XS.iloadN X0.here hx rfl (hb hby d_prog_11_method_2_code_54) rfl  hr) ?_
                  show Goes p ee below s _ _ _ (s₁.setTop (mkF m 55 #[.val (.ref a1), .val (.int (Int32.ofNat fr)), .val (.int (Int32.ofNat to)), .val (.int (Int32.ofNat i))] [(.int (Int32.ofNat i)), (.ref a1)]))
                  refine Goes.step (fun _ hr => XS.iconst X0.here hx rfl (hb hby d_prog_11_method_2_code_55) hr) ?_
                  show Goes p ee below s _ _ _ (s₁.setTop (mkF m 56 #[.val (.ref a1), .val (.int (Int32.ofNat fr)), .val (.int (Int32.ofNat to)), .val (.int (Int32.ofNat i))] [(.int (2 : Int32)), (.int (Int32.ofNat i)), (.ref a1)]))
                  refine Goes.step (fun _ hr => XS.iadd X0.here hx rfl (hb hby d_prog_11_method_2_code_56) rfl hr) ?_
                  show Goes p ee below s _ _ _ (s₁.setTop (mkF m 57 #[.val (.ref a1), .val (.int (Int32.ofNat fr)), .val (.int (Int32.ofNat to)), .val (.int (Int32.ofNat i))] [(.int ((Int32.ofNat i) + (2 : Int32))), (.ref a1)]))
                  refine Goes.step (own_baload X0 hx hZ e0 A (j := ((Int32.ofNat i) + (2 : Int32))) (own_ixa i 2 (by omega)).1 (k := (i + 2)) (own_ixa i 2 (by omega)).2 (by omega) (v := (.int (y (i + 2)))) rfl (g := (mkF m 57 #[.val (.ref a1), .val (.int (Int32.ofNat fr)), .val (.int (Int32.ofNat to)), .val (.int (Int32.ofNat i))] [(.int ((Int32.ofNat i) + (2 : Int32))), (.ref a1)])) rfl rfl (hb hby d_prog_11_method_2_code_57)) ?_
                  show Goes p ee below s _ _ _ (s₁.setTop (mkF m 58 #[.val (.ref a1), .val (.int (Int32.ofNat fr)), .val (.int (Int32.ofNat to)), .val (.int (Int32.ofNat i))] [(.int (y (i + 2)))]))
                  refine Goes.step (fun _ hr => XS.bipush X0.here hx rfl (hb hby d_prog_11_method_2_code_58) hr) ?_
                  show Goes p ee below s _ _ _ (s₁.setTop (mkF m 60 #[.val (.ref a1), .val (.int (Int32.ofNat fr)), .val (.int (Int32.ofNat to)), .val (.int (Int32.ofNat i))] [(.int (10 : Int32)), (.int (y (i + 2)))]))
                  by_cases hc60_7 : (y (i + 2)) = (10 : Int32)
                  · refine Goes.step (fun _ hr => XS.icmpNo X0.here hx rfl (hb hby d_prog_11_method_2_code_60) rfl (teq hc60_7).2 hr) ?_
                    show Goes p ee below s _ _ _ (s₁.setTop (mkF m 63 #[.val (.ref a1), .val (.int (Int32.ofNat fr)), .val (.int (Int32.ofNat to)), .val (.int (Int32.ofNat i))] []))
                    refine Goes.step (fun _ hr => XS.iloadN X0.here hx rfl (hb hby d_prog_11_method_2_code_63) rfl  hr) ?_
                    show Goes p ee below s _ _ _ (s₁.setTop (mkF m 64 #[.val (.ref a1), .val (.int (Int32.ofNat fr)), .val (.int (Int32.ofNat to)), .val (.int (Int32.ofNat i))] [(.int (Int32.ofNat i))]))
                    refine Goes.step (fun _ hr => XS.iconst X0.here hx rfl (hb hby d_prog_11_method_2_code_64) hr) ?_
                    show Goes p ee below s _ _ _ (s₁.setTop (mkF m 65 #[.val (.ref a1), .val (.int (Int32.ofNat fr)), .val (.int (Int32.ofNat to)), .val (.int (Int32.ofNat i))] [(.int (3 : Int32)), (.int (Int32.ofNat i))]))
                    refine Goes.step (fun _ hr => XS.iadd X0.here hx rfl (hb hby d_prog_11_method_2_code_65) rfl hr) ?_
                    show Goes p ee below s _ _ _ (s₁.setTop (mkF m 66 #[.val (.ref a1), .val (.int (Int32.ofNat fr)), .val (.int (Int32.ofNat to)), .val (.int (Int32.ofNat i))] [(.int ((Int32.ofNat i) + (3 : Int32)))]))
                    refine Goes.retI X0 hx Bd.notSynchronized Bd.returns (hb hby d_prog_11_method_2_code_66) (by decide) (by decide) ?_
                    rw [show Int32.ofNat i + (3 : Int32) = Int32.ofNat (i + 3) from own_addN i 3]
                    refine ⟨Or.inr ⟨i + 3, rfl, ⟨by omega, by omega, by assumption, Or.inr ⟨by omega, by assumption, by assumption⟩⟩, fun e h he => ?_⟩, N0, e0⟩
                    obtain ⟨g1, g2⟩ := inv e he
                    obtain ⟨q1, q2, q3, q4⟩ := he
                    have e2 : e = i + 2 := by omega
                    subst e2
                    exact own_1013 q3 (by assumption)
                  · refine Goes.step (fun _ hr => XS.icmpYes X0.here hx rfl (pc0 := 60) (pc' := 67) rfl (hb hby d_prog_11_method_2_code_60) rfl (feq hc60_7).2 (by decide) (by decide) hr) ?_
                    show Goes p ee below s _ _ _ (s₁.setTop (mkF m 67 #[.val (.ref a1), .val (.int (Int32.ofNat fr)), .val (.int (Int32.ofNat to)), .val (.int (Int32.ofNat i))] []))
                    have inv2 : ∀ e, own_E y fr to e → i + 1 + 2 ≤ e ∧ (e = i + 1 + 2 → y (e - 2) = 10) := by
                      intro e he
                      obtain ⟨g1, g2⟩ := inv e he
                      obtain ⟨q1, q2, q3, q4⟩ := he
                      exact own_next y fr to i e q1 q2 q3 q4 g1 g2 (by
                        first | (left; assumption) | (right; exact ⟨by first | (left; omega) | (right; assumption), by first | (left; omega) | (right; left; assumption) | (right; right; assumption)⟩))
                    refine Goes.step (fun _ hr => XS.iinc X0.here hx rfl (hb hby d_prog_11_method_2_code_67) rfl (l' := #[.val (.ref a1), .val (.int (Int32.ofNat fr)), .val (.int (Int32.ofNat to)), .val (.int ((Int32.ofNat i) + (1 : Int32)))]) rfl hr) ?_
                    show Goes p ee below s _ _ _ (s₁.setTop (mkF m 70 #[.val (.ref a1), .val (.int (Int32.ofNat fr)), .val (.int (Int32.ofNat to)), .val (.int ((Int32.ofNat i) + (1 : Int32)))] []))
                    refine Goes.step (fun _ hr => XS.goto X0.here hx rfl (pc0 := 70) (pc' := 2) rfl (hb hby d_prog_11_method_2_code_70) (by decide) (by decide) hr) ?_
                    show Goes p ee below s _ _ _ (s₁.setTop (mkF m 2 #[.val (.ref a1), .val (.int (Int32.ofNat fr)), .val (.int (Int32.ofNat to)), .val (.int ((Int32.ofNat i) + (1 : Int32)))] []))
                    rw [show Int32.ofNat i + (1 : Int32) = Int32.ofNat (i + 1) from own_addN i 1]
                    exact ih (i + 1) (by omega) (by omega) (by omega) (by omega) inv2
                · refine Goes.step (fun _ hr => XS.icmpYes X0.here hx rfl (pc0 := 50) (pc' := 67) rfl (hb hby d_prog_11_method_2_code_50) rfl (feq hc50_6).2 (by decide) (by decide) hr) ?_
                  show Goes p ee below s _ _ _ (s₁.setTop (mkF m 67 #[.val (.ref a1), .val (.int (Int32.ofNat fr)), .val (.int (Int32.ofNat to)), .val (.int (Int32.ofNat i))] []))
                  have inv2 : ∀ e, own_E y fr to e → i + 1 + 2 ≤ e ∧ (e = i + 1 + 2 → y (e - 2) = 10) := by
                    intro e he
                    obtain ⟨g1, g2⟩ := inv e he
                    obtain ⟨q1, q2, q3, q4⟩ := he
                    exact own_next y fr to i e q1 q2 q3 q4 g1 g2 (by
                      first | (left; assumption) | (right; exact ⟨by first | (left; omega) | (right; assumption), by first | (left; omega) | (right; left; assumption) | (right; right; assumption)⟩))
                  refine Goes.step (fun _ hr => XS.iinc X0.here hx rfl (hb hby d_prog_11_method_2_code_67) rfl (l' := #[.val (.ref a1), .val (.int (Int32.ofNat fr)), .val (.int (Int32.ofNat to)), .val (.int ((Int32.ofNat i) + (1 : Int32)))]) rfl hr) ?_
                  show Goes p ee below s _ _ _ (s₁.setTop (mkF m 70 #[.val (.ref a1), .val (.int (Int32.ofNat fr)), .val (.int (Int32.ofNat to)), .val (.int ((Int32.ofNat i) + (1 : Int32)))] []))
                  refine Goes.step (fun _ hr => XS.goto X0.here hx rfl (pc0 := 70) (pc' := 2) rfl (hb hby d_prog_11_method_2_code_70) (by decide) (by decide) hr) ?_
                  show Goes p ee below s _ _ _ (s₁.setTop (mkF m 2 #[.val (.ref a1), .val (.int (Int32.ofNat fr)), .val (.int (Int32.ofNat to)), .val (.int ((Int32.ofNat i) + (1 : Int32)))] []))
                  rw [show Int32.ofNat i + (1 : Int32) = Int32.ofNat (i + 1) from own_addN i 1]
                  exact ih (i + 1) (by omega) (by omega) (by omega) (by omega) inv2
              · refine Goes.step (fun _ hr => XS.icmpYes X0.here hx rfl (pc0 := 40) (pc' := 67) rfl (hb hby d_prog_11_method_2_code_40) rfl (flt (fun z => hn40_5 ((own_addlt2 to i 2 (by omega) (by omega)).mp z))).2.1 (by decide) (by decide) hr) ?_
                show Goes p ee below s _ _ _ (s₁.setTop (mkF m 67 #[.val (.ref a1), .val (.int (Int32.ofNat fr)), .val (.int (Int32.ofNat to)), .val (.int (Int32.ofNat i))] []))
                have inv2 : ∀ e, own_E y fr to e → i + 1 + 2 ≤ e ∧ (e = i + 1 + 2 → y (e - 2) = 10) := by
                  intro e he
                  obtain ⟨g1, g2⟩ := inv e he
                  obtain ⟨q1, q2, q3, q4⟩ := he
                  exact own_next y fr to i e q1 q2 q3 q4 g1 g2 (by
                    first | (left; assumption) | (right; exact ⟨by first | (left; omega) | (right; assumption), by first | (left; omega) | (right; left; assumption) | (right; right; assumption)⟩))
                refine Goes.step (fun _ hr => XS.iinc X0.here hx rfl (hb hby d_prog_11_method_2_code_67) rfl (l' := #[.val (.ref a1), .val (.int (Int32.ofNat fr)), .val (.int (Int32.ofNat to)), .val (.int ((Int32.ofNat i) + (1 : Int32)))]) rfl hr) ?_
                show Goes p ee below s _ _ _ (s₁.setTop (mkF m 70 #[.val (.ref a1), .val (.int (Int32.ofNat fr)), .val (.int (Int32.ofNat to)), .val (.int ((Int32.ofNat i) + (1 : Int32)))] []))
                refine Goes.step (fun _ hr => XS.goto X0.here hx rfl (pc0 := 70) (pc' := 2) rfl (hb hby d_prog_11_method_2_code_70) (by decide) (by decide) hr) ?_
                show Goes p ee below s _ _ _ (s₁.setTop (mkF m 2 #[.val (.ref a1), .val (.int (Int32.ofNat fr)), .val (.int (Int32.ofNat to)), .val (.int ((Int32.ofNat i) + (1 : Int32)))] []))
                rw [show Int32.ofNat i + (1 : Int32) = Int32.ofNat (i + 1) from own_addN i 1]
                exact ih (i + 1) (by omega) (by omega) (by omega) (by omega) inv2
          · refine Goes.step (fun _ hr => XS.icmpYes X0.here hx rfl (pc0 := 19) (pc' := 36) rfl (hb hby d_prog_11_method_2_code_19) rfl (flt (fun z => hn19_3 ((own_addlt2 to i 1 (by omega) (by omega)).mp z))).2.1 (by decide) (by decide) hr) ?_
            show Goes p ee below s _ _ _ (s₁.setTop (mkF m 36 #[.val (.ref a1), .val (.int (Int32.ofNat fr)), .val (.int (Int32.ofNat to)), .val (.int (Int32.ofNat i))] []))
            refine Goes.step (fun _ hr => XS.iloadN X0.here hx rfl (hb hby d_prog_11_method_2_code_36) rfl  hr) ?_
            show Goes p ee below s _ _ _ (s₁.setTop (mkF m 37 #[.val (.ref a1), .val (.int (Int32.ofNat fr)), .val (.int (Int32.ofNat to)), .val (.int (Int32.ofNat i))] [(.int (Int32.ofNat i))]))
            refine Goes.step (fun _ hr => XS.iconst X0.here hx rfl (hb hby d_prog_11_method_2_code_37) hr) ?_
            show Goes p ee below s _ _ _ (s₁.setTop (mkF m 38 #[.val (.ref a1), .val (.int (Int32.ofNat fr)), .val (.int (Int32.ofNat to)), .val (.int (Int32.ofNat i))] [(.int (2 : Int32)), (.int (Int32.ofNat i))]))
            refine Goes.step (fun _ hr => XS.iadd X0.here hx rfl (hb hby d_prog_11_method_2_code_38) rfl hr) ?_
            show Goes p ee below s _ _ _ (s₁.setTop (mkF m 39 #[.val (.ref a1), .val (.int (Int32.ofNat fr)), .val (.int (Int32.ofNat to)), .val (.int (Int32.ofNat i))] [(.int ((Int32.ofNat i) + (2 : Int32)))]))
            refine Goes.step (fun _ hr => XS.iloadN X0.here hx rfl (hb hby d_prog_11_method_2_code_39) rfl  hr) ?_
            show Goes p ee below s _ _ _ (s₁.setTop (mkF m 40 #[.val (.ref a1), .val (.int (Int32.ofNat fr)), .val (.int (Int32.ofNat to)), .val (.int (Int32.ofNat i))] [(.int (Int32.ofNat to)), (.int ((Int32.ofNat i) + (2 : Int32)))]))
            by_cases hn40_8 : i + 2 < to
            · refine Goes.step (fun _ hr => XS.icmpNo X0.here hx rfl (hb hby d_prog_11_method_2_code_40) rfl (tlt ((own_addlt2 to i 2 (by omega) (by omega)).mpr hn40_8)).2.1 hr) ?_
              show Goes p ee below s _ _ _ (s₁.setTop (mkF m 43 #[.val (.ref a1), .val (.int (Int32.ofNat fr)), .val (.int (Int32.ofNat to)), .val (.int (Int32.ofNat i))] []))
              refine Goes.step (fun _ hr => XS.aloadN X0.here hx rfl (hb hby d_prog_11_method_2_code_43) rfl rfl hr) ?_
              show Goes p ee below s _ _ _ (s₁.setTop (mkF m 44 #[.val (.ref a1), .val (.int (Int32.ofNat fr)), .val (.int (Int32.ofNat to)), .val (.int (Int32.ofNat i))] [(.ref a1)]))
              refine Goes.step (fun _ hr => XS.iloadN X0.here hx rfl (hb hby d_prog_11_method_2_code_44) rfl  hr) ?_
              show Goes p ee below s _ _ _ (s₁.setTop (mkF m 45 #[.val (.ref a1), .val (.int (Int32.ofNat fr)), .val (.int (Int32.ofNat to)), .val (.int (Int32.ofNat i))] [(.int (Int32.ofNat i)), (.ref a1)]))
              refine Goes.step (fun _ hr => XS.iconst X0.here hx rfl (hb hby d_prog_11_method_2_code_45) hr) ?_
              show Goes p ee below s _ _ _ (s₁.setTop (mkF m 46 #[.val (.ref a1), .val (.int (Int32.ofNat fr)), .val (.int (Int32.ofNat to)), .val (.int (Int32.ofNat i))] [(.int (1 : Int32)), (.int (Int32.ofNat i)), (.ref a1)]))
              refine Goes.step (fun _ hr => XS.iadd X0.here hx rfl (hb hby d_prog_11_method_2_code_46) rfl hr) ?_
              show Goes p ee below s _ _ _ (s₁.setTop (mkF m 47 #[.val (.ref a1), .val (.int (Int32.ofNat fr)), .val (.int (Int32.ofNat to)), .val (.int (Int32.ofNat i))] [(.int ((Int32.ofNat i) + (1 : Int32))), (.ref a1)]))
              refine Goes.step (own_baload X0 hx hZ e0 A (j := ((Int32.ofNat i) + (1 : Int32))) (own_ixa i 1 (by omega)).1 (k := (i + 1)) (own_ixa i 1 (by omega)).2 (by omega) (v := (.int (y (i + 1)))) rfl (g := (mkF m 47 #[.val (.ref a1), .val (.int (Int32.ofNat fr)), .val (.int (Int32.ofNat to)), .val (.int (Int32.ofNat i))] [(.int ((Int32.ofNat i) + (1 : Int32))), (.ref a1)])) rfl rfl (hb hby d_prog_11_method_2_code_47)) ?_
              show Goes p ee below s _ _ _ (s₁.setTop (mkF m 48 #[.val (.ref a1), .val (.int (Int32.ofNat fr)), .val (.int (Int32.ofNat to)), .val (.int (Int32.ofNat i))] [(.int (y (i + 1)))]))
              refine Goes.step (fun _ hr => XS.bipush X0.here hx rfl (hb hby d_prog_11_method_2_code_48) hr) ?_
              show Goes p ee below s _ _ _ (s₁.setTop (mkF m 50 #[.val (.ref a1), .val (.int (Int32.ofNat fr)), .val (.int (Int32.ofNat to)), .val (.int (Int32.ofNat i))] [(.int (13 : Int32)), (.int (y (i + 1)))]))
              by_cases hc50_9 : (y (i + 1)) = (13 : Int32)
              · refine Goes.step (fun _ hr => XS.icmpNo X0.here hx rfl (hb hby d_prog_11_method_2_code_50) rfl (teq hc50_9).2 hr) ?_
                show Goes p ee below s _ _ _ (s₁.setTop (mkF m 53 #[.val (.ref a1), .val (.int (Int32.ofNat fr)), .val (.int (Int32.ofNat to)), .val (.int (Int32.ofNat i))] []))
                refine Goes.step (fun _ hr => XS.aloadN X0.here hx rfl (hb hby d_prog_11_method_2_code_53) rfl rfl hr) ?_
                show Goes p ee below s _ _ _ (s₁.setTop (mkF m 54 #[.val (.ref a1), .val (.int (Int32.ofNat fr)), .val (.int (Int32.ofNat to)), .val (.int (Int32.ofNat i))] [(.ref a1)]))
                refine Goes.step (fun _ hr => XS.iloadN X0.here hx rfl (hb hby d_prog_11_method_2_code_54) rfl  hr) ?_
                show Goes p ee below s _ _ _ (s₁.setTop (mkF m 55 #[.val (.ref a1), .val (.int (Int32.ofNat fr)), .val (.int (Int32.ofNat to)), .val (.int (Int32.ofNat i))] [(.int (Int32.ofNat i)), (.ref a1)]))
                refine Goes.step (fun _ hr => XS.iconst X0.here hx rfl (hb hby d_prog_11_method_2_code_55) hr) ?_
                show Goes p ee below s _ _ _ (s₁.setTop (mkF m 56 #[.val (.ref a1), .val (.int (Int32.ofNat fr)), .val (.int (Int32.ofNat to)), .val (.int (Int32.ofNat i))] [(.int (2 : Int32)), (.int (Int32.ofNat i)), (.ref a1)]))
                refine Goes.step (fun _ hr => XS.iadd X0.here hx rfl (hb hby d_prog_11_method_2_code_56) rfl hr) ?_
                show Goes p ee below s _ _ _ (s₁.setTop (mkF m 57 #[.val (.ref a1), .val (.int (Int32.ofNat fr)), .val (.int (Int32.ofNat to)), .val (.int (Int32.ofNat i))] [(.int ((Int32.ofNat i) + (2 : Int32))), (.ref a1)]))
                refine Goes.step (own_baload X0 hx hZ e0 A (j := ((Int32.ofNat i) + (2 : Int32))) (own_ixa i 2 (by omega)).1 (k := (i + 2)) (own_ixa i 2 (by omega)).2 (by omega) (v := (.int (y (i + 2)))) rfl (g := (mkF m 57 #[.val (.ref a1), .val (.int (Int32.ofNat fr)), .val (.int (Int32.ofNat to)), .val (.int (Int32.ofNat i))] [(.int ((Int32.ofNat i) + (2 : Int32))), (.ref a1)])) rfl rfl (hb hby d_prog_11_method_2_code_57)) ?_
                show Goes p ee below s _ _ _ (s₁.setTop (mkF m 58 #[.val (.ref a1), .val (.int (Int32.ofNat fr)), .val (.int (Int32.ofNat to)), .val (.int (Int32.ofNat i))] [(.int (y (i + 2)))]))
                refine Goes.step (fun _ hr => XS.bipush X0.here hx rfl (hb hby d_prog_11_method_2_code_58) hr) ?_
                show Goes p ee below s _ _ _ (s₁.setTop (mkF m 60 #[.val (.ref a1), .val (.int (Int32.ofNat fr)), .val (.int (Int32.ofNat to)), .val (.int (Int32.ofNat i))] [(.int (10 : Int32)), (.int (y (i + 2)))]))
                by_cases hc60_10 : (y (i + 2)) = (10 : Int32)
                · refine Goes.step (fun _ hr => XS.icmpNo X0.here hx rfl (hb hby d_prog_11_method_2_code_60) rfl (teq hc60_10).2 hr) ?_
                  show Goes p ee below s _ _ _ (s₁.setTop (mkF m 63 #[.val (.ref a1), .val (.int (Int32.ofNat fr)), .val (.int (Int32.ofNat to)), .val (.int (Int32.ofNat i))] []))
                  refine Goes.step (fun _ hr => XS.iloadN X0.here hx rfl (hb hby d_prog_11_method_2_code_63) rfl  hr) ?_
                  show Goes p ee below s _ _ _ (s₁.setTop (mkF m 64 #[.val (.ref a1), .val (.int (Int32.ofNat fr)), .val (.int (Int32.ofNat to)), .val (.int (Int32.ofNat i))] [(.int (Int32.ofNat i))]))
                  refine Goes.step (fun _ hr => XS.iconst X0.here hx rfl (hb hby d_prog_11_method_2_code_64) hr) ?_
                  show Goes p ee below s _ _ _ (s₁.setTop (mkF m 65 #[.val (.ref a1), .val (.int (Int32.ofNat fr)), .val (.int (Int32.ofNat to)), .val (.int (Int32.ofNat i))] [(.int (3 : Int32)), (.int (Int32.ofNat i))]))
                  refine Goes.step (fun _ hr => XS.iadd X0.here hx rfl (hb hby d_prog_11_method_2_code_65) rfl hr) ?_
                  show Goes p ee below s _ _ _ (s₁.setTop (mkF m 66 #[.val (.ref a1), .val (.int (Int32.ofNat fr)), .val (.int (Int32.ofNat to)), .val (.int (Int32.ofNat i))] [(.int ((Int32.ofNat i) + (3 : Int32)))]))
                  refine Goes.retI X0 hx Bd.notSynchronized Bd.returns (hb hby d_prog_11_method_2_code_66) (by decide) (by decide) ?_
                  rw [show Int32.ofNat i + (3 : Int32) = Int32.ofNat (i + 3) from own_addN i 3]
                  refine ⟨Or.inr ⟨i + 3, rfl, ⟨by omega, by omega, by assumption, Or.inr ⟨by omega, by assumption, by assumption⟩⟩, fun e h he => ?_⟩, N0, e0⟩
                  obtain ⟨g1, g2⟩ := inv e he
                  obtain ⟨q1, q2, q3, q4⟩ := he
                  have e2 : e = i + 2 := by omega
                  subst e2
                  exact own_1013 q3 (by assumption)
                · refine Goes.step (fun _ hr => XS.icmpYes X0.here hx rfl (pc0 := 60) (pc' := 67) rfl (hb hby d_prog_11_method_2_code_60) rfl (feq hc60_10).2 (by decide) (by decide) hr) ?_
                  show Goes p ee below s _ _ _ (s₁.setTop (mkF m 67 #[.val (.ref a1), .val (.int (Int32.ofNat fr)), .val (.int (Int32.ofNat to)), .val (.int (Int32.ofNat i))] []))
                  have inv2 : ∀ e, own_E y fr to e → i + 1 + 2 ≤ e ∧ (e = i + 1 + 2 → y (e - 2) = 10) := by
                    intro e he
                    obtain ⟨g1, g2⟩ := inv e he
                    obtain ⟨q1, q2, q3, q4⟩ := he
                    exact own_next y fr to i e q1 q2 q3 q4 g1 g2 (by
                      first | (left; assumption) | (right; exact ⟨by first | (left; omega) | (right; assumption), by first | (left; omega) | (right; left; assumption) | (right; right; assumption)⟩))
                  refine Goes.step (fun _ hr => XS.iinc X0.here hx rfl (hb hby d_prog_11_method_2_code_67) rfl (l' := #[.val (.ref a1), .val (.int (Int32.ofNat fr)), .val (.int (Int32.ofNat to)), .val (.int ((Int32.ofNat i) + (1 : Int32)))]) rfl hr) ?_
                  show Goes p ee below s _ _ _ (s₁.setTop (mkF m 70 #[.val (.ref a1), .val (.int (Int32.ofNat fr)), .val (.int (Int32.ofNat to)), .val (.int ((Int32.ofNat i) + (1 : Int32)))] []))
                  refine Goes.step (fun _ hr => XS.goto X0.here hx rfl (pc0 := 70) (pc' := 2) rfl (hb hby d_prog_11_method_2_code_70) (by decide) (by decide) hr) ?_
                  show Goes p ee below s _ _ _ (s₁.setTop (mkF m 2 #[.val (.ref a1), .val (.int (Int32.ofNat fr)), .val (.int (Int32.ofNat to)), .val (.int ((Int32.ofNat i) + (1 : Int32)))] []))
                  rw [show Int32.ofNat i + (1 : Int32) = Int32.ofNat (i + 1) from own_addN i 1]
                  exact ih (i + 1) (by omega) (by omega) (by omega) (by omega) inv2
              · refine Goes.step (fun _ hr => XS.icmpYes X0.here hx rfl (pc0 := 50) (pc' := 67) rfl (hb hby d_prog_11_method_2_code_50) rfl (feq hc50_9).2 (by decide) (by decide) hr) ?_
                show Goes p ee below s _ _ _ (s₁.setTop (mkF m 67 #[.val (.ref a1), .val (.int (Int32.ofNat fr)), .val (.int (Int32.ofNat to)), .val (.int (Int32.ofNat i))] []))
                have inv2 : ∀ e, own_E y fr to e → i + 1 + 2 ≤ e ∧ (e = i + 1 + 2 → y (e - 2) = 10) := by
                  intro e he
                  obtain ⟨g1, g2⟩ := inv e he
                  obtain ⟨q1, q2, q3, q4⟩ := he
                  exact own_next y fr to i e q1 q2 q3 q4 g1 g2 (by
                    first | (left; assumption) | (right; exact ⟨by first | (left; omega) | (right; assumption), by first | (left; omega) | (right; left; assumption) | (right; right; assumption)⟩))
                refine Goes.step (fun _ hr => XS.iinc X0.here hx rfl (hb hby d_prog_11_method_2_code_67) rfl (l' := #[.val (.ref a1), .val (.int (Int32.ofNat fr)), .val (.int (Int32.ofNat to)), .val (.int ((Int32.ofNat i) + (1 : Int32)))]) rfl hr) ?_
                show Goes p ee below s _ _ _ (s₁.setTop (mkF m 70 #[.val (.ref a1), .val (.int (Int32.ofNat fr)), .val (.int (Int32.ofNat to)), .val (.int ((Int32.ofNat i) + (1 : Int32)))] []))
                refine Goes.step (fun _ hr => XS.goto X0.here hx rfl (pc0 := 70) (pc' := 2) rfl (hb hby d_prog_11_method_2_code_70) (by decide) (by decide) hr) ?_
                show Goes p ee below s _ _ _ (s₁.setTop (mkF m 2 #[.val (.ref a1), .val (.int (Int32.ofNat fr)), .val (.int (Int32.ofNat to)), .val (.int ((Int32.ofNat i) + (1 : Int32)))] []))
                rw [show Int32.ofNat i + (1 : Int32) = Int32.ofNat (i + 1) from own_addN i 1]
                exact ih (i + 1) (by omega) (by omega) (by omega) (by omega) inv2
            · refine Goes.step (fun _ hr => XS.icmpYes X0.here hx rfl (pc0 := 40) (pc' := 67) rfl (hb hby d_prog_11_method_2_code_40) rfl (flt (fun z => hn40_8 ((own_addlt2 to i 2 (by omega) (by omega)).mp z))).2.1 (by decide) (by decide) hr) ?_
              show Goes p ee below s _ _ _ (s₁.setTop (mkF m 67 #[.val (.ref a1), .val (.int (Int32.ofNat fr)), .val (.int (Int32.ofNat to)), .val (.int (Int32.ofNat i))] []))
              have inv2 : ∀ e, own_E y fr to e → i + 1 + 2 ≤ e ∧ (e = i + 1 + 2 → y (e - 2) = 10) := by
                intro e he
                obtain ⟨g1, g2⟩ := inv e he
                obtain ⟨q1, q2, q3, q4⟩ := he
                exact own_next y fr to i e q1 q2 q3 q4 g1 g2 (by
                  first | (left; assumption) | (right; exact ⟨by first | (left; omega) | (right; assumption), by first | (left; omega) | (right; left; assumption) | (right; right; assumption)⟩))
              refine Goes.step (fun _ hr => XS.iinc X0.here hx rfl (hb hby d_prog_11_method_2_code_67) rfl (l' := #[.val (.ref a1), .val (.int (Int32.ofNat fr)), .val (.int (Int32.ofNat to)), .val (.int ((Int32.ofNat i) + (1 : Int32)))]) rfl hr) ?_
              show Goes p ee below s _ _ _ (s₁.setTop (mkF m 70 #[.val (.ref a1), .val (.int (Int32.ofNat fr)), .val (.int (Int32.ofNat to)), .val (.int ((Int32.ofNat i) + (1 : Int32)))] []))
              refine Goes.step (fun _ hr => XS.goto X0.here hx rfl (pc0 := 70) (pc' := 2) rfl (hb hby d_prog_11_method_2_code_70) (by decide) (by decide) hr) ?_
              show Goes p ee below s _ _ _ (s₁.setTop (mkF m 2 #[.val (.ref a1), .val (.int (Int32.ofNat fr)), .val (.int (Int32.ofNat to)), .val (.int ((Int32.ofNat i) + (1 : Int32)))] []))
              rw [show Int32.ofNat i + (1 : Int32) = Int32.ofNat (i + 1) from own_addN i 1]
              exact ih (i + 1) (by omega) (by omega) (by omega) (by omega) inv2
        · refine Goes.step (fun _ hr => XS.icmpYes X0.here hx rfl (pc0 := 12) (pc' := 67) rfl (hb hby d_prog_11_method_2_code_12) rfl (feq hc12_2).2 (by decide) (by decide) hr) ?_
          show Goes p ee below s _ _ _ (s₁.setTop (mkF m 67 #[.val (.ref a1), .val (.int (Int32.ofNat fr)), .val (.int (Int32.ofNat to)), .val (.int (Int32.ofNat i))] []))
          have inv2 : ∀ e, own_E y fr to e → i + 1 + 2 ≤ e ∧ (e = i + 1 + 2 → y (e - 2) = 10) := by
            intro e he
            obtain ⟨g1, g2⟩ := inv e he
            obtain ⟨q1, q2, q3, q4⟩ := he
            exact own_next y fr to i e q1 q2 q3 q4 g1 g2 (by
              first | (left; assumption) | (right; exact ⟨by first | (left; omega) | (right; assumption), by first | (left; omega) | (right; left; assumption) | (right; right; assumption)⟩))
          refine Goes.step (fun _ hr => XS.iinc X0.here hx rfl (hb hby d_prog_11_method_2_code_67) rfl (l' := #[.val (.ref a1), .val (.int (Int32.ofNat fr)), .val (.int (Int32.ofNat to)), .val (.int ((Int32.ofNat i) + (1 : Int32)))]) rfl hr) ?_
          show Goes p ee below s _ _ _ (s₁.setTop (mkF m 70 #[.val (.ref a1), .val (.int (Int32.ofNat fr)), .val (.int (Int32.ofNat to)), .val (.int ((Int32.ofNat i) + (1 : Int32)))] []))
          refine Goes.step (fun _ hr => XS.goto X0.here hx rfl (pc0 := 70) (pc' := 2) rfl (hb hby d_prog_11_method_2_code_70) (by decide) (by decide) hr) ?_
          show Goes p ee below s _ _ _ (s₁.setTop (mkF m 2 #[.val (.ref a1), .val (.int (Int32.ofNat fr)), .val (.int (Int32.ofNat to)), .val (.int ((Int32.ofNat i) + (1 : Int32)))] []))
          rw [show Int32.ofNat i + (1 : Int32) = Int32.ofNat (i + 1) from own_addN i 1]
          exact ih (i + 1) (by omega) (by omega) (by omega) (by omega) inv2
      · refine Goes.step (fun _ hr => XS.icmpYes X0.here hx rfl (pc0 := 4) (pc' := 73) rfl (hb hby d_prog_11_method_2_code_4) rfl (flt (fun z => hn4_1 ((own_ltN i to (by omega) (by omega)).mp z))).2.1 (by decide) (by decide) hr) ?_
        show Goes p ee below s _ _ _ (s₁.setTop (mkF m 73 #[.val (.ref a1), .val (.int (Int32.ofNat fr)), .val (.int (Int32.ofNat to)), .val (.int (Int32.ofNat i))] []))
        refine Goes.step (fun _ hr => XS.iconst X0.here hx rfl (hb hby d_prog_11_method_2_code_73) hr) ?_
        show Goes p ee below s _ _ _ (s₁.setTop (mkF m 74 #[.val (.ref a1), .val (.int (Int32.ofNat fr)), .val (.int (Int32.ofNat to)), .val (.int (Int32.ofNat i))] [(.int (-1 : Int32))]))
        refine Goes.retI X0 hx Bd.notSynchronized Bd.returns (hb hby d_prog_11_method_2_code_74) (by decide) (by decide) ?_
        refine ⟨Or.inl ⟨rfl, fun e he => ?_⟩, N0, e0⟩
        obtain ⟨g1, g2⟩ := inv e he
        obtain ⟨q1, q2, q3, q4⟩ := he
        omega
  show Goes p ee below s _ _ _ (s₁.setTop (mkF m 0 #[.val (.ref a1), .val (.int (Int32.ofNat fr)), .val (.int (Int32.ofNat to)), .unset] []))
  refine Goes.step (fun _ hr => XS.iloadN X0.here hx rfl (hb hby d_prog_11_method_2_code_0) rfl  hr) ?_
  show Goes p ee below s _ _ _ (s₁.setTop (mkF m 1 #[.val (.ref a1), .val (.int (Int32.ofNat fr)), .val (.int (Int32.ofNat to)), .unset] [(.int (Int32.ofNat fr))]))
  refine Goes.step (fun _ hr => XS.istoreN X0.here hx rfl (hb hby d_prog_11_method_2_code_1) rfl  (l' := #[.val (.ref a1), .val (.int (Int32.ofNat fr)), .val (.int (Int32.ofNat to)), .val (.int (Int32.ofNat fr))]) rfl hr) ?_
  show Goes p ee below s _ _ _ (s₁.setTop (mkF m 2 #[.val (.ref a1), .val (.int (Int32.ofNat fr)), .val (.int (Int32.ofNat to)), .val (.int (Int32.ofNat fr))] []))
  exact loop (to + 1) fr (by omega) (by omega) (Nat.le_refl _) (by omega) (fun e he => ⟨he.1, fun e2 => by
    obtain ⟨q1, q2, q3, q4⟩ := he
    subst e2
    rcases q4 with q4 | ⟨q4, -, -⟩
    · exact q4
    · omega⟩)
theorem own_tie {y : Nat → Int32} {fr to : Nat} {v : Option Value} (h : (v = some (.int (-1)) ∧ ∀ e, ¬ own_E y fr to e) ∨ ∃ k, v = some (.int (Int32.ofNat k)) ∧ own_E y fr to k ∧ ∀ e, e < k → ¬ own_E y fr to e) (ht : to ≤ 6) {x : Int32}
    (hx : (x = -1 ∧ ∀ e, 2 ≤ e → e ≤ 6 → ¬ own_E y fr to e) ∨ ∃ k, x = Int32.ofNat k ∧ own_E y fr to k ∧ ∀ e, 2 ≤ e → e < k → ¬ own_E y fr to e) : v = some (.int x) := by
  rcases h with ⟨rfl, h⟩ | ⟨k, rfl, h1, h2⟩
  · rcases hx with ⟨rfl, -⟩ | ⟨k, -, hk, -⟩
    · rfl
    · exact absurd hk (h k)
  · have b1 := h1.1
    have b2 := h1.2.1
    rcases hx with ⟨-, hx⟩ | ⟨k', rfl, hk, hm⟩
    · exact absurd h1 (hx k (by omega) (by omega))
    · have c1 := hk.1
      have : k = k' := by
        rcases Nat.lt_trichotomy k k' with q | q | q
        · exact absurd h1 (hm k (by omega) q)
        · exact q
        · exact absurd hk (h2 k' q)
      subst this
      rfl
theorem ef_law (m : MethodId) (x0 : Int64) (x1 : Int32) (x2 : Int32) : entryFrame m #[(.long x0), (.int x1), (.int x2)] maxLocals = mkF m 0 #[.val (.long x0), .second, .val (.int x1), .val (.int x2), .unset, .unset, .unset, .unset] [] := by first | (simp [entryFrame, mkF, argsToLocals, Value.category, maxLocals]; done) | rfl
theorem pd_0 : parseMethodDescriptor "(JI)B" = some ⟨[.long, .int], some .byte⟩ := by decide +kernel
theorem pd_1 : parseMethodDescriptor "([BIII)Z" = some ⟨[(.array .byte), .int, .int, .int], some .boolean⟩ := by decide +kernel
theorem pd_2 : parseMethodDescriptor "([BII)I" = some ⟨[(.array .byte), .int, .int], some .int⟩ := by decide +kernel
def Q_law (Z : State) (p1 : Int64) (p2 : Int32) (p3 : Int32) (h0 : Heap) (n0 : Nat) (v : Option Value) (h : Heap) (L : List Loc) : Prop := v = some (.int 1) ∧ Fr n0 L
set_option maxRecDepth 65536 in
set_option maxHeartbeats 40000000 in
theorem rm_law (l : Launch) (Z : State) (a0 : Array Value) (hw : ∀ d ∈ tables_1, d.before a0 Z = true) (ws : List Jvm.Cond) (p1 : Int64) (p2 : Int32) (p3 : Int32) (h0 : Heap) (n0 : Nat) (Z0 : n0 ≤ h0.size)  :
    MetFree l x (head1 (Jvm.Cond.code x code maxLocals ret :: ws) room_1) (fun a U => a = #[(.long p1), (.int p2), (.int p3)] ∧ Z.Warmed39 U.vm ∧ U.heap = h0) (fun _ _ _ _ _ => True) (fun _ U o U' => ∃ v L, o = .returned v ∧ Q_law Z p1 p2 p3 h0 n0 v U'.heap L ∧ FrameEnd U o U' L room_1.cells room_1.slots) := by
  refine MetFree.of_bodySF (plainFor_of_name pn_com_example_hansou_hansou_RequestHeadEndPinLaw) hisR ?_
  intro p ee s m args below meth cc s₁ Bd hml0 hP hK
  obtain ⟨rfl, hZ, hh⟩ := hP
  have hx := Bd.exec
  have hby := Bd.bytes
  have hml : cc.maxLocals = 8 := hml0
  have hown : s.vm.findClass "com/example/hansou/hansou/RequestHeadEndPinLaw" = some m.cls := findClass_of_methodNamed Bd.named
  have hnm := (name_of_methodNamed Bd.named Bd.method).1
  have X0 : Stand p l ee room_1 s m #[(.long p1), (.int p2), (.int p3)] below meth cc s₁ [] 0 0 := Stand.of_body Bd
  have e0 : s₁.heap = h0 := by rw [← hh, Bd.state]; rfl
  have N0 := Fr.nil n0
  show Goes p ee below s room_1.cells room_1.slots (Q_law Z p1 p2 p3 h0 n0) (s₁.setTop (entryFrame m #[(.long p1), (.int p2), (.int p3)] maxLocals))
  refine Goes.step (fun _ hr => castTop (ef_law m p1 p2 p3) hr) ?_
  show Goes p ee below s _ _ _ (s₁.setTop (mkF m 0 #[.val (.long p1), .second, .val (.int p2), .val (.int p3), .unset, .unset, .unset, .unset] []))
  refine Goes.step (fun _ hr => XS.bipush X0.here hx rfl (hb hby at_0) hr) ?_
  show Goes p ee below s _ _ _ (s₁.setTop (mkF m 2 #[.val (.long p1), .second, .val (.int p2), .val (.int p3), .unset, .unset, .unset, .unset] [(.int (6 : Int32))]))
  obtain ⟨T1, h1, X1, e1, E1, A1, st1⟩ := own_newP X0 hx hZ (aty := .byte) (hw _ (List.mem_of_getElem? (i := 0) rfl)) e0 (z := (6 : Int32)) (by decide) (n := 6) rfl (cap := 6) (Nat.le_refl _) (by decide) (by decide) (by decide) (g := (mkF m 2 #[.val (.long p1), .second, .val (.int p2), .val (.int p3), .unset, .unset, .unset, .unset] [(.int (6 : Int32))])) rfl rfl (hb hby at_2)
  obtain ⟨b1, g_b1⟩ : ∃ z, z = h0.size := ⟨_, rfl⟩
  have ge_b1 : n0 ≤ b1 := Nat.le_trans Z0 (Nat.le_of_eq g_b1.symm)
  rw [← g_b1] at A1 st1
  have Zp2 := Nat.le_trans Z0 E1.1
  refine Goes.step st1 ?_
  have A_b1 : OA Z h1 b1 .byte 6 (fun _ => (.int 0)) := A1
  show Goes p ee below s _ _ _ (T1.setTop (mkF m 4 #[.val (.long p1), .second, .val (.int p2), .val (.int p3), .unset, .unset, .unset, .unset] [(.ref b1)]))
  refine Goes.step (fun _ hr => XS.astore X1.here hx rfl (hb hby at_4) rfl rfl (l' := #[.val (.long p1), .second, .val (.int p2), .val (.int p3), .val (.ref b1), .unset, .unset, .unset]) rfl hr) ?_
  show Goes p ee below s _ _ _ (T1.setTop (mkF m 6 #[.val (.long p1), .second, .val (.int p2), .val (.int p3), .val (.ref b1), .unset, .unset, .unset] []))
  refine Goes.step (fun _ hr => XS.aload X1.here hx rfl (hb hby at_6) rfl rfl hr) ?_
  show Goes p ee below s _ _ _ (T1.setTop (mkF m 8 #[.val (.long p1), .second, .val (.int p2), .val (.int p3), .val (.ref b1), .unset, .unset, .unset] [(.ref b1)]))
  refine Goes.step (fun _ hr => XS.iconst X1.here hx rfl (hb hby at_8) hr) ?_
  show Goes p ee below s _ _ _ (T1.setTop (mkF m 9 #[.val (.long p1), .second, .val (.int p2), .val (.int p3), .val (.ref b1), .unset, .unset, .unset] [(.int (0 : Int32)), (.ref b1)]))
  refine Goes.step (fun _ hr => XT.lloadN X1.here hx rfl (hb hby at_9) rfl  hr) ?_
  show Goes p ee below s _ _ _ (T1.setTop (mkF m 10 #[.val (.long p1), .second, .val (.int p2), .val (.int p3), .val (.ref b1), .unset, .unset, .unset] [(.long p1), (.int (0 : Int32)), (.ref b1)]))
  refine Goes.step (fun _ hr => XS.iconst X1.here hx rfl (hb hby at_10) hr) ?_
  show Goes p ee below s _ _ _ (T1.setTop (mkF m 11 #[.val (.long p1), .second, .val (.int p2), .val (.int p3), .val (.ref b1), .unset, .unset, .unset] [(.int (0 : Int32)), (.long p1), (.int (0 : Int32)), (.ref b1)]))
  have lt_b1 := A_b1.lt
  obtain ⟨v3, T3, L3, X3, hQ3, st3⟩ := own_callS X1 hx hZ (y := (⟨"com/example/hansou/hansou/RequestHeadEndPinLaw", "pick", "(JI)B"⟩ : MethodName)) hown (hw _ (List.mem_of_getElem? (i := 1) rfl)) (hw _ (List.mem_of_getElem? (i := 2) rfl)) (hw _ (List.mem_of_getElem? (i := 3) rfl)) (hw _ (List.mem_of_getElem? (i := 4) rfl)) (by decide) (argsL := [(.long p1), (.int (0 : Int32))]) (rm_pick l Z a0 hw [] p1 (0 : Int32) h1 n0 Zp2 ) e1 (W := 2) (by decide) (by decide) (by decide) (by decide) (g := (mkF m 11 #[.val (.long p1), .second, .val (.int p2), .val (.int p3), .val (.ref b1), .unset, .unset, .unset] [(.int (0 : Int32)), (.long p1), (.int (0 : Int32)), (.ref b1)])) rfl (by rw [hml]; rfl) (rest := [(.int (0 : Int32)), (.ref b1)]) (lenOf pd_0 rfl) rfl (by show 2 * 0 + _ ≤ _; exact Nat.le_of_eq rfl) (hb hby at_11)
  refine Goes.step st3 ?_
  obtain ⟨⟨z3, rfl⟩, N3, e3⟩ := hQ3
  have N4 := Fr.app N0 N3
  show Goes p ee below s _ _ _ (T3.setTop (mkF m 14 #[.val (.long p1), .second, .val (.int p2), .val (.int p3), .val (.ref b1), .unset, .unset, .unset] [(.int z3), (.int (0 : Int32)), (.ref b1)]))
  obtain ⟨T5, h5, X5, e5, W5, A5, st5⟩ := own_stB X3 hx hZ e3 A_b1 (x := z3) (j := (0 : Int32)) (by decide) (k := 0) rfl (by decide) (g := (mkF m 14 #[.val (.long p1), .second, .val (.int p2), .val (.int p3), .val (.ref b1), .unset, .unset, .unset] [(.int z3), (.int (0 : Int32)), (.ref b1)])) rfl rfl (hb hby at_14)
  refine Goes.step st5 ?_
  have Zp6 := Nat.le_trans Zp2 (Keep.of_wr W5).1
  have N7 := Fr.snoc X5 N4 ge_b1
  have A_b1 : OA Z h5 b1 .byte 6 (fun i => [(.int (nar .byte z3)), (.int 0), (.int 0), (.int 0), (.int 0), (.int 0)].getD i (.int 0)) := A5.congr (fun i hi => by match i, hi with | 0, _ => rfl | 1, _ => rfl | 2, _ => rfl | 3, _ => rfl | 4, _ => rfl | 5, _ => rfl | i + 6, hi => omega)
  show Goes p ee below s _ _ _ (T5.setTop (mkF m 15 #[.val (.long p1), .second, .val (.int p2), .val (.int p3), .val (.ref b1), .unset, .unset, .unset] []))
  refine Goes.step (fun _ hr => XS.aload X5.here hx rfl (hb hby at_15) rfl rfl hr) ?_
  show Goes p ee below s _ _ _ (T5.setTop (mkF m 17 #[.val (.long p1), .second, .val (.int p2), .val (.int p3), .val (.ref b1), .unset, .unset, .unset] [(.ref b1)]))
  refine Goes.step (fun _ hr => XS.iconst X5.here hx rfl (hb hby at_17) hr) ?_
  show Goes p ee below s _ _ _ (T5.setTop (mkF m 18 #[.val (.long p1), .second, .val (.int p2), .val (.int p3), .val (.ref b1), .unset, .unset, .unset] [(.int (1 : Int32)), (.ref b1)]))
  refine Goes.step (fun _ hr => XT.lloadN X5.here hx rfl (hb hby at_18) rfl  hr) ?_
  show Goes p ee below s _ _ _ (T5.setTop (mkF m 19 #[.val (.long p1), .second, .val (.int p2), .val (.int p3), .val (.ref b1), .unset, .unset, .unset] [(.long p1), (.int (1 : Int32)), (.ref b1)]))
  refine Goes.step (fun _ hr => XS.iconst X5.here hx rfl (hb hby at_19) hr) ?_
  show Goes p ee below s _ _ _ (T5.setTop (mkF m 20 #[.val (.long p1), .second, .val (.int p2), .val (.int p3), .val (.ref b1), .unset, .unset, .unset] [(.int (1 : Int32)), (.long p1), (.int (1 : Int32)), (.ref b1)]))
  have lt_b1 := A_b1.lt
  obtain ⟨v8, T8, L8, X8, hQ8, st8⟩ := own_callS X5 hx hZ (y := (⟨"com/example/hansou/hansou/RequestHeadEndPinLaw", "pick", "(JI)B"⟩ : MethodName)) hown (hw _ (List.mem_of_getElem? (i := 1) rfl)) (hw _ (List.mem_of_getElem? (i := 2) rfl)) (hw _ (List.mem_of_getElem? (i := 3) rfl)) (hw _ (List.mem_of_getElem? (i := 4) rfl)) (by decide) (argsL := [(.long p1), (.int (1 : Int32))]) (rm_pick l Z a0 hw [] p1 (1 : Int32) h5 n0 Zp6 ) e5 (W := 2) (by decide) (by decide) (by decide) (by decide) (g := (mkF m 20 #[.val (.long p1), .second, .val (.int p2), .val (.int p3), .val (.ref b1), .unset, .unset, .unset] [(.int (1 : Int32)), (.long p1), (.int (1 : Int32)), (.ref b1)])) rfl (by rw [hml]; rfl) (rest := [(.int (1 : Int32)), (.ref b1)]) (lenOf pd_0 rfl) rfl (by show 2 * 0 + _ ≤ _; exact Nat.le_of_eq rfl) (hb hby at_20)
  refine Goes.step st8 ?_
  obtain ⟨⟨z8, rfl⟩, N8, e8⟩ := hQ8
  have N9 := Fr.app N7 N8
  show Goes p ee below s _ _ _ (T8.setTop (mkF m 23 #[.val (.long p1), .second, .val (.int p2), .val (.int p3), .val (.ref b1), .unset, .unset, .unset] [(.int z8), (.int (1 : Int32)), (.ref b1)]))
  obtain ⟨T10, h10, X10, e10, W10, A10, st10⟩ := own_stB X8 hx hZ e8 A_b1 (x := z8) (j := (1 : Int32)) (by decide) (k := 1) rfl (by decide) (g := (mkF m 23 #[.val (.long p1), .second, .val (.int p2), .val (.int p3), .val (.ref b1), .unset, .unset, .unset] [(.int z8), (.int (1 : Int32)), (.ref b1)])) rfl rfl (hb hby at_23)
  refine Goes.step st10 ?_
  have Zp11 := Nat.le_trans Zp6 (Keep.of_wr W10).1
  have N12 := Fr.snoc X10 N9 ge_b1
  have A_b1 : OA Z h10 b1 .byte 6 (fun i => [(.int (nar .byte z3)), (.int (nar .byte z8)), (.int 0), (.int 0), (.int 0), (.int 0)].getD i (.int 0)) := A10.congr (fun i hi => by match i, hi with | 0, _ => rfl | 1, _ => rfl | 2, _ => rfl | 3, _ => rfl | 4, _ => rfl | 5, _ => rfl | i + 6, hi => omega)
  show Goes p ee below s _ _ _ (T10.setTop (mkF m 24 #[.val (.long p1), .second, .val (.int p2), .val (.int p3), .val (.ref b1), .unset, .unset, .unset] []))
  refine Goes.step (fun _ hr => XS.aload X10.here hx rfl (hb hby at_24) rfl rfl hr) ?_
  show Goes p ee below s _ _ _ (T10.setTop (mkF m 26 #[.val (.long p1), .second, .val (.int p2), .val (.int p3), .val (.ref b1), .unset, .unset, .unset] [(.ref b1)]))
  refine Goes.step (fun _ hr => XS.iconst X10.here hx rfl (hb hby at_26) hr) ?_
  show Goes p ee below s _ _ _ (T10.setTop (mkF m 27 #[.val (.long p1), .second, .val (.int p2), .val (.int p3), .val (.ref b1), .unset, .unset, .unset] [(.int (2 : Int32)), (.ref b1)]))
  refine Goes.step (fun _ hr => XT.lloadN X10.here hx rfl (hb hby at_27) rfl  hr) ?_
  show Goes p ee below s _ _ _ (T10.setTop (mkF m 28 #[.val (.long p1), .second, .val (.int p2), .val (.int p3), .val (.ref b1), .unset, .unset, .unset] [(.long p1), (.int (2 : Int32)), (.ref b1)]))
  refine Goes.step (fun _ hr => XS.iconst X10.here hx rfl (hb hby at_28) hr) ?_
  show Goes p ee below s _ _ _ (T10.setTop (mkF m 29 #[.val (.long p1), .second, .val (.int p2), .val (.int p3), .val (.ref b1), .unset, .unset, .unset] [(.int (2 : Int32)), (.long p1), (.int (2 : Int32)), (.ref b1)]))
  have lt_b1 := A_b1.lt
  obtain ⟨v13, T13, L13, X13, hQ13, st13⟩ := own_callS X10 hx hZ (y := (⟨"com/example/hansou/hansou/RequestHeadEndPinLaw", "pick", "(JI)B"⟩ : MethodName)) hown (hw _ (List.mem_of_getElem? (i := 1) rfl)) (hw _ (List.mem_of_getElem? (i := 2) rfl)) (hw _ (List.mem_of_getElem? (i := 3) rfl)) (hw _ (List.mem_of_getElem? (i := 4) rfl)) (by decide) (argsL := [(.long p1), (.int (2 : Int32))]) (rm_pick l Z a0 hw [] p1 (2 : Int32) h10 n0 Zp11 ) e10 (W := 2) (by decide) (by decide) (by decide) (by decide) (g := (mkF m 29 #[.val (.long p1), .second, .val (.int p2), .val (.int p3), .val (.ref b1), .unset, .unset, .unset] [(.int (2 : Int32)), (.long p1), (.int (2 : Int32)), (.ref b1)])) rfl (by rw [hml]; rfl) (rest := [(.int (2 : Int32)), (.ref b1)]) (lenOf pd_0 rfl) rfl (by show 2 * 0 + _ ≤ _; exact Nat.le_of_eq rfl) (hb hby at_29)
  refine Goes.step st13 ?_
  obtain ⟨⟨z13, rfl⟩, N13, e13⟩ := hQ13
  have N14 := Fr.app N12 N13
  show Goes p ee below s _ _ _ (T13.setTop (mkF m 32 #[.val (.long p1), .second, .val (.int p2), .val (.int p3), .val (.ref b1), .unset, .unset, .unset] [(.int z13), (.int (2 : Int32)), (.ref b1)]))
  obtain ⟨T15, h15, X15, e15, W15, A15, st15⟩ := own_stB X13 hx hZ e13 A_b1 (x := z13) (j := (2 : Int32)) (by decide) (k := 2) rfl (by decide) (g := (mkF m 32 #[.val (.long p1), .second, .val (.int p2), .val (.int p3), .val (.ref b1), .unset, .unset, .unset] [(.int z13), (.int (2 : Int32)), (.ref b1)])) rfl rfl (hb hby at_32)
  refine Goes.step st15 ?_
  have Zp16 := Nat.le_trans Zp11 (Keep.of_wr W15).1
  have N17 := Fr.snoc X15 N14 ge_b1
  have A_b1 : OA Z h15 b1 .byte 6 (fun i => [(.int (nar .byte z3)), (.int (nar .byte z8)), (.int (nar .byte z13)), (.int 0), (.int 0), (.int 0)].getD i (.int 0)) := A15.congr (fun i hi => by match i, hi with | 0, _ => rfl | 1, _ => rfl | 2, _ => rfl | 3, _ => rfl | 4, _ => rfl | 5, _ => rfl | i + 6, hi => omega)
  show Goes p ee below s _ _ _ (T15.setTop (mkF m 33 #[.val (.long p1), .second, .val (.int p2), .val (.int p3), .val (.ref b1), .unset, .unset, .unset] []))
  refine Goes.step (fun _ hr => XS.aload X15.here hx rfl (hb hby at_33) rfl rfl hr) ?_
  show Goes p ee below s _ _ _ (T15.setTop (mkF m 35 #[.val (.long p1), .second, .val (.int p2), .val (.int p3), .val (.ref b1), .unset, .unset, .unset] [(.ref b1)]))
  refine Goes.step (fun _ hr => XS.iconst X15.here hx rfl (hb hby at_35) hr) ?_
  show Goes p ee below s _ _ _ (T15.setTop (mkF m 36 #[.val (.long p1), .second, .val (.int p2), .val (.int p3), .val (.ref b1), .unset, .unset, .unset] [(.int (3 : Int32)), (.ref b1)]))
  refine Goes.step (fun _ hr => XT.lloadN X15.here hx rfl (hb hby at_36) rfl  hr) ?_
  show Goes p ee below s _ _ _ (T15.setTop (mkF m 37 #[.val (.long p1), .second, .val (.int p2), .val (.int p3), .val (.ref b1), .unset, .unset, .unset] [(.long p1), (.int (3 : Int32)), (.ref b1)]))
  refine Goes.step (fun _ hr => XS.iconst X15.here hx rfl (hb hby at_37) hr) ?_
  show Goes p ee below s _ _ _ (T15.setTop (mkF m 38 #[.val (.long p1), .second, .val (.int p2), .val (.int p3), .val (.ref b1), .unset, .unset, .unset] [(.int (3 : Int32)), (.long p1), (.int (3 : Int32)), (.ref b1)]))
  have lt_b1 := A_b1.lt
  obtain ⟨v18, T18, L18, X18, hQ18, st18⟩ := own_callS X15 hx hZ (y := (⟨"com/example/hansou/hansou/RequestHeadEndPinLaw", "pick", "(JI)B"⟩ : MethodName)) hown (hw _ (List.mem_of_getElem? (i := 1) rfl)) (hw _ (List.mem_of_getElem? (i := 2) rfl)) (hw _ (List.mem_of_getElem? (i := 3) rfl)) (hw _ (List.mem_of_getElem? (i := 4) rfl)) (by decide) (argsL := [(.long p1), (.int (3 : Int32))]) (rm_pick l Z a0 hw [] p1 (3 : Int32) h15 n0 Zp16 ) e15 (W := 2) (by decide) (by decide) (by decide) (by decide) (g := (mkF m 38 #[.val (.long p1), .second, .val (.int p2), .val (.int p3), .val (.ref b1), .unset, .unset, .unset] [(.int (3 : Int32)), (.long p1), (.int (3 : Int32)), (.ref b1)])) rfl (by rw [hml]; rfl) (rest := [(.int (3 : Int32)), (.ref b1)]) (lenOf pd_0 rfl) rfl (by show 2 * 0 + _ ≤ _; exact Nat.le_of_eq rfl) (hb hby at_38)
  refine Goes.step st18 ?_
  obtain ⟨⟨z18, rfl⟩, N18, e18⟩ := hQ18
  have N19 := Fr.app N17 N18
  show Goes p ee below s _ _ _ (T18.setTop (mkF m 41 #[.val (.long p1), .second, .val (.int p2), .val (.int p3), .val (.ref b1), .unset, .unset, .unset] [(.int z18), (.int (3 : Int32)), (.ref b1)]))
  obtain ⟨T20, h20, X20, e20, W20, A20, st20⟩ := own_stB X18 hx hZ e18 A_b1 (x := z18) (j := (3 : Int32)) (by decide) (k := 3) rfl (by decide) (g := (mkF m 41 #[.val (.long p1), .second, .val (.int p2), .val (.int p3), .val (.ref b1), .unset, .unset, .unset] [(.int z18), (.int (3 : Int32)), (.ref b1)])) rfl rfl (hb hby at_41)
  refine Goes.step st20 ?_
  have Zp21 := Nat.le_trans Zp16 (Keep.of_wr W20).1
  have N22 := Fr.snoc X20 N19 ge_b1
  have A_b1 : OA Z h20 b1 .byte 6 (fun i => [(.int (nar .byte z3)), (.int (nar .byte z8)), (.int (nar .byte z13)), (.int (nar .byte z18)), (.int 0), (.int 0)].getD i (.int 0)) := A20.congr (fun i hi => by match i, hi with | 0, _ => rfl | 1, _ => rfl | 2, _ => rfl | 3, _ => rfl | 4, _ => rfl | 5, _ => rfl | i + 6, hi => omega)
  show Goes p ee below s _ _ _ (T20.setTop (mkF m 42 #[.val (.long p1), .second, .val (.int p2), .val (.int p3), .val (.ref b1), .unset, .unset, .unset] []))
  refine Goes.step (fun _ hr => XS.aload X20.here hx rfl (hb hby at_42) rfl rfl hr) ?_
  show Goes p ee below s _ _ _ (T20.setTop (mkF m 44 #[.val (.long p1), .second, .val (.int p2), .val (.int p3), .val (.ref b1), .unset, .unset, .unset] [(.ref b1)]))
  refine Goes.step (fun _ hr => XS.iconst X20.here hx rfl (hb hby at_44) hr) ?_
  show Goes p ee below s _ _ _ (T20.setTop (mkF m 45 #[.val (.long p1), .second, .val (.int p2), .val (.int p3), .val (.ref b1), .unset, .unset, .unset] [(.int (4 : Int32)), (.ref b1)]))
  refine Goes.step (fun _ hr => XT.lloadN X20.here hx rfl (hb hby at_45) rfl  hr) ?_
  show Goes p ee below s _ _ _ (T20.setTop (mkF m 46 #[.val (.long p1), .second, .val (.int p2), .val (.int p3), .val (.ref b1), .unset, .unset, .unset] [(.long p1), (.int (4 : Int32)), (.ref b1)]))
  refine Goes.step (fun _ hr => XS.iconst X20.here hx rfl (hb hby at_46) hr) ?_
  show Goes p ee below s _ _ _ (T20.setTop (mkF m 47 #[.val (.long p1), .second, .val (.int p2), .val (.int p3), .val (.ref b1), .unset, .unset, .unset] [(.int (4 : Int32)), (.long p1), (.int (4 : Int32)), (.ref b1)]))
  have lt_b1 := A_b1.lt
  obtain ⟨v23, T23, L23, X23, hQ23, st23⟩ := own_callS X20 hx hZ (y := (⟨"com/example/hansou/hansou/RequestHeadEndPinLaw", "pick", "(JI)B"⟩ : MethodName)) hown (hw _ (List.mem_of_getElem? (i := 1) rfl)) (hw _ (List.mem_of_getElem? (i := 2) rfl)) (hw _ (List.mem_of_getElem? (i := 3) rfl)) (hw _ (List.mem_of_getElem? (i := 4) rfl)) (by decide) (argsL := [(.long p1), (.int (4 : Int32))]) (rm_pick l Z a0 hw [] p1 (4 : Int32) h20 n0 Zp21 ) e20 (W := 2) (by decide) (by decide) (by decide) (by decide) (g := (mkF m 47 #[.val (.long p1), .second, .val (.int p2), .val (.int p3), .val (.ref b1), .unset, .unset, .unset] [(.int (4 : Int32)), (.long p1), (.int (4 : Int32)), (.ref b1)])) rfl (by rw [hml]; rfl) (rest := [(.int (4 : Int32)), (.ref b1)]) (lenOf pd_0 rfl) rfl (by show 2 * 0 + _ ≤ _; exact Nat.le_of_eq rfl) (hb hby at_47)
  refine Goes.step st23 ?_
  obtain ⟨⟨z23, rfl⟩, N23, e23⟩ := hQ23
  have N24 := Fr.app N22 N23
  show Goes p ee below s _ _ _ (T23.setTop (mkF m 50 #[.val (.long p1), .second, .val (.int p2), .val (.int p3), .val (.ref b1), .unset, .unset, .unset] [(.int z23), (.int (4 : Int32)), (.ref b1)]))
  obtain ⟨T25, h25, X25, e25, W25, A25, st25⟩ := own_stB X23 hx hZ e23 A_b1 (x := z23) (j := (4 : Int32)) (by decide) (k := 4) rfl (by decide) (g := (mkF m 50 #[.val (.long p1), .second, .val (.int p2), .val (.int p3), .val (.ref b1), .unset, .unset, .unset] [(.int z23), (.int (4 : Int32)), (.ref b1)])) rfl rfl (hb hby at_50)
  refine Goes.step st25 ?_
  have Zp26 := Nat.le_trans Zp21 (Keep.of_wr W25).1
  have N27 := Fr.snoc X25 N24 ge_b1
  have A_b1 : OA Z h25 b1 .byte 6 (fun i => [(.int (nar .byte z3)), (.int (nar .byte z8)), (.int (nar .byte z13)), (.int (nar .byte z18)), (.int (nar .byte z23)), (.int 0)].getD i (.int 0)) := A25.congr (fun i hi => by match i, hi with | 0, _ => rfl | 1, _ => rfl | 2, _ => rfl | 3, _ => rfl | 4, _ => rfl | 5, _ => rfl | i + 6, hi => omega)
  show Goes p ee below s _ _ _ (T25.setTop (mkF m 51 #[.val (.long p1), .second, .val (.int p2), .val (.int p3), .val (.ref b1), .unset, .unset, .unset] []))
  refine Goes.step (fun _ hr => XS.aload X25.here hx rfl (hb hby at_51) rfl rfl hr) ?_
  show Goes p ee below s _ _ _ (T25.setTop (mkF m 53 #[.val (.long p1), .second, .val (.int p2), .val (.int p3), .val (.ref b1), .unset, .unset, .unset] [(.ref b1)]))
  refine Goes.step (fun _ hr => XS.iconst X25.here hx rfl (hb hby at_53) hr) ?_
  show Goes p ee below s _ _ _ (T25.setTop (mkF m 54 #[.val (.long p1), .second, .val (.int p2), .val (.int p3), .val (.ref b1), .unset, .unset, .unset] [(.int (5 : Int32)), (.ref b1)]))
  refine Goes.step (fun _ hr => XT.lloadN X25.here hx rfl (hb hby at_54) rfl  hr) ?_
  show Goes p ee below s _ _ _ (T25.setTop (mkF m 55 #[.val (.long p1), .second, .val (.int p2), .val (.int p3), .val (.ref b1), .unset, .unset, .unset] [(.long p1), (.int (5 : Int32)), (.ref b1)]))
  refine Goes.step (fun _ hr => XS.iconst X25.here hx rfl (hb hby at_55) hr) ?_
  show Goes p ee below s _ _ _ (T25.setTop (mkF m 56 #[.val (.long p1), .second, .val (.int p2), .val (.int p3), .val (.ref b1), .unset, .unset, .unset] [(.int (5 : Int32)), (.long p1), (.int (5 : Int32)), (.ref b1)]))
  have lt_b1 := A_b1.lt
  obtain ⟨v28, T28, L28, X28, hQ28, st28⟩ := own_callS X25 hx hZ (y := (⟨"com/example/hansou/hansou/RequestHeadEndPinLaw", "pick", "(JI)B"⟩ : MethodName)) hown (hw _ (List.mem_of_getElem? (i := 1) rfl)) (hw _ (List.mem_of_getElem? (i := 2) rfl)) (hw _ (List.mem_of_getElem? (i := 3) rfl)) (hw _ (List.mem_of_getElem? (i := 4) rfl)) (by decide) (argsL := [(.long p1), (.int (5 : Int32))]) (rm_pick l Z a0 hw [] p1 (5 : Int32) h25 n0 Zp26 ) e25 (W := 2) (by decide) (by decide) (by decide) (by decide) (g := (mkF m 56 #[.val (.long p1), .second, .val (.int p2), .val (.int p3), .val (.ref b1), .unset, .unset, .unset] [(.int (5 : Int32)), (.long p1), (.int (5 : Int32)), (.ref b1)])) rfl (by rw [hml]; rfl) (rest := [(.int (5 : Int32)), (.ref b1)]) (lenOf pd_0 rfl) rfl (by show 2 * 0 + _ ≤ _; exact Nat.le_of_eq rfl) (hb hby at_56)
  refine Goes.step st28 ?_
  obtain ⟨⟨z28, rfl⟩, N28, e28⟩ := hQ28
  have N29 := Fr.app N27 N28
  show Goes p ee below s _ _ _ (T28.setTop (mkF m 59 #[.val (.long p1), .second, .val (.int p2), .val (.int p3), .val (.ref b1), .unset, .unset, .unset] [(.int z28), (.int (5 : Int32)), (.ref b1)]))
  obtain ⟨T30, h30, X30, e30, W30, A30, st30⟩ := own_stB X28 hx hZ e28 A_b1 (x := z28) (j := (5 : Int32)) (by decide) (k := 5) rfl (by decide) (g := (mkF m 59 #[.val (.long p1), .second, .val (.int p2), .val (.int p3), .val (.ref b1), .unset, .unset, .unset] [(.int z28), (.int (5 : Int32)), (.ref b1)])) rfl rfl (hb hby at_59)
  refine Goes.step st30 ?_
  have Zp31 := Nat.le_trans Zp26 (Keep.of_wr W30).1
  have N32 := Fr.snoc X30 N29 ge_b1
  have A_b1 : OA Z h30 b1 .byte 6 (fun i => [(.int (nar .byte z3)), (.int (nar .byte z8)), (.int (nar .byte z13)), (.int (nar .byte z18)), (.int (nar .byte z23)), (.int (nar .byte z28))].getD i (.int 0)) := A30.congr (fun i hi => by match i, hi with | 0, _ => rfl | 1, _ => rfl | 2, _ => rfl | 3, _ => rfl | 4, _ => rfl | 5, _ => rfl | i + 6, hi => omega)
  show Goes p ee below s _ _ _ (T30.setTop (mkF m 60 #[.val (.long p1), .second, .val (.int p2), .val (.int p3), .val (.ref b1), .unset, .unset, .unset] []))
  obtain ⟨y, hy⟩ : ∃ y : Nat → Int32, y = fun i => [(nar .byte z3), (nar .byte z8), (nar .byte z13), (nar .byte z18), (nar .byte z23), (nar .byte z28)].getD i 0 := ⟨_, rfl⟩
  have A_y : OA Z h30 b1 .byte 6 (fun i => .int (y i)) := A_b1.congr (fun i hi => by subst hy; match i, hi with | 0, _ => rfl | 1, _ => rfl | 2, _ => rfl | 3, _ => rfl | 4, _ => rfl | 5, _ => rfl | i + 6, hi => omega)
  refine Goes.step (fun _ hr => XS.iloadN X30.here hx rfl (hb hby at_60) rfl  hr) ?_
  show Goes p ee below s _ _ _ (T30.setTop (mkF m 61 #[.val (.long p1), .second, .val (.int p2), .val (.int p3), .val (.ref b1), .unset, .unset, .unset] [(.int p2)]))
  refine Goes.step (X30.ldcInt hx hown (mvT hZ (hw _ (List.mem_of_getElem? (i := 7) rfl))) (g := (mkF m 61 #[.val (.long p1), .second, .val (.int p2), .val (.int p3), .val (.ref b1), .unset, .unset, .unset] [(.int p2)])) rfl (hb hby at_61)) ?_
  show Goes p ee below s _ _ _ (T30.setTop (mkF m 63 #[.val (.long p1), .second, .val (.int p2), .val (.int p3), .val (.ref b1), .unset, .unset, .unset] [(.int (2147483647 : Int32)), (.int p2)]))
  refine Goes.step (fun _ hr => XS.iand X30.here hx rfl (hb hby at_63) rfl hr) ?_
  show Goes p ee below s _ _ _ (T30.setTop (mkF m 64 #[.val (.long p1), .second, .val (.int p2), .val (.int p3), .val (.ref b1), .unset, .unset, .unset] [(.int (p2 &&& (2147483647 : Int32)))]))
  refine Goes.step (fun _ hr => XS.bipush X30.here hx rfl (hb hby at_64) hr) ?_
  show Goes p ee below s _ _ _ (T30.setTop (mkF m 66 #[.val (.long p1), .second, .val (.int p2), .val (.int p3), .val (.ref b1), .unset, .unset, .unset] [(.int (7 : Int32)), (.int (p2 &&& (2147483647 : Int32)))]))
  refine Goes.step (fun _ hr => iremM (g := (mkF m 66 #[.val (.long p1), .second, .val (.int p2), .val (.int p3), .val (.ref b1), .unset, .unset, .unset] [(.int (7 : Int32)), (.int (p2 &&& (2147483647 : Int32)))])) X30 hx rfl (hb hby at_66) rfl (by decide) hr) ?_
  show Goes p ee below s _ _ _ (T30.setTop (mkF m 67 #[.val (.long p1), .second, .val (.int p2), .val (.int p3), .val (.ref b1), .unset, .unset, .unset] [(.int ((p2 &&& (2147483647 : Int32)) % (7 : Int32)))]))
  obtain ⟨fr, hf0, hfe⟩ := own_small p2 7 (by decide) (by decide)
  have hf : fr ≤ 6 := by omega
  rw [show (p2 &&& (2147483647 : Int32)) % (7 : Int32) = Int32.ofNat fr from hfe]
  show Goes p ee below s _ _ _ (T30.setTop (mkF m 67 #[.val (.long p1), .second, .val (.int p2), .val (.int p3), .val (.ref b1), .unset, .unset, .unset] [(.int (Int32.ofNat fr))]))
  refine Goes.step (fun _ hr => XS.istore X30.here hx rfl (hb hby at_67) rfl  (l' := #[.val (.long p1), .second, .val (.int p2), .val (.int p3), .val (.ref b1), .val (.int (Int32.ofNat fr)), .unset, .unset]) rfl hr) ?_
  show Goes p ee below s _ _ _ (T30.setTop (mkF m 69 #[.val (.long p1), .second, .val (.int p2), .val (.int p3), .val (.ref b1), .val (.int (Int32.ofNat fr)), .unset, .unset] []))
  refine Goes.step (fun _ hr => XS.iloadN X30.here hx rfl (hb hby at_69) rfl  hr) ?_
  show Goes p ee below s _ _ _ (T30.setTop (mkF m 70 #[.val (.long p1), .second, .val (.int p2), .val (.int p3), .val (.ref b1), .val (.int (Int32.ofNat fr)), .unset, .unset] [(.int p3)]))
  refine Goes.step (X30.ldcInt hx hown (mvT hZ (hw _ (List.mem_of_getElem? (i := 7) rfl))) (g := (mkF m 70 #[.val (.long p1), .second, .val (.int p2), .val (.int p3), .val (.ref b1), .val (.int (Int32.ofNat fr)), .unset, .unset] [(.int p3)])) rfl (hb hby at_70)) ?_
  show Goes p ee below s _ _ _ (T30.setTop (mkF m 72 #[.val (.long p1), .second, .val (.int p2), .val (.int p3), .val (.ref b1), .val (.int (Int32.ofNat fr)), .unset, .unset] [(.int (2147483647 : Int32)), (.int p3)]))
  refine Goes.step (fun _ hr => XS.iand X30.here hx rfl (hb hby at_72) rfl hr) ?_
  show Goes p ee below s _ _ _ (T30.setTop (mkF m 73 #[.val (.long p1), .second, .val (.int p2), .val (.int p3), .val (.ref b1), .val (.int (Int32.ofNat fr)), .unset, .unset] [(.int (p3 &&& (2147483647 : Int32)))]))
  refine Goes.step (fun _ hr => XS.bipush X30.here hx rfl (hb hby at_73) hr) ?_
  show Goes p ee below s _ _ _ (T30.setTop (mkF m 75 #[.val (.long p1), .second, .val (.int p2), .val (.int p3), .val (.ref b1), .val (.int (Int32.ofNat fr)), .unset, .unset] [(.int (7 : Int32)), (.int (p3 &&& (2147483647 : Int32)))]))
  refine Goes.step (fun _ hr => iremM (g := (mkF m 75 #[.val (.long p1), .second, .val (.int p2), .val (.int p3), .val (.ref b1), .val (.int (Int32.ofNat fr)), .unset, .unset] [(.int (7 : Int32)), (.int (p3 &&& (2147483647 : Int32)))])) X30 hx rfl (hb hby at_75) rfl (by decide) hr) ?_
  show Goes p ee below s _ _ _ (T30.setTop (mkF m 76 #[.val (.long p1), .second, .val (.int p2), .val (.int p3), .val (.ref b1), .val (.int (Int32.ofNat fr)), .unset, .unset] [(.int ((p3 &&& (2147483647 : Int32)) % (7 : Int32)))]))
  obtain ⟨to, ht0, hte⟩ := own_small p3 7 (by decide) (by decide)
  have ht : to ≤ 6 := by omega
  rw [show (p3 &&& (2147483647 : Int32)) % (7 : Int32) = Int32.ofNat to from hte]
  show Goes p ee below s _ _ _ (T30.setTop (mkF m 76 #[.val (.long p1), .second, .val (.int p2), .val (.int p3), .val (.ref b1), .val (.int (Int32.ofNat fr)), .unset, .unset] [(.int (Int32.ofNat to))]))
  refine Goes.step (fun _ hr => XS.istore X30.here hx rfl (hb hby at_76) rfl  (l' := #[.val (.long p1), .second, .val (.int p2), .val (.int p3), .val (.ref b1), .val (.int (Int32.ofNat fr)), .val (.int (Int32.ofNat to)), .unset]) rfl hr) ?_
  show Goes p ee below s _ _ _ (T30.setTop (mkF m 78 #[.val (.long p1), .second, .val (.int p2), .val (.int p3), .val (.ref b1), .val (.int (Int32.ofNat fr)), .val (.int (Int32.ofNat to)), .unset] []))
  refine Goes.step (fun _ hr => XS.iconst X30.here hx rfl (hb hby at_78) hr) ?_
  show Goes p ee below s _ _ _ (T30.setTop (mkF m 79 #[.val (.long p1), .second, .val (.int p2), .val (.int p3), .val (.ref b1), .val (.int (Int32.ofNat fr)), .val (.int (Int32.ofNat to)), .unset] [(.int (-1 : Int32))]))
  refine Goes.step (fun _ hr => XS.istore X30.here hx rfl (hb hby at_79) rfl  (l' := #[.val (.long p1), .second, .val (.int p2), .val (.int p3), .val (.ref b1), .val (.int (Int32.ofNat fr)), .val (.int (Int32.ofNat to)), .val (.int (-1 : Int32))]) rfl hr) ?_
  show Goes p ee below s _ _ _ (T30.setTop (mkF m 81 #[.val (.long p1), .second, .val (.int p2), .val (.int p3), .val (.ref b1), .val (.int (Int32.ofNat fr)), .val (.int (Int32.ofNat to)), .val (.int (-1 : Int32))] []))
  refine Goes.step (fun _ hr => XS.aload X30.here hx rfl (hb hby at_81) rfl rfl hr) ?_
  show Goes p ee below s _ _ _ (T30.setTop (mkF m 83 #[.val (.long p1), .second, .val (.int p2), .val (.int p3), .val (.ref b1), .val (.int (Int32.ofNat fr)), .val (.int (Int32.ofNat to)), .val (.int (-1 : Int32))] [(.ref b1)]))
  refine Goes.step (fun _ hr => XS.iconst X30.here hx rfl (hb hby at_83) hr) ?_
  show Goes p ee below s _ _ _ (T30.setTop (mkF m 84 #[.val (.long p1), .second, .val (.int p2), .val (.int p3), .val (.ref b1), .val (.int (Int32.ofNat fr)), .val (.int (Int32.ofNat to)), .val (.int (-1 : Int32))] [(.int (2 : Int32)), (.ref b1)]))
  refine Goes.step (fun _ hr => XS.iload X30.here hx rfl (hb hby at_84) rfl  hr) ?_
  show Goes p ee below s _ _ _ (T30.setTop (mkF m 86 #[.val (.long p1), .second, .val (.int p2), .val (.int p3), .val (.ref b1), .val (.int (Int32.ofNat fr)), .val (.int (Int32.ofNat to)), .val (.int (-1 : Int32))] [(.int (Int32.ofNat fr)), (.int (2 : Int32)), (.ref b1)]))
  refine Goes.step (fun _ hr => XS.iload X30.here hx rfl (hb hby at_86) rfl  hr) ?_
  show Goes p ee below s _ _ _ (T30.setTop (mkF m 88 #[.val (.long p1), .second, .val (.int p2), .val (.int p3), .val (.ref b1), .val (.int (Int32.ofNat fr)), .val (.int (Int32.ofNat to)), .val (.int (-1 : Int32))] [(.int (Int32.ofNat to)), (.int (Int32.ofNat fr)), (.int (2 : Int32)), (.ref b1)]))
  have lt_b1 := A_b1.lt
  obtain ⟨v33, T33, L33, X33, hQ33, st33⟩ := own_callS X30 hx hZ (y := (⟨"com/example/hansou/hansou/RequestHeadEndPinLaw", "endsAt", "([BIII)Z"⟩ : MethodName)) hown (hw _ (List.mem_of_getElem? (i := 8) rfl)) (hw _ (List.mem_of_getElem? (i := 9) rfl)) (hw _ (List.mem_of_getElem? (i := 3) rfl)) (hw _ (List.mem_of_getElem? (i := 10) rfl)) (by decide) (argsL := [(.ref b1), (.int (2 : Int32)), (.int (Int32.ofNat fr)), (.int (Int32.ofNat to))]) (rm_ends l Z a0 hw [] b1 2 fr to y h30 n0 Zp31 (by decide) (by decide) hf ht A_y) e30 (W := 0) (by decide) (by decide) (by decide) (by decide) (g := (mkF m 88 #[.val (.long p1), .second, .val (.int p2), .val (.int p3), .val (.ref b1), .val (.int (Int32.ofNat fr)), .val (.int (Int32.ofNat to)), .val (.int (-1 : Int32))] [(.int (Int32.ofNat to)), (.int (Int32.ofNat fr)), (.int (2 : Int32)), (.ref b1)])) rfl (by rw [hml]; rfl) (rest := []) (lenOf pd_1 rfl) rfl (by show 2 * 0 + _ ≤ _; exact Nat.le_of_eq rfl) (hb hby at_88)
  refine Goes.step st33 ?_
  obtain ⟨hv33, N33, e33⟩ := hQ33
  have N34 := Fr.app N32 N33
  rcases hv33 with ⟨rfl, hE2⟩ | ⟨rfl, hE2⟩
  · show Goes p ee below s _ _ _ (T33.setTop (mkF m 91 #[.val (.long p1), .second, .val (.int p2), .val (.int p3), .val (.ref b1), .val (.int (Int32.ofNat fr)), .val (.int (Int32.ofNat to)), .val (.int (-1 : Int32))] [(.int (1 : Int32))]))
    refine Goes.step (fun _ hr => XS.ifNo X33.here hx rfl (hb hby at_91) rfl ((if0 _ _).trans (feq (by decide)).1) hr) ?_
    show Goes p ee below s _ _ _ (T33.setTop (mkF m 94 #[.val (.long p1), .second, .val (.int p2), .val (.int p3), .val (.ref b1), .val (.int (Int32.ofNat fr)), .val (.int (Int32.ofNat to)), .val (.int (-1 : Int32))] []))
    refine Goes.step (fun _ hr => XS.iconst X33.here hx rfl (hb hby at_94) hr) ?_
    show Goes p ee below s _ _ _ (T33.setTop (mkF m 95 #[.val (.long p1), .second, .val (.int p2), .val (.int p3), .val (.ref b1), .val (.int (Int32.ofNat fr)), .val (.int (Int32.ofNat to)), .val (.int (-1 : Int32))] [(.int (2 : Int32))]))
    refine Goes.step (fun _ hr => XS.istore X33.here hx rfl (hb hby at_95) rfl  (l' := #[.val (.long p1), .second, .val (.int p2), .val (.int p3), .val (.ref b1), .val (.int (Int32.ofNat fr)), .val (.int (Int32.ofNat to)), .val (.int (2 : Int32))]) rfl hr) ?_
    show Goes p ee below s _ _ _ (T33.setTop (mkF m 97 #[.val (.long p1), .second, .val (.int p2), .val (.int p3), .val (.ref b1), .val (.int (Int32.ofNat fr)), .val (.int (Int32.ofNat to)), .val (.int (2 : Int32))] []))
    refine Goes.step (fun _ hr => XS.goto X33.here hx rfl (pc0 := 97) (pc' := 175) rfl (hb hby at_97) (by decide) (by decide) hr) ?_
    show Goes p ee below s _ _ _ (T33.setTop (mkF m 175 #[.val (.long p1), .second, .val (.int p2), .val (.int p3), .val (.ref b1), .val (.int (Int32.ofNat fr)), .val (.int (Int32.ofNat to)), .val (.int (2 : Int32))] []))
    refine Goes.step (fun _ hr => XS.aload X33.here hx rfl (hb hby at_175) rfl rfl hr) ?_
    show Goes p ee below s _ _ _ (T33.setTop (mkF m 177 #[.val (.long p1), .second, .val (.int p2), .val (.int p3), .val (.ref b1), .val (.int (Int32.ofNat fr)), .val (.int (Int32.ofNat to)), .val (.int (2 : Int32))] [(.ref b1)]))
    refine Goes.step (fun _ hr => XS.iload X33.here hx rfl (hb hby at_177) rfl  hr) ?_
    show Goes p ee below s _ _ _ (T33.setTop (mkF m 179 #[.val (.long p1), .second, .val (.int p2), .val (.int p3), .val (.ref b1), .val (.int (Int32.ofNat fr)), .val (.int (Int32.ofNat to)), .val (.int (2 : Int32))] [(.int (Int32.ofNat fr)), (.ref b1)]))
    refine Goes.step (fun _ hr => XS.iload X33.here hx rfl (hb hby at_179) rfl  hr) ?_
    show Goes p ee below s _ _ _ (T33.setTop (mkF m 181 #[.val (.long p1), .second, .val (.int p2), .val (.int p3), .val (.ref b1), .val (.int (Int32.ofNat fr)), .val (.int (Int32.ofNat to)), .val (.int (2 : Int32))] [(.int (Int32.ofNat to)), (.int (Int32.ofNat fr)), (.ref b1)]))
    have lt_b1 := A_b1.lt
    obtain ⟨v35, T35, L35, X35, hQ35, st35⟩ := own_callS X33 hx hZ (y := (⟨"com/example/hansou/hansou/RequestHead", "end", "([BII)I"⟩ : MethodName)) hown (hw _ (List.mem_of_getElem? (i := 11) rfl)) (hw _ (List.mem_of_getElem? (i := 12) rfl)) (hw _ (List.mem_of_getElem? (i := 13) rfl)) (hw _ (List.mem_of_getElem? (i := 14) rfl)) (by decide) (argsL := [(.ref b1), (.int (Int32.ofNat fr)), (.int (Int32.ofNat to))]) (rm_end l Z a0 hw [] b1 fr to y h30 n0 Zp31 hf ht A_y) e33 (W := 0) (by decide) (by decide) (by decide) (by decide) (g := (mkF m 181 #[.val (.long p1), .second, .val (.int p2), .val (.int p3), .val (.ref b1), .val (.int (Int32.ofNat fr)), .val (.int (Int32.ofNat to)), .val (.int (2 : Int32))] [(.int (Int32.ofNat to)), (.int (Int32.ofNat fr)), (.ref b1)])) rfl (by rw [hml]; rfl) (rest := []) (lenOf pd_2 rfl) rfl (by show 2 * 0 + _ ≤ _; exact Nat.le_of_eq rfl) (hb hby at_181)
    refine Goes.step st35 ?_
    obtain ⟨hv35, N35, e35⟩ := hQ35
    have N36 := Fr.app N34 N35
    have ht35 := own_tie hv35 (by omega) (Or.inr ⟨2, rfl, hE2, fun e q1 q2 => by omega⟩)
    subst ht35
    show Goes p ee below s _ _ _ (T35.setTop (mkF m 184 #[.val (.long p1), .second, .val (.int p2), .val (.int p3), .val (.ref b1), .val (.int (Int32.ofNat fr)), .val (.int (Int32.ofNat to)), .val (.int (2 : Int32))] [(.int (2 : Int32))]))
    refine Goes.step (fun _ hr => XS.iload X35.here hx rfl (hb hby at_184) rfl  hr) ?_
    show Goes p ee below s _ _ _ (T35.setTop (mkF m 186 #[.val (.long p1), .second, .val (.int p2), .val (.int p3), .val (.ref b1), .val (.int (Int32.ofNat fr)), .val (.int (Int32.ofNat to)), .val (.int (2 : Int32))] [(.int (2 : Int32)), (.int (2 : Int32))]))
    refine Goes.step (fun _ hr => XS.icmpNo X35.here hx rfl (hb hby at_186) rfl (teq rfl).2 hr) ?_
    show Goes p ee below s _ _ _ (T35.setTop (mkF m 189 #[.val (.long p1), .second, .val (.int p2), .val (.int p3), .val (.ref b1), .val (.int (Int32.ofNat fr)), .val (.int (Int32.ofNat to)), .val (.int (2 : Int32))] []))
    refine Goes.step (fun _ hr => XS.iconst X35.here hx rfl (hb hby at_189) hr) ?_
    show Goes p ee below s _ _ _ (T35.setTop (mkF m 190 #[.val (.long p1), .second, .val (.int p2), .val (.int p3), .val (.ref b1), .val (.int (Int32.ofNat fr)), .val (.int (Int32.ofNat to)), .val (.int (2 : Int32))] [(.int (1 : Int32))]))
    refine Goes.step (fun _ hr => XS.goto X35.here hx rfl (pc0 := 190) (pc' := 194) rfl (hb hby at_190) (by decide) (by decide) hr) ?_
    show Goes p ee below s _ _ _ (T35.setTop (mkF m 194 #[.val (.long p1), .second, .val (.int p2), .val (.int p3), .val (.ref b1), .val (.int (Int32.ofNat fr)), .val (.int (Int32.ofNat to)), .val (.int (2 : Int32))] [(.int (1 : Int32))]))
    refine Goes.retZ X35 hx Bd.notSynchronized Bd.returns (by simp) rfl (hb hby at_194) (by decide) (by decide) ?_
    exact ⟨rfl, N36⟩
  · show Goes p ee below s _ _ _ (T33.setTop (mkF m 91 #[.val (.long p1), .second, .val (.int p2), .val (.int p3), .val (.ref b1), .val (.int (Int32.ofNat fr)), .val (.int (Int32.ofNat to)), .val (.int (-1 : Int32))] [(.int (0 : Int32))]))
    refine Goes.step (fun _ hr => XS.ifYes X33.here hx rfl (pc0 := 91) (pc' := 100) rfl (hb hby at_91) rfl ((if0 _ _).trans (teq rfl).1) (by decide) (by decide) hr) ?_
    show Goes p ee below s _ _ _ (T33.setTop (mkF m 100 #[.val (.long p1), .second, .val (.int p2), .val (.int p3), .val (.ref b1), .val (.int (Int32.ofNat fr)), .val (.int (Int32.ofNat to)), .val (.int (-1 : Int32))] []))
    refine Goes.step (fun _ hr => XS.aload X33.here hx rfl (hb hby at_100) rfl rfl hr) ?_
    show Goes p ee below s _ _ _ (T33.setTop (mkF m 102 #[.val (.long p1), .second, .val (.int p2), .val (.int p3), .val (.ref b1), .val (.int (Int32.ofNat fr)), .val (.int (Int32.ofNat to)), .val (.int (-1 : Int32))] [(.ref b1)]))
    refine Goes.step (fun _ hr => XS.iconst X33.here hx rfl (hb hby at_102) hr) ?_
    show Goes p ee below s _ _ _ (T33.setTop (mkF m 103 #[.val (.long p1), .second, .val (.int p2), .val (.int p3), .val (.ref b1), .val (.int (Int32.ofNat fr)), .val (.int (Int32.ofNat to)), .val (.int (-1 : Int32))] [(.int (3 : Int32)), (.ref b1)]))
    refine Goes.step (fun _ hr => XS.iload X33.here hx rfl (hb hby at_103) rfl  hr) ?_
    show Goes p ee below s _ _ _ (T33.setTop (mkF m 105 #[.val (.long p1), .second, .val (.int p2), .val (.int p3), .val (.ref b1), .val (.int (Int32.ofNat fr)), .val (.int (Int32.ofNat to)), .val (.int (-1 : Int32))] [(.int (Int32.ofNat fr)), (.int (3 : Int32)), (.ref b1)]))
    refine Goes.step (fun _ hr => XS.iload X33.here hx rfl (hb hby at_105) rfl  hr) ?_
    show Goes p ee below s _ _ _ (T33.setTop (mkF m 107 #[.val (.long p1), .second, .val (.int p2), .val (.int p3), .val (.ref b1), .val (.int (Int32.ofNat fr)), .val (.int (Int32.ofNat to)), .val (.int (-1 : Int32))] [(.int (Int32.ofNat to)), (.int (Int32.ofNat fr)), (.int (3 : Int32)), (.ref b1)]))
    have lt_b1 := A_b1.lt
    obtain ⟨v37, T37, L37, X37, hQ37, st37⟩ := own_callS X33 hx hZ (y := (⟨"com/example/hansou/hansou/RequestHeadEndPinLaw", "endsAt", "([BIII)Z"⟩ : MethodName)) hown (hw _ (List.mem_of_getElem? (i := 8) rfl)) (hw _ (List.mem_of_getElem? (i := 9) rfl)) (hw _ (List.mem_of_getElem? (i := 3) rfl)) (hw _ (List.mem_of_getElem? (i := 10) rfl)) (by decide) (argsL := [(.ref b1), (.int (3 : Int32)), (.int (Int32.ofNat fr)), (.int (Int32.ofNat to))]) (rm_ends l Z a0 hw [] b1 3 fr to y h30 n0 Zp31 (by decide) (by decide) hf ht A_y) e33 (W := 0) (by decide) (by decide) (by decide) (by decide) (g := (mkF m 107 #[.val (.long p1), .second, .val (.int p2), .val (.int p3), .val (.ref b1), .val (.int (Int32.ofNat fr)), .val (.int (Int32.ofNat to)), .val (.int (-1 : Int32))] [(.int (Int32.ofNat to)), (.int (Int32.ofNat fr)), (.int (3 : Int32)), (.ref b1)])) rfl (by rw [hml]; rfl) (rest := []) (lenOf pd_1 rfl) rfl (by show 2 * 0 + _ ≤ _; exact Nat.le_of_eq rfl) (hb hby at_107)
    refine Goes.step st37 ?_
    obtain ⟨hv37, N37, e37⟩ := hQ37
    have N38 := Fr.app N34 N37
    rcases hv37 with ⟨rfl, hE3⟩ | ⟨rfl, hE3⟩
    · show Goes p ee below s _ _ _ (T37.setTop (mkF m 110 #[.val (.long p1), .second, .val (.int p2), .val (.int p3), .val (.ref b1), .val (.int (Int32.ofNat fr)), .val (.int (Int32.ofNat to)), .val (.int (-1 : Int32))] [(.int (1 : Int32))]))
      refine Goes.step (fun _ hr => XS.ifNo X37.here hx rfl (hb hby at_110) rfl ((if0 _ _).trans (feq (by decide)).1) hr) ?_
      show Goes p ee below s _ _ _ (T37.setTop (mkF m 113 #[.val (.long p1), .second, .val (.int p2), .val (.int p3), .val (.ref b1), .val (.int (Int32.ofNat fr)), .val (.int (Int32.ofNat to)), .val (.int (-1 : Int32))] []))
      refine Goes.step (fun _ hr => XS.iconst X37.here hx rfl (hb hby at_113) hr) ?_
      show Goes p ee below s _ _ _ (T37.setTop (mkF m 114 #[.val (.long p1), .second, .val (.int p2), .val (.int p3), .val (.ref b1), .val (.int (Int32.ofNat fr)), .val (.int (Int32.ofNat to)), .val (.int (-1 : Int32))] [(.int (3 : Int32))]))
      refine Goes.step (fun _ hr => XS.istore X37.here hx rfl (hb hby at_114) rfl  (l' := #[.val (.long p1), .second, .val (.int p2), .val (.int p3), .val (.ref b1), .val (.int (Int32.ofNat fr)), .val (.int (Int32.ofNat to)), .val (.int (3 : Int32))]) rfl hr) ?_
      show Goes p ee below s _ _ _ (T37.setTop (mkF m 116 #[.val (.long p1), .second, .val (.int p2), .val (.int p3), .val (.ref b1), .val (.int (Int32.ofNat fr)), .val (.int (Int32.ofNat to)), .val (.int (3 : Int32))] []))
      refine Goes.step (fun _ hr => XS.goto X37.here hx rfl (pc0 := 116) (pc' := 175) rfl (hb hby at_116) (by decide) (by decide) hr) ?_
      show Goes p ee below s _ _ _ (T37.setTop (mkF m 175 #[.val (.long p1), .second, .val (.int p2), .val (.int p3), .val (.ref b1), .val (.int (Int32.ofNat fr)), .val (.int (Int32.ofNat to)), .val (.int (3 : Int32))] []))
      refine Goes.step (fun _ hr => XS.aload X37.here hx rfl (hb hby at_175) rfl rfl hr) ?_
      show Goes p ee below s _ _ _ (T37.setTop (mkF m 177 #[.val (.long p1), .second, .val (.int p2), .val (.int p3), .val (.ref b1), .val (.int (Int32.ofNat fr)), .val (.int (Int32.ofNat to)), .val (.int (3 : Int32))] [(.ref b1)]))
      refine Goes.step (fun _ hr => XS.iload X37.here hx rfl (hb hby at_177) rfl  hr) ?_
      show Goes p ee below s _ _ _ (T37.setTop (mkF m 179 #[.val (.long p1), .second, .val (.int p2), .val (.int p3), .val (.ref b1), .val (.int (Int32.ofNat fr)), .val (.int (Int32.ofNat to)), .val (.int (3 : Int32))] [(.int (Int32.ofNat fr)), (.ref b1)]))
      refine Goes.step (fun _ hr => XS.iload X37.here hx rfl (hb hby at_179) rfl  hr) ?_
      show Goes p ee below s _ _ _ (T37.setTop (mkF m 181 #[.val (.long p1), .second, .val (.int p2), .val (.int p3), .val (.ref b1), .val (.int (Int32.ofNat fr)), .val (.int (Int32.ofNat to)), .val (.int (3 : Int32))] [(.int (Int32.ofNat to)), (.int (Int32.ofNat fr)), (.ref b1)]))
      have lt_b1 := A_b1.lt
      obtain ⟨v39, T39, L39, X39, hQ39, st39⟩ := own_callS X37 hx hZ (y := (⟨"com/example/hansou/hansou/RequestHead", "end", "([BII)I"⟩ : MethodName)) hown (hw _ (List.mem_of_getElem? (i := 11) rfl)) (hw _ (List.mem_of_getElem? (i := 12) rfl)) (hw _ (List.mem_of_getElem? (i := 13) rfl)) (hw _ (List.mem_of_getElem? (i := 14) rfl)) (by decide) (argsL := [(.ref b1), (.int (Int32.ofNat fr)), (.int (Int32.ofNat to))]) (rm_end l Z a0 hw [] b1 fr to y h30 n0 Zp31 hf ht A_y) e37 (W := 0) (by decide) (by decide) (by decide) (by decide) (g := (mkF m 181 #[.val (.long p1), .second, .val (.int p2), .val (.int p3), .val (.ref b1), .val (.int (Int32.ofNat fr)), .val (.int (Int32.ofNat to)), .val (.int (3 : Int32))] [(.int (Int32.ofNat to)), (.int (Int32.ofNat fr)), (.ref b1)])) rfl (by rw [hml]; rfl) (rest := []) (lenOf pd_2 rfl) rfl (by show 2 * 0 + _ ≤ _; exact Nat.le_of_eq rfl) (hb hby at_181)
      refine Goes.step st39 ?_
      obtain ⟨hv39, N39, e39⟩ := hQ39
      have N40 := Fr.app N38 N39
      have ht39 := own_tie hv39 (by omega) (Or.inr ⟨3, rfl, hE3, fun e q1 q2 => by
        have q : e = 2 := by omega
        rcases q with rfl <;> assumption⟩)
      subst ht39
      show Goes p ee below s _ _ _ (T39.setTop (mkF m 184 #[.val (.long p1), .second, .val (.int p2), .val (.int p3), .val (.ref b1), .val (.int (Int32.ofNat fr)), .val (.int (Int32.ofNat to)), .val (.int (3 : Int32))] [(.int (3 : Int32))]))
      refine Goes.step (fun _ hr => XS.iload X39.here hx rfl (hb hby at_184) rfl  hr) ?_
      show Goes p ee below s _ _ _ (T39.setTop (mkF m 186 #[.val (.long p1), .second, .val (.int p2), .val (.int p3), .val (.ref b1), .val (.int (Int32.ofNat fr)), .val (.int (Int32.ofNat to)), .val (.int (3 : Int32))] [(.int (3 : Int32)), (.int (3 : Int32))]))
      refine Goes.step (fun _ hr => XS.icmpNo X39.here hx rfl (hb hby at_186) rfl (teq rfl).2 hr) ?_
      show Goes p ee below s _ _ _ (T39.setTop (mkF m 189 #[.val (.long p1), .second, .val (.int p2), .val (.int p3), .val (.ref b1), .val (.int (Int32.ofNat fr)), .val (.int (Int32.ofNat to)), .val (.int (3 : Int32))] []))
      refine Goes.step (fun _ hr => XS.iconst X39.here hx rfl (hb hby at_189) hr) ?_
      show Goes p ee below s _ _ _ (T39.setTop (mkF m 190 #[.val (.long p1), .second, .val (.int p2), .val (.int p3), .val (.ref b1), .val (.int (Int32.ofNat fr)), .val (.int (Int32.ofNat to)), .val (.int (3 : Int32))] [(.int (1 : Int32))]))
      refine Goes.step (fun _ hr => XS.goto X39.here hx rfl (pc0 := 190) (pc' := 194) rfl (hb hby at_190) (by decide) (by decide) hr) ?_
      show Goes p ee below s _ _ _ (T39.setTop (mkF m 194 #[.val (.long p1), .second, .val (.int p2), .val (.int p3), .val (.ref b1), .val (.int (Int32.ofNat fr)), .val (.int (Int32.ofNat to)), .val (.int (3 : Int32))] [(.int (1 : Int32))]))
      refine Goes.retZ X39 hx Bd.notSynchronized Bd.returns (by simp) rfl (hb hby at_194) (by decide) (by decide) ?_
      exact ⟨rfl, N40⟩
    · show Goes p ee below s _ _ _ (T37.setTop (mkF m 110 #[.val (.long p1), .second, .val (.int p2), .val (.int p3), .val (.ref b1), .val (.int (Int32.ofNat fr)), .val (.int (Int32.ofNat to)), .val (.int (-1 : Int32))] [(.int (0 : Int32))]))
      refine Goes.step (fun _ hr => XS.ifYes X37.here hx rfl (pc0 := 110) (pc' := 119) rfl (hb hby at_110) rfl ((if0 _ _).trans (teq rfl).1) (by decide) (by decide) hr) ?_
      show Goes p ee below s _ _ _ (T37.setTop (mkF m 119 #[.val (.long p1), .second, .val (.int p2), .val (.int p3), .val (.ref b1), .val (.int (Int32.ofNat fr)), .val (.int (Int32.ofNat to)), .val (.int (-1 : Int32))] []))
      refine Goes.step (fun _ hr => XS.aload X37.here hx rfl (hb hby at_119) rfl rfl hr) ?_
      show Goes p ee below s _ _ _ (T37.setTop (mkF m 121 #[.val (.long p1), .second, .val (.int p2), .val (.int p3), .val (.ref b1), .val (.int (Int32.ofNat fr)), .val (.int (Int32.ofNat to)), .val (.int (-1 : Int32))] [(.ref b1)]))
      refine Goes.step (fun _ hr => XS.iconst X37.here hx rfl (hb hby at_121) hr) ?_
      show Goes p ee below s _ _ _ (T37.setTop (mkF m 122 #[.val (.long p1), .second, .val (.int p2), .val (.int p3), .val (.ref b1), .val (.int (Int32.ofNat fr)), .val (.int (Int32.ofNat to)), .val (.int (-1 : Int32))] [(.int (4 : Int32)), (.ref b1)]))
      refine Goes.step (fun _ hr => XS.iload X37.here hx rfl (hb hby at_122) rfl  hr) ?_
      show Goes p ee below s _ _ _ (T37.setTop (mkF m 124 #[.val (.long p1), .second, .val (.int p2), .val (.int p3), .val (.ref b1), .val (.int (Int32.ofNat fr)), .val (.int (Int32.ofNat to)), .val (.int (-1 : Int32))] [(.int (Int32.ofNat fr)), (.int (4 : Int32)), (.ref b1)]))
      refine Goes.step (fun _ hr => XS.iload X37.here hx rfl (hb hby at_124) rfl  hr) ?_
      show Goes p ee below s _ _ _ (T37.setTop (mkF m 126 #[.val (.long p1), .second, .val (.int p2), .val (.int p3), .val (.ref b1), .val (.int (Int32.ofNat fr)), .val (.int (Int32.ofNat to)), .val (.int (-1 : Int32))] [(.int (Int32.ofNat to)), (.int (Int32.ofNat fr)), (.int (4 : Int32)), (.ref b1)]))
      have lt_b1 := A_b1.lt
      obtain ⟨v41, T41, L41, X41, hQ41, st41⟩ := own_callS X37 hx hZ (y := (⟨"com/example/hansou/hansou/RequestHeadEndPinLaw", "endsAt", "([BIII)Z"⟩ : MethodName)) hown (hw _ (List.mem_of_getElem? (i := 8) rfl)) (hw _ (List.mem_of_getElem? (i := 9) rfl)) (hw _ (List.mem_of_getElem? (i := 3) rfl)) (hw _ (List.mem_of_getElem? (i := 10) rfl)) (by decide) (argsL := [(.ref b1), (.int (4 : Int32)), (.int (Int32.ofNat fr)), (.int (Int32.ofNat to))]) (rm_ends l Z a0 hw [] b1 4 fr to y h30 n0 Zp31 (by decide) (by decide) hf ht A_y) e37 (W := 0) (by decide) (by decide) (by decide) (by decide) (g := (mkF m 126 #[.val (.long p1), .second, .val (.int p2), .val (.int p3), .val (.ref b1), .val (.int (Int32.ofNat fr)), .val (.int (Int32.ofNat to)), .val (.int (-1 : Int32))] [(.int (Int32.ofNat to)), (.int (Int32.ofNat fr)), (.int (4 : Int32)), (.ref b1)])) rfl (by rw [hml]; rfl) (rest := []) (lenOf pd_1 rfl) rfl (by show 2 * 0 + _ ≤ _; exact Nat.le_of_eq rfl) (hb hby at_126)
      refine Goes.step st41 ?_
      obtain ⟨hv41, N41, e41⟩ := hQ41
      have N42 := Fr.app N38 N41
      rcases hv41 with ⟨rfl, hE4⟩ | ⟨rfl, hE4⟩
      · show Goes p ee below s _ _ _ (T41.setTop (mkF m 129 #[.val (.long p1), .second, .val (.int p2), .val (.int p3), .val (.ref b1), .val (.int (Int32.ofNat fr)), .val (.int (Int32.ofNat to)), .val (.int (-1 : Int32))] [(.int (1 : Int32))]))
        refine Goes.step (fun _ hr => XS.ifNo X41.here hx rfl (hb hby at_129) rfl ((if0 _ _).trans (feq (by decide)).1) hr) ?_
        show Goes p ee below s _ _ _ (T41.setTop (mkF m 132 #[.val (.long p1), .second, .val (.int p2), .val (.int p3), .val (.ref b1), .val (.int (Int32.ofNat fr)), .val (.int (Int32.ofNat to)), .val (.int (-1 : Int32))] []))
        refine Goes.step (fun _ hr => XS.iconst X41.here hx rfl (hb hby at_132) hr) ?_
        show Goes p ee below s _ _ _ (T41.setTop (mkF m 133 #[.val (.long p1), .second, .val (.int p2), .val (.int p3), .val (.ref b1), .val (.int (Int32.ofNat fr)), .val (.int (Int32.ofNat to)), .val (.int (-1 : Int32))] [(.int (4 : Int32))]))
        refine Goes.step (fun _ hr => XS.istore X41.here hx rfl (hb hby at_133) rfl  (l' := #[.val (.long p1), .second, .val (.int p2), .val (.int p3), .val (.ref b1), .val (.int (Int32.ofNat fr)), .val (.int (Int32.ofNat to)), .val (.int (4 : Int32))]) rfl hr) ?_
        show Goes p ee below s _ _ _ (T41.setTop (mkF m 135 #[.val (.long p1), .second, .val (.int p2), .val (.int p3), .val (.ref b1), .val (.int (Int32.ofNat fr)), .val (.int (Int32.ofNat to)), .val (.int (4 : Int32))] []))
        refine Goes.step (fun _ hr => XS.goto X41.here hx rfl (pc0 := 135) (pc' := 175) rfl (hb hby at_135) (by decide) (by decide) hr) ?_
        show Goes p ee below s _ _ _ (T41.setTop (mkF m 175 #[.val (.long p1), .second, .val (.int p2), .val (.int p3), .val (.ref b1), .val (.int (Int32.ofNat fr)), .val (.int (Int32.ofNat to)), .val (.int (4 : Int32))] []))
        refine Goes.step (fun _ hr => XS.aload X41.here hx rfl (hb hby at_175) rfl rfl hr) ?_
        show Goes p ee below s _ _ _ (T41.setTop (mkF m 177 #[.val (.long p1), .second, .val (.int p2), .val (.int p3), .val (.ref b1), .val (.int (Int32.ofNat fr)), .val (.int (Int32.ofNat to)), .val (.int (4 : Int32))] [(.ref b1)]))
        refine Goes.step (fun _ hr => XS.iload X41.here hx rfl (hb hby at_177) rfl  hr) ?_
        show Goes p ee below s _ _ _ (T41.setTop (mkF m 179 #[.val (.long p1), .second, .val (.int p2), .val (.int p3), .val (.ref b1), .val (.int (Int32.ofNat fr)), .val (.int (Int32.ofNat to)), .val (.int (4 : Int32))] [(.int (Int32.ofNat fr)), (.ref b1)]))
        refine Goes.step (fun _ hr => XS.iload X41.here hx rfl (hb hby at_179) rfl  hr) ?_
        show Goes p ee below s _ _ _ (T41.setTop (mkF m 181 #[.val (.long p1), .second, .val (.int p2), .val (.int p3), .val (.ref b1), .val (.int (Int32.ofNat fr)), .val (.int (Int32.ofNat to)), .val (.int (4 : Int32))] [(.int (Int32.ofNat to)), (.int (Int32.ofNat fr)), (.ref b1)]))
        have lt_b1 := A_b1.lt
        obtain ⟨v43, T43, L43, X43, hQ43, st43⟩ := own_callS X41 hx hZ (y := (⟨"com/example/hansou/hansou/RequestHead", "end", "([BII)I"⟩ : MethodName)) hown (hw _ (List.mem_of_getElem? (i := 11) rfl)) (hw _ (List.mem_of_getElem? (i := 12) rfl)) (hw _ (List.mem_of_getElem? (i := 13) rfl)) (hw _ (List.mem_of_getElem? (i := 14) rfl)) (by decide) (argsL := [(.ref b1), (.int (Int32.ofNat fr)), (.int (Int32.ofNat to))]) (rm_end l Z a0 hw [] b1 fr to y h30 n0 Zp31 hf ht A_y) e41 (W := 0) (by decide) (by decide) (by decide) (by decide) (g := (mkF m 181 #[.val (.long p1), .second, .val (.int p2), .val (.int p3), .val (.ref b1), .val (.int (Int32.ofNat fr)), .val (.int (Int32.ofNat to)), .val (.int (4 : Int32))] [(.int (Int32.ofNat to)), (.int (Int32.ofNat fr)), (.ref b1)])) rfl (by rw [hml]; rfl) (rest := []) (lenOf pd_2 rfl) rfl (by show 2 * 0 + _ ≤ _; exact Nat.le_of_eq rfl) (hb hby at_181)
        refine Goes.step st43 ?_
        obtain ⟨hv43, N43, e43⟩ := hQ43
        have N44 := Fr.app N42 N43
        have ht43 := own_tie hv43 (by omega) (Or.inr ⟨4, rfl, hE4, fun e q1 q2 => by
          have q : e = 2 ∨ e = 3 := by omega
          rcases q with rfl | rfl <;> assumption⟩)
        subst ht43
        show Goes p ee below s _ _ _ (T43.setTop (mkF m 184 #[.val (.long p1), .second, .val (.int p2), .val (.int p3), .val (.ref b1), .val (.int (Int32.ofNat fr)), .val (.int (Int32.ofNat to)), .val (.int (4 : Int32))] [(.int (4 : Int32))]))
        refine Goes.step (fun _ hr => XS.iload X43.here hx rfl (hb hby at_184) rfl  hr) ?_
        show Goes p ee below s _ _ _ (T43.setTop (mkF m 186 #[.val (.long p1), .second, .val (.int p2), .val (.int p3), .val (.ref b1), .val (.int (Int32.ofNat fr)), .val (.int (Int32.ofNat to)), .val (.int (4 : Int32))] [(.int (4 : Int32)), (.int (4 : Int32))]))
        refine Goes.step (fun _ hr => XS.icmpNo X43.here hx rfl (hb hby at_186) rfl (teq rfl).2 hr) ?_
        show Goes p ee below s _ _ _ (T43.setTop (mkF m 189 #[.val (.long p1), .second, .val (.int p2), .val (.int p3), .val (.ref b1), .val (.int (Int32.ofNat fr)), .val (.int (Int32.ofNat to)), .val (.int (4 : Int32))] []))
        refine Goes.step (fun _ hr => XS.iconst X43.here hx rfl (hb hby at_189) hr) ?_
        show Goes p ee below s _ _ _ (T43.setTop (mkF m 190 #[.val (.long p1), .second, .val (.int p2), .val (.int p3), .val (.ref b1), .val (.int (Int32.ofNat fr)), .val (.int (Int32.ofNat to)), .val (.int (4 : Int32))] [(.int (1 : Int32))]))
        refine Goes.step (fun _ hr => XS.goto X43.here hx rfl (pc0 := 190) (pc' := 194) rfl (hb hby at_190) (by decide) (by decide) hr) ?_
        show Goes p ee below s _ _ _ (T43.setTop (mkF m 194 #[.val (.long p1), .second, .val (.int p2), .val (.int p3), .val (.ref b1), .val (.int (Int32.ofNat fr)), .val (.int (Int32.ofNat to)), .val (.int (4 : Int32))] [(.int (1 : Int32))]))
        refine Goes.retZ X43 hx Bd.notSynchronized Bd.returns (by simp) rfl (hb hby at_194) (by decide) (by decide) ?_
        exact ⟨rfl, N44⟩
      · show Goes p ee below s _ _ _ (T41.setTop (mkF m 129 #[.val (.long p1), .second, .val (.int p2), .val (.int p3), .val (.ref b1), .val (.int (Int32.ofNat fr)), .val (.int (Int32.ofNat to)), .val (.int (-1 : Int32))] [(.int (0 : Int32))]))
        refine Goes.step (fun _ hr => XS.ifYes X41.here hx rfl (pc0 := 129) (pc' := 138) rfl (hb hby at_129) rfl ((if0 _ _).trans (teq rfl).1) (by decide) (by decide) hr) ?_
        show Goes p ee below s _ _ _ (T41.setTop (mkF m 138 #[.val (.long p1), .second, .val (.int p2), .val (.int p3), .val (.ref b1), .val (.int (Int32.ofNat fr)), .val (.int (Int32.ofNat to)), .val (.int (-1 : Int32))] []))
        refine Goes.step (fun _ hr => XS.aload X41.here hx rfl (hb hby at_138) rfl rfl hr) ?_
        show Goes p ee below s _ _ _ (T41.setTop (mkF m 140 #[.val (.long p1), .second, .val (.int p2), .val (.int p3), .val (.ref b1), .val (.int (Int32.ofNat fr)), .val (.int (Int32.ofNat to)), .val (.int (-1 : Int32))] [(.ref b1)]))
        refine Goes.step (fun _ hr => XS.iconst X41.here hx rfl (hb hby at_140) hr) ?_
        show Goes p ee below s _ _ _ (T41.setTop (mkF m 141 #[.val (.long p1), .second, .val (.int p2), .val (.int p3), .val (.ref b1), .val (.int (Int32.ofNat fr)), .val (.int (Int32.ofNat to)), .val (.int (-1 : Int32))] [(.int (5 : Int32)), (.ref b1)]))
        refine Goes.step (fun _ hr => XS.iload X41.here hx rfl (hb hby at_141) rfl  hr) ?_
        show Goes p ee below s _ _ _ (T41.setTop (mkF m 143 #[.val (.long p1), .second, .val (.int p2), .val (.int p3), .val (.ref b1), .val (.int (Int32.ofNat fr)), .val (.int (Int32.ofNat to)), .val (.int (-1 : Int32))] [(.int (Int32.ofNat fr)), (.int (5 : Int32)), (.ref b1)]))
        refine Goes.step (fun _ hr => XS.iload X41.here hx rfl (hb hby at_143) rfl  hr) ?_
        show Goes p ee below s _ _ _ (T41.setTop (mkF m 145 #[.val (.long p1), .second, .val (.int p2), .val (.int p3), .val (.ref b1), .val (.int (Int32.ofNat fr)), .val (.int (Int32.ofNat to)), .val (.int (-1 : Int32))] [(.int (Int32.ofNat to)), (.int (Int32.ofNat fr)), (.int (5 : Int32)), (.ref b1)]))
        have lt_b1 := A_b1.lt
        obtain ⟨v45, T45, L45, X45, hQ45, st45⟩ := own_callS X41 hx hZ (y := (⟨"com/example/hansou/hansou/RequestHeadEndPinLaw", "endsAt", "([BIII)Z"⟩ : MethodName)) hown (hw _ (List.mem_of_getElem? (i := 8) rfl)) (hw _ (List.mem_of_getElem? (i := 9) rfl)) (hw _ (List.mem_of_getElem? (i := 3) rfl)) (hw _ (List.mem_of_getElem? (i := 10) rfl)) (by decide) (argsL := [(.ref b1), (.int (5 : Int32)), (.int (Int32.ofNat fr)), (.int (Int32.ofNat to))]) (rm_ends l Z a0 hw [] b1 5 fr to y h30 n0 Zp31 (by decide) (by decide) hf ht A_y) e41 (W := 0) (by decide) (by decide) (by decide) (by decide) (g := (mkF m 145 #[.val (.long p1), .second, .val (.int p2), .val (.int p3), .val (.ref b1), .val (.int (Int32.ofNat fr)), .val (.int (Int32.ofNat to)), .val (.int (-1 : Int32))] [(.int (Int32.ofNat to)), (.int (Int32.ofNat fr)), (.int (5 : Int32)), (.ref b1)])) rfl (by rw [hml]; rfl) (rest := []) (lenOf pd_1 rfl) rfl (by show 2 * 0 + _ ≤ _; exact Nat.le_of_eq rfl) (hb hby at_145)
        refine Goes.step st45 ?_
        obtain ⟨hv45, N45, e45⟩ := hQ45
        have N46 := Fr.app N42 N45
        rcases hv45 with ⟨rfl, hE5⟩ | ⟨rfl, hE5⟩
        · show Goes p ee below s _ _ _ (T45.setTop (mkF m 148 #[.val (.long p1), .second, .val (.int p2), .val (.int p3), .val (.ref b1), .val (.int (Int32.ofNat fr)), .val (.int (Int32.ofNat to)), .val (.int (-1 : Int32))] [(.int (1 : Int32))]))
          refine Goes.step (fun _ hr => XS.ifNo X45.here hx rfl (hb hby at_148) rfl ((if0 _ _).trans (feq (by decide)).1) hr) ?_
          show Goes p ee below s _ _ _ (T45.setTop (mkF m 151 #[.val (.long p1), .second, .val (.int p2), .val (.int p3), .val (.ref b1), .val (.int (Int32.ofNat fr)), .val (.int (Int32.ofNat to)), .val (.int (-1 : Int32))] []))
          refine Goes.step (fun _ hr => XS.iconst X45.here hx rfl (hb hby at_151) hr) ?_
          show Goes p ee below s _ _ _ (T45.setTop (mkF m 152 #[.val (.long p1), .second, .val (.int p2), .val (.int p3), .val (.ref b1), .val (.int (Int32.ofNat fr)), .val (.int (Int32.ofNat to)), .val (.int (-1 : Int32))] [(.int (5 : Int32))]))
          refine Goes.step (fun _ hr => XS.istore X45.here hx rfl (hb hby at_152) rfl  (l' := #[.val (.long p1), .second, .val (.int p2), .val (.int p3), .val (.ref b1), .val (.int (Int32.ofNat fr)), .val (.int (Int32.ofNat to)), .val (.int (5 : Int32))]) rfl hr) ?_
          show Goes p ee below s _ _ _ (T45.setTop (mkF m 154 #[.val (.long p1), .second, .val (.int p2), .val (.int p3), .val (.ref b1), .val (.int (Int32.ofNat fr)), .val (.int (Int32.ofNat to)), .val (.int (5 : Int32))] []))
          refine Goes.step (fun _ hr => XS.goto X45.here hx rfl (pc0 := 154) (pc' := 175) rfl (hb hby at_154) (by decide) (by decide) hr) ?_
          show Goes p ee below s _ _ _ (T45.setTop (mkF m 175 #[.val (.long p1), .second, .val (.int p2), .val (.int p3), .val (.ref b1), .val (.int (Int32.ofNat fr)), .val (.int (Int32.ofNat to)), .val (.int (5 : Int32))] []))
          refine Goes.step (fun _ hr => XS.aload X45.here hx rfl (hb hby at_175) rfl rfl hr) ?_
          show Goes p ee below s _ _ _ (T45.setTop (mkF m 177 #[.val (.long p1), .second, .val (.int p2), .val (.int p3), .val (.ref b1), .val (.int (Int32.ofNat fr)), .val (.int (Int32.ofNat to)), .val (.int (5 : Int32))] [(.ref b1)]))
          refine Goes.step (fun _ hr => XS.iload X45.here hx rfl (hb hby at_177) rfl  hr) ?_
          show Goes p ee below s _ _ _ (T45.setTop (mkF m 179 #[.val (.long p1), .second, .val (.int p2), .val (.int p3), .val (.ref b1), .val (.int (Int32.ofNat fr)), .val (.int (Int32.ofNat to)), .val (.int (5 : Int32))] [(.int (Int32.ofNat fr)), (.ref b1)]))
          refine Goes.step (fun _ hr => XS.iload X45.here hx rfl (hb hby at_179) rfl  hr) ?_
          show Goes p ee below s _ _ _ (T45.setTop (mkF m 181 #[.val (.long p1), .second, .val (.int p2), .val (.int p3), .val (.ref b1), .val (.int (Int32.ofNat fr)), .val (.int (Int32.ofNat to)), .val (.int (5 : Int32))] [(.int (Int32.ofNat to)), (.int (Int32.ofNat fr)), (.ref b1)]))
          have lt_b1 := A_b1.lt
          obtain ⟨v47, T47, L47, X47, hQ47, st47⟩ := own_callS X45 hx hZ (y := (⟨"com/example/hansou/hansou/RequestHead", "end", "([BII)I"⟩ : MethodName)) hown (hw _ (List.mem_of_getElem? (i := 11) rfl)) (hw _ (List.mem_of_getElem? (i := 12) rfl)) (hw _ (List.mem_of_getElem? (i := 13) rfl)) (hw _ (List.mem_of_getElem? (i := 14) rfl)) (by decide) (argsL := [(.ref b1), (.int (Int32.ofNat fr)), (.int (Int32.ofNat to))]) (rm_end l Z a0 hw [] b1 fr to y h30 n0 Zp31 hf ht A_y) e45 (W := 0) (by decide) (by decide) (by decide) (by decide) (g := (mkF m 181 #[.val (.long p1), .second, .val (.int p2), .val (.int p3), .val (.ref b1), .val (.int (Int32.ofNat fr)), .val (.int (Int32.ofNat to)), .val (.int (5 : Int32))] [(.int (Int32.ofNat to)), (.int (Int32.ofNat fr)), (.ref b1)])) rfl (by rw [hml]; rfl) (rest := []) (lenOf pd_2 rfl) rfl (by show 2 * 0 + _ ≤ _; exact Nat.le_of_eq rfl) (hb hby at_181)
          refine Goes.step st47 ?_
          obtain ⟨hv47, N47, e47⟩ := hQ47
          have N48 := Fr.app N46 N47
          have ht47 := own_tie hv47 (by omega) (Or.inr ⟨5, rfl, hE5, fun e q1 q2 => by
            have q : e = 2 ∨ e = 3 ∨ e = 4 := by omega
            rcases q with rfl | rfl | rfl <;> assumption⟩)
          subst ht47
          show Goes p ee below s _ _ _ (T47.setTop (mkF m 184 #[.val (.long p1), .second, .val (.int p2), .val (.int p3), .val (.ref b1), .val (.int (Int32.ofNat fr)), .val (.int (Int32.ofNat to)), .val (.int (5 : Int32))] [(.int (5 : Int32))]))
          refine Goes.step (fun _ hr => XS.iload X47.here hx rfl (hb hby at_184) rfl  hr) ?_
          show Goes p ee below s _ _ _ (T47.setTop (mkF m 186 #[.val (.long p1), .second, .val (.int p2), .val (.int p3), .val (.ref b1), .val (.int (Int32.ofNat fr)), .val (.int (Int32.ofNat to)), .val (.int (5 : Int32))] [(.int (5 : Int32)), (.int (5 : Int32))]))
          refine Goes.step (fun _ hr => XS.icmpNo X47.here hx rfl (hb hby at_186) rfl (teq rfl).2 hr) ?_
          show Goes p ee below s _ _ _ (T47.setTop (mkF m 189 #[.val (.long p1), .second, .val (.int p2), .val (.int p3), .val (.ref b1), .val (.int (Int32.ofNat fr)), .val (.int (Int32.ofNat to)), .val (.int (5 : Int32))] []))
          refine Goes.step (fun _ hr => XS.iconst X47.here hx rfl (hb hby at_189) hr) ?_
          show Goes p ee below s _ _ _ (T47.setTop (mkF m 190 #[.val (.long p1), .second, .val (.int p2), .val (.int p3), .val (.ref b1), .val (.int (Int32.ofNat fr)), .val (.int (Int32.ofNat to)), .val (.int (5 : Int32))] [(.int (1 : Int32))]))
          refine Goes.step (fun _ hr => XS.goto X47.here hx rfl (pc0 := 190) (pc' := 194) rfl (hb hby at_190) (by decide) (by decide) hr) ?_
          show Goes p ee below s _ _ _ (T47.setTop (mkF m 194 #[.val (.long p1), .second, .val (.int p2), .val (.int p3), .val (.ref b1), .val (.int (Int32.ofNat fr)), .val (.int (Int32.ofNat to)), .val (.int (5 : Int32))] [(.int (1 : Int32))]))
          refine Goes.retZ X47 hx Bd.notSynchronized Bd.returns (by simp) rfl (hb hby at_194) (by decide) (by decide) ?_
          exact ⟨rfl, N48⟩
        · show Goes p ee below s _ _ _ (T45.setTop (mkF m 148 #[.val (.long p1), .second, .val (.int p2), .val (.int p3), .val (.ref b1), .val (.int (Int32.ofNat fr)), .val (.int (Int32.ofNat to)), .val (.int (-1 : Int32))] [(.int (0 : Int32))]))
          refine Goes.step (fun _ hr => XS.ifYes X45.here hx rfl (pc0 := 148) (pc' := 157) rfl (hb hby at_148) rfl ((if0 _ _).trans (teq rfl).1) (by decide) (by decide) hr) ?_
          show Goes p ee below s _ _ _ (T45.setTop (mkF m 157 #[.val (.long p1), .second, .val (.int p2), .val (.int p3), .val (.ref b1), .val (.int (Int32.ofNat fr)), .val (.int (Int32.ofNat to)), .val (.int (-1 : Int32))] []))
          refine Goes.step (fun _ hr => XS.aload X45.here hx rfl (hb hby at_157) rfl rfl hr) ?_
          show Goes p ee below s _ _ _ (T45.setTop (mkF m 159 #[.val (.long p1), .second, .val (.int p2), .val (.int p3), .val (.ref b1), .val (.int (Int32.ofNat fr)), .val (.int (Int32.ofNat to)), .val (.int (-1 : Int32))] [(.ref b1)]))
          refine Goes.step (fun _ hr => XS.bipush X45.here hx rfl (hb hby at_159) hr) ?_
          show Goes p ee below s _ _ _ (T45.setTop (mkF m 161 #[.val (.long p1), .second, .val (.int p2), .val (.int p3), .val (.ref b1), .val (.int (Int32.ofNat fr)), .val (.int (Int32.ofNat to)), .val (.int (-1 : Int32))] [(.int (6 : Int32)), (.ref b1)]))
          refine Goes.step (fun _ hr => XS.iload X45.here hx rfl (hb hby at_161) rfl  hr) ?_
          show Goes p ee below s _ _ _ (T45.setTop (mkF m 163 #[.val (.long p1), .second, .val (.int p2), .val (.int p3), .val (.ref b1), .val (.int (Int32.ofNat fr)), .val (.int (Int32.ofNat to)), .val (.int (-1 : Int32))] [(.int (Int32.ofNat fr)), (.int (6 : Int32)), (.ref b1)]))
          refine Goes.step (fun _ hr => XS.iload X45.here hx rfl (hb hby at_163) rfl  hr) ?_
          show Goes p ee below s _ _ _ (T45.setTop (mkF m 165 #[.val (.long p1), .second, .val (.int p2), .val (.int p3), .val (.ref b1), .val (.int (Int32.ofNat fr)), .val (.int (Int32.ofNat to)), .val (.int (-1 : Int32))] [(.int (Int32.ofNat to)), (.int (Int32.ofNat fr)), (.int (6 : Int32)), (.ref b1)]))
          have lt_b1 := A_b1.lt
          obtain ⟨v49, T49, L49, X49, hQ49, st49⟩ := own_callS X45 hx hZ (y := (⟨"com/example/hansou/hansou/RequestHeadEndPinLaw", "endsAt", "([BIII)Z"⟩ : MethodName)) hown (hw _ (List.mem_of_getElem? (i := 8) rfl)) (hw _ (List.mem_of_getElem? (i := 9) rfl)) (hw _ (List.mem_of_getElem? (i := 3) rfl)) (hw _ (List.mem_of_getElem? (i := 10) rfl)) (by decide) (argsL := [(.ref b1), (.int (6 : Int32)), (.int (Int32.ofNat fr)), (.int (Int32.ofNat to))]) (rm_ends l Z a0 hw [] b1 6 fr to y h30 n0 Zp31 (by decide) (by decide) hf ht A_y) e45 (W := 0) (by decide) (by decide) (by decide) (by decide) (g := (mkF m 165 #[.val (.long p1), .second, .val (.int p2), .val (.int p3), .val (.ref b1), .val (.int (Int32.ofNat fr)), .val (.int (Int32.ofNat to)), .val (.int (-1 : Int32))] [(.int (Int32.ofNat to)), (.int (Int32.ofNat fr)), (.int (6 : Int32)), (.ref b1)])) rfl (by rw [hml]; rfl) (rest := []) (lenOf pd_1 rfl) rfl (by show 2 * 0 + _ ≤ _; exact Nat.le_of_eq rfl) (hb hby at_165)
          refine Goes.step st49 ?_
          obtain ⟨hv49, N49, e49⟩ := hQ49
          have N50 := Fr.app N46 N49
          rcases hv49 with ⟨rfl, hE6⟩ | ⟨rfl, hE6⟩
          · show Goes p ee below s _ _ _ (T49.setTop (mkF m 168 #[.val (.long p1), .second, .val (.int p2), .val (.int p3), .val (.ref b1), .val (.int (Int32.ofNat fr)), .val (.int (Int32.ofNat to)), .val (.int (-1 : Int32))] [(.int (1 : Int32))]))
            refine Goes.step (fun _ hr => XS.ifNo X49.here hx rfl (hb hby at_168) rfl ((if0 _ _).trans (feq (by decide)).1) hr) ?_
            show Goes p ee below s _ _ _ (T49.setTop (mkF m 171 #[.val (.long p1), .second, .val (.int p2), .val (.int p3), .val (.ref b1), .val (.int (Int32.ofNat fr)), .val (.int (Int32.ofNat to)), .val (.int (-1 : Int32))] []))
            refine Goes.step (fun _ hr => XS.bipush X49.here hx rfl (hb hby at_171) hr) ?_
            show Goes p ee below s _ _ _ (T49.setTop (mkF m 173 #[.val (.long p1), .second, .val (.int p2), .val (.int p3), .val (.ref b1), .val (.int (Int32.ofNat fr)), .val (.int (Int32.ofNat to)), .val (.int (-1 : Int32))] [(.int (6 : Int32))]))
            refine Goes.step (fun _ hr => XS.istore X49.here hx rfl (hb hby at_173) rfl  (l' := #[.val (.long p1), .second, .val (.int p2), .val (.int p3), .val (.ref b1), .val (.int (Int32.ofNat fr)), .val (.int (Int32.ofNat to)), .val (.int (6 : Int32))]) rfl hr) ?_
            show Goes p ee below s _ _ _ (T49.setTop (mkF m 175 #[.val (.long p1), .second, .val (.int p2), .val (.int p3), .val (.ref b1), .val (.int (Int32.ofNat fr)), .val (.int (Int32.ofNat to)), .val (.int (6 : Int32))] []))
            refine Goes.step (fun _ hr => XS.aload X49.here hx rfl (hb hby at_175) rfl rfl hr) ?_
            show Goes p ee below s _ _ _ (T49.setTop (mkF m 177 #[.val (.long p1), .second, .val (.int p2), .val (.int p3), .val (.ref b1), .val (.int (Int32.ofNat fr)), .val (.int (Int32.ofNat to)), .val (.int (6 : Int32))] [(.ref b1)]))
            refine Goes.step (fun _ hr => XS.iload X49.here hx rfl (hb hby at_177) rfl  hr) ?_
            show Goes p ee below s _ _ _ (T49.setTop (mkF m 179 #[.val (.long p1), .second, .val (.int p2), .val (.int p3), .val (.ref b1), .val (.int (Int32.ofNat fr)), .val (.int (Int32.ofNat to)), .val (.int (6 : Int32))] [(.int (Int32.ofNat fr)), (.ref b1)]))
            refine Goes.step (fun _ hr => XS.iload X49.here hx rfl (hb hby at_179) rfl  hr) ?_
            show Goes p ee below s _ _ _ (T49.setTop (mkF m 181 #[.val (.long p1), .second, .val (.int p2), .val (.int p3), .val (.ref b1), .val (.int (Int32.ofNat fr)), .val (.int (Int32.ofNat to)), .val (.int (6 : Int32))] [(.int (Int32.ofNat to)), (.int (Int32.ofNat fr)), (.ref b1)]))
            have lt_b1 := A_b1.lt
            obtain ⟨v51, T51, L51, X51, hQ51, st51⟩ := own_callS X49 hx hZ (y := (⟨"com/example/hansou/hansou/RequestHead", "end", "([BII)I"⟩ : MethodName)) hown (hw _ (List.mem_of_getElem? (i := 11) rfl)) (hw _ (List.mem_of_getElem? (i := 12) rfl)) (hw _ (List.mem_of_getElem? (i := 13) rfl)) (hw _ (List.mem_of_getElem? (i := 14) rfl)) (by decide) (argsL := [(.ref b1), (.int (Int32.ofNat fr)), (.int (Int32.ofNat to))]) (rm_end l Z a0 hw [] b1 fr to y h30 n0 Zp31 hf ht A_y) e49 (W := 0) (by decide) (by decide) (by decide) (by decide) (g := (mkF m 181 #[.val (.long p1), .second, .val (.int p2), .val (.int p3), .val (.ref b1), .val (.int (Int32.ofNat fr)), .val (.int (Int32.ofNat to)), .val (.int (6 : Int32))] [(.int (Int32.ofNat to)), (.int (Int32.ofNat fr)), (.ref b1)])) rfl (by rw [hml]; rfl) (rest := []) (lenOf pd_2 rfl) rfl (by show 2 * 0 + _ ≤ _; exact Nat.le_of_eq rfl) (hb hby at_181)
            refine Goes.step st51 ?_
            obtain ⟨hv51, N51, e51⟩ := hQ51
            have N52 := Fr.app N50 N51
            have ht51 := own_tie hv51 (by omega) (Or.inr ⟨6, rfl, hE6, fun e q1 q2 => by
              have q : e = 2 ∨ e = 3 ∨ e = 4 ∨ e = 5 := by omega
              rcases q with rfl | rfl | rfl | rfl <;> assumption⟩)
            subst ht51
            show Goes p ee below s _ _ _ (T51.setTop (mkF m 184 #[.val (.long p1), .second, .val (.int p2), .val (.int p3), .val (.ref b1), .val (.int (Int32.ofNat fr)), .val (.int (Int32.ofNat to)), .val (.int (6 : Int32))] [(.int (6 : Int32))]))
            refine Goes.step (fun _ hr => XS.iload X51.here hx rfl (hb hby at_184) rfl  hr) ?_
            show Goes p ee below s _ _ _ (T51.setTop (mkF m 186 #[.val (.long p1), .second, .val (.int p2), .val (.int p3), .val (.ref b1), .val (.int (Int32.ofNat fr)), .val (.int (Int32.ofNat to)), .val (.int (6 : Int32))] [(.int (6 : Int32)), (.int (6 : Int32))]))
            refine Goes.step (fun _ hr => XS.icmpNo X51.here hx rfl (hb hby at_186) rfl (teq rfl).2 hr) ?_
            show Goes p ee below s _ _ _ (T51.setTop (mkF m 189 #[.val (.long p1), .second, .val (.int p2), .val (.int p3), .val (.ref b1), .val (.int (Int32.ofNat fr)), .val (.int (Int32.ofNat to)), .val (.int (6 : Int32))] []))
            refine Goes.step (fun _ hr => XS.iconst X51.here hx rfl (hb hby at_189) hr) ?_
            show Goes p ee below s _ _ _ (T51.setTop (mkF m 190 #[.val (.long p1), .second, .val (.int p2), .val (.int p3), .val (.ref b1), .val (.int (Int32.ofNat fr)), .val (.int (Int32.ofNat to)), .val (.int (6 : Int32))] [(.int (1 : Int32))]))
            refine Goes.step (fun _ hr => XS.goto X51.here hx rfl (pc0 := 190) (pc' := 194) rfl (hb hby at_190) (by decide) (by decide) hr) ?_
            show Goes p ee below s _ _ _ (T51.setTop (mkF m 194 #[.val (.long p1), .second, .val (.int p2), .val (.int p3), .val (.ref b1), .val (.int (Int32.ofNat fr)), .val (.int (Int32.ofNat to)), .val (.int (6 : Int32))] [(.int (1 : Int32))]))
            refine Goes.retZ X51 hx Bd.notSynchronized Bd.returns (by simp) rfl (hb hby at_194) (by decide) (by decide) ?_
            exact ⟨rfl, N52⟩
          · show Goes p ee below s _ _ _ (T49.setTop (mkF m 168 #[.val (.long p1), .second, .val (.int p2), .val (.int p3), .val (.ref b1), .val (.int (Int32.ofNat fr)), .val (.int (Int32.ofNat to)), .val (.int (-1 : Int32))] [(.int (0 : Int32))]))
            refine Goes.step (fun _ hr => XS.ifYes X49.here hx rfl (pc0 := 168) (pc' := 175) rfl (hb hby at_168) rfl ((if0 _ _).trans (teq rfl).1) (by decide) (by decide) hr) ?_
            show Goes p ee below s _ _ _ (T49.setTop (mkF m 175 #[.val (.long p1), .second, .val (.int p2), .val (.int p3), .val (.ref b1), .val (.int (Int32.ofNat fr)), .val (.int (Int32.ofNat to)), .val (.int (-1 : Int32))] []))
            refine Goes.step (fun _ hr => XS.aload X49.here hx rfl (hb hby at_175) rfl rfl hr) ?_
            show Goes p ee below s _ _ _ (T49.setTop (mkF m 177 #[.val (.long p1), .second, .val (.int p2), .val (.int p3), .val (.ref b1), .val (.int (Int32.ofNat fr)), .val (.int (Int32.ofNat to)), .val (.int (-1 : Int32))] [(.ref b1)]))
            refine Goes.step (fun _ hr => XS.iload X49.here hx rfl (hb hby at_177) rfl  hr) ?_
            show Goes p ee below s _ _ _ (T49.setTop (mkF m 179 #[.val (.long p1), .second, .val (.int p2), .val (.int p3), .val (.ref b1), .val (.int (Int32.ofNat fr)), .val (.int (Int32.ofNat to)), .val (.int (-1 : Int32))] [(.int (Int32.ofNat fr)), (.ref b1)]))
            refine Goes.step (fun _ hr => XS.iload X49.here hx rfl (hb hby at_179) rfl  hr) ?_
            show Goes p ee below s _ _ _ (T49.setTop (mkF m 181 #[.val (.long p1), .second, .val (.int p2), .val (.int p3), .val (.ref b1), .val (.int (Int32.ofNat fr)), .val (.int (Int32.ofNat to)), .val (.int (-1 : Int32))] [(.int (Int32.ofNat to)), (.int (Int32.ofNat fr)), (.ref b1)]))
            have lt_b1 := A_b1.lt
            obtain ⟨v53, T53, L53, X53, hQ53, st53⟩ := own_callS X49 hx hZ (y := (⟨"com/example/hansou/hansou/RequestHead", "end", "([BII)I"⟩ : MethodName)) hown (hw _ (List.mem_of_getElem? (i := 11) rfl)) (hw _ (List.mem_of_getElem? (i := 12) rfl)) (hw _ (List.mem_of_getElem? (i := 13) rfl)) (hw _ (List.mem_of_getElem? (i := 14) rfl)) (by decide) (argsL := [(.ref b1), (.int (Int32.ofNat fr)), (.int (Int32.ofNat to))]) (rm_end l Z a0 hw [] b1 fr to y h30 n0 Zp31 hf ht A_y) e49 (W := 0) (by decide) (by decide) (by decide) (by decide) (g := (mkF m 181 #[.val (.long p1), .second, .val (.int p2), .val (.int p3), .val (.ref b1), .val (.int (Int32.ofNat fr)), .val (.int (Int32.ofNat to)), .val (.int (-1 : Int32))] [(.int (Int32.ofNat to)), (.int (Int32.ofNat fr)), (.ref b1)])) rfl (by rw [hml]; rfl) (rest := []) (lenOf pd_2 rfl) rfl (by show 2 * 0 + _ ≤ _; exact Nat.le_of_eq rfl) (hb hby at_181)
            refine Goes.step st53 ?_
            obtain ⟨hv53, N53, e53⟩ := hQ53
            have N54 := Fr.app N50 N53
            have ht53 := own_tie hv53 (by omega) (Or.inl ⟨rfl, fun e q1 q2 => by
              have q : e = 2 ∨ e = 3 ∨ e = 4 ∨ e = 5 ∨ e = 6 := by omega
              rcases q with rfl | rfl | rfl | rfl | rfl <;> assumption⟩)
            subst ht53
            show Goes p ee below s _ _ _ (T53.setTop (mkF m 184 #[.val (.long p1), .second, .val (.int p2), .val (.int p3), .val (.ref b1), .val (.int (Int32.ofNat fr)), .val (.int (Int32.ofNat to)), .val (.int (-1 : Int32))] [(.int (-1 : Int32))]))
            refine Goes.step (fun _ hr => XS.iload X53.here hx rfl (hb hby at_184) rfl  hr) ?_
            show Goes p ee below s _ _ _ (T53.setTop (mkF m 186 #[.val (.long p1), .second, .val (.int p2), .val (.int p3), .val (.ref b1), .val (.int (Int32.ofNat fr)), .val (.int (Int32.ofNat to)), .val (.int (-1 : Int32))] [(.int (-1 : Int32)), (.int (-1 : Int32))]))
            refine Goes.step (fun _ hr => XS.icmpNo X53.here hx rfl (hb hby at_186) rfl (teq rfl).2 hr) ?_
            show Goes p ee below s _ _ _ (T53.setTop (mkF m 189 #[.val (.long p1), .second, .val (.int p2), .val (.int p3), .val (.ref b1), .val (.int (Int32.ofNat fr)), .val (.int (Int32.ofNat to)), .val (.int (-1 : Int32))] []))
            refine Goes.step (fun _ hr => XS.iconst X53.here hx rfl (hb hby at_189) hr) ?_
            show Goes p ee below s _ _ _ (T53.setTop (mkF m 190 #[.val (.long p1), .second, .val (.int p2), .val (.int p3), .val (.ref b1), .val (.int (Int32.ofNat fr)), .val (.int (Int32.ofNat to)), .val (.int (-1 : Int32))] [(.int (1 : Int32))]))
            refine Goes.step (fun _ hr => XS.goto X53.here hx rfl (pc0 := 190) (pc' := 194) rfl (hb hby at_190) (by decide) (by decide) hr) ?_
            show Goes p ee below s _ _ _ (T53.setTop (mkF m 194 #[.val (.long p1), .second, .val (.int p2), .val (.int p3), .val (.ref b1), .val (.int (Int32.ofNat fr)), .val (.int (Int32.ofNat to)), .val (.int (-1 : Int32))] [(.int (1 : Int32))]))
            refine Goes.retZ X53 hx Bd.notSynchronized Bd.returns (by simp) rfl (hb hby at_194) (by decide) (by decide) ?_
            exact ⟨rfl, N54⟩
set_option maxRecDepth 65536 in
set_option maxHeartbeats 40000000 in
theorem comes_1 {Post : Tables → Env → Array Value → State → Outcome → State → Prop} (hpost : ∀ tb e args s v u, (limb_1_1.after args s (.returned v) u = true ∧ limb_1_2.after args s (.returned v) u = true ∧ True) → FrameEnd s (.returned v) u (Jvm.fieldLocs frame_1_writes args s ++ Jvm.arrayLocs frame_1_arrays args s ++ Jvm.staticLocs frame_1_statics s) 16 128 → Post tb e args s (.returned v) u) :
    ArmFor flags0 classFile x code maxLocals ret World_1 tables_1 room_1 Calls_1 rest_1 Pre_1 Post := by
  intro l hfl _ _ p e ha hc hk s m args below hf hA hF happ hP
  obtain ⟨hcalls, hrest, hpre⟩ := hP
  obtain ⟨-, -, -, hnamed, -, -, -, hat⟩ := (Spec.applies_iff hf).mp happ
  obtain ⟨hg, hn⟩ := and_e (Cond.before_iff.mp (show (Jvm.Cond.and given_1 narrow_1).before args s = true from hpre))
  obtain ⟨hcount, r0⟩ := and_e hg
  obtain ⟨k0, r1⟩ := and_e r0
  obtain ⟨k1, k2⟩ := and_e r1
  obtain ⟨w0, w1, w2, rfl⟩ : ∃ w0 w1 w2 : Value, args = #[w0, w1, w2] := by
    have hs : args.size = 3 := by simpa [Cond.value, given_1] using hcount
    obtain ⟨L⟩ := args
    match L, hs with
    | [w0, w1, w2], _ => exact ⟨w0, w1, w2, rfl⟩
  have hw := fun d (hd : d ∈ tables_1) => atoms_spec (ws := Jvm.Cond.code x code maxLocals ret :: tables_1) hat d (List.mem_cons_of_mem _ hd)
  obtain ⟨i0, ei0⟩ := isL_v k0
  obtain rfl : w0 = (.long i0) := Option.some.inj ei0
  obtain ⟨i1, ei1⟩ := is_v k1
  obtain rfl : w1 = (.int i1) := Option.some.inj ei1
  obtain ⟨i2, ei2⟩ := is_v k2
  obtain rfl : w2 = (.int i2) := Option.some.inj ei2
  obtain ⟨n, o, h1, h2, h3, _, L, rfl, ⟨rfl, N⟩, hq⟩ := rm_law l s _ hw tables_1 i0 i1 i2  s.heap s.heap.size (Nat.le_refl _)  p e ha hc hk s m _ below hf ((Spec.applies_iff_loose hf).mp happ).1 ⟨rfl, State.Warmed39.refl s, rfl⟩ trivial
  refine ⟨n, _, h1, h2, h3, hpost _ _ _ _ _ _ ⟨Cond.after_iff.mpr rfl, Cond.after_iff.mpr (eq_i res_at (Term.int_eval (1)) rfl), trivial⟩ ⟨hq.1, hq.2.1, (hq.2.2.sift fun y hy => Or.inr (N y hy)).mono (by decide) (by decide)⟩⟩
theorem main_1_1 : Claimed_1_1 := comes_1 fun _ _ _ _ _ _ h hF => ⟨h.1, hF⟩
theorem main_1_2 : Claimed_1_2 := comes_1 fun _ _ _ _ _ _ h hF => ⟨h.2.1, hF⟩
end Jvm.Pilot.@@N@@
namespace Jvm.Pilot.@@N@@
open Jvm Jvm.ClassFile Sem Op Lib Jvm.Free Jvm.Stand Jvm.Pilot.@@N@@.Jvm.D
/-! MADE BY PROGRAM (witnessworld.py) out of the Statement's table words and the real class files: 10 classes; the members and pool entries that the words name. The judged class is class 1, her method 3. -/
namespace start1
open Jvm.ClassFile
def u (s : String) : CpInfo := .utf8 (stringToUtf16 s)
/-- a pool by its gaps: so many unusable entries, then the entry; so many at the end -/
def gap : Nat → List CpInfo → List CpInfo
  | 0, r => r
  | n + 1, r => .unusable :: gap n r
def poolList (es : List (Nat × CpInfo)) (last : Nat) : List CpInfo := es.foldr (fun e r => gap e.1 (e.2 :: r)) (gap last [])
def pool (es : List (Nat × CpInfo)) (last : Nat) : Array CpInfo := ⟨poolList es last⟩
def fileOf (pool : Array CpInfo) (this : Nat) (attrs : Array Attribute := #[]) (ms : Array MethodInfo := #[]) (fl : Nat := 33) (sup : Nat := 0) (ifs : Array Nat := #[]) (fds : Array FieldInfo := #[]) : ClassFile where
  minorVersion := 0
  majorVersion := 65
  constantPool := pool
  accessFlags := fl
  thisClass := this
  superClass := sup
  interfaces := ifs
  fields := fds
  methods := ms
  attributes := attrs
def plain (name : String) (sup : Option ClassId) : Class where
  name := name
  kind := .ordinary
  loader := none
  accessFlags := 33
  super := sup
  interfaces := #[]
  cf := none
  fields := #[]
  methods := #[]
  instanceTypes := #[]
  staticTypes := #[]
  resolved := #[]
  callSites := []
  init := .initialized
  statics := none
  mirror := none

def pool0 : Array CpInfo := pool [(5, u "<init>"), (0, u "()V"), (1, .class_ 10), (1, u "java/lang/Object")] 113

def k0m0 : Method := { name := "<init>", desc := "()V", sig := { parameters := [], returnType := none }, accessFlags := 1, code := none }
/-- java/lang/Object -/
def k0 : Class := { plain "java/lang/Object" none with
  accessFlags := 33
  interfaces := #[]
  cf := some (fileOf pool0 8 #[] #[{ accessFlags := 1, nameIndex := 5, descriptorIndex := 6, attributes := #[] }] 33 0 #[] #[])
  fields := #[]
  methods := #[k0m0]
  instanceTypes := #[]
  staticTypes := #[]
  resolved := Array.replicate 124 none
  statics := none }

def pool1 : Array CpInfo := pool [(2, .class_ 4), (1, u "java/lang/Object"), (0, u "<init>"), (0, u "()V"), (0, .long 1023), (1, .long 3), (1, .methodref 12 13), (0, .class_ 14), (0, .nameAndType 15 16), (0, u "com/example/hansou/hansou/RequestHeadEndPinLaw"), (0, u "pick"), (0, u "(JI)B"), (0, .integer 2147483647), (0, .methodref 12 19), (0, .nameAndType 20 21), (0, u "endsAt"), (0, u "([BIII)Z"), (0, .methodref 23 24), (0, .class_ 25), (0, .nameAndType 26 27), (0, u "com/example/hansou/hansou/RequestHead"), (0, u "end"), (0, u "([BII)I"), (3, u "law"), (0, u "(JII)Z")] 4

def k1m0 : Method := { name := "<init>", desc := "()V", sig := { parameters := [], returnType := none }, accessFlags := 1, code := none }
def k1c1 : Code := { maxStack := 4, maxLocals := 6, code := method_2_code, exceptionTable := #[], attributes := #[] }
def k1m1 : Method := { name := "pick", desc := "(JI)B", sig := { parameters := [.long, .int], returnType := some .byte }, accessFlags := 10, code := some k1c1 }
def k1c2 : Code := { maxStack := 3, maxLocals := 4, code := method_3_code, exceptionTable := #[], attributes := #[] }
def k1m2 : Method := { name := "endsAt", desc := "([BIII)Z", sig := { parameters := [(.array .byte), .int, .int, .int], returnType := some .boolean }, accessFlags := 10, code := some k1c2 }
def k1c3 : Code := { maxStack := 5, maxLocals := 8, code := code, exceptionTable := #[], attributes := #[] }
def k1m3 : Method := { name := "law", desc := "(JII)Z", sig := { parameters := [.long, .int, .int], returnType := some .boolean }, accessFlags := 9, code := some k1c3 }
/-- com/example/hansou/hansou/RequestHeadEndPinLaw -/
def k1 : Class := { plain "com/example/hansou/hansou/RequestHeadEndPinLaw" (some 0) with
  accessFlags := 49
  interfaces := #[]
  cf := some (fileOf pool1 12 #[] #[{ accessFlags := 1, nameIndex := 5, descriptorIndex := 6, attributes := #[] }, { accessFlags := 10, nameIndex := 15, descriptorIndex := 16, attributes := #[] }, { accessFlags := 10, nameIndex := 20, descriptorIndex := 21, attributes := #[] }, { accessFlags := 9, nameIndex := 31, descriptorIndex := 32, attributes := #[] }] 49 2 #[] #[])
  fields := #[]
  methods := #[k1m0, k1m1, k1m2, k1m3]
  instanceTypes := #[]
  staticTypes := #[]
  resolved := Array.replicate 37 none
  statics := none }

def pool2 : Array CpInfo := pool [(2, .class_ 4), (1, u "java/lang/Object"), (0, u "<init>"), (0, u "()V"), (0, .class_ 8), (0, u "java/lang/Record")] 13

def k2m0 : Method := { name := "<init>", desc := "()V", sig := { parameters := [], returnType := none }, accessFlags := 4, code := none }
/-- java/lang/Record -/
def k2 : Class := { plain "java/lang/Record" (some 0) with
  accessFlags := 1057
  interfaces := #[]
  cf := some (fileOf pool2 7 #[] #[{ accessFlags := 4, nameIndex := 5, descriptorIndex := 6, attributes := #[] }] 1057 2 #[] #[])
  fields := #[]
  methods := #[k2m0]
  instanceTypes := #[]
  staticTypes := #[]
  resolved := Array.replicate 22 none
  statics := none }

def pool3 : Array CpInfo := pool [(2, .class_ 4), (1, u "java/lang/Record"), (3, .class_ 10), (1, u "com/example/hansou/hansou/RequestHead"), (0, u "method"), (0, u "Ljava/lang/String;"), (2, u "target"), (2, u "body"), (0, u "J"), (2, u "keepAlive"), (0, u "Z"), (21, u "TOKEN"), (0, u "Ljava/util/regex/Pattern;"), (16, .class_ 64), (0, u "com/example/hansou/hansou/RequestHead$Refusal"), (15, u "VERSION"), (93, u "ABSOLUTE"), (5, u "end"), (48, u "LONGEST"), (0, u "I"), (5, u "([BII)I")] 70

def k3c0 : Code := { maxStack := 3, maxLocals := 4, code := prog_11_method_2_code, exceptionTable := #[], attributes := #[] }
def k3m0 : Method := { name := "end", desc := "([BII)I", sig := { parameters := [(.array .byte), .int, .int], returnType := some .int }, accessFlags := 8, code := some k3c0 }
/-- com/example/hansou/hansou/RequestHead -/
def k3 : Class := { plain "com/example/hansou/hansou/RequestHead" (some 2) with
  accessFlags := 48
  interfaces := #[]
  cf := some (fileOf pool3 8 #[.nestMembers #[63]] #[{ accessFlags := 8, nameIndex := 180, descriptorIndex := 236, attributes := #[] }] 48 2 #[] #[{ accessFlags := 18, nameIndex := 11, descriptorIndex := 12, attributes := #[] }, { accessFlags := 18, nameIndex := 15, descriptorIndex := 12, attributes := #[] }, { accessFlags := 18, nameIndex := 18, descriptorIndex := 19, attributes := #[] }, { accessFlags := 18, nameIndex := 22, descriptorIndex := 23, attributes := #[] }, { accessFlags := 24, nameIndex := 229, descriptorIndex := 230, attributes := #[] }, { accessFlags := 26, nameIndex := 45, descriptorIndex := 46, attributes := #[] }, { accessFlags := 26, nameIndex := 80, descriptorIndex := 46, attributes := #[] }, { accessFlags := 26, nameIndex := 174, descriptorIndex := 46, attributes := #[] }])
  fields := #[{ name := "method", type := (.object "java/lang/String"), accessFlags := 18, slot := 0, constantValue := 0 }, { name := "target", type := (.object "java/lang/String"), accessFlags := 18, slot := 1, constantValue := 0 }, { name := "body", type := .long, accessFlags := 18, slot := 2, constantValue := 0 }, { name := "keepAlive", type := .boolean, accessFlags := 18, slot := 3, constantValue := 0 }, { name := "LONGEST", type := .int, accessFlags := 24, slot := 0, constantValue := 0 }, { name := "TOKEN", type := (.object "java/util/regex/Pattern"), accessFlags := 26, slot := 1, constantValue := 0 }, { name := "VERSION", type := (.object "java/util/regex/Pattern"), accessFlags := 26, slot := 2, constantValue := 0 }, { name := "ABSOLUTE", type := (.object "java/util/regex/Pattern"), accessFlags := 26, slot := 3, constantValue := 0 }]
  methods := #[k3m0]
  instanceTypes := #[(.object "java/lang/String"), (.object "java/lang/String"), .long, .boolean]
  staticTypes := #[.int, (.object "java/util/regex/Pattern"), (.object "java/util/regex/Pattern"), (.object "java/util/regex/Pattern")]
  resolved := Array.replicate 307 none
  statics := none }

def pool4 : Array CpInfo := pool [(1, u "java/lang/Cloneable"), (0, .class_ 1), (0, u "java/lang/Object"), (0, .class_ 3)] 3

/-- java/lang/Cloneable -/
def k4 : Class := { plain "java/lang/Cloneable" (some 0) with
  accessFlags := 1537
  interfaces := #[]
  cf := some (fileOf pool4 2 #[] #[] 1537 4 #[] #[])
  fields := #[]
  methods := #[]
  instanceTypes := #[]
  staticTypes := #[]
  resolved := Array.replicate 8 none
  statics := none }

def pool5 : Array CpInfo := pool [(1, u "java/io/Serializable"), (0, .class_ 1), (0, u "java/lang/Object"), (0, .class_ 3)] 3

/-- java/io/Serializable -/
def k5 : Class := { plain "java/io/Serializable" (some 0) with
  accessFlags := 1537
  interfaces := #[]
  cf := some (fileOf pool5 2 #[] #[] 1537 4 #[] #[])
  fields := #[]
  methods := #[]
  instanceTypes := #[]
  staticTypes := #[]
  resolved := Array.replicate 8 none
  statics := none }

/-- the primitive byte -/
def k6 : Class := { plain "byte" none with kind := .primitive 'B', accessFlags := 0x411 }
/-- [B -/
def k7 : Class := { plain "[B" (some 0) with kind := .array 6 .byte, interfaces := #[4, 5], accessFlags := 1041 }

/-- the primitive int -/
def k8 : Class := { plain "int" none with kind := .primitive 'I', accessFlags := 0x411 }
/-- [I -/
def k9 : Class := { plain "[I" (some 0) with kind := .array 8 .int, interfaces := #[4, 5], accessFlags := 1041 }

def heap : Heap := #[]
def classes : Array Class := #[k0, k1, k2, k3, k4, k5, k6, k7, k8, k9]
def interned : List (Array UInt16 × Addr) := []
def slotsUsed : Nat := 0
def theMethod : MethodId := ⟨1, 3⟩
def args0 : Array Value := #[.long 5, .int 3, .int 7]
def aboutOver (below : List Frame) : State where
  vm := { classes := classes, interned := interned.toArray }
  heap := heap
  slotsUsed := slotsUsed
  threads := #[{ frames := .invoking theMethod args0 :: below }]
def below0 : List Frame := [.native { method := ⟨0, 0⟩, args := #[] }]
def about1 : State := aboutOver below0
def p0 : Program := .bare "" "" ""
def e0 : Env := launch0.env 0 0 0
theorem w_frames : about1.frames = Frame.invoking theMethod args0 :: below0 := rfl
set_option maxRecDepth 65536 in
theorem w_args : argsFit about1.vm theMethod args0 = true := by decide +kernel
set_option maxRecDepth 65536 in
theorem w_heap : heapFits about1 = true := by decide +kernel
set_option maxRecDepth 65536 in
theorem w_runnable : about1.curStatus? = some .runnable := by decide +kernel
set_option maxRecDepth 65536 in
theorem w_alone : about1.alone = true := by decide +kernel
set_option maxRecDepth 65536 in
theorem w_named : about1.methodNamed? x = some theMethod := by decide +kernel
set_option maxRecDepth 65536 in
theorem w_hears : about1.hears theMethod below0 = true := by decide +kernel
set_option maxRecDepth 65536 in
theorem w_ripe : about1.ripe theMethod args0 below0 = true := by decide +kernel
theorem w_running : about1.status = .running := rfl
set_option maxRecDepth 65536 in
theorem w_room : about1.hasRoom e0.platform room_1 = true :=
  launch0.hasRoom_least _ room_1 (by decide +kernel) (by decide +kernel) (by decide +kernel) (by decide +kernel) (by decide +kernel) (by decide +kernel)
theorem allAtoms_all (ts : List Jvm.Cond) (a : Array Jvm.Value) (st : Jvm.State) : (allAtoms ts).before a st = ts.all (fun c => c.before a st) := by
  induction ts with
  | nil => rfl
  | cons c t ih =>
    show (Jvm.Cond.and c (allAtoms t)).before a st = _
    rw [Jvm.Cond.before_and, ih, List.all_cons]
def words1 : List Jvm.Cond := Jvm.Cond.code x code maxLocals ret :: tables_1
/-- a 'code' word, met by the world's own term for the bytes: nothing is compared byte by byte -/
theorem code_word {y : MethodName} {bytes : ByteArray} {mx : Nat} {rt : Option FieldType} {a : Array Value} {s : State} {m : MethodId} {meth : Method} {c : Code} (h1 : s.methodNamed? y = some m) (h2 : s.vm.method? m = some meth) (h3 : meth.code = some c) (h4 : c.code = bytes)
    (h5 : (c.maxLocals == mx && c.exceptionTable.isEmpty && decide (c.maxStack ≤ mostOperands) && decide (meth.sig.returnType = rt) && !meth.locks && decide (parseMethodDescriptor y.desc = some meth.sig)) = true) : (Jvm.Cond.code y bytes mx rt).before a s = true := by
  simp only [Bool.and_eq_true, beq_iff_eq, Bool.not_eq_true', decide_eq_true_eq] at h5
  obtain ⟨⟨⟨⟨⟨g1, g2⟩, g3⟩, g4⟩, g5⟩, g6⟩ := h5
  simp [Cond.before, Cond.holds, Cond.value, h1, h2, h3, h4, g1, g2, g3, g4, g5, g6]
def isCode : Jvm.Cond → Bool
  | .code _ _ _ _ => true
  | _ => false
theorem all_split {L : List Jvm.Cond} {P : Jvm.Cond → Bool} (h1 : L.all (fun c => isCode c || P c) = true) (h2 : ∀ c ∈ L.filter isCode, P c = true) : L.all P = true := by
  refine List.all_eq_true.mpr fun c hc => ?_
  have h := List.all_eq_true.mp h1 c hc
  rcases Bool.eq_false_or_eq_true (isCode c) with hi | hi
  · exact h2 c (List.mem_filter.mpr ⟨hc, hi⟩)
  · simpa [hi] using h
set_option maxRecDepth 65536 in
theorem w_c0 : (Jvm.Cond.code x code maxLocals ret).before args0 about1 = true := code_word (m := ⟨1, 3⟩) (meth := k1m3) (c := k1c3) (by decide +kernel) rfl rfl rfl (by decide +kernel)
set_option maxRecDepth 65536 in
theorem w_c1 : (Jvm.Cond.code ({ cls := "com/example/hansou/hansou/RequestHeadEndPinLaw", name := "pick", desc := "(JI)B" } : Jvm.MethodName) method_2_code (6 : Nat) (Option.some Jvm.ClassFile.FieldType.byte)).before args0 about1 = true := code_word (m := ⟨1, 1⟩) (meth := k1m1) (c := k1c1) (by decide +kernel) rfl rfl rfl (by decide +kernel)
set_option maxRecDepth 65536 in
theorem w_c2 : (Jvm.Cond.code ({ cls := "com/example/hansou/hansou/RequestHeadEndPinLaw", name := "endsAt", desc := "([BIII)Z" } : Jvm.MethodName) method_3_code (4 : Nat) (Option.some Jvm.ClassFile.FieldType.boolean)).before args0 about1 = true := code_word (m := ⟨1, 2⟩) (meth := k1m2) (c := k1c2) (by decide +kernel) rfl rfl rfl (by decide +kernel)
set_option maxRecDepth 65536 in
theorem w_c3 : (Jvm.Cond.code ({ cls := "com/example/hansou/hansou/RequestHead", name := "end", desc := "([BII)I" } : Jvm.MethodName) prog_11_method_2_code (4 : Nat) (Option.some Jvm.ClassFile.FieldType.int)).before args0 about1 = true := code_word (m := ⟨3, 0⟩) (meth := k3m0) (c := k3c0) (by decide +kernel) rfl rfl rfl (by decide +kernel)
def codes1 : List Jvm.Cond := [Jvm.Cond.code x code maxLocals ret, Jvm.Cond.code ({ cls := "com/example/hansou/hansou/RequestHeadEndPinLaw", name := "pick", desc := "(JI)B" } : Jvm.MethodName) method_2_code (6 : Nat) (Option.some Jvm.ClassFile.FieldType.byte), Jvm.Cond.code ({ cls := "com/example/hansou/hansou/RequestHeadEndPinLaw", name := "endsAt", desc := "([BIII)Z" } : Jvm.MethodName) method_3_code (4 : Nat) (Option.some Jvm.ClassFile.FieldType.boolean), Jvm.Cond.code ({ cls := "com/example/hansou/hansou/RequestHead", name := "end", desc := "([BII)I" } : Jvm.MethodName) prog_11_method_2_code (4 : Nat) (Option.some Jvm.ClassFile.FieldType.int)]
set_option maxRecDepth 65536 in
theorem codes_eq : words1.filter isCode = codes1 := rfl
theorem w_codes : ∀ c ∈ words1.filter isCode, c.before args0 about1 = true := by
  rw [codes_eq]
  intro c hc
  simp only [codes1, List.mem_cons, List.not_mem_nil, or_false] at hc
  rcases hc with rfl | rfl | rfl | rfl
  · exact w_c0
  · exact w_c1
  · exact w_c2
  · exact w_c3
set_option maxRecDepth 65536 in
theorem w_t1 : words1.all (fun c => isCode c || c.before args0 about1) = true := by decide +kernel
theorem w_tables : (allAtoms (Jvm.Cond.code x code maxLocals ret :: tables_1)).before args0 about1 = true := by
  rw [allAtoms_all]
  show words1.all (fun c => c.before args0 about1) = true
  refine all_split ?_ w_codes
  rw [w_t1]
set_option maxRecDepth 65536 in
theorem w_case : (Jvm.Cond.and given_1 narrow_1).before args0 about1 = true := by decide +kernel
theorem w_applies : (headSpec (Jvm.Cond.code x code maxLocals ret :: tables_1) room_1).applies x e0.platform about1 = true :=
  (Spec.applies_iff w_frames).mpr ⟨w_running, w_runnable, w_alone, w_named, w_hears, w_ripe, w_room, w_tables⟩
theorem atStart : AtStart classFile x code maxLocals ret World_1 tables_1 room_1 Calls_1 rest_1 Pre_1 launch0 p0 e0 about1 theMethod args0 below0 :=
  ⟨lists_1, trivial, launch0.admits_env _ _ _, launch0.least_env, fairChoices_fair.cas, fairChoices_fair.clock, w_frames, w_args, w_heap, w_applies, trivial, trivial, w_case⟩
end start1
theorem witness_1 : WitnessClaimed_1 := ⟨start1.p0, start1.e0, start1.about1, start1.theMethod, start1.args0, start1.below0, start1.atStart⟩
end Jvm.Pilot.@@N@@
