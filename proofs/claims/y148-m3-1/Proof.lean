import JvmDerived
import JvmDerived.Pilot.@@N@@Statement
import JvmDerived.Pilot.@@N@@Code
set_option linter.unusedVariables false
set_option linter.unusedSimpArgs false
namespace Jvm.Pilot.@@N@@
open Jvm Jvm.ClassFile Sem Op Lib Jvm.Free Jvm.Stand Jvm.LawKit Jvm.RoadKit Bundle Jvm.Pilot.@@N@@.Jvm.D
section OwnNums
theorem own_toInt (n : Nat) (h : n < 2 ^ 31) : (Int32.ofNat n).toInt = n := Int32.toInt_ofNat_of_lt h
theorem own_eq {x : Int32} {n : Nat} (h : n < 2 ^ 31) (e : x.toInt = n) : x = Int32.ofNat n := by rw [← Int32.toInt_inj, own_toInt n h, e]
theorem own_ltN (a b : Nat) (ha : a < 2 ^ 31) (hb : b < 2 ^ 31) : Int32.ofNat a < Int32.ofNat b ↔ a < b := by
  rw [Int32.lt_iff_toInt_lt, own_toInt a ha, own_toInt b hb]; omega
theorem own_eqN (a b : Nat) (ha : a < 2 ^ 31) (hb : b < 2 ^ 31) : Int32.ofNat a = Int32.ofNat b ↔ a = b := by
  rw [← Int32.toInt_inj, own_toInt a ha, own_toInt b hb]; omega
theorem own_addN (a b : Nat) : Int32.ofNat a + Int32.ofNat b = Int32.ofNat (a + b) := (Int32.ofNat_add a b).symm
theorem own_subI (a b : Nat) (ha : a < 2 ^ 31) (hb : b < 2 ^ 31) : (Int32.ofNat a - Int32.ofNat b).toInt = (a : Int) - b := by
  rw [Int32.toInt_sub, own_toInt a ha, own_toInt b hb]
  exact Int.bmod_eq_of_le (by omega) (by omega)
theorem own_subN (a b : Nat) (ha : a < 2 ^ 31) (hb : b ≤ a) : Int32.ofNat a - Int32.ofNat b = Int32.ofNat (a - b) :=
  own_eq (by omega) (by rw [own_subI a b ha (by omega)]; omega)
theorem own_clamp (a : Nat) (ha : a < 2 ^ 31) : (Int32.ofNat a).toNatClampNeg = a := by
  show (Int32.ofNat a).toInt.toNat = a
  rw [own_toInt a ha]; rfl
theorem own_nneg (a : Nat) (ha : a < 2 ^ 31) : ¬ Int32.ofNat a < 0 := by
  rw [Int32.lt_iff_toInt_lt, own_toInt a ha]
  have : (0 : Int32).toInt = 0 := rfl
  omega
theorem own_ixs (a b : Nat) (ha : a < 2 ^ 31) (hb : b ≤ a) : ¬ (Int32.ofNat a - Int32.ofNat b < 0) ∧ (Int32.ofNat a - Int32.ofNat b).toNatClampNeg = a - b := by
  rw [own_subN a b ha hb]; exact ⟨own_nneg _ (by omega), own_clamp _ (by omega)⟩
theorem own_ixa (a b : Nat) (ha : a + b < 2 ^ 31) : ¬ (Int32.ofNat a + Int32.ofNat b < 0) ∧ (Int32.ofNat a + Int32.ofNat b).toNatClampNeg = a + b := by
  rw [own_addN]; exact ⟨own_nneg _ ha, own_clamp _ ha⟩
/-- a small natural behind a mask and a remainder -/
theorem own_small (x : Int32) (k : Nat) (hk0 : 0 < k) (hk : k < 2 ^ 31) : ∃ n : Nat, n < k ∧ (x &&& 2147483647) % Int32.ofNat k = Int32.ofNat n := by
  obtain ⟨q1, q2⟩ := c_and x 2147483647 (by decide)
  obtain ⟨c1, -⟩ := c_irem (x &&& 2147483647) (Int32.ofNat k) k (own_toInt k hk)
  have h1 := c1 q1
  have h2 := Int.emod_nonneg (x &&& 2147483647).toInt (b := (k : Int)) (by omega)
  have h3 := Int.emod_lt_of_pos (x &&& 2147483647).toInt (b := (k : Int)) (by omega)
  exact ⟨((x &&& 2147483647) % Int32.ofNat k).toInt.toNat, by omega, own_eq (by omega) (by omega)⟩
/-- a small natural behind a mask -/
theorem own_masked (x : Int32) (k : Nat) (hk : k < 2 ^ 31) : ∃ n : Nat, n ≤ k ∧ x &&& Int32.ofNat k = Int32.ofNat n := by
  have h0 := own_toInt k hk
  obtain ⟨q1, q2⟩ := c_and x (Int32.ofNat k) (by omega)
  exact ⟨(x &&& Int32.ofNat k).toInt.toNat, by omega, own_eq (by omega) (by omega)⟩
theorem own_cmp (x y : Int64) : XT.cmpL x y = 0 ↔ x = y := lw_eq x y
theorem own_cmplt (x y : Int64) : XT.cmpL x y < 0 ↔ x < y := lw_lt x y
theorem own_cmpgt (x y : Int64) : 0 < XT.cmpL x y ↔ y < x := lw_gt x y
end OwnNums
section OwnLayer
variable {p : Program} {l : Launch} {e : Env} {R : Room} {s : State} {m : MethodId} {args : Array Value} {below : List Frame} {meth : Method} {c : Code} {T : State} {locs : List Loc} {cells slots : Nat} {Z : State} {a0 : Array Value} {h h' : Heap}
/-- from U the run comes to a return of which Q tells (value, heap, written places), within rc cells and rs slots -/
def Goes (p : Program) (e : Env) (below : List Frame) (s : State) (rc rs : Nat) (Q : Option Value → Heap → List Loc → Prop) (U : State) : Prop :=
  ∃ t o, Steps p.tables e below U t ∧ t.status = .running ∧ Ended t below o ∧ ∃ v L, o = .returned v ∧ Q v t.heap L ∧ FrameEnd s o t L rc rs
theorem Goes.step {rc rs : Nat} {Q : Option Value → Heap → List Loc → Prop} {U V : State} (st : ∀ t, Steps p.tables e below V t → Steps p.tables e below U t) (k : Goes p e below s rc rs Q V) : Goes p e below s rc rs Q U := by
  obtain ⟨t, o, k1, k2⟩ := k
  exact ⟨t, o, st t k1, k2⟩
theorem Goes.ret {rc rs : Nat} {Q : Option Value → Heap → List Loc → Prop} (X : Stand p l e R s m args below meth c T locs cells slots) (hx : p.tables.exec = Jvm.exec) (hlk : meth.locks = false) {pc : Nat} {Ls : Array Slot} {w : Value} {t : FieldType} {i : Instr} {rest : List Value} (hret : meth.sig.returnType = some t) (hn : narrow t w = w)
    (hi : (i = .ireturn ∧ (t = .int ∨ t = .boolean ∨ t = .byte ∨ t = .char ∨ t = .short) ∧ ∃ z, w = .int z) ∨ (i = .lreturn ∧ t = .long ∧ ∃ z, w = .long z) ∨ (i = .dreturn ∧ t = .double ∧ ∃ z, w = .double z) ∨ (i = .freturn ∧ t = .float ∧ ∃ z, w = .float z) ∨ (i = .areturn ∧ t.isReference = true ∧ w.isRef = true))
    (hd : decode c.code pc = .ok (i, 1)) (hc : cells ≤ rc) (hs : slots ≤ rs) (hQ : Q (some w) T.heap locs) : Goes p e below s rc rs Q (T.setTop (mkF m pc Ls (w :: rest))) := by
  obtain ⟨fs, hr, hrun, hended, hW, hsame⟩ := X.leave (v := some w) (fun h => by rw [hret] at h; cases h) hlk
  exact ⟨_, _, retOut X hx hret hn hi hd hr, hrun, hended, _, _, rfl, hQ, ⟨_, rfl⟩, hW, hsame.mono hc hs⟩
theorem Goes.retI {rc rs : Nat} {Q : Option Value → Heap → List Loc → Prop} (X : Stand p l e R s m args below meth c T locs cells slots) (hx : p.tables.exec = Jvm.exec) (hlk : meth.locks = false) {pc : Nat} {Ls : Array Slot} {z : Int32} {rest : List Value} (hret : meth.sig.returnType = some .int)
    (hd : decode c.code pc = .ok (.ireturn, 1)) (hc : cells ≤ rc) (hs : slots ≤ rs) (hQ : Q (some (.int z)) T.heap locs) : Goes p e below s rc rs Q (T.setTop (mkF m pc Ls (.int z :: rest))) :=
  Goes.ret X hx hlk hret rfl (Or.inl ⟨rfl, Or.inl rfl, _, rfl⟩) hd hc hs hQ
theorem Goes.retZ {rc rs : Nat} {Q : Option Value → Heap → List Loc → Prop} (X : Stand p l e R s m args below meth c T locs cells slots) (hx : p.tables.exec = Jvm.exec) (hlk : meth.locks = false) {pc : Nat} {Ls : Array Slot} {z : Int32} {t : FieldType} {rest : List Value} (hret : meth.sig.returnType = some t)
    (ht : t = .boolean ∨ t = .byte ∨ t = .char ∨ t = .short) (hn : narrow t (.int z) = .int z)
    (hd : decode c.code pc = .ok (.ireturn, 1)) (hc : cells ≤ rc) (hs : slots ≤ rs) (hQ : Q (some (.int z)) T.heap locs) : Goes p e below s rc rs Q (T.setTop (mkF m pc Ls (.int z :: rest))) :=
  Goes.ret X hx hlk hret hn (Or.inl ⟨rfl, Or.inr ht, _, rfl⟩) hd hc hs hQ
theorem Goes.retJ {rc rs : Nat} {Q : Option Value → Heap → List Loc → Prop} (X : Stand p l e R s m args below meth c T locs cells slots) (hx : p.tables.exec = Jvm.exec) (hlk : meth.locks = false) {pc : Nat} {Ls : Array Slot} {z : Int64} {rest : List Value} (hret : meth.sig.returnType = some .long)
    (hd : decode c.code pc = .ok (.lreturn, 1)) (hc : cells ≤ rc) (hs : slots ≤ rs) (hQ : Q (some (.long z)) T.heap locs) : Goes p e below s rc rs Q (T.setTop (mkF m pc Ls (.long z :: rest))) :=
  Goes.ret X hx hlk hret rfl (Or.inr (Or.inl ⟨rfl, rfl, _, rfl⟩)) hd hc hs hQ
theorem own_narrow_ref {t : FieldType} {w : Value} (hw : w.isRef = true) : narrow t w = w := by
  cases w <;> simp [Value.isRef] at hw <;> cases t <;> rfl
theorem Goes.retA {rc rs : Nat} {Q : Option Value → Heap → List Loc → Prop} (X : Stand p l e R s m args below meth c T locs cells slots) (hx : p.tables.exec = Jvm.exec) (hlk : meth.locks = false) {pc : Nat} {Ls : Array Slot} {w : Value} {t : FieldType} {rest : List Value} (hret : meth.sig.returnType = some t)
    (ht : t.isReference = true) (hw : w.isRef = true)
    (hd : decode c.code pc = .ok (.areturn, 1)) (hc : cells ≤ rc) (hs : slots ≤ rs) (hQ : Q (some w) T.heap locs) : Goes p e below s rc rs Q (T.setTop (mkF m pc Ls (w :: rest))) :=
  Goes.ret X hx hlk hret (own_narrow_ref hw) (Or.inr (Or.inr (Or.inr (Or.inr ⟨rfl, ht, hw⟩)))) hd hc hs hQ
theorem Goes.retV {rc rs : Nat} {Q : Option Value → Heap → List Loc → Prop} (X : Stand p l e R s m args below meth c T locs cells slots) (hx : p.tables.exec = Jvm.exec) (hlk : meth.locks = false) {pc : Nat} {Ls : Array Slot} (hret : meth.sig.returnType = none)
    (hd : decode c.code pc = .ok (.return_, 1)) (hc : cells ≤ rc) (hs : slots ≤ rs) (hQ : Q none T.heap locs) : Goes p e below s rc rs Q (T.setTop (mkF m pc Ls [])) := by
  obtain ⟨fs, hr, hrun, hended, hW, hsame⟩ := X.leave (v := none) (fun _ => rfl) hlk
  exact ⟨_, _, X.returnOut hx hret hd hr, hrun, hended, _, _, rfl, hQ, ⟨_, rfl⟩, hW, hsame.mono hc hs⟩
/-- a static call by its contract -/
theorem own_callS (X : Stand p l e R s m args below meth c T locs cells slots) (hx : p.tables.exec = Jvm.exec) (hZ : Z.Warmed39 s.vm) {own : String} {index : Nat} {y : MethodName} {bytes : ByteArray} {maxL : Nat} {ret : Option FieldType} (hown : s.vm.findClass own = some m.cls)
    (w1 : (Cond.methodLink own index y).before a0 Z = true) (w2 : (Cond.static y).before a0 Z = true) (w3 : (Cond.initialized y.cls).before a0 Z = true) (w4 : (Cond.code y bytes maxL ret).before a0 Z = true) (hy : y.cls ≠ "java/lang/invoke/MethodHandle" ∧ y.cls ≠ "java/lang/invoke/VarHandle")
    {rm : Room} {argsL : List Value} {Q : Option Value → Heap → List Loc → Prop}
    (hM : MetFree l y (head1 [Cond.code y bytes maxL ret] rm) (fun a U => a = argsL.toArray ∧ Z.Warmed39 U.vm ∧ U.heap = h) (fun _ _ _ _ _ => True) (fun _ U o U' => ∃ v L, o = .returned v ∧ Q v U'.heap L ∧ FrameEnd U o U' L rm.cells rm.slots))
    (eT : T.heap = h) {W : Nat} (hf : rm.frames + 1 ≤ R.frames) (hl : W + (maxL + 11) + rm.locals ≤ R.locals) (hc : cells + rm.cells ≤ R.cells) (hsl : slots + rm.slots ≤ R.slots)
    {g : JFrame} (hg : g.method = m) (hsize : g.locals.size = c.maxLocals) {rest : List Value} (hlen : ∀ sig, parseMethodDescriptor y.desc = some sig → argsL.length = sig.parameters.length)
    (hstack : g.stack = argsL.reverse ++ rest) (hW : 2 * g.monitorRoom + (rest.map fun v => v.category).sum ≤ W) (hdg : decode c.code g.pc = .ok (.invokestatic index, 3)) :
    ∃ (v : Option Value) (T' : State) (L : List Loc), Stand p l e R s m args below meth c T' (locs ++ L) (cells + rm.cells) (slots + rm.slots) ∧ Q v T'.heap L ∧
      ∀ t, Steps p.tables e below (T'.setTop { g with pc := g.pc + 3, stack := v.toList ++ rest }) t → Steps p.tables e below (T.setTop g) t := by
  obtain ⟨v, _, ⟨U, Ls, k, n⟩, -, X', ⟨Lc, hQ, l1, y1, z1⟩, st⟩ := Jvm.LawKit.callS X hx (y := y) hown (mvT hZ w1) (mvT hZ w2) (mvT hZ w3) (mvT hZ w4) hy (backOf (W := W) hM hZ w4 w3 hf hl) hg hsize (argsL := argsL) (rest := rest) hlen hstack hW hdg (fun _ _ => ⟨rfl, eT, hc, hsl⟩)
  dsimp only [Pt.U, Pt.locs, Pt.cells, Pt.slots] at X' l1 y1 z1 st hQ
  subst l1 y1 z1
  exact ⟨v, U, Lc, X', hQ, st⟩
/-- a constructor's call by its contract -/
theorem own_callN (X : Stand p l e R s m args below meth c T locs cells slots) (hx : p.tables.exec = Jvm.exec) (hZ : Z.Warmed39 s.vm) {own : String} {index : Nat} {y : MethodName} {bytes : ByteArray} {maxL : Nat} (hy1 : y.name = "<init>") (hown : s.vm.findClass own = some m.cls)
    (w1 : (Cond.methodLink own index y).before a0 Z = true) (w2 : (Cond.instanceMethod y).before a0 Z = true) (w3 : (Cond.initialized y.cls).before a0 Z = true) (w4 : (Cond.code y bytes maxL none).before a0 Z = true) (hy : y.cls ≠ "java/lang/invoke/MethodHandle" ∧ y.cls ≠ "java/lang/invoke/VarHandle")
    {rm : Room} {a : Addr} {argsL : List Value} {Q : Option Value → Heap → List Loc → Prop}
    (hM : MetFree l y (head1 [Cond.code y bytes maxL none] rm) (fun b U => b = (.ref a :: argsL).toArray ∧ Z.Warmed39 U.vm ∧ U.heap = h) (fun _ _ _ _ _ => True) (fun _ U o U' => ∃ v L, o = .returned v ∧ Q v U'.heap L ∧ FrameEnd U o U' L rm.cells rm.slots))
    (eT : T.heap = h) {W : Nat} (hf : rm.frames + 1 ≤ R.frames) (hl : W + (maxL + 11) + rm.locals ≤ R.locals) (hc : cells + rm.cells ≤ R.cells) (hsl : slots + rm.slots ≤ R.slots)
    {g : JFrame} (hg : g.method = m) (hsize : g.locals.size = c.maxLocals) {rest : List Value} (hlen : ∀ sig, parseMethodDescriptor y.desc = some sig → argsL.length = sig.parameters.length)
    (hstack : g.stack = argsL.reverse ++ .ref a :: rest) (hW : 2 * g.monitorRoom + (rest.map fun v => v.category).sum ≤ W) (hdg : decode c.code g.pc = .ok (.invokespecial index, 3)) :
    ∃ (v : Option Value) (T' : State) (L : List Loc), Stand p l e R s m args below meth c T' (locs ++ L) (cells + rm.cells) (slots + rm.slots) ∧ Q v T'.heap L ∧
      ∀ t, Steps p.tables e below (T'.setTop { g with pc := g.pc + 3, stack := v.toList ++ rest }) t → Steps p.tables e below (T.setTop g) t := by
  obtain ⟨v, _, ⟨U, Ls, k, n⟩, -, X', ⟨Lc, hQ, l1, y1, z1⟩, st⟩ := X.specialBack hx (y := y) hy1 hown (mvT hZ w1) (mvT hZ w2) (mvT hZ w4) hy (backOf (W := W) hM hZ w4 w3 hf hl) hg hsize (Steps.refl _) (a := a) (argsL := argsL) (rest := rest) hlen hstack hW hdg (fun _ _ => ⟨rfl, eT, hc, hsl⟩)
  dsimp only [Pt.U, Pt.locs, Pt.cells, Pt.slots] at X' l1 y1 z1 st hQ
  subst l1 y1 z1
  exact ⟨v, U, Lc, X', hQ, fun t k => st.trans k⟩
/-- an instance method's call by its contract -/
theorem own_callV (X : Stand p l e R s m args below meth c T locs cells slots) (hx : p.tables.exec = Jvm.exec) (hZ : Z.Warmed39 s.vm) {own C : String} {index : Nat} {y : MethodName} {bytes : ByteArray} {maxL : Nat} {ret : Option FieldType} (hown : s.vm.findClass own = some m.cls)
    (w1 : (Cond.methodLink own index y).before a0 Z = true) (w2 : (Cond.declares y).before a0 Z = true) (w5 : (Cond.selects C y y).before a0 Z = true) (w6 : (Cond.instanceMethod y).before a0 Z = true) (w3 : (Cond.initialized y.cls).before a0 Z = true) (w4 : (Cond.code y bytes maxL ret).before a0 Z = true) (hy : y.cls ≠ "java/lang/invoke/MethodHandle" ∧ y.cls ≠ "java/lang/invoke/VarHandle")
    {rm : Room} {a : Addr} {argsL : List Value} {Q : Option Value → Heap → List Loc → Prop}
    (hM : MetFree l y (head1 [Cond.code y bytes maxL ret] rm) (fun b U => b = (.ref a :: argsL).toArray ∧ Z.Warmed39 U.vm ∧ U.heap = h) (fun _ _ _ _ _ => True) (fun _ U o U' => ∃ v L, o = .returned v ∧ Q v U'.heap L ∧ FrameEnd U o U' L rm.cells rm.slots))
    (eT : T.heap = h) (E : Exa Z h a C) {W : Nat} (hf : rm.frames + 1 ≤ R.frames) (hl : W + (maxL + 11) + rm.locals ≤ R.locals) (hc : cells + rm.cells ≤ R.cells) (hsl : slots + rm.slots ≤ R.slots)
    {g : JFrame} (hg : g.method = m) (hsize : g.locals.size = c.maxLocals) {rest : List Value} (hlen : ∀ sig, parseMethodDescriptor y.desc = some sig → argsL.length = sig.parameters.length)
    (hstack : g.stack = argsL.reverse ++ .ref a :: rest) (hW : 2 * g.monitorRoom + (rest.map fun v => v.category).sum ≤ W) (hdg : decode c.code g.pc = .ok (.invokevirtual index, 3)) :
    ∃ (v : Option Value) (T' : State) (L : List Loc), Stand p l e R s m args below meth c T' (locs ++ L) (cells + rm.cells) (slots + rm.slots) ∧ Q v T'.heap L ∧
      ∀ t, Steps p.tables e below (T'.setTop { g with pc := g.pc + 3, stack := v.toList ++ rest }) t → Steps p.tables e below (T.setTop g) t := by
  obtain ⟨cB, kB, qa, qb, qc⟩ := isOf hZ eT E
  obtain ⟨v, _, ⟨U, Ls, k, n⟩, -, X', ⟨Lc, hQ, l1, y1, z1⟩, st⟩ := X.virtualBack hx (y := y) (z := y) hown (mvT hZ w1) (mvT hZ w2) (notFace_of_selects (args := #[]) (mvT hZ w5)) (mvT hZ w5) (mvT hZ w6) hy (backOf (W := W) hM hZ w4 w3 hf hl) qa qc hg hsize (Steps.refl _) (argsL := argsL) (rest := rest) hlen hstack hW hdg (fun _ _ => ⟨rfl, eT, hc, hsl⟩)
  dsimp only [Pt.U, Pt.locs, Pt.cells, Pt.slots] at X' l1 y1 z1 st hQ
  subst l1 y1 z1
  exact ⟨v, U, Lc, X', hQ, fun t k => st.trans k⟩
/-- an interface method's call by its contract -/
theorem own_callI (X : Stand p l e R s m args below meth c T locs cells slots) (hx : p.tables.exec = Jvm.exec) (hZ : Z.Warmed39 s.vm) {own C : String} {index count : Nat} {xi z : MethodName} {bytes : ByteArray} {maxL : Nat} {ret : Option FieldType} (hown : s.vm.findClass own = some m.cls)
    (w1 : (Cond.methodLink own index xi).before a0 Z = true) (w2 : (Cond.declares xi).before a0 Z = true) (w7 : (Cond.interfaceMethod xi.cls xi.cls xi.name xi.desc).before a0 Z = true) (w5 : (Cond.selects C xi z).before a0 Z = true) (w6 : (Cond.instanceMethod z).before a0 Z = true) (w8 : (Cond.publicMethod z).before a0 Z = true) (w9 : (Cond.unhidden C xi.name xi.desc).before a0 Z = true) (w10 : (Cond.castable C xi.cls).before a0 Z = true)
    (hfa : ((Cond.interfaceMethod xi.cls xi.cls xi.name xi.desc).onTables && (Cond.interfaceMethod xi.cls xi.cls xi.name xi.desc).keepsFace) = true) (w3 : (Cond.initialized z.cls).before a0 Z = true) (w4 : (Cond.code z bytes maxL ret).before a0 Z = true) (hy : xi.cls ≠ "java/lang/invoke/MethodHandle" ∧ xi.cls ≠ "java/lang/invoke/VarHandle")
    {rm : Room} {a : Addr} {argsL : List Value} {Q : Option Value → Heap → List Loc → Prop}
    (hM : MetFree l z (head1 [Cond.code z bytes maxL ret] rm) (fun b U => b = (.ref a :: argsL).toArray ∧ Z.Warmed39 U.vm ∧ U.heap = h) (fun _ _ _ _ _ => True) (fun _ U o U' => ∃ v L, o = .returned v ∧ Q v U'.heap L ∧ FrameEnd U o U' L rm.cells rm.slots))
    (eT : T.heap = h) (E : Exa Z h a C) {W : Nat} (hf : rm.frames + 1 ≤ R.frames) (hl : W + (maxL + 11) + rm.locals ≤ R.locals) (hc : cells + rm.cells ≤ R.cells) (hsl : slots + rm.slots ≤ R.slots)
    {g : JFrame} (hg : g.method = m) (hsize : g.locals.size = c.maxLocals) {rest : List Value} (hlen : ∀ sig, parseMethodDescriptor xi.desc = some sig → argsL.length = sig.parameters.length)
    (hstack : g.stack = argsL.reverse ++ .ref a :: rest) (hW : 2 * g.monitorRoom + (rest.map fun v => v.category).sum ≤ W) (hdg : decode c.code g.pc = .ok (.invokeinterface index count, 5)) :
    ∃ (v : Option Value) (T' : State) (L : List Loc), Stand p l e R s m args below meth c T' (locs ++ L) (cells + rm.cells) (slots + rm.slots) ∧ Q v T'.heap L ∧
      ∀ t, Steps p.tables e below (T'.setTop { g with pc := g.pc + 5, stack := v.toList ++ rest }) t → Steps p.tables e below (T.setTop g) t := by
  obtain ⟨cB, kB, qa, qb, qc⟩ := isOf hZ eT E
  obtain ⟨v, _, ⟨U, Ls, k, n⟩, -, X', ⟨Lc, hQ, l1, y1, z1⟩, st⟩ := X.interfaceBack hx (xi := xi) (y := z) hown (mvT hZ w1) (mvT hZ w2) (mvT hZ w7 hfa) (mvT hZ w5) (mvT hZ w6) (mvT hZ w8) (mvT hZ w9) (mvT hZ w10) hy (backOf (W := W) hM hZ w4 w3 hf hl) qa qb qc hg hsize (Steps.refl _) (argsL := argsL) (rest := rest) hlen hstack hW hdg (fun _ _ => ⟨rfl, eT, hc, hsl⟩)
  dsimp only [Pt.U, Pt.locs, Pt.cells, Pt.slots] at X' l1 y1 z1 st hQ
  subst l1 y1 z1
  exact ⟨v, U, Lc, X', hQ, fun t k => st.trans k⟩
/-- an array: of n places, place j holds f j -/
def OA (Z : State) (h : Heap) (a : Addr) (ty : FieldType) (n : Nat) (f : Nat → Value) : Prop :=
  ∃ c : Cell, Arr Z h a c ty ∧ c.slots.size = n ∧ n < 2 ^ 31 ∧ ∀ j, j < n → c.slots[j]? = some (f j) ∧ fits ty (f j) = true
variable {a b : Addr} {ty : FieldType} {n k sl : Nat} {f f' : Nat → Value} {v w : Value} {j : Int32} {ws : List Addr}
theorem OA.ext (A : OA Z h a ty n f) (E : Ext h h') : OA Z h' a ty n f := by obtain ⟨c, A, r⟩ := A; exact ⟨c, A.ext E, r⟩
theorem OA.other (A : OA Z h b ty n f) (W : Wr h h' a sl v) (q : b ≠ a) : OA Z h' b ty n f := by obtain ⟨c, A, r⟩ := A; exact ⟨c, A.other W q, r⟩
theorem OA.keep (A : OA Z h a ty n f) (K : Keep h h' ws) (q : a ∉ ws) : OA Z h' a ty n f := by obtain ⟨c, A, r⟩ := A; exact ⟨c, ⟨K.2.1 a c A.1 q, A.2⟩, r⟩
theorem OA.lt (A : OA Z h a ty n f) : a < h.size := by obtain ⟨c, A, -⟩ := A; exact A.lt
theorem OA.congr (A : OA Z h a ty n f) (q : ∀ j, j < n → f j = f' j) : OA Z h a ty n f' := by
  obtain ⟨c, A, r1, r2, H⟩ := A
  exact ⟨c, A, r1, r2, fun j hj => by rw [← q j hj]; exact H j hj⟩
theorem OA.new {cA : ClassId} {z : Int32} (A : Arr Z h a (newA cA ty z) ty) (hf : fits ty (defaultValue ty) = true) (e : z.toNatClampNeg = n) : OA Z h a ty n (fun _ => defaultValue ty) := by
  refine ⟨_, A, by rw [sz_new]; exact e, ?_, fun j hj => ⟨?_, hf⟩⟩
  · have := z.toInt_lt
    have h2 : z.toNatClampNeg = z.toInt.toNat := rfl
    omega
  · simp [newA, e, hj]
theorem OA.set (A : OA Z h a ty n f) (W : Wr h h' a j.toNatClampNeg v) (e : j.toNatClampNeg = k) (hv : fits ty v = true) : OA Z h' a ty n (fun i => if i = k then v else f i) := by
  obtain ⟨c, A, r1, r2, H⟩ := A
  refine ⟨_, A.same W, by rw [sz_set]; exact r1, r2, fun i hi => ?_⟩
  obtain ⟨H1, H2⟩ := H i hi
  subst e
  by_cases q : i = j.toNatClampNeg
  · subst q
    dsimp only
    rw [if_pos rfl]
    exact ⟨by simp [Cell.setSlot, r1, hi], hv⟩
  · dsimp only
    rw [if_neg q]
    refine ⟨?_, H2⟩
    rw [← H1]
    simp [Cell.setSlot, Array.getElem?_setIfInBounds, Ne.symm q]
theorem OA.at (A : OA Z h a ty n f) (hj : ¬ j < 0) (e : j.toNatClampNeg = k) (hk : k < n) : ∃ c : Cell, Arr Z h a c ty ∧ ¬ (j < 0 ∨ c.slots.size ≤ j.toNatClampNeg) ∧ c.slots[j.toNatClampNeg]? = some (f k) ∧ fits ty (f k) = true := by
  obtain ⟨c, A, r1, r2, H⟩ := A
  obtain ⟨H1, H2⟩ := H k hk
  refine ⟨c, A, ?_, by rw [e]; exact H1, H2⟩
  rintro (q | q)
  · exact hj q
  · omega
theorem OA.fits (A : OA Z h a ty n f) (hk : k < n) : fits ty (f k) = true := by
  obtain ⟨c, A, r1, r2, H⟩ := A
  exact (H k hk).2
theorem own_alen (X : Stand p l e R s m args below meth c T locs cells slots) (hx : p.tables.exec = Jvm.exec) (hZ : Z.Warmed39 s.vm) (eT : T.heap = h) (A : OA Z h a ty n f) {z : Int32} (hz : z = n.toInt32)
    {g : JFrame} (hg : g.method = m) {rest : List Value} (hs : g.stack = .ref a :: rest) (hd : decode c.code g.pc = .ok (.arraylength, 1)) :
    ∀ t, Steps p.tables e below (T.setTop { g with pc := g.pc + 1, stack := .int z :: rest }) t → Steps p.tables e below (T.setTop g) t := by
  obtain ⟨cl, A, r1, r2, H⟩ := A
  intro t k
  refine X.arraylength hx (by rw [eT]; exact A.1) (State.isArrayOf_alike hZ.alike A.2.1) hg hs hd t ?_
  rw [r1, ← hz]
  exact k
theorem own_iaload (X : Stand p l e R s m args below meth c T locs cells slots) (hx : p.tables.exec = Jvm.exec) (hZ : Z.Warmed39 s.vm) (eT : T.heap = h) (A : OA Z h a .int n f) (hj : ¬ j < 0) (ek : j.toNatClampNeg = k) (hk : k < n) (hv : f k = v)
    {g : JFrame} (hg : g.method = m) {rest : List Value} (hs : g.stack = .int j :: .ref a :: rest) (hd : decode c.code g.pc = .ok (.iaload, 1)) :
    ∀ t, Steps p.tables e below (T.setTop { g with pc := g.pc + 1, stack := v :: rest }) t → Steps p.tables e below (T.setTop g) t := by
  obtain ⟨cl, A, q1, q2, q3⟩ := A.at hj ek hk
  subst hv
  exact fun t k => X.iaload hx (by rw [eT]; exact A.1) (State.isArrayOf_alike hZ.alike A.2.1) A.2.2 q1 q2 hg hs hd t k
theorem own_laload (X : Stand p l e R s m args below meth c T locs cells slots) (hx : p.tables.exec = Jvm.exec) (hZ : Z.Warmed39 s.vm) (eT : T.heap = h) (A : OA Z h a .long n f) (hj : ¬ j < 0) (ek : j.toNatClampNeg = k) (hk : k < n) (hv : f k = v)
    {g : JFrame} (hg : g.method = m) {rest : List Value} (hs : g.stack = .int j :: .ref a :: rest) (hd : decode c.code g.pc = .ok (.laload, 1)) :
    ∀ t, Steps p.tables e below (T.setTop { g with pc := g.pc + 1, stack := v :: rest }) t → Steps p.tables e below (T.setTop g) t := by
  obtain ⟨cl, A, q1, q2, q3⟩ := A.at hj ek hk
  subst hv
  exact fun t k => X.laload hx (by rw [eT]; exact A.1) (State.isArrayOf_alike hZ.alike A.2.1) A.2.2 q1 q2 hg hs hd t k
theorem own_caload (X : Stand p l e R s m args below meth c T locs cells slots) (hx : p.tables.exec = Jvm.exec) (hZ : Z.Warmed39 s.vm) (eT : T.heap = h) (A : OA Z h a .char n f) (hj : ¬ j < 0) (ek : j.toNatClampNeg = k) (hk : k < n) (hv : f k = v)
    {g : JFrame} (hg : g.method = m) {rest : List Value} (hs : g.stack = .int j :: .ref a :: rest) (hd : decode c.code g.pc = .ok (.caload, 1)) :
    ∀ t, Steps p.tables e below (T.setTop { g with pc := g.pc + 1, stack := v :: rest }) t → Steps p.tables e below (T.setTop g) t := by
  obtain ⟨cl, A, q1, q2, q3⟩ := A.at hj ek hk
  subst hv
  exact fun t k => X.caload hx (by rw [eT]; exact A.1) (State.isArrayOf_alike hZ.alike A.2.1) A.2.2 q1 q2 hg hs hd t k
theorem own_baload (X : Stand p l e R s m args below meth c T locs cells slots) (hx : p.tables.exec = Jvm.exec) (hZ : Z.Warmed39 s.vm) (eT : T.heap = h) (A : OA Z h a .byte n f) (hj : ¬ j < 0) (ek : j.toNatClampNeg = k) (hk : k < n) (hv : f k = v)
    {g : JFrame} (hg : g.method = m) {rest : List Value} (hs : g.stack = .int j :: .ref a :: rest) (hd : decode c.code g.pc = .ok (.baload, 1)) :
    ∀ t, Steps p.tables e below (T.setTop { g with pc := g.pc + 1, stack := v :: rest }) t → Steps p.tables e below (T.setTop g) t := by
  obtain ⟨cl, A, q1, q2, q3⟩ := A.at hj ek hk
  subst hv
  exact fun t k => X.baloadBytes hx (by rw [eT]; exact A.1) (State.isArrayOf_alike hZ.alike A.2.1) A.2.2 q1 q2 hg hs hd t k
theorem own_aaload (X : Stand p l e R s m args below meth c T locs cells slots) (hx : p.tables.exec = Jvm.exec) (hZ : Z.Warmed39 s.vm) (eT : T.heap = h) (A : OA Z h a ty n f) (hty : ty.isReference = true) (hj : ¬ j < 0) (ek : j.toNatClampNeg = k) (hk : k < n) (hv : f k = v)
    {g : JFrame} (hg : g.method = m) {rest : List Value} (hs : g.stack = .int j :: .ref a :: rest) (hd : decode c.code g.pc = .ok (.aaload, 1)) :
    ∀ t, Steps p.tables e below (T.setTop { g with pc := g.pc + 1, stack := v :: rest }) t → Steps p.tables e below (T.setTop g) t := by
  obtain ⟨cl, A, q1, q2, q3⟩ := A.at hj ek hk
  subst hv
  exact fun t k => X.aaload hx (by rw [eT]; exact A.1) (State.isArrayOf_alike hZ.alike A.2.1) hty A.2.2 q1 q2 hg hs hd t k
/-- stores: the new heap, the array's new values -/
theorem own_stI (X : Stand p l e R s m args below meth c T locs cells slots) (hx : p.tables.exec = Jvm.exec) (hZ : Z.Warmed39 s.vm) (eT : T.heap = h) (A : OA Z h a .int n f) {x : Int32} (hj : ¬ j < 0) (ek : j.toNatClampNeg = k) (hk : k < n)
    {g : JFrame} (hg : g.method = m) {rest : List Value} (hs : g.stack = .int x :: .int j :: .ref a :: rest) (hd : decode c.code g.pc = .ok (.iastore, 1)) :
    ∃ T' h', Stand p l e R s m args below meth c T' (locs ++ [⟨a, j.toNatClampNeg⟩]) cells slots ∧ T'.heap = h' ∧ Wr h h' a j.toNatClampNeg (.int x) ∧ OA Z h' a .int n (fun i => if i = k then .int x else f i) ∧
      ∀ t, Steps p.tables e below (T'.setTop { g with pc := g.pc + 1, stack := rest }) t → Steps p.tables e below (T.setTop g) t := by
  obtain ⟨cl, A', q1, q2, q3⟩ := A.at hj ek hk
  obtain ⟨T', h', X', e', W', st⟩ := stI X hx hZ eT A' q1 hg hs hd
  exact ⟨T', h', X', e', W', A.set W' ek rfl, st⟩
theorem own_stJ (X : Stand p l e R s m args below meth c T locs cells slots) (hx : p.tables.exec = Jvm.exec) (hZ : Z.Warmed39 s.vm) (eT : T.heap = h) (A : OA Z h a .long n f) {x : Int64} (hj : ¬ j < 0) (ek : j.toNatClampNeg = k) (hk : k < n)
    {g : JFrame} (hg : g.method = m) {rest : List Value} (hs : g.stack = .long x :: .int j :: .ref a :: rest) (hd : decode c.code g.pc = .ok (.lastore, 1)) :
    ∃ T' h', Stand p l e R s m args below meth c T' (locs ++ [⟨a, j.toNatClampNeg⟩]) cells slots ∧ T'.heap = h' ∧ Wr h h' a j.toNatClampNeg (.long x) ∧ OA Z h' a .long n (fun i => if i = k then .long x else f i) ∧
      ∀ t, Steps p.tables e below (T'.setTop { g with pc := g.pc + 1, stack := rest }) t → Steps p.tables e below (T.setTop g) t := by
  obtain ⟨cl, A', q1, q2, q3⟩ := A.at hj ek hk
  obtain ⟨T', h', X', e', W', st⟩ := stJ X hx hZ eT A' q1 hg hs hd
  exact ⟨T', h', X', e', W', A.set W' ek rfl, st⟩
theorem own_stB (X : Stand p l e R s m args below meth c T locs cells slots) (hx : p.tables.exec = Jvm.exec) (hZ : Z.Warmed39 s.vm) (eT : T.heap = h) (A : OA Z h a .byte n f) {x : Int32} (hj : ¬ j < 0) (ek : j.toNatClampNeg = k) (hk : k < n)
    {g : JFrame} (hg : g.method = m) {rest : List Value} (hs : g.stack = .int x :: .int j :: .ref a :: rest) (hd : decode c.code g.pc = .ok (.bastore, 1)) :
    ∃ T' h', Stand p l e R s m args below meth c T' (locs ++ [⟨a, j.toNatClampNeg⟩]) cells slots ∧ T'.heap = h' ∧ Wr h h' a j.toNatClampNeg (.int (nar .byte x)) ∧ OA Z h' a .byte n (fun i => if i = k then .int (nar .byte x) else f i) ∧
      ∀ t, Steps p.tables e below (T'.setTop { g with pc := g.pc + 1, stack := rest }) t → Steps p.tables e below (T.setTop g) t := by
  obtain ⟨cl, A', q1, q2, q3⟩ := A.at hj ek hk
  obtain ⟨T', h', X', e', W', st⟩ := stB X hx hZ eT A' q1 hg hs hd
  exact ⟨T', h', X', e', W', A.set W' ek (fits_nar_byte _), st⟩
theorem own_stC (X : Stand p l e R s m args below meth c T locs cells slots) (hx : p.tables.exec = Jvm.exec) (hZ : Z.Warmed39 s.vm) (eT : T.heap = h) (A : OA Z h a .char n f) {x : Int32} (hj : ¬ j < 0) (ek : j.toNatClampNeg = k) (hk : k < n)
    {g : JFrame} (hg : g.method = m) {rest : List Value} (hs : g.stack = .int x :: .int j :: .ref a :: rest) (hd : decode c.code g.pc = .ok (.castore, 1)) :
    ∃ T' h', Stand p l e R s m args below meth c T' (locs ++ [⟨a, j.toNatClampNeg⟩]) cells slots ∧ T'.heap = h' ∧ Wr h h' a j.toNatClampNeg (.int (nar .char x)) ∧ OA Z h' a .char n (fun i => if i = k then .int (nar .char x) else f i) ∧
      ∀ t, Steps p.tables e below (T'.setTop { g with pc := g.pc + 1, stack := rest }) t → Steps p.tables e below (T.setTop g) t := by
  obtain ⟨cl, A', q1, q2, q3⟩ := A.at hj ek hk
  obtain ⟨T', h', X', e', W', st⟩ := stC X hx hZ eT A' q1 hg hs hd
  exact ⟨T', h', X', e', W', A.set W' ek (fits_nar_char _), st⟩
theorem own_newP (X : Stand p l e R s m args below meth c T locs cells slots) (hx : p.tables.exec = Jvm.exec) (hZ : Z.Warmed39 s.vm) {aty : ArrayType} (w : (Cond.arrayClass (newarray.typeOf aty)).before a0 Z = true) (eT : T.heap = h) {z : Int32} (hz : ¬ z < 0) (en : z.toNatClampNeg = n) {cap : Nat} (hcap : n ≤ cap) (hb : cap * 8 ≤ 536870912) (hc : cells + 1 ≤ R.cells) (hl : slots + cap ≤ R.slots)
    {g : JFrame} (hg : g.method = m) {rest : List Value} (hs : g.stack = .int z :: rest) (hd : decode c.code g.pc = .ok (.newarray aty, 2)) :
    ∃ T' h', Stand p l e R s m args below meth c T' locs (cells + 1) (slots + cap) ∧ T'.heap = h' ∧ Ext h h' ∧ OA Z h' h.size (newarray.typeOf aty) n (fun _ => defaultValue (newarray.typeOf aty)) ∧
      ∀ t, Steps p.tables e below (T'.setTop { g with pc := g.pc + 2, stack := .ref h.size :: rest }) t → Steps p.tables e below (T.setTop g) t := by
  obtain ⟨T', h', cA, X', e', E', A', st⟩ := newP X hx hZ w eT hg hd hs hz (cap := cap) (en ▸ hcap) hb hc hl
  exact ⟨T', h', X', e', E', OA.new A' (by cases aty <;> rfl) en, st⟩
theorem OA.arv (A : OA Z h a ty n f) (d : Value) : ∃ k, Arv Z h a k ty (Int32.ofNat n) ((List.range n).map f) d := by
  obtain ⟨c, A, r1, r2, H⟩ := A
  have q : ∀ i, i < n → ((List.range n).map f).getD i d = f i := fun i hi => by simp [hi]
  exact ⟨c.cls, c, A, rfl, by rw [own_clamp n r2]; exact r1, own_nneg n r2, fun i hi => by rw [q i (by omega)]; exact (H i (by omega)).1, fun i hi => by rw [q i (by omega)]; exact (H i (by omega)).2⟩
theorem OA.of_arv {k : ClassId} {vs : List Value} {d : Value} {z : Int32} (A : Arv Z h a k ty z vs d) (e : z.toNatClampNeg = n) (q : ∀ i, i < n → vs.getD i d = f i) : OA Z h a ty n f := by
  obtain ⟨c, A, r1, r2, r3, H, G⟩ := A
  refine ⟨c, A, by omega, ?_, fun i hi => ?_⟩
  · have := z.toInt_lt
    have h2 : z.toNatClampNeg = z.toInt.toNat := rfl
    omega
  · rw [← q i hi]
    exact ⟨H i (by omega), G i (by omega)⟩
theorem own_spliced (vd us : List Value) (d : Value) (dp m : Nat) (hu : us.length = m) (hl : dp + m ≤ vd.length) (i : Nat) : (vd.take dp ++ us ++ vd.drop (dp + m)).getD i d = if dp ≤ i ∧ i < dp + m then us.getD (i - dp) d else vd.getD i d := by
  have h1 : (vd.take dp).length = dp := by rw [List.length_take]; omega
  by_cases c1 : i < dp
  · rw [if_neg (by omega)]
    simp only [List.getD_eq_getElem?_getD]
    rw [List.append_assoc, List.getElem?_append_left (by omega), List.getElem?_take_of_lt c1]
  · by_cases c2 : i < dp + m
    · rw [if_pos ⟨by omega, c2⟩]
      simp only [List.getD_eq_getElem?_getD]
      rw [List.append_assoc, List.getElem?_append_right (by omega), h1, List.getElem?_append_left (by omega)]
    · rw [if_neg (by omega)]
      simp only [List.getD_eq_getElem?_getD]
      rw [List.getElem?_append_right (by rw [List.length_append]; omega), List.getElem?_drop, List.length_append, h1, hu]
      have e : dp + m + (i - (dp + m)) = i := by omega
      rw [e]
/-- System.arraycopy between arrays of one primitive kind -/
theorem own_copy (X : Stand p l e R s m args below meth c T locs cells slots) (hx : p.tables.exec = Jvm.exec) (hZ : Z.Warmed39 s.vm) {own : String} {index : Nat} (hown : s.vm.findClass own = some m.cls)
    (w1 : (Cond.methodLink own index Jvm.Stand.acN).before a0 Z = true) (w2 : (Cond.native Jvm.Stand.acN).before a0 Z = true) (w3 : (Cond.static Jvm.Stand.acN).before a0 Z = true) (w4 : (Cond.initialized "java/lang/System").before a0 Z = true) (eT : T.heap = h)
    {n' sp dp nn : Nat} (A : OA Z h a ty n f) (B : OA Z h b ty n' f') (hty : refKind ty = false) (h1 : sp + nn ≤ n) (h2 : dp + nn ≤ n') {n0 : Nat} (N : Fr n0 locs) (ge : n0 ≤ b)
    {g : JFrame} (hg : g.method = m) (hsize : g.locals.size = c.maxLocals) {rest : List Value} (hs : g.stack = .int (Int32.ofNat nn) :: .int (Int32.ofNat dp) :: .ref b :: .int (Int32.ofNat sp) :: .ref a :: rest) (hd : decode c.code g.pc = .ok (.invokestatic index, 3))
    (hf : 1 ≤ R.frames) {W : Nat} (hW : 2 * g.monitorRoom + (rest.map fun v => v.category).sum ≤ W) (hlo : W + 18 ≤ R.locals) :
    ∃ T' h' L, Stand p l e R s m args below meth c T' L cells slots ∧ T'.heap = h' ∧ Fr n0 L ∧ Keep h h' [b] ∧ OA Z h' b ty n' (fun i => if dp ≤ i ∧ i < dp + nn then f (sp + (i - dp)) else f' i) ∧
      ∀ t, Steps p.tables e below (T'.setTop { g with pc := g.pc + 3, stack := rest }) t → Steps p.tables e below (T.setTop g) t := by
  have hn : n < 2 ^ 31 := by obtain ⟨c, A, r1, r2, H⟩ := A; exact r2
  have hn' : n' < 2 ^ 31 := by obtain ⟨c, A, r1, r2, H⟩ := B; exact r2
  obtain ⟨k, A'⟩ := A.arv (.int 0)
  obtain ⟨k', B'⟩ := B.arv (.int 0)
  have c1 := own_clamp sp (by omega)
  have c2 := own_clamp dp (by omega)
  have c3 := own_clamp nn (by omega)
  obtain ⟨T', h', L, X', e', N', K', A2, st⟩ := cpA X hx hZ hown w1 w2 w3 w4 eT A' B' (Or.inl ⟨rfl, hty⟩) (own_nneg sp (by omega)) (own_nneg dp (by omega)) (own_nneg nn (by omega)) (by rw [c1, c3, own_clamp n hn]; exact h1) (by rw [c2, c3, own_clamp n' hn']; exact h2) rfl (by rw [c2, c3]; simpa using h2) N ge hg hsize hs hd hf hW hlo
  refine ⟨T', h', L, X', e', N', K', OA.of_arv A2 (own_clamp n' hn') (fun i hi => ?_), st⟩
  rw [c1, c2, c3, own_spliced _ _ _ _ _ (by simp) (by simpa using h2)]
  by_cases q : dp ≤ i ∧ i < dp + nn
  · rw [if_pos q, if_pos q]
    have q3 : i - dp < nn := by omega
    have q4 : sp + (i - dp) < n := by omega
    simp [q3, q4]
  · rw [if_neg q, if_neg q]
    simp [hi]
/-- an array of references of class C: of n places, place j holds f j -/
def OR (Z : State) (h : Heap) (a : Addr) (C : String) (n : Nat) (f : Nat → Value) : Prop :=
  ∃ c : Cell, Arr Z h a c (.object C) ∧ Ovr Z c.cls C ∧ c.slots.size = n ∧ n < 2 ^ 31 ∧ ∀ j, j < n → c.slots[j]? = some (f j) ∧ (f j).isRef = true
variable {C : String}
theorem OR.ext (A : OR Z h a C n f) (E : Ext h h') : OR Z h' a C n f := by obtain ⟨c, A, r⟩ := A; exact ⟨c, A.ext E, r⟩
theorem OR.other (A : OR Z h b C n f) (W : Wr h h' a sl v) (q : b ≠ a) : OR Z h' b C n f := by obtain ⟨c, A, r⟩ := A; exact ⟨c, A.other W q, r⟩
theorem OR.keep (A : OR Z h a C n f) (K : Keep h h' ws) (q : a ∉ ws) : OR Z h' a C n f := by obtain ⟨c, A, r⟩ := A; exact ⟨c, ⟨K.2.1 a c A.1 q, A.2⟩, r⟩
theorem OR.lt (A : OR Z h a C n f) : a < h.size := by obtain ⟨c, A, -⟩ := A; exact A.lt
theorem OR.congr (A : OR Z h a C n f) (q : ∀ j, j < n → f j = f' j) : OR Z h a C n f' := by
  obtain ⟨c, A, o, r1, r2, H⟩ := A
  exact ⟨c, A, o, r1, r2, fun j hj => by rw [← q j hj]; exact H j hj⟩
theorem own_newR (X : Stand p l e R s m args below meth c T locs cells slots) (hx : p.tables.exec = Jvm.exec) (hZ : Z.Warmed39 s.vm) {own : String} {index : Nat} (hown : s.vm.findClass own = some m.cls) (w1 : (Cond.classLink own index C).before a0 Z = true) (w2 : (Cond.arrayOver (.object C)).before a0 Z = true) (eT : T.heap = h) {z : Int32} (hz : ¬ z < 0) (en : z.toNatClampNeg = n) {cap : Nat} (hcap : n ≤ cap) (hb : cap * 8 ≤ 536870912) (hc : cells + 1 ≤ R.cells) (hl : slots + cap ≤ R.slots)
    {g : JFrame} (hg : g.method = m) {rest : List Value} (hs : g.stack = .int z :: rest) (hd : decode c.code g.pc = .ok (.anewarray index, 3)) :
    ∃ T' h', Stand p l e R s m args below meth c T' locs (cells + 1) (slots + cap) ∧ T'.heap = h' ∧ Ext h h' ∧ OR Z h' h.size C n (fun _ => .null) ∧
      ∀ t, Steps p.tables e below (T'.setTop { g with pc := g.pc + 3, stack := .ref h.size :: rest }) t → Steps p.tables e below (T.setTop g) t := by
  obtain ⟨T', h', cA, X', e', E', A', O', st⟩ := newR X hx hZ hown w1 w2 eT hg hd hs hz (cap := cap) (en ▸ hcap) hb hc hl
  refine ⟨T', h', X', e', E', ⟨_, A', O', by rw [sz_new]; exact en, ?_, fun j hj => ⟨?_, rfl⟩⟩, st⟩
  · have := z.toInt_lt
    have h2 : z.toNatClampNeg = z.toInt.toNat := rfl
    omega
  · simp [newA, en, hj, defaultValue]
theorem own_stR (X : Stand p l e R s m args below meth c T locs cells slots) (hx : p.tables.exec = Jvm.exec) (hZ : Z.Warmed39 s.vm) (eT : T.heap = h) (A : OR Z h a C n f) {y : Addr} (I : Ins Z h y C true) (hj : ¬ j < 0) (ek : j.toNatClampNeg = k) (hk : k < n)
    {g : JFrame} (hg : g.method = m) {rest : List Value} (hs : g.stack = .ref y :: .int j :: .ref a :: rest) (hd : decode c.code g.pc = .ok (.aastore, 1)) :
    ∃ T' h', Stand p l e R s m args below meth c T' (locs ++ [⟨a, j.toNatClampNeg⟩]) cells slots ∧ T'.heap = h' ∧ Wr h h' a j.toNatClampNeg (.ref y) ∧ OR Z h' a C n (fun i => if i = k then .ref y else f i) ∧
      ∀ t, Steps p.tables e below (T'.setTop { g with pc := g.pc + 1, stack := rest }) t → Steps p.tables e below (T.setTop g) t := by
  obtain ⟨cl, A', O', r1, r2, H⟩ := A
  have q1 : ¬ (j < 0 ∨ cl.slots.size ≤ j.toNatClampNeg) := by
    rintro (q | q)
    · exact hj q
    · omega
  obtain ⟨T', h', X', e', W', st⟩ := stR X hx hZ eT A' q1 rfl (Sto.of A' O' I) hg hs hd
  refine ⟨T', h', X', e', W', ⟨_, A'.same W', O', by rw [sz_set]; exact r1, r2, fun i hi => ?_⟩, st⟩
  obtain ⟨H1, H2⟩ := H i hi
  subst ek
  by_cases q : i = j.toNatClampNeg
  · subst q
    dsimp only
    rw [if_pos rfl]
    exact ⟨by simp [Cell.setSlot, r1, hi], rfl⟩
  · dsimp only
    rw [if_neg q]
    refine ⟨?_, H2⟩
    rw [← H1]
    simp [Cell.setSlot, Array.getElem?_setIfInBounds, Ne.symm q]
theorem own_raload (X : Stand p l e R s m args below meth c T locs cells slots) (hx : p.tables.exec = Jvm.exec) (hZ : Z.Warmed39 s.vm) (eT : T.heap = h) (A : OR Z h a C n f) (hj : ¬ j < 0) (ek : j.toNatClampNeg = k) (hk : k < n) (hv : f k = v)
    {g : JFrame} (hg : g.method = m) {rest : List Value} (hs : g.stack = .int j :: .ref a :: rest) (hd : decode c.code g.pc = .ok (.aaload, 1)) :
    ∀ t, Steps p.tables e below (T.setTop { g with pc := g.pc + 1, stack := v :: rest }) t → Steps p.tables e below (T.setTop g) t := by
  obtain ⟨cl, A', O', r1, r2, H⟩ := A
  have q1 : ¬ (j < 0 ∨ cl.slots.size ≤ j.toNatClampNeg) := by
    rintro (q | q)
    · exact hj q
    · omega
  subst hv
  exact fun t k' => X.aaload hx (by rw [eT]; exact A'.1) (State.isArrayOf_alike hZ.alike A'.2.1) rfl A'.2.2 q1 (by rw [ek]; exact (H k hk).1) hg hs hd t k'
theorem own_fits_ref {t : FieldType} {w : Value} (ht : t.isReference = true) (hw : w.isRef = true) : fits t w = true := by
  cases w <;> simp [Value.isRef] at hw <;> cases t <;> first | rfl | (simp [FieldType.isReference] at ht)
end OwnLayer
def own_bt (k : Nat) : Int32 := (Int32.ofNat k).toInt8.toInt32
def own_by (u : Bool) (c : Nat → Nat) : Nat → Value := fun j => if u then (if j % 2 = 0 then .int (own_bt (c (j / 2))) else .int (own_bt (c (j / 2) / 256))) else .int (own_bt (c j))
def own_len (u : Bool) (n : Nat) : Nat := if u then 2 * n else n
def own_cd (u : Bool) : Int32 := if u then 1 else 0
theorem own_bt_nar (x : Int32) : nar .byte x.toInt8.toInt32 = x.toInt8.toInt32 := by
  show x.toInt8.toInt32.toInt8.toInt32 = _
  simp
theorem own_bt255 (k : Nat) (h : k < 2 ^ 31) : own_bt k &&& 255 = Int32.ofNat (k % 256) := by
  have h1 := c_mask (own_bt k) 255 8 (by decide) rfl
  have h2 := (c_i2b (Int32.ofNat k)).1
  rw [own_toInt k h] at h2
  refine own_eq (by omega) ?_
  rw [h1]
  show (Int32.ofNat k).toInt8.toInt32.toInt % ((2 ^ 8 : Nat) : Int) = _
  omega
theorem own_i2c (k : Nat) (h : k < 65536) : (Int32.ofNat k).toUInt32.toUInt16.toUInt32.toInt32 = Int32.ofNat k := by
  obtain ⟨h1, h2, h3⟩ := c_i2c (Int32.ofNat k)
  rw [own_toInt k (by omega)] at h1
  exact own_eq (by omega) (by omega)
theorem own_nchar (k : Nat) (h : k < 65536) : narrow .char (.int (Int32.ofNat k)) = .int (Int32.ofNat k) := congrArg Value.int (own_i2c k h)
theorem own_charnar (k : Nat) (h : k < 65536) : nar .char (Int32.ofNat k) = Int32.ofNat k := own_i2c k h
theorem own_char (x : Int32) : ∃ k : Nat, k < 65536 ∧ x.toUInt32.toUInt16.toUInt32.toInt32 = Int32.ofNat k := by
  obtain ⟨h1, h2, h3⟩ := c_i2c x
  exact ⟨x.toUInt32.toUInt16.toUInt32.toInt32.toInt.toNat, by omega, own_eq (by omega) (by omega)⟩
theorem own_shr8 (k : Nat) (h : k < 2 ^ 31) : Int32.ofNat k >>> ((8 : Int32) &&& 31) = Int32.ofNat (k / 256) := by
  have h1 := c_ishr (Int32.ofNat k) 8 8 rfl
  rw [own_toInt k h] at h1
  exact own_eq (by omega) (by rw [h1]; omega)
theorem own_shr0 (k : Nat) (h : k < 2 ^ 31) : Int32.ofNat k >>> ((0 : Int32) &&& 31) = Int32.ofNat k := by
  have h1 := c_ishr (Int32.ofNat k) 0 0 rfl
  rw [own_toInt k h] at h1
  exact own_eq h (by rw [h1]; omega)
theorem own_shr1 (k : Nat) (h : k < 2 ^ 30) : Int32.ofNat (2 * k) >>> ((1 : Int32) &&& 31) = Int32.ofNat k := by
  have h1 := c_ishr (Int32.ofNat (2 * k)) 1 1 rfl
  rw [own_toInt (2 * k) (by omega)] at h1
  exact own_eq (by omega) (by rw [h1]; omega)
theorem own_shl1 (k : Nat) (h : k < 2 ^ 30) : Int32.ofNat k <<< ((1 : Int32) &&& 31) = Int32.ofNat (2 * k) := by
  have h1 := c_ishl (Int32.ofNat k) 1 1 rfl
  have h2 := rng32 (Int32.ofNat k <<< ((1 : Int32) &&& 31))
  rw [own_toInt k (by omega)] at h1
  exact own_eq (by omega) (by omega)
theorem own_shl0 (k : Nat) (h : k < 2 ^ 30) : Int32.ofNat k <<< ((0 : Int32) &&& 31) = Int32.ofNat k := by
  have h1 := c_ishl (Int32.ofNat k) 0 0 rfl
  have h2 := rng32 (Int32.ofNat k <<< ((0 : Int32) &&& 31))
  rw [own_toInt k (by omega)] at h1
  exact own_eq (by omega) (by omega)
theorem own_shl8 (k : Nat) (h : k < 65536) : Int32.ofNat k <<< ((8 : Int32) &&& 31) = Int32.ofNat (256 * k) := by
  have h1 := c_ishl (Int32.ofNat k) 8 8 rfl
  have h2 := rng32 (Int32.ofNat k <<< ((8 : Int32) &&& 31))
  rw [own_toInt k (by omega)] at h1
  exact own_eq (by omega) (by omega)
theorem own_join (c : Nat) (h : c < 65536) : (Int32.ofNat (c % 256) <<< ((0 : Int32) &&& 31)) ||| (Int32.ofNat (c / 256 % 256) <<< ((8 : Int32) &&& 31)) = Int32.ofNat c := by
  rw [own_shl0 _ (by omega), own_shl8 _ (by omega)]
  have h1 := own_toInt (c % 256) (by omega)
  have h2 := own_toInt (256 * (c / 256 % 256)) (by omega)
  have h3 := c_or' (Int32.ofNat (c % 256)) (Int32.ofNat (256 * (c / 256 % 256))) 8 (by decide) 256 rfl (by omega) (by omega) (by omega)
  have h4 := rng32 (Int32.ofNat (c % 256) ||| Int32.ofNat (256 * (c / 256 % 256)))
  exact own_eq (by omega) (by omega)
theorem own_by_lo (c : Nat → Nat) (i : Nat) : own_by true c (2 * i) = .int (own_bt (c i)) := by
  have h1 : 2 * i % 2 = 0 := by omega
  have h2 : 2 * i / 2 = i := by omega
  simp [own_by, h1, h2]
theorem own_by_hi (c : Nat → Nat) (i : Nat) : own_by true c (2 * i + 1) = .int (own_bt (c i / 256)) := by
  have h1 : ¬ (2 * i + 1) % 2 = 0 := by omega
  have h2 : (2 * i + 1) / 2 = i := by omega
  simp [own_by, h1, h2]
theorem own_cd_byte (u : Bool) : narrow .byte (.int (own_cd u)) = .int (own_cd u) ∧ fits .byte (.int (own_cd u)) = true := by cases u <;> exact ⟨rfl, rfl⟩
theorem own_cd0 (n : Nat) : (XT.ushr (Int32.ofNat n - Int32.ofNat n) (31 : Int32)).toInt8.toInt32 = (0 : Int32) := by
  rw [Int32.sub_self]; rfl
theorem own_cd1 (n : Nat) (h0 : 0 < n) (h : n < 2 ^ 30) : (XT.ushr (Int32.ofNat n - Int32.ofNat (2 * n)) (31 : Int32)).toInt8.toInt32 = (1 : Int32) := by
  have h1 := c_iushr (Int32.ofNat n - Int32.ofNat (2 * n)) 31 31 rfl (by decide)
  rw [own_subI n (2 * n) (by omega) (by omega)] at h1
  have h2 : XT.ushr (Int32.ofNat n - Int32.ofNat (2 * n)) (31 : Int32) = Int32.ofNat 1 := by
    refine own_eq (by decide) ?_
    show ((Int32.ofNat n - Int32.ofNat (2 * n)).toUInt32 >>> ((31 : Int32) &&& 31).toUInt32).toInt32.toInt = _
    rw [h1]
    omega
  rw [h2]
  rfl
theorem own_part_next {Z : State} {h : Heap} {b : Addr} {n i : Nat} {c : Nat → Nat} (A : OA Z h b .byte (2 * n) (fun j => if j = 2 * i + 1 then .int (own_bt (c i / 256)) else if j = 2 * i then .int (own_bt (c i)) else if j < 2 * i then own_by true c j else .int 0)) :
    OA Z h b .byte (2 * n) (fun j => if j < 2 * (i + 1) then own_by true c j else .int 0) := A.congr fun j hj => by
  by_cases h1 : j = 2 * i + 1
  · rw [if_pos h1, if_pos (by omega), h1, own_by_hi]
  · by_cases h2 : j = 2 * i
    · rw [if_neg h1, if_pos h2, if_pos (by omega), h2, own_by_lo]
    · by_cases h3 : j < 2 * i
      · rw [if_neg h1, if_neg h2, if_pos h3, if_pos (by omega)]
      · rw [if_neg h1, if_neg h2, if_neg h3, if_neg (by omega)]
theorem own_lat_next {Z : State} {h : Heap} {b : Addr} {n i : Nat} {c : Nat → Nat} {f : Nat → Value} (A : OA Z h b .byte n (fun j => if j = i then .int (own_bt (c i)) else if j < i then own_by false c j else f j)) :
    OA Z h b .byte n (fun j => if j < i + 1 then own_by false c j else f j) := A.congr fun j hj => by
  by_cases h2 : j = i
  · rw [if_pos h2, if_pos (by omega), h2]; rfl
  · by_cases h3 : j < i
    · rw [if_neg h2, if_pos h3, if_pos (by omega)]
    · rw [if_neg h2, if_neg h3, if_neg (by omega)]
def own_ST (Z : State) (cs : Int32) (fm : Value) : Prop := Sta Z Z.heap "java/lang/String" "COMPACT_STRINGS" "Z" (.int cs) ∧ cs ≠ 0 ∧ Sta Z Z.heap "jdk/internal/util/Preconditions" "SIOOBE_FORMATTER" "Ljava/util/function/BiFunction;" fm ∧ fm.isRef = true ∧ Sta Z Z.heap "java/lang/StringUTF16" "$assertionsDisabled" "Z" (.int 1) ∧ Sta Z Z.heap "java/lang/StringUTF16" "HI_BYTE_SHIFT" "I" (.int 0) ∧ Sta Z Z.heap "java/lang/StringUTF16" "LO_BYTE_SHIFT" "I" (.int 8) ∧ True
section OwnCold
variable {p : Program} {l : Launch} {e : Env} {R : Room} {s : State} {m : MethodId} {args : Array Value} {below : List Frame} {meth : Method} {c : Code} {T : State} {locs : List Loc} {cells slots : Nat} {Z : State} {a0 : Array Value} {h h' : Heap} {EL : List (String × Nat)} {vm0 : Vm}
/-- as Goes, for a walk that may load String constants -/
def GoesW (p : Program) (e : Env) (below : List Frame) (s : State) (rc rs : Nat) (Z : State) (EL : List (String × Nat)) (Q : Option Value → Heap → List Loc → Prop) (U : State) : Prop :=
  ∃ t o, Steps p.tables e below U t ∧ t.status = .running ∧ Ended t below o ∧ ∃ v L, o = .returned v ∧ Q v t.heap L ∧ CHr Z EL s.vm s.heap t.vm t.heap ∧ ReturnedEndW s o t L rc rs
theorem GoesW.step {rc rs : Nat} {Q : Option Value → Heap → List Loc → Prop} {U V : State} (st : ∀ t, Steps p.tables e below V t → Steps p.tables e below U t) (k : GoesW p e below s rc rs Z EL Q V) : GoesW p e below s rc rs Z EL Q U := by
  obtain ⟨t, o, k1, k2⟩ := k
  exact ⟨t, o, st t k1, k2⟩
/-- what such a walk keeps beside its Stand over s.setVm vm0 -/
def Cold (Z : State) (EL : List (String × Nat)) (s : State) (vm0 : Vm) (h : Heap) : Prop := (∃ k0, s.Since vm0 k0 ∧ k0 ≤ h.size) ∧ CHr Z EL s.vm s.heap vm0 h
theorem Cold.start (H : CHv Z EL s.vm s.heap) : Cold Z EL s s.vm s.heap := ⟨⟨0, (State.WarmedH.refl s).since 0, Nat.zero_le _⟩, CHr.refl H⟩
theorem Cold.ext (C : Cold Z EL s vm0 h) (E : Ext h h') : Cold Z EL s vm0 h' := by
  obtain ⟨⟨k0, hS, hk⟩, C⟩ := C
  exact ⟨⟨k0, hS, Nat.le_trans hk E.1⟩, C.trans (CHr.ext E C.1)⟩
theorem Cold.wr {a : Addr} {sl : Nat} {v : Value} (C : Cold Z EL s vm0 h) (W : Wr h h' a sl v) (S : Safe Z EL vm0 h a) : Cold Z EL s vm0 h' := by
  obtain ⟨⟨k0, hS, hk⟩, C⟩ := C
  exact ⟨⟨k0, hS, Nat.le_trans hk (Keep.of_wr W).1⟩, C.trans (CHr.wr W S C.1)⟩
theorem Cold.keep {ws : List Addr} (C : Cold Z EL s vm0 h) (K : Keep h h' ws) (hs : ∀ x ∈ ws, Safe Z EL vm0 h x) : Cold Z EL s vm0 h' := by
  obtain ⟨⟨k0, hS, hk⟩, C⟩ := C
  exact ⟨⟨k0, hS, Nat.le_trans hk K.1⟩, C.trans (CHr.keep K hs C.1)⟩
theorem Cold.chv (C : Cold Z EL s vm0 h) : CHv Z EL vm0 h := C.2.1
theorem own_endW {rc rs : Nat} {o : Outcome} {U : State} (C : Cold Z EL s vm0 h) (eU : U.heap = h) (ho : ∃ v, o = .returned v) (hW : (s.setVm vm0).WarmedH U.vm) (hs : (s.setVm vm0).sameButNew ({ U with vm := vm0 } : State) locs cells slots) (hc : cells ≤ rc) (hsl : slots ≤ rs) : ReturnedEndW s o U locs rc rs := by
  obtain ⟨⟨k0, hS, hk⟩, -⟩ := C
  obtain ⟨h1, h2, h3⟩ := hS.ended hW (by rw [eU]; exact hk) hs
  exact ⟨ho, h1, h2, h3.mono hc hsl⟩
theorem GoesW.ret {rc rs : Nat} {Q : Option Value → Heap → List Loc → Prop} (X : Stand p l e R (s.setVm vm0) m args below meth c T locs cells slots) (hx : p.tables.exec = Jvm.exec) (hZ : Z.Warmed39 (s.setVm vm0).vm) (hEL : EW Z a0 EL) (C : Cold Z EL s vm0 h) (eT : T.heap = h) (hlk : meth.locks = false) {pc : Nat} {Ls : Array Slot} {w : Value} {t : FieldType} {i : Instr} {rest : List Value} (hret : meth.sig.returnType = some t) (hn : narrow t w = w)
    (hi : (i = .ireturn ∧ (t = .int ∨ t = .boolean ∨ t = .byte ∨ t = .char ∨ t = .short) ∧ ∃ z, w = .int z) ∨ (i = .lreturn ∧ t = .long ∧ ∃ z, w = .long z) ∨ (i = .dreturn ∧ t = .double ∧ ∃ z, w = .double z) ∨ (i = .freturn ∧ t = .float ∧ ∃ z, w = .float z) ∨ (i = .areturn ∧ t.isReference = true ∧ w.isRef = true))
    (hd : decode c.code pc = .ok (i, 1)) (hc : cells ≤ rc) (hs : slots ≤ rs) (hQ : Q (some w) T.heap locs) : GoesW p e below s rc rs Z EL Q (T.setTop (mkF m pc Ls (w :: rest))) := by
  obtain ⟨fs, hr, hrun, hended, hW, hsame⟩ := X.leave (v := some w) (fun h => by rw [hret] at h; cases h) hlk
  refine ⟨_, _, retOut X hx hret hn hi hd hr, hrun, hended, _, _, rfl, hQ, ?_, own_endW C eT ⟨_, rfl⟩ hW hsame hc hs⟩
  show CHr Z EL s.vm s.heap T.vm T.heap
  rw [eT]
  exact C.2.trans (CHv.at X hZ hEL C.2.1)
theorem GoesW.retI {rc rs : Nat} {Q : Option Value → Heap → List Loc → Prop} (X : Stand p l e R (s.setVm vm0) m args below meth c T locs cells slots) (hx : p.tables.exec = Jvm.exec) (hZ : Z.Warmed39 (s.setVm vm0).vm) (hEL : EW Z a0 EL) (C : Cold Z EL s vm0 h) (eT : T.heap = h) (hlk : meth.locks = false) {pc : Nat} {Ls : Array Slot} {z : Int32} {rest : List Value} (hret : meth.sig.returnType = some .int)
    (hd : decode c.code pc = .ok (.ireturn, 1)) (hc : cells ≤ rc) (hs : slots ≤ rs) (hQ : Q (some (.int z)) T.heap locs) : GoesW p e below s rc rs Z EL Q (T.setTop (mkF m pc Ls (.int z :: rest))) :=
  GoesW.ret X hx hZ hEL C eT hlk hret rfl (Or.inl ⟨rfl, Or.inl rfl, _, rfl⟩) hd hc hs hQ
theorem GoesW.retZ {rc rs : Nat} {Q : Option Value → Heap → List Loc → Prop} (X : Stand p l e R (s.setVm vm0) m args below meth c T locs cells slots) (hx : p.tables.exec = Jvm.exec) (hZ : Z.Warmed39 (s.setVm vm0).vm) (hEL : EW Z a0 EL) (C : Cold Z EL s vm0 h) (eT : T.heap = h) (hlk : meth.locks = false) {pc : Nat} {Ls : Array Slot} {z : Int32} {t : FieldType} {rest : List Value} (hret : meth.sig.returnType = some t)
    (ht : t = .boolean ∨ t = .byte ∨ t = .char ∨ t = .short) (hn : narrow t (.int z) = .int z)
    (hd : decode c.code pc = .ok (.ireturn, 1)) (hc : cells ≤ rc) (hs : slots ≤ rs) (hQ : Q (some (.int z)) T.heap locs) : GoesW p e below s rc rs Z EL Q (T.setTop (mkF m pc Ls (.int z :: rest))) :=
  GoesW.ret X hx hZ hEL C eT hlk hret hn (Or.inl ⟨rfl, Or.inr ht, _, rfl⟩) hd hc hs hQ
theorem GoesW.retA {rc rs : Nat} {Q : Option Value → Heap → List Loc → Prop} (X : Stand p l e R (s.setVm vm0) m args below meth c T locs cells slots) (hx : p.tables.exec = Jvm.exec) (hZ : Z.Warmed39 (s.setVm vm0).vm) (hEL : EW Z a0 EL) (C : Cold Z EL s vm0 h) (eT : T.heap = h) (hlk : meth.locks = false) {pc : Nat} {Ls : Array Slot} {w : Value} {t : FieldType} {rest : List Value} (hret : meth.sig.returnType = some t)
    (ht : t.isReference = true) (hw : w.isRef = true)
    (hd : decode c.code pc = .ok (.areturn, 1)) (hc : cells ≤ rc) (hs : slots ≤ rs) (hQ : Q (some w) T.heap locs) : GoesW p e below s rc rs Z EL Q (T.setTop (mkF m pc Ls (w :: rest))) :=
  GoesW.ret X hx hZ hEL C eT hlk hret (own_narrow_ref hw) (Or.inr (Or.inr (Or.inr (Or.inr ⟨rfl, ht, hw⟩)))) hd hc hs hQ
theorem GoesW.retV {rc rs : Nat} {Q : Option Value → Heap → List Loc → Prop} (X : Stand p l e R (s.setVm vm0) m args below meth c T locs cells slots) (hx : p.tables.exec = Jvm.exec) (hZ : Z.Warmed39 (s.setVm vm0).vm) (hEL : EW Z a0 EL) (C : Cold Z EL s vm0 h) (eT : T.heap = h) (hlk : meth.locks = false) {pc : Nat} {Ls : Array Slot} (hret : meth.sig.returnType = none)
    (hd : decode c.code pc = .ok (.return_, 1)) (hc : cells ≤ rc) (hs : slots ≤ rs) (hQ : Q none T.heap locs) : GoesW p e below s rc rs Z EL Q (T.setTop (mkF m pc Ls [])) := by
  obtain ⟨fs, hr, hrun, hended, hW, hsame⟩ := X.leave (v := none) (fun _ => rfl) hlk
  refine ⟨_, _, X.returnOut hx hret hd hr, hrun, hended, _, _, rfl, hQ, ?_, own_endW C eT ⟨_, rfl⟩ hW hsame hc hs⟩
  show CHr Z EL s.vm s.heap T.vm T.heap
  rw [eT]
  exact C.2.trans (CHv.at X hZ hEL C.2.1)
/-- a callee that may load constants and writes old places ws that no constant is at -/
theorem own_backW {y : MethodName} {bytes : ByteArray} {maxL : Nat} {ret : Option FieldType} {rm : Room} {len W : Nat} {as' : Array Value} {ws : List Addr} {Q : Option Value → Heap → List Loc → Prop}
    (hM : MetFree l y (head1 [Cond.code y bytes maxL ret] rm) (fun a U => a = as' ∧ Z.Warmed39 U.vm ∧ U.heap = h ∧ CHv Z EL U.vm h ∧ ∀ x ∈ ws, Safe Z EL U.vm h x) (fun _ _ _ _ _ => True) (fun _ U o U' => ∃ v L, o = .returned v ∧ Q v U'.heap L ∧ CHr Z EL U.vm U.heap U'.vm U'.heap ∧ ReturnedEndW U o U' L rm.cells rm.slots))
    (hZ : Z.Warmed39 vm0) (wc : (Cond.code y bytes maxL ret).before a0 Z = true) (wz : (Cond.initialized y.cls).before a0 Z = true) (hf : rm.frames + 1 ≤ R.frames) (hl : W + (maxL + 11) + rm.locals ≤ R.locals) (hEL : EW Z a0 EL) (H : CHv Z EL vm0 h) (hws : ∀ x ∈ ws, x < h.size ∧ Safe Z EL vm0 h x) :
    BackS l R p e below (s.setVm vm0) args y len W (fun A a => a = as' ∧ A.U.heap = h ∧ A.cells + rm.cells ≤ R.cells ∧ A.slots + rm.slots ≤ R.slots)
      (fun A _ v B => ∃ L, Q v B.U.heap L ∧ B.locs = A.locs ++ L ∧ B.cells = A.cells + rm.cells ∧ B.slots = A.slots + rm.slots ∧ CHr Z EL vm0 h B.U.vm B.U.heap) := by
  refine BackS.of_freeW (bytes := bytes) (maxL := maxL) (ret := ret) (E := fun _ first o t L k n => (k = rm.cells ∧ n = rm.slots) ∧ CHr Z EL first.vm first.heap t.vm t.heap ∧ ∃ v, o = .returned v ∧ Q v t.heap L) hM hf hl ?_ ?_ (fun _ _ _ _ _ _ _ _ _ => trivial) ?_ ?_
  · intro m meth c A a Y hp
    have hU : Z.Warmed39 A.U.vm := wtrans (s := s.setVm vm0) hZ Y.warmed
    refine ⟨?_, mv hU wc, mv hU wz, hp.2.2⟩
    show (Cond.and _ .tt).before a A.U = true
    rw [Cond.before_and, mv hU wc]
    rfl
  · intro m meth c A a g mk Y hp
    have hc := CHv.at Y hZ hEL H
    exact ⟨hp.1, wtrans (s := s.setVm vm0) hZ Y.warmed, hp.2.1, hc.1, fun x hx => hc.safe (hws x hx).1 (hws x hx).2⟩
  · rintro a f o t ⟨v, L, h1, h2, h3, h4⟩
    exact ⟨L, _, _, h4, ⟨rfl, rfl⟩, h3, v, h1, h2⟩
  · rintro m meth c A a g mk v t L k n Y hp - - ⟨⟨rfl, rfl⟩, e5, v', e3, e4⟩
    cases e3
    refine ⟨L, e4, rfl, rfl, rfl, (CHv.at Y hZ hEL H).trans ?_⟩
    rw [← hp.2.1]
    exact e5
/-- what stands behind a call or a load that may have interned -/
def After (p : Program) (l : Launch) (e : Env) (R : Room) (s : State) (m : MethodId) (args : Array Value) (below : List Frame) (meth : Method) (c : Code) (own : String) (Z : State) (EL : List (String × Nat)) (vm0 : Vm) (h : Heap) (vm1 : Vm) (T' : State) (locs : List Loc) (cells slots : Nat) : Prop :=
  Stand p l e R (s.setVm vm1) m args below meth c T' locs cells slots ∧ Cold Z EL s vm1 T'.heap ∧ Z.Warmed39 (s.setVm vm1).vm ∧ (s.setVm vm1).vm.findClass own = some m.cls ∧ ∀ x, x < h.size → Safe Z EL vm0 h x → Safe Z EL vm1 T'.heap x
theorem own_callSW (X : Stand p l e R (s.setVm vm0) m args below meth c T locs cells slots) (hx : p.tables.exec = Jvm.exec) (hZ : Z.Warmed39 (s.setVm vm0).vm) (hEL : EW Z a0 EL) (C : Cold Z EL s vm0 h) {own : String} {index : Nat} {y : MethodName} {bytes : ByteArray} {maxL : Nat} {ret : Option FieldType} (hown : (s.setVm vm0).vm.findClass own = some m.cls)
    (w1 : (Cond.methodLink own index y).before a0 Z = true) (w2 : (Cond.static y).before a0 Z = true) (w3 : (Cond.initialized y.cls).before a0 Z = true) (w4 : (Cond.code y bytes maxL ret).before a0 Z = true) (hy : y.cls ≠ "java/lang/invoke/MethodHandle" ∧ y.cls ≠ "java/lang/invoke/VarHandle")
    {rm : Room} {argsL : List Value} {ws : List Addr} {Q : Option Value → Heap → List Loc → Prop} (hws : ∀ x ∈ ws, x < h.size ∧ Safe Z EL vm0 h x)
    (hM : MetFree l y (head1 [Cond.code y bytes maxL ret] rm) (fun a U => a = argsL.toArray ∧ Z.Warmed39 U.vm ∧ U.heap = h ∧ CHv Z EL U.vm h ∧ ∀ x ∈ ws, Safe Z EL U.vm h x) (fun _ _ _ _ _ => True) (fun _ U o U' => ∃ v L, o = .returned v ∧ Q v U'.heap L ∧ CHr Z EL U.vm U.heap U'.vm U'.heap ∧ ReturnedEndW U o U' L rm.cells rm.slots))
    (eT : T.heap = h) {W : Nat} (hf : rm.frames + 1 ≤ R.frames) (hl : W + (maxL + 11) + rm.locals ≤ R.locals) (hc : cells + rm.cells ≤ R.cells) (hsl : slots + rm.slots ≤ R.slots)
    {g : JFrame} (hg : g.method = m) (hsize : g.locals.size = c.maxLocals) {rest : List Value} (hlen : ∀ sig, parseMethodDescriptor y.desc = some sig → argsL.length = sig.parameters.length)
    (hstack : g.stack = argsL.reverse ++ rest) (hW : 2 * g.monitorRoom + (rest.map fun v => v.category).sum ≤ W) (hdg : decode c.code g.pc = .ok (.invokestatic index, 3)) :
    ∃ (v : Option Value) (vm1 : Vm) (T' : State) (L : List Loc), After p l e R s m args below meth c own Z EL vm0 h vm1 T' (locs ++ L) (cells + rm.cells) (slots + rm.slots) ∧ Q v T'.heap L ∧
      ∀ t, Steps p.tables e below (T'.setTop { g with pc := g.pc + 3, stack := v.toList ++ rest }) t → Steps p.tables e below (T.setTop g) t := by
  obtain ⟨⟨k0, hS, hk⟩, CC⟩ := C
  obtain ⟨v, _, ⟨U, Ls, k, n⟩, -, X', hS', hgr, ⟨Lc, hQ, l1, y1, z1, cr⟩, st⟩ := callSS X hx (y := y) hown (mvT hZ w1) (mvT hZ w2) (mvT hZ w3) (mvT hZ w4) hy (own_backW (W := W) hM hZ w4 w3 hf hl hEL CC.1 hws) hg hsize (argsL := argsL) (rest := rest) hlen hstack hW hdg (fun _ _ => ⟨rfl, eT, hc, hsl⟩)
  dsimp only [Pt.U, Pt.locs, Pt.cells, Pt.slots] at X' hS' hgr l1 y1 z1 cr st hQ
  subst l1 y1 z1
  obtain ⟨X2, S2, Z2, O2⟩ := rebS hS (eT ▸ hk) X' hS' hgr hZ hown
  exact ⟨v, U.vm, U, Lc, ⟨X2, ⟨⟨_, S2, Nat.le_refl _⟩, CC.trans cr⟩, Z2, O2, fun x hx hs => cr.safe hx hs⟩, hQ, fun t k => st.trans k⟩
theorem own_callNW (X : Stand p l e R (s.setVm vm0) m args below meth c T locs cells slots) (hx : p.tables.exec = Jvm.exec) (hZ : Z.Warmed39 (s.setVm vm0).vm) (hEL : EW Z a0 EL) (C : Cold Z EL s vm0 h) {own : String} {index : Nat} {y : MethodName} {bytes : ByteArray} {maxL : Nat} (hy1 : y.name = "<init>") (hown : (s.setVm vm0).vm.findClass own = some m.cls)
    (w1 : (Cond.methodLink own index y).before a0 Z = true) (w2 : (Cond.instanceMethod y).before a0 Z = true) (w3 : (Cond.initialized y.cls).before a0 Z = true) (w4 : (Cond.code y bytes maxL none).before a0 Z = true) (hy : y.cls ≠ "java/lang/invoke/MethodHandle" ∧ y.cls ≠ "java/lang/invoke/VarHandle")
    {rm : Room} {a : Addr} {argsL : List Value} {ws : List Addr} {Q : Option Value → Heap → List Loc → Prop} (hws : ∀ x ∈ ws, x < h.size ∧ Safe Z EL vm0 h x)
    (hM : MetFree l y (head1 [Cond.code y bytes maxL none] rm) (fun b U => b = (.ref a :: argsL).toArray ∧ Z.Warmed39 U.vm ∧ U.heap = h ∧ CHv Z EL U.vm h ∧ ∀ x ∈ ws, Safe Z EL U.vm h x) (fun _ _ _ _ _ => True) (fun _ U o U' => ∃ v L, o = .returned v ∧ Q v U'.heap L ∧ CHr Z EL U.vm U.heap U'.vm U'.heap ∧ ReturnedEndW U o U' L rm.cells rm.slots))
    (eT : T.heap = h) {W : Nat} (hf : rm.frames + 1 ≤ R.frames) (hl : W + (maxL + 11) + rm.locals ≤ R.locals) (hc : cells + rm.cells ≤ R.cells) (hsl : slots + rm.slots ≤ R.slots)
    {g : JFrame} (hg : g.method = m) (hsize : g.locals.size = c.maxLocals) {rest : List Value} (hlen : ∀ sig, parseMethodDescriptor y.desc = some sig → argsL.length = sig.parameters.length)
    (hstack : g.stack = argsL.reverse ++ .ref a :: rest) (hW : 2 * g.monitorRoom + (rest.map fun v => v.category).sum ≤ W) (hdg : decode c.code g.pc = .ok (.invokespecial index, 3)) :
    ∃ (v : Option Value) (vm1 : Vm) (T' : State) (L : List Loc), After p l e R s m args below meth c own Z EL vm0 h vm1 T' (locs ++ L) (cells + rm.cells) (slots + rm.slots) ∧ Q v T'.heap L ∧
      ∀ t, Steps p.tables e below (T'.setTop { g with pc := g.pc + 3, stack := v.toList ++ rest }) t → Steps p.tables e below (T.setTop g) t := by
  obtain ⟨⟨k0, hS, hk⟩, CC⟩ := C
  obtain ⟨v, _, ⟨U, Ls, k, n⟩, -, X', hS', hgr, ⟨Lc, hQ, l1, y1, z1, cr⟩, st⟩ := X.specialBackS hx (y := y) hy1 hown (mvT hZ w1) (mvT hZ w2) (mvT hZ w4) hy (own_backW (W := W) hM hZ w4 w3 hf hl hEL CC.1 hws) hg hsize (Steps.refl _) (a := a) (argsL := argsL) (rest := rest) hlen hstack hW hdg (fun _ _ => ⟨rfl, eT, hc, hsl⟩)
  dsimp only [Pt.U, Pt.locs, Pt.cells, Pt.slots] at X' hS' hgr l1 y1 z1 cr st hQ
  subst l1 y1 z1
  obtain ⟨X2, S2, Z2, O2⟩ := rebS hS (eT ▸ hk) X' hS' hgr hZ hown
  exact ⟨v, U.vm, U, Lc, ⟨X2, ⟨⟨_, S2, Nat.le_refl _⟩, CC.trans cr⟩, Z2, O2, fun x hx hs => cr.safe hx hs⟩, hQ, fun t k => st.trans k⟩
theorem own_callVW (X : Stand p l e R (s.setVm vm0) m args below meth c T locs cells slots) (hx : p.tables.exec = Jvm.exec) (hZ : Z.Warmed39 (s.setVm vm0).vm) (hEL : EW Z a0 EL) (C : Cold Z EL s vm0 h) {own C0 : String} {index : Nat} {y : MethodName} {bytes : ByteArray} {maxL : Nat} {ret : Option FieldType} (hown : (s.setVm vm0).vm.findClass own = some m.cls)
    (w1 : (Cond.methodLink own index y).before a0 Z = true) (w2 : (Cond.declares y).before a0 Z = true) (w5 : (Cond.selects C0 y y).before a0 Z = true) (w6 : (Cond.instanceMethod y).before a0 Z = true) (w3 : (Cond.initialized y.cls).before a0 Z = true) (w4 : (Cond.code y bytes maxL ret).before a0 Z = true) (hy : y.cls ≠ "java/lang/invoke/MethodHandle" ∧ y.cls ≠ "java/lang/invoke/VarHandle")
    {rm : Room} {a : Addr} {argsL : List Value} {ws : List Addr} {Q : Option Value → Heap → List Loc → Prop} (hws : ∀ x ∈ ws, x < h.size ∧ Safe Z EL vm0 h x)
    (hM : MetFree l y (head1 [Cond.code y bytes maxL ret] rm) (fun b U => b = (.ref a :: argsL).toArray ∧ Z.Warmed39 U.vm ∧ U.heap = h ∧ CHv Z EL U.vm h ∧ ∀ x ∈ ws, Safe Z EL U.vm h x) (fun _ _ _ _ _ => True) (fun _ U o U' => ∃ v L, o = .returned v ∧ Q v U'.heap L ∧ CHr Z EL U.vm U.heap U'.vm U'.heap ∧ ReturnedEndW U o U' L rm.cells rm.slots))
    (eT : T.heap = h) (E : Exa Z h a C0) {W : Nat} (hf : rm.frames + 1 ≤ R.frames) (hl : W + (maxL + 11) + rm.locals ≤ R.locals) (hc : cells + rm.cells ≤ R.cells) (hsl : slots + rm.slots ≤ R.slots)
    {g : JFrame} (hg : g.method = m) (hsize : g.locals.size = c.maxLocals) {rest : List Value} (hlen : ∀ sig, parseMethodDescriptor y.desc = some sig → argsL.length = sig.parameters.length)
    (hstack : g.stack = argsL.reverse ++ .ref a :: rest) (hW : 2 * g.monitorRoom + (rest.map fun v => v.category).sum ≤ W) (hdg : decode c.code g.pc = .ok (.invokevirtual index, 3)) :
    ∃ (v : Option Value) (vm1 : Vm) (T' : State) (L : List Loc), After p l e R s m args below meth c own Z EL vm0 h vm1 T' (locs ++ L) (cells + rm.cells) (slots + rm.slots) ∧ Q v T'.heap L ∧
      ∀ t, Steps p.tables e below (T'.setTop { g with pc := g.pc + 3, stack := v.toList ++ rest }) t → Steps p.tables e below (T.setTop g) t := by
  obtain ⟨⟨k0, hS, hk⟩, CC⟩ := C
  obtain ⟨cB, kB, qa, qb, qc⟩ := isOf hZ eT E
  obtain ⟨v, _, ⟨U, Ls, k, n⟩, -, X', hS', hgr, ⟨Lc, hQ, l1, y1, z1, cr⟩, st⟩ := X.virtualBackS hx (y := y) (z := y) hown (mvT hZ w1) (mvT hZ w2) (notFace_of_selects (args := #[]) (mvT hZ w5)) (mvT hZ w5) (mvT hZ w6) hy (own_backW (W := W) hM hZ w4 w3 hf hl hEL CC.1 hws) qa qc hg hsize (Steps.refl _) (argsL := argsL) (rest := rest) hlen hstack hW hdg (fun _ _ => ⟨rfl, eT, hc, hsl⟩)
  dsimp only [Pt.U, Pt.locs, Pt.cells, Pt.slots] at X' hS' hgr l1 y1 z1 cr st hQ
  subst l1 y1 z1
  obtain ⟨X2, S2, Z2, O2⟩ := rebS hS (eT ▸ hk) X' hS' hgr hZ hown
  exact ⟨v, U.vm, U, Lc, ⟨X2, ⟨⟨_, S2, Nat.le_refl _⟩, CC.trans cr⟩, Z2, O2, fun x hx hs => cr.safe hx hs⟩, hQ, fun t k => st.trans k⟩
/-- ldc of a String constant of EL: it is read -/
theorem own_ldcW (X : Stand p l e R (s.setVm vm0) m args below meth c T locs cells slots) (hx : p.tables.exec = Jvm.exec) (hZ : Z.Warmed39 (s.setVm vm0).vm) (hEL : EW Z a0 EL) (C : Cold Z EL s vm0 h) {own text : String} {index : Nat} (hown : (s.setVm vm0).vm.findClass own = some m.cls)
    (w : (Cond.stringLink own index text).before a0 Z = true) (wS : ∀ a ∈ Bundle.stringAtoms, a.before a0 Z = true) (eT : T.heap = h) (hmem : (own, index) ∈ EL)
    {vs : List Value} {k : Nat} (ht : (∀ c ∈ text.toList, c.toNat < 256) ∧ text.toList.map (fun c => Value.int (Jvm.Lit.byteI c.toNat.toUInt16)) = vs) (hk : k = vs.length) (hk31 : k < 2 ^ 31)
    {g : JFrame} (hg : g.method = m) (hd : decode c.code g.pc = .ok (.ldc index, 2)) {n : Nat} (hn : 4 * text.toList.length ≤ n) (hbig : n ≤ 536870912) (hc : cells + 2 ≤ R.cells) (hl' : slots + (n + 4) ≤ R.slots) :
    ∃ (a b : Addr) (vm1 : Vm) (T' : State) (h' : Heap), After p l e R s m args below meth c own Z EL vm0 h vm1 T' locs (cells + 2) (slots + (n + 4)) ∧ T'.heap = h' ∧ Ext h h' ∧
      Exa Z h' a "java/lang/String" ∧ Fld Z h' a "java/lang/String" "value" "[B" (.ref b) ∧ Fld Z h' a "java/lang/String" "coder" "B" (.int 0) ∧ OA Z h' b .byte k (fun i => vs.getD i (.int 0)) ∧ Lit (s.setVm vm1) own index a ∧ (∀ x, Safe Z EL vm1 h' x → x ≠ a ∧ x ≠ b) ∧
      ∀ t, Steps p.tables e below (T'.setTop { g with pc := g.pc + 2, stack := .ref a :: g.stack }) t → Steps p.tables e below (T.setTop g) t := by
  obtain ⟨⟨k0, hS, hk0⟩, CC⟩ := C
  obtain ⟨a, T', h', k1, b, kc, X', e', E', hS', hk', Z', O', Ex, Fc, Fv, Av, la, lb, cr, L, sf, st⟩ := ldcCH X hx hZ hown w wS eT hS hk0 hEL hmem CC.1 (vs := vs) (z := Int32.ofNat k) ht (own_nneg k hk31) (by rw [own_clamp k hk31]; exact hk) hg hd hn hbig hc hl'
  subst e'
  exact ⟨a, b, T'.vm, T', _, ⟨X', ⟨⟨k1, hS', hk'⟩, CC.trans cr⟩, Z', O', fun x hx hs => cr.safe hx hs⟩, rfl, E', Ex, Fv, Fc, OA.of_arv Av (own_clamp k hk31) (fun i hi => rfl), L, sf, st⟩
theorem own_ldcAgainW (X : Stand p l e R (s.setVm vm0) m args below meth c T locs cells slots) (hx : p.tables.exec = Jvm.exec) (hZ : Z.Warmed39 (s.setVm vm0).vm) {own text : String} {index : Nat} (hown : (s.setVm vm0).vm.findClass own = some m.cls)
    (w : (Cond.stringLink own index text).before a0 Z = true) {a : Addr} (L : Lit (s.setVm vm0) own index a) {g : JFrame} (hg : g.method = m) (hd : decode c.code g.pc = .ok (.ldc index, 2)) :
    ∀ t, Steps p.tables e below (T.setTop { g with pc := g.pc + 2, stack := .ref a :: g.stack }) t → Steps p.tables e below (T.setTop g) t := ldcAgain X hx hZ hown w L hg hd
end OwnCold

theorem own_EW {Z : State} {a0 : Array Value} (hw : ∀ d ∈ tables_1, d.before a0 Z = true) : EW Z a0 consts_1 := (EW.cons (hw _ (List.mem_of_getElem? (i := 93) rfl)) (by decide) (EW.cons (hw _ (List.mem_of_getElem? (i := 89) rfl)) (by decide) (EW.cons (hw _ (List.mem_of_getElem? (i := 133) rfl)) (by decide) EW.nil)))
theorem own_wS {Z : State} {a0 : Array Value} (hw : ∀ d ∈ tables_1, d.before a0 Z = true) : ∀ a ∈ Bundle.stringAtoms, a.before a0 Z = true := by
  intro a ha
  simp only [Bundle.stringAtoms, List.mem_cons, List.not_mem_nil, or_false] at ha
  rcases ha with rfl | rfl | rfl | rfl | rfl | rfl | rfl
  · exact (hw _ (List.mem_of_getElem? (i := 8) rfl))
  · exact (hw _ (List.mem_of_getElem? (i := 7) rfl))
  · exact (hw _ (List.mem_of_getElem? (i := 25) rfl))
  · exact (hw _ (List.mem_of_getElem? (i := 35) rfl))
  · exact (hw _ (List.mem_of_getElem? (i := 33) rfl))
  · exact (hw _ (List.mem_of_getElem? (i := 90) rfl))
  · exact (hw _ (List.mem_of_getElem? (i := 91) rfl))
theorem own_allS {P : Addr → Prop} {y : Addr} {L : List Addr} (q : P y) (r : ∀ x ∈ L, P x) : ∀ x ∈ y :: L, P x := allS q r
section OwnColdW
variable {p : Program} {l : Launch} {e : Env} {R : Room} {s : State} {m : MethodId} {args : Array Value} {below : List Frame} {meth : Method} {c : Code} {T : State} {locs : List Loc} {cells slots : Nat} {Z : State} {a0 : Array Value} {h h' : Heap} {EL : List (String × Nat)} {vm0 : Vm}
theorem own_sb0 : (stringBytes #[]).size = 0 := by rw [Jvm.Free.SBG.stringBytes_lat (by simp)]; simp
/-- the String that stands for the text "": what its cells hold -/
theorem own_slRead {vm : Vm} {q : Jvm.Free.SB.SQ} (hal : Z.vm.Alike vm) (F : SlB (Wst Z vm h) q #[]) : Exa Z h q.sa "java/lang/String" ∧ Fld Z h q.sa "java/lang/String" "value" "[B" (.ref q.sd) ∧ Fld Z h q.sa "java/lang/String" "coder" "B" (.int 0) ∧ OA Z h q.sd .byte 0 (fun i => ([] : List Value).getD i (.int 0)) := by
  obtain ⟨cS, ⟨⟨s1, s2, s3, ⟨cv, kv, iv, s4, s4'⟩, ⟨cc, kc, ic, s5, s5'⟩, s6, s7, s8, s9, s10, ⟨hst, k9, hk9, comp, hkind9⟩, s12, -⟩, hfS, hcS⟩, ⟨kS, k1, k2, k3⟩, hB, hbyt⟩ := F
  obtain ⟨kv', z4⟩ := ff_back (U := Wst Z vm h) hal s4
  obtain ⟨kc', z5⟩ := ff_back (U := Wst Z vm h) hal s5
  have fS : Z.vm.findClass "java/lang/String" = some q.sC.cls := by rw [← hal.findClass, hcS]; exact hfS
  have fB : Z.vm.findClass "[B" = some q.SA.cls := by rw [← hal.findClass]; exact hB
  obtain ⟨kz, hkz, -⟩ := Vm.findClass_spec fS
  obtain ⟨kz', hkz', ekz⟩ := hal.2.2 _ _ hkz
  have ekS : kz' = kS := Option.some.inj (hkz'.symm.trans (hcS ▸ k1))
  obtain ⟨kb, hkb, -⟩ := Vm.findClass_spec fB
  obtain ⟨kb', hkb', ekb⟩ := hal.2.2 _ _ hkb
  have ek9 : k9 = kb' := Option.some.inj ((show vm.classes[q.SA.cls]? = some k9 from hk9).symm.trans hkb')
  have hA : Arr Z h q.sd q.SA .byte := ⟨s10, ⟨hst, kb, hkb, comp, by rw [ek9, ekb] at hkind9; exact hkind9⟩, s12⟩
  have hsz : q.SA.slots.size = 0 := by rw [hbyt]; exact own_sb0
  refine ⟨⟨q.sC, kz, s1, fS, hkz, s3, fun _ => by rw [k3, ← ekS, ekz]⟩, ⟨q.sC, cv, kv', iv, q.fSV, s1, z4, s6, s2, s3, by rw [← hal.assignable]; exact s4', s8⟩, ⟨q.sC, cc, kc', ic, q.fSC, s1, z5, s7, s2, s3, by rw [← hal.assignable]; exact s5', s9⟩, ?_⟩
  exact ⟨q.SA, hA, hsz, by decide, fun j hj => absurd hj (Nat.not_lt_zero j)⟩
/-- ldc_w of the text "": resolved, found in the intern table, or made -/
theorem own_ldcwN (X : Stand p l e R s m args below meth c T locs cells slots) (hx : p.tables.exec = Jvm.exec) {own : String} {index : Nat} (hown : s.vm.findClass own = some m.cls)
    (hlink : (Cond.stringLink own index "").before args s = true) (hS : ∀ a ∈ Bundle.stringAtoms, a.before args s = true)
    {g : JFrame} (hg : g.method = m) (hd : decode c.code g.pc = .ok (.ldc_w index, 3)) (hc : cells + 2 ≤ R.cells) (hl : slots + 4 ≤ R.slots) :
    ∃ (a : Addr) (T₂ : State), Stand p l e R (s.setVm T₂.vm) m args below meth c T₂ locs (cells + 2) (slots + 4) ∧ s.Since T₂.vm T₂.heap.size ∧ (∃ k₂, T₂.vm.classes[m.cls]? = some k₂ ∧ k₂.resolved[index]? = some (some (.string a))) ∧
      (∀ b, b < T.heap.size → T₂.heap[b]? = T.heap[b]?) ∧ T.Warmed39 T₂.vm ∧
      (T₂.vm.interned = T.vm.interned ∨ (T₂.vm.interned = T.vm.interned.push (#[], a) ∧ T.vm.interned.find? (fun p => p.1 == #[]) = none ∧ SlIn 0 T.heap.size T₂ a #[])) ∧
      ∀ t, Steps p.tables e below (T₂.setTop { g with pc := g.pc + 3, stack := .ref a :: g.stack }) t → Steps p.tables e below (T.setTop g) t := by
  obtain ⟨k, cf, i, units, hk, hcf, hpool, hu, hnm, hdec, hres⟩ := Cond.stringLink_spec hown hlink
  have hu0 : units = #[] := by
    have q : units.toList = [] := Jvm.ClassFile.units_of_text hdec (fun c hc => nomatch hc)
    exact Array.toList_eq_nil_iff.mp q
  subst hu0
  subst hg
  obtain ⟨k', hk', -, -, ent, -⟩ := X.warmed.wide.2.2.2 _ k hk
  obtain ⟨k1, hk1, ek1⟩ := X.warmed.alike.2.2 _ _ hk
  obtain rfl : k1 = k' := Option.some.inj (hk1.symm.trans hk')
  have hcf' : k1.cf = some cf := by rw [ek1]; exact hcf
  have names : ∀ kk : Class, kk.cf = some cf → kk.cf.bind (namesOf? ·.constantPool index) = some (.string "") ∧ kk.cf.bind (·.constantPool[index]?) = some (.string i) ∧ kk.cf.bind (·.constantPool.utf8? i) = some #[] := fun kk q => by
    rw [q]
    exact ⟨hnm, hpool, by simp [ConstantPool.utf8?, hu]⟩
  have now : (∃ a, k1.resolved[index]? = some (some (.string a))) ∨ (k1.resolved[index]? = some none ∧ k.resolved[index]? = some none) := by
    rcases ent index with e0 | ⟨-, r, e1, hr | ⟨a, t, si, us, rfl, -⟩⟩
    · rcases hres with h0 | ⟨a, h0⟩
      · exact Or.inr ⟨e0.trans h0, h0⟩
      · exact Or.inl ⟨a, e0.trans h0⟩
    · exfalso
      cases r <;> simp [State.rightAt, hk, hcf, hnm] at hr
    · exact Or.inl ⟨a, e1⟩
  rcases now with ⟨a, hr⟩ | ⟨ho, ho0⟩
  · refine ⟨a, T, (X.mono (by omega) (by omega)).retabled X.warmed.wide, X.warmed.since _, ⟨k1, hk1, hr⟩, fun _ _ => rfl, State.Warmed39.refl T, Or.inl rfl, fun t ht => ?_⟩
    jvm_step X.here [hx, hd, ldc_w.wp_string (e := e) (s := T) (f := g) X.here.top hk1 hcf' hpool hr]
    exact ht
  obtain ⟨n1, n2, n3⟩ := names k hcf
  obtain ⟨r1, r2, r3⟩ := names k1 hcf'
  cases hf : T.vm.interned.find? (fun p => p.1 == #[]) with
  | some pr =>
    obtain ⟨u, a⟩ := pr
    obtain rfl : u = #[] := by simpa using Array.find?_some hf
    have hW : s.Warmed39 (T.vm.noted g.method.cls index (.string a)) := X.warmed.wide.notedString hk (Or.inl ho0) n1 n2 n3 hf
    refine ⟨a, T.setVm (T.vm.noted g.method.cls index (.string a)), (X.mono (by omega) (by omega)).retabled hW, ⟨hW, State.Booked.step (T₂ := T.setVm (T.vm.noted g.method.cls index (.string a))) (X.warmed.no_new_pair _) X.same.2.1 ⟨Nat.le_refl _, Or.inl rfl⟩⟩, ⟨_, Vm.classes_note_self index (.string a) hk1, Class.resolved_note_self (.string a) ho⟩, fun _ _ => rfl, (State.Warmed39.refl T).notedString hk1 (Or.inl ho) r1 r2 r3 hf, Or.inl rfl, fun t ht => ?_⟩
    jvm_step X.here [hx, hd, ldc_w.wp_string_found (e := e) (s := T) (f := g) X.here.top hk1 hcf' hpool hu ho hf]
    exact ht
  | none =>
    obtain ⟨Zs, LZs, hn4, hfv, hfc⟩ := StringT.of_atoms (args := args) hS
    obtain ⟨kS, kB, LZ, hty⟩ := LZs.warmer X.warmed.alike
    have X2 := (X.pushed (bytesOf Zs.cB #[])).pushed (stringAt Zs.cS kS Zs.fv Zs.fc #[] T.heap.size)
    rw [← withString_eq] at X2
    obtain ⟨vm1, evm1⟩ : ∃ vm1 : Vm, vm1 = ({ T.vm with interned := T.vm.interned.push (#[], T.heap.size + 1) } : Vm) := ⟨_, rfl⟩
    have hp : vm1.interned.find? (fun p => p.1 == #[]) = some (#[], T.heap.size + 1) := by
      rw [evm1]
      show (T.vm.interned.push (#[], T.heap.size + 1)).find? _ = _
      rw [Array.find?_push, hf]; simp
    have hk1' : vm1.classes[g.method.cls]? = some k1 := by rw [evm1]; exact hk1
    have hW : s.Warmed39 (vm1.noted g.method.cls index (.string (T.heap.size + 1))) := State.Warmed39.notedString (by rw [evm1]; exact X.warmed.wide.interns #[] (T.heap.size + 1)) hk (Or.inl ho0) n1 n2 n3 hp
    have hWT : T.Warmed39 (vm1.noted g.method.cls index (.string (T.heap.size + 1))) := State.Warmed39.notedString (by rw [evm1]; exact (State.Warmed39.refl T).interns #[] (T.heap.size + 1)) hk1 (Or.inl ho) r1 r2 r3 hp
    have eh : (withString T Zs.cB Zs.cS kS Zs.fv Zs.fc #[]).heap = (T.heap.push (bytesOf Zs.cB #[])).push (stringAt Zs.cS kS Zs.fv Zs.fc #[] T.heap.size) := by rw [withString_eq]; rfl
    have hsz : (withString T Zs.cB Zs.cS kS Zs.fv Zs.fc #[]).heap.size = T.heap.size + 2 := by rw [eh]; simp
    have b1 : (bytesOf Zs.cB #[]).slots.size = 0 := by rw [(Cell.writeAll_facts _ _).2.2]; simpa [bytes0] using own_sb0
    have b2 : (stringAt Zs.cS kS Zs.fv Zs.fc #[] T.heap.size).slots.size = 4 := by simp [string0, Cell.setSlot, hty, hn4]
    have eint : (vm1.noted g.method.cls index (.string (T.heap.size + 1))).interned = T.vm.interned.push (#[], T.heap.size + 1) := by rw [evm1]; rfl
    refine ⟨T.heap.size + 1, (withString T Zs.cB Zs.cS kS Zs.fv Zs.fc #[]).setVm (vm1.noted g.method.cls index (.string (T.heap.size + 1))), (X2.mono (by omega) (by rw [b1, b2]; omega)).retabled hW, ⟨hW, State.Booked.step (X.warmed.no_new_pair _) X.same.2.1 ⟨?_, Or.inr ⟨#[], T.heap.size + 1, eint, by omega, ?_⟩⟩⟩, ⟨_, Vm.classes_note_self index (.string (T.heap.size + 1)) hk1', Class.resolved_note_self (.string (T.heap.size + 1)) ho⟩, fun b hb => ?_, hWT, Or.inr ⟨eint, rfl, ?_⟩, fun t ht => ?_⟩
    · show T.heap.size ≤ (withString T Zs.cB Zs.cS kS Zs.fv Zs.fc #[]).heap.size; omega
    · show T.heap.size + 1 < (withString T Zs.cB Zs.cS kS Zs.fv Zs.fc #[]).heap.size; omega
    · show (withString T Zs.cB Zs.cS kS Zs.fv Zs.fc #[]).heap[b]? = _
      rw [eh, Array.getElem?_push, if_neg (by rw [Array.size_push]; omega), Array.getElem?_push, if_neg (by omega)]
    · refine made_sl hS LZs hn4 hty hW.alike ?_ ?_ (by simp) (by rw [own_sb0]; decide) 0
      · show (withString T Zs.cB Zs.cS kS Zs.fv Zs.fc #[]).heap[T.heap.size]? = _
        rw [eh, Array.getElem?_push, if_neg (by rw [Array.size_push]; omega), Array.getElem?_push, if_pos rfl]
      · show (withString T Zs.cB Zs.cS kS Zs.fv Zs.fc #[]).heap[T.heap.size + 1]? = _
        rw [eh, Array.getElem?_push, if_pos (by rw [Array.size_push])]
    · have hfs : T.fitsSlot = s.fitsSlot := (show T.fitsSlot = (s.setVm T.vm).fitsSlot from rfl).trans (State.fitsSlot_setVm X.warmed.alike)
      refine Steps.instr (c := _) (by simpa using X.here) ?_
      simp [jvm, wpRun, exec, X.here.top, hx, hd]
      refine ldc_w.wp_string_new (e := e) (s := T) (f := g) X.here.top hk1 hcf' hpool hu ho hf LZ.found LZ.cls LZ.initialized LZ.ordinary LZ.foundB LZ.clsB LZ.kindB LZ.value LZ.coder ?_ ?_ (X.cellsAbove hc) ?_ (stringBytes_fit LZ.clsB LZ.kindB #[]) LZ.valueSlot LZ.coderSlot (by rw [hfs]; exact hfv _) (by rw [hfs]; exact hfc _) (fun d' acts' => ?_)
      · rw [own_sb0]; omega
      · rw [own_sb0]; simp [componentBytes]
      · have := X.slotsAbove hl
        show T.slotsUsed + (stringBytes #[]).size + kS.instanceTypes.size ≤ _
        rw [own_sb0, hty, hn4]; omega
      · intro acts''
        rw [← evm1]
        have q1 : (withString T Zs.cB Zs.cS kS Zs.fv Zs.fc #[]).topJava?.isSome := by simpa [withString] using X.here.top
        have q2 : ((withString T Zs.cB Zs.cS kS Zs.fv Zs.fc #[]).setVm (vm1.noted g.method.cls index (.string (T.heap.size + 1)))).topJava?.isSome := by simpa using q1
        simp [jvm, afterInstr, q1, q2]
        rw [State.modifyTopJava_setTop]
        exact ht
/-- ldc_w of the constant "" of EL: it is read -/
theorem own_ldcwW (X : Stand p l e R (s.setVm vm0) m args below meth c T locs cells slots) (hx : p.tables.exec = Jvm.exec) (hZ : Z.Warmed39 (s.setVm vm0).vm) (hEL : EW Z a0 EL) (C : Cold Z EL s vm0 h) {own : String} {index : Nat} (hown : (s.setVm vm0).vm.findClass own = some m.cls)
    (w : (Cond.stringLink own index "").before a0 Z = true) (wS : ∀ a ∈ Bundle.stringAtoms, a.before a0 Z = true) (eT : T.heap = h) (hmem : (own, index) ∈ EL)
    {vs : List Value} {k : Nat} (ht : (∀ c ∈ "".toList, c.toNat < 256) ∧ "".toList.map (fun c => Value.int (Jvm.Lit.byteI c.toNat.toUInt16)) = vs) (hk : k = vs.length) (hk31 : k < 2 ^ 31)
    {g : JFrame} (hg : g.method = m) (hd : decode c.code g.pc = .ok (.ldc_w index, 3)) {n : Nat} (hn : 4 * "".toList.length ≤ n) (hbig : n ≤ 536870912) (hc : cells + 2 ≤ R.cells) (hl' : slots + (n + 4) ≤ R.slots) :
    ∃ (a b : Addr) (vm1 : Vm) (T' : State) (h' : Heap), After p l e R s m args below meth c own Z EL vm0 h vm1 T' locs (cells + 2) (slots + (n + 4)) ∧ T'.heap = h' ∧ Ext h h' ∧
      Exa Z h' a "java/lang/String" ∧ Fld Z h' a "java/lang/String" "value" "[B" (.ref b) ∧ Fld Z h' a "java/lang/String" "coder" "B" (.int 0) ∧ OA Z h' b .byte k (fun i => vs.getD i (.int 0)) ∧ Lit (s.setVm vm1) own index a ∧ (∀ x, Safe Z EL vm1 h' x → x ≠ a ∧ x ≠ b) ∧
      ∀ t, Steps p.tables e below (T'.setTop { g with pc := g.pc + 3, stack := .ref a :: g.stack }) t → Steps p.tables e below (T.setTop g) t := by
  obtain ⟨⟨k0, hS, hk0⟩, CC⟩ := C
  obtain rfl : vs = [] := ht.2.symm
  obtain rfl : k = 0 := hk
  subst eT
  obtain ⟨a, T', X', hS', ⟨kk, hkk, hrr⟩, hb, hTW, hint, st⟩ := own_ldcwN X hx hown (mvS hZ w) (fun d hd => by
    have q := wS d hd
    simp only [Bundle.stringAtoms, List.mem_cons, List.not_mem_nil, or_false] at hd
    rcases hd with rfl | rfl | rfl | rfl | rfl | rfl | rfl
    · exact mv (s := s.setVm vm0) hZ q
    · exact mv (s := s.setVm vm0) hZ q
    · exact mvA (s := s.setVm vm0) hZ q
    · exact mv (s := s.setVm vm0) hZ q
    · exact mv (s := s.setVm vm0) hZ q
    · exact mv (s := s.setVm vm0) hZ q
    · exact mv (s := s.setVm vm0) hZ q) hg hd hc (by omega)
  have E := ext_of hb
  have hW : Z.Warmed39 T'.vm := State.Warmed39.trans (t := s.setVm vm0) hZ hS'.1
  have A := CHv.at X hZ hEL CC.1
  have B := CHv.later (vm := T.vm) (vm1 := T'.vm) (wtrans (s := s.setVm vm0) hZ X.warmed) (show (Wst Z T.vm T.heap).Warmed39 T'.vm from hTW) hEL E (hint.imp id fun ⟨e1, e2, q, cS, hq, r1, r2, r3, r4, r5⟩ => ⟨#[], a, e1, e2, fun _ => by
    have F : SlB T' q #[] := ⟨cS, r1, r2, r3, r4⟩
    refine ⟨q, hq, F.carry (V := Wst Z T'.vm T'.heap) (Vm.Alike.refl _) F.ha F.hd, ?_⟩
    rcases r5 with ⟨z, -⟩ | z
    · exact absurd z (Nat.not_lt_zero _)
    · exact z⟩) A.1
  have cr : CHr Z EL vm0 T.heap T'.vm T'.heap := A.trans ⟨B.1, E.1, B.2⟩
  have hf : T'.vm.findClass own = some m.cls := by rw [hS'.1.alike.findClass]; exact hown
  have hL : Lit (s.setVm T'.vm) own index a := by simp [Lit, State.resolvedAt?, hf, hkk, hrr]
  obtain ⟨k2, cf, i, units, hk2, hcf, hp, hu, -, htext, -⟩ := Cond.stringLink_spec (args := a0) (s := Wst Z T'.vm T'.heap) hf (mvS (s := { Z with heap := T'.heap }) hW w)
  obtain rfl : units = #[] := Array.toList_eq_nil_iff.mp (show units.toList = [] from Jvm.ClassFile.units_of_text htext (fun c hc => nomatch hc))
  obtain rfl : k2 = kk := Option.some.inj ((show T'.vm.classes[m.cls]? = some k2 from hk2).symm.trans hkk)
  have hB0 : Booksv T'.vm own index #[] a := ⟨m.cls, k2, cf, i, hf, hkk, hcf, hp, hu, Or.inl hrr⟩
  obtain ⟨q, rfl, F⟩ := SlB.of (B.1 _ hmem #[] a hB0)
  obtain ⟨Ex, Fv, Fc, Av⟩ := own_slRead hW.alike F
  exact ⟨q.sa, q.sd, T'.vm, T', _, ⟨X'.mono (Nat.le_refl _) (by omega), ⟨⟨_, hS.trans hS' (Nat.le_trans hk0 E.1), Nat.le_refl _⟩, CC.trans cr⟩, hW, hf, fun x hx hs => cr.safe hx hs⟩, rfl, E, Ex, Fv, Fc, Av, hL, fun x S => ⟨fun e1 => S ⟨_, hmem, _, _, hB0, q, rfl, F, Or.inl e1⟩, fun e1 => S ⟨_, hmem, _, _, hB0, q, rfl, F, Or.inr e1⟩⟩, st⟩
end OwnColdW

theorem ef_pci (m : MethodId) (x0 : Int32) (x1 : Int32) (x2 : Value) (hx2 : x2.isRef = true) : entryFrame m #[(.int x0), (.int x1), x2] 3 = mkF m 0 #[.val (.int x0), .val (.int x1), .val x2] [] := by cases x2 <;> simp [Value.isRef] at hx2 <;> first | (simp [entryFrame, mkF, argsToLocals, Value.category]; done) | rfl
theorem pn_jdk_internal_util_Preconditions : plainName "jdk/internal/util/Preconditions" = true := by first | (simp [plainName, overriddenIn]; done) | decide +kernel
theorem d_jdk_41_method_11_code_0 : decode jdk_41_method_11_code 0 = .ok (.iload_n 0, 1) := by decide +kernel
theorem d_jdk_41_method_11_code_1 : decode jdk_41_method_11_code 1 = .ok (.ifCond .lt 8, 3) := by decide +kernel
theorem d_jdk_41_method_11_code_4 : decode jdk_41_method_11_code 4 = .ok (.iload_n 0, 1) := by decide +kernel
theorem d_jdk_41_method_11_code_5 : decode jdk_41_method_11_code 5 = .ok (.iload_n 1, 1) := by decide +kernel
theorem d_jdk_41_method_11_code_6 : decode jdk_41_method_11_code 6 = .ok (.if_icmp .lt 10, 3) := by decide +kernel
theorem d_jdk_41_method_11_code_16 : decode jdk_41_method_11_code 16 = .ok (.iload_n 0, 1) := by decide +kernel
theorem d_jdk_41_method_11_code_17 : decode jdk_41_method_11_code 17 = .ok (.ireturn, 1) := by decide +kernel
def Q_pci (Z : State) (cs : Int32) (fm : Value) (i n : Nat) (h0 : Heap) (n0 : Nat) (v : Option Value) (h : Heap) (L : List Loc) : Prop := v = some (.int (Int32.ofNat i)) ∧ Fr n0 L ∧ h = h0
set_option maxRecDepth 65536 in
set_option maxHeartbeats 40000000 in
theorem rm_pci (l : Launch) (Z : State) (a0 : Array Value) (hw : ∀ d ∈ tables_1, d.before a0 Z = true) (ws : List Jvm.Cond) (cs : Int32) (fm : Value) (i n : Nat) (h0 : Heap) (n0 : Nat) (Z0 : n0 ≤ h0.size) (ST : own_ST Z cs fm) (OO : Old Z n0 h0) (hfm : fm.isRef = true) (hi : i < n) (hn : n < 2 ^ 31) :
    MetFree l (⟨"jdk/internal/util/Preconditions", "checkIndex", "(IILjava/util/function/BiFunction;)I"⟩ : MethodName) (head1 (Jvm.Cond.code (⟨"jdk/internal/util/Preconditions", "checkIndex", "(IILjava/util/function/BiFunction;)I"⟩ : MethodName) jdk_41_method_11_code 3 (some .int) :: ws) ({ frames := 0, cells := 0, slots := 0, locals := 0 } : Room)) (fun a U => a = #[(.int (Int32.ofNat i)), (.int (Int32.ofNat n)), fm] ∧ Z.Warmed39 U.vm ∧ U.heap = h0) (fun _ _ _ _ _ => True) (fun _ U o U' => ∃ v L, o = .returned v ∧ Q_pci Z cs fm i n h0 n0 v U'.heap L ∧ FrameEnd U o U' L ({ frames := 0, cells := 0, slots := 0, locals := 0 } : Room).cells ({ frames := 0, cells := 0, slots := 0, locals := 0 } : Room).slots) := by
  refine MetFree.of_bodySF (plainFor_of_name pn_jdk_internal_util_Preconditions) hisR ?_
  intro p ee s m args below meth cc s₁ Bd hml0 hP hK
  obtain ⟨rfl, hZ, hh⟩ := hP
  have hx := Bd.exec
  have hby := Bd.bytes
  have hml : cc.maxLocals = 3 := hml0
  have hown : s.vm.findClass "jdk/internal/util/Preconditions" = some m.cls := findClass_of_methodNamed Bd.named
  have hnm := (name_of_methodNamed Bd.named Bd.method).1
  have X0 : Stand p l ee ({ frames := 0, cells := 0, slots := 0, locals := 0 } : Room) s m #[(.int (Int32.ofNat i)), (.int (Int32.ofNat n)), fm] below meth cc s₁ [] 0 0 := Stand.of_body Bd
  have e0 : s₁.heap = h0 := by rw [← hh, Bd.state]; rfl
  have N0 := Fr.nil n0
  show Goes p ee below s ({ frames := 0, cells := 0, slots := 0, locals := 0 } : Room).cells ({ frames := 0, cells := 0, slots := 0, locals := 0 } : Room).slots (Q_pci Z cs fm i n h0 n0) (s₁.setTop (entryFrame m #[(.int (Int32.ofNat i)), (.int (Int32.ofNat n)), fm] 3))
  refine Goes.step (fun _ hr_ => castTop (ef_pci m (Int32.ofNat i) (Int32.ofNat n) fm hfm) hr_) ?_
  show Goes p ee below s _ _ _ (s₁.setTop (mkF m 0 #[.val (.int (Int32.ofNat i)), .val (.int (Int32.ofNat n)), .val fm] []))
  refine Goes.step (fun _ hr_ => XS.iloadN X0.here hx rfl (hb hby d_jdk_41_method_11_code_0) rfl  hr_) ?_
  show Goes p ee below s _ _ _ (s₁.setTop (mkF m 1 #[.val (.int (Int32.ofNat i)), .val (.int (Int32.ofNat n)), .val fm] [(.int (Int32.ofNat i))]))
  refine Goes.step (fun _ hr_ => XS.ifNo X0.here hx rfl (hb hby d_jdk_41_method_11_code_1) rfl ((if0 _ _).trans (flt (own_nneg i (by omega))).1) hr_) ?_
  show Goes p ee below s _ _ _ (s₁.setTop (mkF m 4 #[.val (.int (Int32.ofNat i)), .val (.int (Int32.ofNat n)), .val fm] []))
  refine Goes.step (fun _ hr_ => XS.iloadN X0.here hx rfl (hb hby d_jdk_41_method_11_code_4) rfl  hr_) ?_
  show Goes p ee below s _ _ _ (s₁.setTop (mkF m 5 #[.val (.int (Int32.ofNat i)), .val (.int (Int32.ofNat n)), .val fm] [(.int (Int32.ofNat i))]))
  refine Goes.step (fun _ hr_ => XS.iloadN X0.here hx rfl (hb hby d_jdk_41_method_11_code_5) rfl  hr_) ?_
  show Goes p ee below s _ _ _ (s₁.setTop (mkF m 6 #[.val (.int (Int32.ofNat i)), .val (.int (Int32.ofNat n)), .val fm] [(.int (Int32.ofNat n)), (.int (Int32.ofNat i))]))
  refine Goes.step (fun _ hr_ => XS.icmpYes X0.here hx rfl (pc0 := 6) (pc' := 16) rfl (hb hby d_jdk_41_method_11_code_6) rfl (tlt ((own_ltN i n (by omega) hn).mpr hi)).1 (by decide) (by decide) hr_) ?_
  show Goes p ee below s _ _ _ (s₁.setTop (mkF m 16 #[.val (.int (Int32.ofNat i)), .val (.int (Int32.ofNat n)), .val fm] []))
  refine Goes.step (fun _ hr_ => XS.iloadN X0.here hx rfl (hb hby d_jdk_41_method_11_code_16) rfl  hr_) ?_
  show Goes p ee below s _ _ _ (s₁.setTop (mkF m 17 #[.val (.int (Int32.ofNat i)), .val (.int (Int32.ofNat n)), .val fm] [(.int (Int32.ofNat i))]))
  refine Goes.retI X0 hx Bd.notSynchronized Bd.returns (hb hby d_jdk_41_method_11_code_17) (by decide) (by decide) ?_
  exact ⟨rfl, N0, e0⟩
theorem ef_sci (m : MethodId) (x0 : Int32) (x1 : Int32) : entryFrame m #[(.int x0), (.int x1)] 2 = mkF m 0 #[.val (.int x0), .val (.int x1)] [] := by first | (simp [entryFrame, mkF, argsToLocals, Value.category]; done) | rfl
theorem pn_java_lang_String : plainName "java/lang/String" = true := by first | (simp [plainName, overriddenIn]; done) | decide +kernel
theorem d_jdk_42_method_155_code_0 : decode jdk_42_method_155_code 0 = .ok (.iload_n 0, 1) := by decide +kernel
theorem d_jdk_42_method_155_code_1 : decode jdk_42_method_155_code 1 = .ok (.iload_n 1, 1) := by decide +kernel
theorem d_jdk_42_method_155_code_2 : decode jdk_42_method_155_code 2 = .ok (.getstatic 1053, 3) := by decide +kernel
theorem pd_0 : parseMethodDescriptor "(IILjava/util/function/BiFunction;)I" = some ⟨[.int, .int, (.object "java/util/function/BiFunction")], some .int⟩ := by decide +kernel
theorem d_jdk_42_method_155_code_5 : decode jdk_42_method_155_code 5 = .ok (.invokestatic 1059, 3) := by decide +kernel
theorem d_jdk_42_method_155_code_8 : decode jdk_42_method_155_code 8 = .ok (.pop, 1) := by decide +kernel
theorem d_jdk_42_method_155_code_9 : decode jdk_42_method_155_code 9 = .ok (.return_, 1) := by decide +kernel
def Q_sci (Z : State) (cs : Int32) (fm : Value) (i n : Nat) (h0 : Heap) (n0 : Nat) (v : Option Value) (h : Heap) (L : List Loc) : Prop := v = none ∧ Fr n0 L ∧ h = h0
set_option maxRecDepth 65536 in
set_option maxHeartbeats 40000000 in
theorem rm_sci (l : Launch) (Z : State) (a0 : Array Value) (hw : ∀ d ∈ tables_1, d.before a0 Z = true) (ws : List Jvm.Cond) (cs : Int32) (fm : Value) (i n : Nat) (h0 : Heap) (n0 : Nat) (Z0 : n0 ≤ h0.size) (ST : own_ST Z cs fm) (OO : Old Z n0 h0) (hi : i < n) (hn : n < 2 ^ 31) :
    MetFree l (⟨"java/lang/String", "checkIndex", "(II)V"⟩ : MethodName) (head1 (Jvm.Cond.code (⟨"java/lang/String", "checkIndex", "(II)V"⟩ : MethodName) jdk_42_method_155_code 2 none :: ws) ({ frames := 1, cells := 0, slots := 0, locals := 14 } : Room)) (fun a U => a = #[(.int (Int32.ofNat i)), (.int (Int32.ofNat n))] ∧ Z.Warmed39 U.vm ∧ U.heap = h0) (fun _ _ _ _ _ => True) (fun _ U o U' => ∃ v L, o = .returned v ∧ Q_sci Z cs fm i n h0 n0 v U'.heap L ∧ FrameEnd U o U' L ({ frames := 1, cells := 0, slots := 0, locals := 14 } : Room).cells ({ frames := 1, cells := 0, slots := 0, locals := 14 } : Room).slots) := by
  refine MetFree.of_bodySF (plainFor_of_name pn_java_lang_String) hisR ?_
  intro p ee s m args below meth cc s₁ Bd hml0 hP hK
  obtain ⟨rfl, hZ, hh⟩ := hP
  have hx := Bd.exec
  have hby := Bd.bytes
  have hml : cc.maxLocals = 2 := hml0
  have hown : s.vm.findClass "java/lang/String" = some m.cls := findClass_of_methodNamed Bd.named
  have hnm := (name_of_methodNamed Bd.named Bd.method).1
  have X0 : Stand p l ee ({ frames := 1, cells := 0, slots := 0, locals := 14 } : Room) s m #[(.int (Int32.ofNat i)), (.int (Int32.ofNat n))] below meth cc s₁ [] 0 0 := Stand.of_body Bd
  have e0 : s₁.heap = h0 := by rw [← hh, Bd.state]; rfl
  have N0 := Fr.nil n0
  show Goes p ee below s ({ frames := 1, cells := 0, slots := 0, locals := 14 } : Room).cells ({ frames := 1, cells := 0, slots := 0, locals := 14 } : Room).slots (Q_sci Z cs fm i n h0 n0) (s₁.setTop (entryFrame m #[(.int (Int32.ofNat i)), (.int (Int32.ofNat n))] 2))
  refine Goes.step (fun _ hr_ => castTop (ef_sci m (Int32.ofNat i) (Int32.ofNat n)) hr_) ?_
  show Goes p ee below s _ _ _ (s₁.setTop (mkF m 0 #[.val (.int (Int32.ofNat i)), .val (.int (Int32.ofNat n))] []))
  refine Goes.step (fun _ hr_ => XS.iloadN X0.here hx rfl (hb hby d_jdk_42_method_155_code_0) rfl  hr_) ?_
  show Goes p ee below s _ _ _ (s₁.setTop (mkF m 1 #[.val (.int (Int32.ofNat i)), .val (.int (Int32.ofNat n))] [(.int (Int32.ofNat i))]))
  refine Goes.step (fun _ hr_ => XS.iloadN X0.here hx rfl (hb hby d_jdk_42_method_155_code_1) rfl  hr_) ?_
  show Goes p ee below s _ _ _ (s₁.setTop (mkF m 2 #[.val (.int (Int32.ofNat i)), .val (.int (Int32.ofNat n))] [(.int (Int32.ofNat n)), (.int (Int32.ofNat i))]))
  obtain ⟨T1, X1, e1, st1⟩ := getS X0 hx hZ (host := "") hown (hw _ (List.mem_of_getElem? (i := 75) rfl)) Via.refl e0 ((ST.2.2.1).ext OO.2) (g := (mkF m 2 #[.val (.int (Int32.ofNat i)), .val (.int (Int32.ofNat n))] [(.int (Int32.ofNat n)), (.int (Int32.ofNat i))])) rfl (hb hby d_jdk_42_method_155_code_2)
  refine Goes.step st1 ?_
  show Goes p ee below s _ _ _ (T1.setTop (mkF m 5 #[.val (.int (Int32.ofNat i)), .val (.int (Int32.ofNat n))] [fm, (.int (Int32.ofNat n)), (.int (Int32.ofNat i))]))
  obtain ⟨v2, T2, L2, X2, hQ2, st2⟩ := own_callS X1 hx hZ (y := (⟨"jdk/internal/util/Preconditions", "checkIndex", "(IILjava/util/function/BiFunction;)I"⟩ : MethodName)) hown (hw _ (List.mem_of_getElem? (i := 105) rfl)) (hw _ (List.mem_of_getElem? (i := 106) rfl)) (hw _ (List.mem_of_getElem? (i := 76) rfl)) (hw _ (List.mem_of_getElem? (i := 107) rfl)) (by decide) (argsL := [(.int (Int32.ofNat i)), (.int (Int32.ofNat n)), fm]) (rm_pci l Z a0 hw [] cs fm i n h0 n0 Z0 ST OO (ST.2.2.2.1) hi hn) e1 (W := 0) (by decide) (by decide) (by decide) (by decide) (g := (mkF m 5 #[.val (.int (Int32.ofNat i)), .val (.int (Int32.ofNat n))] [fm, (.int (Int32.ofNat n)), (.int (Int32.ofNat i))])) rfl (by rw [hml]; rfl) (rest := []) (lenOf pd_0 rfl) rfl (by show 2 * 0 + _ ≤ _; exact Nat.le_of_eq rfl) (hb hby d_jdk_42_method_155_code_5)
  refine Goes.step st2 ?_
  obtain ⟨rfl, N2, e2⟩ := hQ2
  have N3 := Fr.app N0 N2
  show Goes p ee below s _ _ _ (T2.setTop (mkF m 8 #[.val (.int (Int32.ofNat i)), .val (.int (Int32.ofNat n))] [(.int (Int32.ofNat i))]))
  refine Goes.step (fun _ hr_ => XT.pop X2.here hx rfl (hb hby d_jdk_42_method_155_code_8) rfl rfl hr_) ?_
  show Goes p ee below s _ _ _ (T2.setTop (mkF m 9 #[.val (.int (Int32.ofNat i)), .val (.int (Int32.ofNat n))] []))
  refine Goes.retV X2 hx Bd.notSynchronized Bd.returns (hb hby d_jdk_42_method_155_code_9) (by decide) (by decide) ?_
  exact ⟨rfl, N3, e2⟩
theorem ef_l1c (m : MethodId) (x0 : Addr) (x1 : Int32) : entryFrame m #[(.ref x0), (.int x1)] 2 = mkF m 0 #[.val (.ref x0), .val (.int x1)] [] := by first | (simp [entryFrame, mkF, argsToLocals, Value.category]; done) | rfl
theorem pn_java_lang_StringLatin1 : plainName "java/lang/StringLatin1" = true := by first | (simp [plainName, overriddenIn]; done) | decide +kernel
theorem d_jdk_43_method_2_code_0 : decode jdk_43_method_2_code 0 = .ok (.iload_n 1, 1) := by decide +kernel
theorem d_jdk_43_method_2_code_1 : decode jdk_43_method_2_code 1 = .ok (.aload_n 0, 1) := by decide +kernel
theorem d_jdk_43_method_2_code_2 : decode jdk_43_method_2_code 2 = .ok (.arraylength, 1) := by decide +kernel
theorem pd_1 : parseMethodDescriptor "(II)V" = some ⟨[.int, .int], none⟩ := by decide +kernel
theorem d_jdk_43_method_2_code_3 : decode jdk_43_method_2_code 3 = .ok (.invokestatic 9, 3) := by decide +kernel
theorem d_jdk_43_method_2_code_6 : decode jdk_43_method_2_code 6 = .ok (.aload_n 0, 1) := by decide +kernel
theorem d_jdk_43_method_2_code_7 : decode jdk_43_method_2_code 7 = .ok (.iload_n 1, 1) := by decide +kernel
theorem d_jdk_43_method_2_code_8 : decode jdk_43_method_2_code 8 = .ok (.baload, 1) := by decide +kernel
theorem d_jdk_43_method_2_code_9 : decode jdk_43_method_2_code 9 = .ok (.sipush 255, 3) := by decide +kernel
theorem d_jdk_43_method_2_code_12 : decode jdk_43_method_2_code 12 = .ok (.iand, 1) := by decide +kernel
theorem d_jdk_43_method_2_code_13 : decode jdk_43_method_2_code 13 = .ok (.i2c, 1) := by decide +kernel
theorem d_jdk_43_method_2_code_14 : decode jdk_43_method_2_code 14 = .ok (.ireturn, 1) := by decide +kernel
def Q_l1c (Z : State) (cs : Int32) (fm : Value) (a1 : Addr) (i n : Nat) (c : Nat → Nat) (h0 : Heap) (n0 : Nat) (v : Option Value) (h : Heap) (L : List Loc) : Prop := v = some (.int (Int32.ofNat (c i))) ∧ Fr n0 L ∧ h = h0
set_option maxRecDepth 65536 in
set_option maxHeartbeats 40000000 in
theorem rm_l1c (l : Launch) (Z : State) (a0 : Array Value) (hw : ∀ d ∈ tables_1, d.before a0 Z = true) (ws : List Jvm.Cond) (cs : Int32) (fm : Value) (a1 : Addr) (i n : Nat) (c : Nat → Nat) (h0 : Heap) (n0 : Nat) (Z0 : n0 ≤ h0.size) (ST : own_ST Z cs fm) (OO : Old Z n0 h0) (hi : i < n) (hn : n < 2 ^ 31) (hc : c i < 256) (A : OA Z h0 a1 .byte n (own_by false c)) :
    MetFree l (⟨"java/lang/StringLatin1", "charAt", "([BI)C"⟩ : MethodName) (head1 (Jvm.Cond.code (⟨"java/lang/StringLatin1", "charAt", "([BI)C"⟩ : MethodName) jdk_43_method_2_code 2 (some .char) :: ws) ({ frames := 2, cells := 0, slots := 0, locals := 27 } : Room)) (fun a U => a = #[(.ref a1), (.int (Int32.ofNat i))] ∧ Z.Warmed39 U.vm ∧ U.heap = h0) (fun _ _ _ _ _ => True) (fun _ U o U' => ∃ v L, o = .returned v ∧ Q_l1c Z cs fm a1 i n c h0 n0 v U'.heap L ∧ FrameEnd U o U' L ({ frames := 2, cells := 0, slots := 0, locals := 27 } : Room).cells ({ frames := 2, cells := 0, slots := 0, locals := 27 } : Room).slots) := by
  refine MetFree.of_bodySF (plainFor_of_name pn_java_lang_StringLatin1) hisR ?_
  intro p ee s m args below meth cc s₁ Bd hml0 hP hK
  obtain ⟨rfl, hZ, hh⟩ := hP
  have hx := Bd.exec
  have hby := Bd.bytes
  have hml : cc.maxLocals = 2 := hml0
  have hown : s.vm.findClass "java/lang/StringLatin1" = some m.cls := findClass_of_methodNamed Bd.named
  have hnm := (name_of_methodNamed Bd.named Bd.method).1
  have X0 : Stand p l ee ({ frames := 2, cells := 0, slots := 0, locals := 27 } : Room) s m #[(.ref a1), (.int (Int32.ofNat i))] below meth cc s₁ [] 0 0 := Stand.of_body Bd
  have e0 : s₁.heap = h0 := by rw [← hh, Bd.state]; rfl
  have N0 := Fr.nil n0
  show Goes p ee below s ({ frames := 2, cells := 0, slots := 0, locals := 27 } : Room).cells ({ frames := 2, cells := 0, slots := 0, locals := 27 } : Room).slots (Q_l1c Z cs fm a1 i n c h0 n0) (s₁.setTop (entryFrame m #[(.ref a1), (.int (Int32.ofNat i))] 2))
  refine Goes.step (fun _ hr_ => castTop (ef_l1c m a1 (Int32.ofNat i)) hr_) ?_
  show Goes p ee below s _ _ _ (s₁.setTop (mkF m 0 #[.val (.ref a1), .val (.int (Int32.ofNat i))] []))
  refine Goes.step (fun _ hr_ => XS.iloadN X0.here hx rfl (hb hby d_jdk_43_method_2_code_0) rfl  hr_) ?_
  show Goes p ee below s _ _ _ (s₁.setTop (mkF m 1 #[.val (.ref a1), .val (.int (Int32.ofNat i))] [(.int (Int32.ofNat i))]))
  refine Goes.step (fun _ hr_ => XS.aloadN X0.here hx rfl (hb hby d_jdk_43_method_2_code_1) rfl rfl hr_) ?_
  show Goes p ee below s _ _ _ (s₁.setTop (mkF m 2 #[.val (.ref a1), .val (.int (Int32.ofNat i))] [(.ref a1), (.int (Int32.ofNat i))]))
  refine Goes.step (own_alen X0 hx hZ e0 A (z := (Int32.ofNat n)) rfl (g := (mkF m 2 #[.val (.ref a1), .val (.int (Int32.ofNat i))] [(.ref a1), (.int (Int32.ofNat i))])) rfl rfl (hb hby d_jdk_43_method_2_code_2)) ?_
  show Goes p ee below s _ _ _ (s₁.setTop (mkF m 3 #[.val (.ref a1), .val (.int (Int32.ofNat i))] [(.int (Int32.ofNat n)), (.int (Int32.ofNat i))]))
  have lt_a1 := A.lt
  obtain ⟨v1, T1, L1, X1, hQ1, st1⟩ := own_callS X0 hx hZ (y := (⟨"java/lang/String", "checkIndex", "(II)V"⟩ : MethodName)) hown (hw _ (List.mem_of_getElem? (i := 102) rfl)) (hw _ (List.mem_of_getElem? (i := 103) rfl)) (hw _ (List.mem_of_getElem? (i := 8) rfl)) (hw _ (List.mem_of_getElem? (i := 104) rfl)) (by decide) (argsL := [(.int (Int32.ofNat i)), (.int (Int32.ofNat n))]) (rm_sci l Z a0 hw [] cs fm i n h0 n0 Z0 ST OO hi hn) e0 (W := 0) (by decide) (by decide) (by decide) (by decide) (g := (mkF m 3 #[.val (.ref a1), .val (.int (Int32.ofNat i))] [(.int (Int32.ofNat n)), (.int (Int32.ofNat i))])) rfl (by rw [hml]; rfl) (rest := []) (lenOf pd_1 rfl) rfl (by show 2 * 0 + _ ≤ _; exact Nat.le_of_eq rfl) (hb hby d_jdk_43_method_2_code_3)
  refine Goes.step st1 ?_
  obtain ⟨rfl, N1, e1⟩ := hQ1
  have N2 := Fr.app N0 N1
  show Goes p ee below s _ _ _ (T1.setTop (mkF m 6 #[.val (.ref a1), .val (.int (Int32.ofNat i))] []))
  refine Goes.step (fun _ hr_ => XS.aloadN X1.here hx rfl (hb hby d_jdk_43_method_2_code_6) rfl rfl hr_) ?_
  show Goes p ee below s _ _ _ (T1.setTop (mkF m 7 #[.val (.ref a1), .val (.int (Int32.ofNat i))] [(.ref a1)]))
  refine Goes.step (fun _ hr_ => XS.iloadN X1.here hx rfl (hb hby d_jdk_43_method_2_code_7) rfl  hr_) ?_
  show Goes p ee below s _ _ _ (T1.setTop (mkF m 8 #[.val (.ref a1), .val (.int (Int32.ofNat i))] [(.int (Int32.ofNat i)), (.ref a1)]))
  refine Goes.step (own_baload X1 hx hZ e1 A (j := (Int32.ofNat i)) (own_nneg i (by omega)) (k := i) (own_clamp i (by omega)) hi (v := (.int (own_bt (c i)))) rfl (g := (mkF m 8 #[.val (.ref a1), .val (.int (Int32.ofNat i))] [(.int (Int32.ofNat i)), (.ref a1)])) rfl rfl (hb hby d_jdk_43_method_2_code_8)) ?_
  show Goes p ee below s _ _ _ (T1.setTop (mkF m 9 #[.val (.ref a1), .val (.int (Int32.ofNat i))] [(.int (own_bt (c i)))]))
  refine Goes.step (fun _ hr_ => XS.sipush X1.here hx rfl (hb hby d_jdk_43_method_2_code_9) hr_) ?_
  show Goes p ee below s _ _ _ (T1.setTop (mkF m 12 #[.val (.ref a1), .val (.int (Int32.ofNat i))] [(.int (255 : Int32)), (.int (own_bt (c i)))]))
  refine Goes.step (fun _ hr_ => XS.iand X1.here hx rfl (hb hby d_jdk_43_method_2_code_12) rfl hr_) ?_
  show Goes p ee below s _ _ _ (T1.setTop (mkF m 13 #[.val (.ref a1), .val (.int (Int32.ofNat i))] [(.int ((own_bt (c i)) &&& (255 : Int32)))]))
  rw [own_bt255 (c i) (by omega), Nat.mod_eq_of_lt hc]
  show Goes p ee below s _ _ _ (T1.setTop (mkF m 13 #[.val (.ref a1), .val (.int (Int32.ofNat i))] [(.int (Int32.ofNat (c i)))]))
  refine Goes.step (fun _ hr_ => XT.i2c X1.here hx rfl (hb hby d_jdk_43_method_2_code_13) rfl hr_) ?_
  show Goes p ee below s _ _ _ (T1.setTop (mkF m 14 #[.val (.ref a1), .val (.int (Int32.ofNat i))] [(.int (Int32.ofNat (c i)).toUInt32.toUInt16.toUInt32.toInt32)]))
  rw [own_i2c (c i) (by omega)]
  show Goes p ee below s _ _ _ (T1.setTop (mkF m 14 #[.val (.ref a1), .val (.int (Int32.ofNat i))] [(.int (Int32.ofNat (c i)))]))
  refine Goes.retZ X1 hx Bd.notSynchronized Bd.returns (by simp) (own_nchar (c i) (by omega)) (hb hby d_jdk_43_method_2_code_14) (by decide) (by decide) ?_
  exact ⟨rfl, N2, e1⟩
theorem ef_u16l (m : MethodId) (x0 : Addr) : entryFrame m #[(.ref x0)] 1 = mkF m 0 #[.val (.ref x0)] [] := by first | (simp [entryFrame, mkF, argsToLocals, Value.category]; done) | rfl
theorem pn_java_lang_StringUTF16 : plainName "java/lang/StringUTF16" = true := by first | (simp [plainName, overriddenIn]; done) | decide +kernel
theorem d_jdk_52_method_6_code_0 : decode jdk_52_method_6_code 0 = .ok (.aload_n 0, 1) := by decide +kernel
theorem d_jdk_52_method_6_code_1 : decode jdk_52_method_6_code 1 = .ok (.arraylength, 1) := by decide +kernel
theorem d_jdk_52_method_6_code_2 : decode jdk_52_method_6_code 2 = .ok (.iconst 1, 1) := by decide +kernel
theorem d_jdk_52_method_6_code_3 : decode jdk_52_method_6_code 3 = .ok (.ishr, 1) := by decide +kernel
theorem d_jdk_52_method_6_code_4 : decode jdk_52_method_6_code 4 = .ok (.ireturn, 1) := by decide +kernel
def Q_u16l (Z : State) (cs : Int32) (fm : Value) (a1 : Addr) (n : Nat) (f : Nat → Value) (h0 : Heap) (n0 : Nat) (v : Option Value) (h : Heap) (L : List Loc) : Prop := v = some (.int (Int32.ofNat n)) ∧ Fr n0 L ∧ h = h0
set_option maxRecDepth 65536 in
set_option maxHeartbeats 40000000 in
theorem rm_u16l (l : Launch) (Z : State) (a0 : Array Value) (hw : ∀ d ∈ tables_1, d.before a0 Z = true) (ws : List Jvm.Cond) (cs : Int32) (fm : Value) (a1 : Addr) (n : Nat) (f : Nat → Value) (h0 : Heap) (n0 : Nat) (Z0 : n0 ≤ h0.size) (ST : own_ST Z cs fm) (OO : Old Z n0 h0) (hn : n < 2 ^ 30) (A : OA Z h0 a1 .byte (2 * n) f) :
    MetFree l (⟨"java/lang/StringUTF16", "length", "([B)I"⟩ : MethodName) (head1 (Jvm.Cond.code (⟨"java/lang/StringUTF16", "length", "([B)I"⟩ : MethodName) jdk_52_method_6_code 1 (some .int) :: ws) ({ frames := 0, cells := 0, slots := 0, locals := 0 } : Room)) (fun a U => a = #[(.ref a1)] ∧ Z.Warmed39 U.vm ∧ U.heap = h0) (fun _ _ _ _ _ => True) (fun _ U o U' => ∃ v L, o = .returned v ∧ Q_u16l Z cs fm a1 n f h0 n0 v U'.heap L ∧ FrameEnd U o U' L ({ frames := 0, cells := 0, slots := 0, locals := 0 } : Room).cells ({ frames := 0, cells := 0, slots := 0, locals := 0 } : Room).slots) := by
  refine MetFree.of_bodySF (plainFor_of_name pn_java_lang_StringUTF16) hisR ?_
  intro p ee s m args below meth cc s₁ Bd hml0 hP hK
  obtain ⟨rfl, hZ, hh⟩ := hP
  have hx := Bd.exec
  have hby := Bd.bytes
  have hml : cc.maxLocals = 1 := hml0
  have hown : s.vm.findClass "java/lang/StringUTF16" = some m.cls := findClass_of_methodNamed Bd.named
  have hnm := (name_of_methodNamed Bd.named Bd.method).1
  have X0 : Stand p l ee ({ frames := 0, cells := 0, slots := 0, locals := 0 } : Room) s m #[(.ref a1)] below meth cc s₁ [] 0 0 := Stand.of_body Bd
  have e0 : s₁.heap = h0 := by rw [← hh, Bd.state]; rfl
  have N0 := Fr.nil n0
  show Goes p ee below s ({ frames := 0, cells := 0, slots := 0, locals := 0 } : Room).cells ({ frames := 0, cells := 0, slots := 0, locals := 0 } : Room).slots (Q_u16l Z cs fm a1 n f h0 n0) (s₁.setTop (entryFrame m #[(.ref a1)] 1))
  refine Goes.step (fun _ hr_ => castTop (ef_u16l m a1) hr_) ?_
  show Goes p ee below s _ _ _ (s₁.setTop (mkF m 0 #[.val (.ref a1)] []))
  refine Goes.step (fun _ hr_ => XS.aloadN X0.here hx rfl (hb hby d_jdk_52_method_6_code_0) rfl rfl hr_) ?_
  show Goes p ee below s _ _ _ (s₁.setTop (mkF m 1 #[.val (.ref a1)] [(.ref a1)]))
  refine Goes.step (own_alen X0 hx hZ e0 A (z := (Int32.ofNat (2 * n))) rfl (g := (mkF m 1 #[.val (.ref a1)] [(.ref a1)])) rfl rfl (hb hby d_jdk_52_method_6_code_1)) ?_
  show Goes p ee below s _ _ _ (s₁.setTop (mkF m 2 #[.val (.ref a1)] [(.int (Int32.ofNat (2 * n)))]))
  refine Goes.step (fun _ hr_ => XS.iconst X0.here hx rfl (hb hby d_jdk_52_method_6_code_2) hr_) ?_
  show Goes p ee below s _ _ _ (s₁.setTop (mkF m 3 #[.val (.ref a1)] [(.int (1 : Int32)), (.int (Int32.ofNat (2 * n)))]))
  refine Goes.step (fun _ hr_ => XT.ishr X0.here hx rfl (hb hby d_jdk_52_method_6_code_3) rfl hr_) ?_
  show Goes p ee below s _ _ _ (s₁.setTop (mkF m 4 #[.val (.ref a1)] [(.int ((Int32.ofNat (2 * n)) >>> ((1 : Int32) &&& 31)))]))
  rw [own_shr1 n hn]
  show Goes p ee below s _ _ _ (s₁.setTop (mkF m 4 #[.val (.ref a1)] [(.int (Int32.ofNat n))]))
  refine Goes.retI X0 hx Bd.notSynchronized Bd.returns (hb hby d_jdk_52_method_6_code_4) (by decide) (by decide) ?_
  exact ⟨rfl, N0, e0⟩
theorem ef_getc (m : MethodId) (x0 : Addr) (x1 : Int32) : entryFrame m #[(.ref x0), (.int x1)] 2 = mkF m 0 #[.val (.ref x0), .val (.int x1)] [] := by first | (simp [entryFrame, mkF, argsToLocals, Value.category]; done) | rfl
theorem d_jdk_52_method_5_code_0 : decode jdk_52_method_5_code 0 = .ok (.getstatic 44, 3) := by decide +kernel
theorem d_jdk_52_method_5_code_3 : decode jdk_52_method_5_code 3 = .ok (.ifCond .ne 25, 3) := by decide +kernel
theorem d_jdk_52_method_5_code_28 : decode jdk_52_method_5_code 28 = .ok (.iload_n 1, 1) := by decide +kernel
theorem d_jdk_52_method_5_code_29 : decode jdk_52_method_5_code 29 = .ok (.iconst 1, 1) := by decide +kernel
theorem d_jdk_52_method_5_code_30 : decode jdk_52_method_5_code 30 = .ok (.ishl, 1) := by decide +kernel
theorem d_jdk_52_method_5_code_31 : decode jdk_52_method_5_code 31 = .ok (.istore_n 1, 1) := by decide +kernel
theorem d_jdk_52_method_5_code_32 : decode jdk_52_method_5_code 32 = .ok (.aload_n 0, 1) := by decide +kernel
theorem d_jdk_52_method_5_code_33 : decode jdk_52_method_5_code 33 = .ok (.iload_n 1, 1) := by decide +kernel
theorem d_jdk_52_method_5_code_34 : decode jdk_52_method_5_code 34 = .ok (.iinc 1 1, 3) := by decide +kernel
theorem d_jdk_52_method_5_code_37 : decode jdk_52_method_5_code 37 = .ok (.baload, 1) := by decide +kernel
theorem d_jdk_52_method_5_code_38 : decode jdk_52_method_5_code 38 = .ok (.sipush 255, 3) := by decide +kernel
theorem d_jdk_52_method_5_code_41 : decode jdk_52_method_5_code 41 = .ok (.iand, 1) := by decide +kernel
theorem d_jdk_52_method_5_code_42 : decode jdk_52_method_5_code 42 = .ok (.getstatic 59, 3) := by decide +kernel
theorem d_jdk_52_method_5_code_45 : decode jdk_52_method_5_code 45 = .ok (.ishl, 1) := by decide +kernel
theorem d_jdk_52_method_5_code_46 : decode jdk_52_method_5_code 46 = .ok (.aload_n 0, 1) := by decide +kernel
theorem d_jdk_52_method_5_code_47 : decode jdk_52_method_5_code 47 = .ok (.iload_n 1, 1) := by decide +kernel
theorem d_jdk_52_method_5_code_48 : decode jdk_52_method_5_code 48 = .ok (.baload, 1) := by decide +kernel
theorem d_jdk_52_method_5_code_49 : decode jdk_52_method_5_code 49 = .ok (.sipush 255, 3) := by decide +kernel
theorem d_jdk_52_method_5_code_52 : decode jdk_52_method_5_code 52 = .ok (.iand, 1) := by decide +kernel
theorem d_jdk_52_method_5_code_53 : decode jdk_52_method_5_code 53 = .ok (.getstatic 63, 3) := by decide +kernel
theorem d_jdk_52_method_5_code_56 : decode jdk_52_method_5_code 56 = .ok (.ishl, 1) := by decide +kernel
theorem d_jdk_52_method_5_code_57 : decode jdk_52_method_5_code 57 = .ok (.ior, 1) := by decide +kernel
theorem d_jdk_52_method_5_code_58 : decode jdk_52_method_5_code 58 = .ok (.i2c, 1) := by decide +kernel
theorem d_jdk_52_method_5_code_59 : decode jdk_52_method_5_code 59 = .ok (.ireturn, 1) := by decide +kernel
def Q_getc (Z : State) (cs : Int32) (fm : Value) (a1 : Addr) (i n : Nat) (c : Nat → Nat) (h0 : Heap) (n0 : Nat) (v : Option Value) (h : Heap) (L : List Loc) : Prop := v = some (.int (Int32.ofNat (c i))) ∧ Fr n0 L ∧ h = h0
set_option maxRecDepth 65536 in
set_option maxHeartbeats 40000000 in
theorem rm_getc (l : Launch) (Z : State) (a0 : Array Value) (hw : ∀ d ∈ tables_1, d.before a0 Z = true) (ws : List Jvm.Cond) (cs : Int32) (fm : Value) (a1 : Addr) (i n : Nat) (c : Nat → Nat) (h0 : Heap) (n0 : Nat) (Z0 : n0 ≤ h0.size) (ST : own_ST Z cs fm) (OO : Old Z n0 h0) (hi : i < n) (hn : n < 2 ^ 30) (hc : c i < 65536) (A : OA Z h0 a1 .byte (2 * n) (own_by true c)) :
    MetFree l (⟨"java/lang/StringUTF16", "getChar", "([BI)C"⟩ : MethodName) (head1 (Jvm.Cond.code (⟨"java/lang/StringUTF16", "getChar", "([BI)C"⟩ : MethodName) jdk_52_method_5_code 2 (some .char) :: ws) ({ frames := 0, cells := 0, slots := 0, locals := 0 } : Room)) (fun a U => a = #[(.ref a1), (.int (Int32.ofNat i))] ∧ Z.Warmed39 U.vm ∧ U.heap = h0) (fun _ _ _ _ _ => True) (fun _ U o U' => ∃ v L, o = .returned v ∧ Q_getc Z cs fm a1 i n c h0 n0 v U'.heap L ∧ FrameEnd U o U' L ({ frames := 0, cells := 0, slots := 0, locals := 0 } : Room).cells ({ frames := 0, cells := 0, slots := 0, locals := 0 } : Room).slots) := by
  refine MetFree.of_bodySF (plainFor_of_name pn_java_lang_StringUTF16) hisR ?_
  intro p ee s m args below meth cc s₁ Bd hml0 hP hK
  obtain ⟨rfl, hZ, hh⟩ := hP
  have hx := Bd.exec
  have hby := Bd.bytes
  have hml : cc.maxLocals = 2 := hml0
  have hown : s.vm.findClass "java/lang/StringUTF16" = some m.cls := findClass_of_methodNamed Bd.named
  have hnm := (name_of_methodNamed Bd.named Bd.method).1
  have X0 : Stand p l ee ({ frames := 0, cells := 0, slots := 0, locals := 0 } : Room) s m #[(.ref a1), (.int (Int32.ofNat i))] below meth cc s₁ [] 0 0 := Stand.of_body Bd
  have e0 : s₁.heap = h0 := by rw [← hh, Bd.state]; rfl
  have N0 := Fr.nil n0
  show Goes p ee below s ({ frames := 0, cells := 0, slots := 0, locals := 0 } : Room).cells ({ frames := 0, cells := 0, slots := 0, locals := 0 } : Room).slots (Q_getc Z cs fm a1 i n c h0 n0) (s₁.setTop (entryFrame m #[(.ref a1), (.int (Int32.ofNat i))] 2))
  refine Goes.step (fun _ hr_ => castTop (ef_getc m a1 (Int32.ofNat i)) hr_) ?_
  show Goes p ee below s _ _ _ (s₁.setTop (mkF m 0 #[.val (.ref a1), .val (.int (Int32.ofNat i))] []))
  obtain ⟨T1, X1, e1, st1⟩ := getS X0 hx hZ (host := "") hown (hw _ (List.mem_of_getElem? (i := 124) rfl)) Via.refl e0 ((ST.2.2.2.2.1).ext OO.2) (g := (mkF m 0 #[.val (.ref a1), .val (.int (Int32.ofNat i))] [])) rfl (hb hby d_jdk_52_method_5_code_0)
  refine Goes.step st1 ?_
  show Goes p ee below s _ _ _ (T1.setTop (mkF m 3 #[.val (.ref a1), .val (.int (Int32.ofNat i))] [(.int (1 : Int32))]))
  refine Goes.step (fun _ hr_ => XS.ifYes X1.here hx rfl (pc0 := 3) (pc' := 28) rfl (hb hby d_jdk_52_method_5_code_3) rfl ((if0 _ _).trans (feq (by decide)).2) (by decide) (by decide) hr_) ?_
  show Goes p ee below s _ _ _ (T1.setTop (mkF m 28 #[.val (.ref a1), .val (.int (Int32.ofNat i))] []))
  refine Goes.step (fun _ hr_ => XS.iloadN X1.here hx rfl (hb hby d_jdk_52_method_5_code_28) rfl  hr_) ?_
  show Goes p ee below s _ _ _ (T1.setTop (mkF m 29 #[.val (.ref a1), .val (.int (Int32.ofNat i))] [(.int (Int32.ofNat i))]))
  refine Goes.step (fun _ hr_ => XS.iconst X1.here hx rfl (hb hby d_jdk_52_method_5_code_29) hr_) ?_
  show Goes p ee below s _ _ _ (T1.setTop (mkF m 30 #[.val (.ref a1), .val (.int (Int32.ofNat i))] [(.int (1 : Int32)), (.int (Int32.ofNat i))]))
  refine Goes.step (fun _ hr_ => XT.ishl X1.here hx rfl (hb hby d_jdk_52_method_5_code_30) rfl hr_) ?_
  show Goes p ee below s _ _ _ (T1.setTop (mkF m 31 #[.val (.ref a1), .val (.int (Int32.ofNat i))] [(.int ((Int32.ofNat i) <<< ((1 : Int32) &&& 31)))]))
  rw [own_shl1 i (by omega)]
  show Goes p ee below s _ _ _ (T1.setTop (mkF m 31 #[.val (.ref a1), .val (.int (Int32.ofNat i))] [(.int (Int32.ofNat (2 * i)))]))
  refine Goes.step (fun _ hr_ => XS.istoreN X1.here hx rfl (hb hby d_jdk_52_method_5_code_31) rfl  (l' := #[.val (.ref a1), .val (.int (Int32.ofNat (2 * i)))]) rfl hr_) ?_
  show Goes p ee below s _ _ _ (T1.setTop (mkF m 32 #[.val (.ref a1), .val (.int (Int32.ofNat (2 * i)))] []))
  refine Goes.step (fun _ hr_ => XS.aloadN X1.here hx rfl (hb hby d_jdk_52_method_5_code_32) rfl rfl hr_) ?_
  show Goes p ee below s _ _ _ (T1.setTop (mkF m 33 #[.val (.ref a1), .val (.int (Int32.ofNat (2 * i)))] [(.ref a1)]))
  refine Goes.step (fun _ hr_ => XS.iloadN X1.here hx rfl (hb hby d_jdk_52_method_5_code_33) rfl  hr_) ?_
  show Goes p ee below s _ _ _ (T1.setTop (mkF m 34 #[.val (.ref a1), .val (.int (Int32.ofNat (2 * i)))] [(.int (Int32.ofNat (2 * i))), (.ref a1)]))
  refine Goes.step (fun _ hr_ => XS.iinc X1.here hx rfl (hb hby d_jdk_52_method_5_code_34) rfl (l' := #[.val (.ref a1), .val (.int ((Int32.ofNat (2 * i)) + (1 : Int32)))]) rfl hr_) ?_
  show Goes p ee below s _ _ _ (T1.setTop (mkF m 37 #[.val (.ref a1), .val (.int ((Int32.ofNat (2 * i)) + (1 : Int32)))] [(.int (Int32.ofNat (2 * i))), (.ref a1)]))
  rw [show Int32.ofNat (2 * i) + (1 : Int32) = Int32.ofNat (2 * i + 1) from own_addN (2 * i) 1]
  show Goes p ee below s _ _ _ (T1.setTop (mkF m 37 #[.val (.ref a1), .val (.int (Int32.ofNat (2 * i + 1)))] [(.int (Int32.ofNat (2 * i))), (.ref a1)]))
  refine Goes.step (own_baload X1 hx hZ e1 A (j := (Int32.ofNat (2 * i))) (own_nneg (2 * i) (by omega)) (k := (2 * i)) (own_clamp (2 * i) (by omega)) (by omega) (v := (.int (own_bt (c i)))) (own_by_lo c i) (g := (mkF m 37 #[.val (.ref a1), .val (.int (Int32.ofNat (2 * i + 1)))] [(.int (Int32.ofNat (2 * i))), (.ref a1)])) rfl rfl (hb hby d_jdk_52_method_5_code_37)) ?_
  show Goes p ee below s _ _ _ (T1.setTop (mkF m 38 #[.val (.ref a1), .val (.int (Int32.ofNat (2 * i + 1)))] [(.int (own_bt (c i)))]))
  refine Goes.step (fun _ hr_ => XS.sipush X1.here hx rfl (hb hby d_jdk_52_method_5_code_38) hr_) ?_
  show Goes p ee below s _ _ _ (T1.setTop (mkF m 41 #[.val (.ref a1), .val (.int (Int32.ofNat (2 * i + 1)))] [(.int (255 : Int32)), (.int (own_bt (c i)))]))
  refine Goes.step (fun _ hr_ => XS.iand X1.here hx rfl (hb hby d_jdk_52_method_5_code_41) rfl hr_) ?_
  show Goes p ee below s _ _ _ (T1.setTop (mkF m 42 #[.val (.ref a1), .val (.int (Int32.ofNat (2 * i + 1)))] [(.int ((own_bt (c i)) &&& (255 : Int32)))]))
  rw [own_bt255 (c i) (by omega)]
  show Goes p ee below s _ _ _ (T1.setTop (mkF m 42 #[.val (.ref a1), .val (.int (Int32.ofNat (2 * i + 1)))] [(.int (Int32.ofNat (c i % 256)))]))
  obtain ⟨T2, X2, e2, st2⟩ := getS X1 hx hZ (host := "") hown (hw _ (List.mem_of_getElem? (i := 125) rfl)) Via.refl e1 ((ST.2.2.2.2.2.1).ext OO.2) (g := (mkF m 42 #[.val (.ref a1), .val (.int (Int32.ofNat (2 * i + 1)))] [(.int (Int32.ofNat (c i % 256)))])) rfl (hb hby d_jdk_52_method_5_code_42)
  refine Goes.step st2 ?_
  show Goes p ee below s _ _ _ (T2.setTop (mkF m 45 #[.val (.ref a1), .val (.int (Int32.ofNat (2 * i + 1)))] [(.int (0 : Int32)), (.int (Int32.ofNat (c i % 256)))]))
  refine Goes.step (fun _ hr_ => XT.ishl X2.here hx rfl (hb hby d_jdk_52_method_5_code_45) rfl hr_) ?_
  show Goes p ee below s _ _ _ (T2.setTop (mkF m 46 #[.val (.ref a1), .val (.int (Int32.ofNat (2 * i + 1)))] [(.int ((Int32.ofNat (c i % 256)) <<< ((0 : Int32) &&& 31)))]))
  refine Goes.step (fun _ hr_ => XS.aloadN X2.here hx rfl (hb hby d_jdk_52_method_5_code_46) rfl rfl hr_) ?_
  show Goes p ee below s _ _ _ (T2.setTop (mkF m 47 #[.val (.ref a1), .val (.int (Int32.ofNat (2 * i + 1)))] [(.ref a1), (.int ((Int32.ofNat (c i % 256)) <<< ((0 : Int32) &&& 31)))]))
  refine Goes.step (fun _ hr_ => XS.iloadN X2.here hx rfl (hb hby d_jdk_52_method_5_code_47) rfl  hr_) ?_
  show Goes p ee below s _ _ _ (T2.setTop (mkF m 48 #[.val (.ref a1), .val (.int (Int32.ofNat (2 * i + 1)))] [(.int (Int32.ofNat (2 * i + 1))), (.ref a1), (.int ((Int32.ofNat (c i % 256)) <<< ((0 : Int32) &&& 31)))]))
  refine Goes.step (own_baload X2 hx hZ e2 A (j := (Int32.ofNat (2 * i + 1))) (own_nneg (2 * i + 1) (by omega)) (k := (2 * i + 1)) (own_clamp (2 * i + 1) (by omega)) (by omega) (v := (.int (own_bt (c i / 256)))) (own_by_hi c i) (g := (mkF m 48 #[.val (.ref a1), .val (.int (Int32.ofNat (2 * i + 1)))] [(.int (Int32.ofNat (2 * i + 1))), (.ref a1), (.int ((Int32.ofNat (c i % 256)) <<< ((0 : Int32) &&& 31)))])) rfl rfl (hb hby d_jdk_52_method_5_code_48)) ?_
  show Goes p ee below s _ _ _ (T2.setTop (mkF m 49 #[.val (.ref a1), .val (.int (Int32.ofNat (2 * i + 1)))] [(.int (own_bt (c i / 256))), (.int ((Int32.ofNat (c i % 256)) <<< ((0 : Int32) &&& 31)))]))
  refine Goes.step (fun _ hr_ => XS.sipush X2.here hx rfl (hb hby d_jdk_52_method_5_code_49) hr_) ?_
  show Goes p ee below s _ _ _ (T2.setTop (mkF m 52 #[.val (.ref a1), .val (.int (Int32.ofNat (2 * i + 1)))] [(.int (255 : Int32)), (.int (own_bt (c i / 256))), (.int ((Int32.ofNat (c i % 256)) <<< ((0 : Int32) &&& 31)))]))
  refine Goes.step (fun _ hr_ => XS.iand X2.here hx rfl (hb hby d_jdk_52_method_5_code_52) rfl hr_) ?_
  show Goes p ee below s _ _ _ (T2.setTop (mkF m 53 #[.val (.ref a1), .val (.int (Int32.ofNat (2 * i + 1)))] [(.int ((own_bt (c i / 256)) &&& (255 : Int32))), (.int ((Int32.ofNat (c i % 256)) <<< ((0 : Int32) &&& 31)))]))
  rw [own_bt255 (c i / 256) (by omega)]
  show Goes p ee below s _ _ _ (T2.setTop (mkF m 53 #[.val (.ref a1), .val (.int (Int32.ofNat (2 * i + 1)))] [(.int (Int32.ofNat (c i / 256 % 256))), (.int ((Int32.ofNat (c i % 256)) <<< ((0 : Int32) &&& 31)))]))
  obtain ⟨T3, X3, e3, st3⟩ := getS X2 hx hZ (host := "") hown (hw _ (List.mem_of_getElem? (i := 126) rfl)) Via.refl e2 ((ST.2.2.2.2.2.2.1).ext OO.2) (g := (mkF m 53 #[.val (.ref a1), .val (.int (Int32.ofNat (2 * i + 1)))] [(.int (Int32.ofNat (c i / 256 % 256))), (.int ((Int32.ofNat (c i % 256)) <<< ((0 : Int32) &&& 31)))])) rfl (hb hby d_jdk_52_method_5_code_53)
  refine Goes.step st3 ?_
  show Goes p ee below s _ _ _ (T3.setTop (mkF m 56 #[.val (.ref a1), .val (.int (Int32.ofNat (2 * i + 1)))] [(.int (8 : Int32)), (.int (Int32.ofNat (c i / 256 % 256))), (.int ((Int32.ofNat (c i % 256)) <<< ((0 : Int32) &&& 31)))]))
  refine Goes.step (fun _ hr_ => XT.ishl X3.here hx rfl (hb hby d_jdk_52_method_5_code_56) rfl hr_) ?_
  show Goes p ee below s _ _ _ (T3.setTop (mkF m 57 #[.val (.ref a1), .val (.int (Int32.ofNat (2 * i + 1)))] [(.int ((Int32.ofNat (c i / 256 % 256)) <<< ((8 : Int32) &&& 31))), (.int ((Int32.ofNat (c i % 256)) <<< ((0 : Int32) &&& 31)))]))
  refine Goes.step (fun _ hr_ => XT.ior X3.here hx rfl (hb hby d_jdk_52_method_5_code_57) rfl hr_) ?_
  show Goes p ee below s _ _ _ (T3.setTop (mkF m 58 #[.val (.ref a1), .val (.int (Int32.ofNat (2 * i + 1)))] [(.int (((Int32.ofNat (c i % 256)) <<< ((0 : Int32) &&& 31)) ||| ((Int32.ofNat (c i / 256 % 256)) <<< ((8 : Int32) &&& 31))))]))
  rw [own_join (c i) hc]
  show Goes p ee below s _ _ _ (T3.setTop (mkF m 58 #[.val (.ref a1), .val (.int (Int32.ofNat (2 * i + 1)))] [(.int (Int32.ofNat (c i)))]))
  refine Goes.step (fun _ hr_ => XT.i2c X3.here hx rfl (hb hby d_jdk_52_method_5_code_58) rfl hr_) ?_
  show Goes p ee below s _ _ _ (T3.setTop (mkF m 59 #[.val (.ref a1), .val (.int (Int32.ofNat (2 * i + 1)))] [(.int (Int32.ofNat (c i)).toUInt32.toUInt16.toUInt32.toInt32)]))
  rw [own_i2c (c i) hc]
  show Goes p ee below s _ _ _ (T3.setTop (mkF m 59 #[.val (.ref a1), .val (.int (Int32.ofNat (2 * i + 1)))] [(.int (Int32.ofNat (c i)))]))
  refine Goes.retZ X3 hx Bd.notSynchronized Bd.returns (by simp) (own_nchar (c i) hc) (hb hby d_jdk_52_method_5_code_59) (by decide) (by decide) ?_
  exact ⟨rfl, N0, e3⟩
theorem ef_u16ci (m : MethodId) (x0 : Int32) (x1 : Addr) : entryFrame m #[(.int x0), (.ref x1)] 2 = mkF m 0 #[.val (.int x0), .val (.ref x1)] [] := by first | (simp [entryFrame, mkF, argsToLocals, Value.category]; done) | rfl
theorem d_jdk_52_method_91_code_0 : decode jdk_52_method_91_code 0 = .ok (.iload_n 0, 1) := by decide +kernel
theorem d_jdk_52_method_91_code_1 : decode jdk_52_method_91_code 1 = .ok (.aload_n 1, 1) := by decide +kernel
theorem pd_2 : parseMethodDescriptor "([B)I" = some ⟨[(.array .byte)], some .int⟩ := by decide +kernel
theorem d_jdk_52_method_91_code_2 : decode jdk_52_method_91_code 2 = .ok (.invokestatic 48, 3) := by decide +kernel
theorem d_jdk_52_method_91_code_5 : decode jdk_52_method_91_code 5 = .ok (.invokestatic 414, 3) := by decide +kernel
theorem d_jdk_52_method_91_code_8 : decode jdk_52_method_91_code 8 = .ok (.return_, 1) := by decide +kernel
def Q_u16ci (Z : State) (cs : Int32) (fm : Value) (i : Nat) (a1 : Addr) (n : Nat) (f : Nat → Value) (h0 : Heap) (n0 : Nat) (v : Option Value) (h : Heap) (L : List Loc) : Prop := v = none ∧ Fr n0 L ∧ h = h0
set_option maxRecDepth 65536 in
set_option maxHeartbeats 40000000 in
theorem rm_u16ci (l : Launch) (Z : State) (a0 : Array Value) (hw : ∀ d ∈ tables_1, d.before a0 Z = true) (ws : List Jvm.Cond) (cs : Int32) (fm : Value) (i : Nat) (a1 : Addr) (n : Nat) (f : Nat → Value) (h0 : Heap) (n0 : Nat) (Z0 : n0 ≤ h0.size) (ST : own_ST Z cs fm) (OO : Old Z n0 h0) (hi : i < n) (hn : n < 2 ^ 30) (A : OA Z h0 a1 .byte (2 * n) f) :
    MetFree l (⟨"java/lang/StringUTF16", "checkIndex", "(I[B)V"⟩ : MethodName) (head1 (Jvm.Cond.code (⟨"java/lang/StringUTF16", "checkIndex", "(I[B)V"⟩ : MethodName) jdk_52_method_91_code 2 none :: ws) ({ frames := 2, cells := 0, slots := 0, locals := 27 } : Room)) (fun a U => a = #[(.int (Int32.ofNat i)), (.ref a1)] ∧ Z.Warmed39 U.vm ∧ U.heap = h0) (fun _ _ _ _ _ => True) (fun _ U o U' => ∃ v L, o = .returned v ∧ Q_u16ci Z cs fm i a1 n f h0 n0 v U'.heap L ∧ FrameEnd U o U' L ({ frames := 2, cells := 0, slots := 0, locals := 27 } : Room).cells ({ frames := 2, cells := 0, slots := 0, locals := 27 } : Room).slots) := by
  refine MetFree.of_bodySF (plainFor_of_name pn_java_lang_StringUTF16) hisR ?_
  intro p ee s m args below meth cc s₁ Bd hml0 hP hK
  obtain ⟨rfl, hZ, hh⟩ := hP
  have hx := Bd.exec
  have hby := Bd.bytes
  have hml : cc.maxLocals = 2 := hml0
  have hown : s.vm.findClass "java/lang/StringUTF16" = some m.cls := findClass_of_methodNamed Bd.named
  have hnm := (name_of_methodNamed Bd.named Bd.method).1
  have X0 : Stand p l ee ({ frames := 2, cells := 0, slots := 0, locals := 27 } : Room) s m #[(.int (Int32.ofNat i)), (.ref a1)] below meth cc s₁ [] 0 0 := Stand.of_body Bd
  have e0 : s₁.heap = h0 := by rw [← hh, Bd.state]; rfl
  have N0 := Fr.nil n0
  show Goes p ee below s ({ frames := 2, cells := 0, slots := 0, locals := 27 } : Room).cells ({ frames := 2, cells := 0, slots := 0, locals := 27 } : Room).slots (Q_u16ci Z cs fm i a1 n f h0 n0) (s₁.setTop (entryFrame m #[(.int (Int32.ofNat i)), (.ref a1)] 2))
  refine Goes.step (fun _ hr_ => castTop (ef_u16ci m (Int32.ofNat i) a1) hr_) ?_
  show Goes p ee below s _ _ _ (s₁.setTop (mkF m 0 #[.val (.int (Int32.ofNat i)), .val (.ref a1)] []))
  refine Goes.step (fun _ hr_ => XS.iloadN X0.here hx rfl (hb hby d_jdk_52_method_91_code_0) rfl  hr_) ?_
  show Goes p ee below s _ _ _ (s₁.setTop (mkF m 1 #[.val (.int (Int32.ofNat i)), .val (.ref a1)] [(.int (Int32.ofNat i))]))
  refine Goes.step (fun _ hr_ => XS.aloadN X0.here hx rfl (hb hby d_jdk_52_method_91_code_1) rfl rfl hr_) ?_
  show Goes p ee below s _ _ _ (s₁.setTop (mkF m 2 #[.val (.int (Int32.ofNat i)), .val (.ref a1)] [(.ref a1), (.int (Int32.ofNat i))]))
  have lt_a1 := A.lt
  obtain ⟨v1, T1, L1, X1, hQ1, st1⟩ := own_callS X0 hx hZ (y := (⟨"java/lang/StringUTF16", "length", "([B)I"⟩ : MethodName)) hown (hw _ (List.mem_of_getElem? (i := 140) rfl)) (hw _ (List.mem_of_getElem? (i := 141) rfl)) (hw _ (List.mem_of_getElem? (i := 23) rfl)) (hw _ (List.mem_of_getElem? (i := 142) rfl)) (by decide) (argsL := [(.ref a1)]) (rm_u16l l Z a0 hw [] cs fm a1 n _ h0 n0 Z0 ST OO (by omega) A) e0 (W := 1) (by decide) (by decide) (by decide) (by decide) (g := (mkF m 2 #[.val (.int (Int32.ofNat i)), .val (.ref a1)] [(.ref a1), (.int (Int32.ofNat i))])) rfl (by rw [hml]; rfl) (rest := [(.int (Int32.ofNat i))]) (lenOf pd_2 rfl) rfl (by show 2 * 0 + _ ≤ _; exact Nat.le_of_eq rfl) (hb hby d_jdk_52_method_91_code_2)
  refine Goes.step st1 ?_
  obtain ⟨rfl, N1, e1⟩ := hQ1
  have N2 := Fr.app N0 N1
  show Goes p ee below s _ _ _ (T1.setTop (mkF m 5 #[.val (.int (Int32.ofNat i)), .val (.ref a1)] [(.int (Int32.ofNat n)), (.int (Int32.ofNat i))]))
  have lt_a1 := A.lt
  obtain ⟨v3, T3, L3, X3, hQ3, st3⟩ := own_callS X1 hx hZ (y := (⟨"java/lang/String", "checkIndex", "(II)V"⟩ : MethodName)) hown (hw _ (List.mem_of_getElem? (i := 143) rfl)) (hw _ (List.mem_of_getElem? (i := 103) rfl)) (hw _ (List.mem_of_getElem? (i := 8) rfl)) (hw _ (List.mem_of_getElem? (i := 104) rfl)) (by decide) (argsL := [(.int (Int32.ofNat i)), (.int (Int32.ofNat n))]) (rm_sci l Z a0 hw [] cs fm i n h0 n0 Z0 ST OO hi (by omega)) e1 (W := 0) (by decide) (by decide) (by decide) (by decide) (g := (mkF m 5 #[.val (.int (Int32.ofNat i)), .val (.ref a1)] [(.int (Int32.ofNat n)), (.int (Int32.ofNat i))])) rfl (by rw [hml]; rfl) (rest := []) (lenOf pd_1 rfl) rfl (by show 2 * 0 + _ ≤ _; exact Nat.le_of_eq rfl) (hb hby d_jdk_52_method_91_code_5)
  refine Goes.step st3 ?_
  obtain ⟨rfl, N3, e3⟩ := hQ3
  have N4 := Fr.app N2 N3
  show Goes p ee below s _ _ _ (T3.setTop (mkF m 8 #[.val (.int (Int32.ofNat i)), .val (.ref a1)] []))
  refine Goes.retV X3 hx Bd.notSynchronized Bd.returns (hb hby d_jdk_52_method_91_code_8) (by decide) (by decide) ?_
  exact ⟨rfl, N4, e3⟩
theorem ef_u16c (m : MethodId) (x0 : Addr) (x1 : Int32) : entryFrame m #[(.ref x0), (.int x1)] 2 = mkF m 0 #[.val (.ref x0), .val (.int x1)] [] := by first | (simp [entryFrame, mkF, argsToLocals, Value.category]; done) | rfl
theorem d_jdk_52_method_83_code_0 : decode jdk_52_method_83_code 0 = .ok (.iload_n 1, 1) := by decide +kernel
theorem d_jdk_52_method_83_code_1 : decode jdk_52_method_83_code 1 = .ok (.aload_n 0, 1) := by decide +kernel
theorem pd_3 : parseMethodDescriptor "(I[B)V" = some ⟨[.int, (.array .byte)], none⟩ := by decide +kernel
theorem d_jdk_52_method_83_code_2 : decode jdk_52_method_83_code 2 = .ok (.invokestatic 67, 3) := by decide +kernel
theorem d_jdk_52_method_83_code_5 : decode jdk_52_method_83_code 5 = .ok (.aload_n 0, 1) := by decide +kernel
theorem d_jdk_52_method_83_code_6 : decode jdk_52_method_83_code 6 = .ok (.iload_n 1, 1) := by decide +kernel
theorem pd_4 : parseMethodDescriptor "([BI)C" = some ⟨[(.array .byte), .int], some .char⟩ := by decide +kernel
theorem d_jdk_52_method_83_code_7 : decode jdk_52_method_83_code 7 = .ok (.invokestatic 71, 3) := by decide +kernel
theorem d_jdk_52_method_83_code_10 : decode jdk_52_method_83_code 10 = .ok (.ireturn, 1) := by decide +kernel
def Q_u16c (Z : State) (cs : Int32) (fm : Value) (a1 : Addr) (i n : Nat) (c : Nat → Nat) (h0 : Heap) (n0 : Nat) (v : Option Value) (h : Heap) (L : List Loc) : Prop := v = some (.int (Int32.ofNat (c i))) ∧ Fr n0 L ∧ h = h0
set_option maxRecDepth 65536 in
set_option maxHeartbeats 40000000 in
theorem rm_u16c (l : Launch) (Z : State) (a0 : Array Value) (hw : ∀ d ∈ tables_1, d.before a0 Z = true) (ws : List Jvm.Cond) (cs : Int32) (fm : Value) (a1 : Addr) (i n : Nat) (c : Nat → Nat) (h0 : Heap) (n0 : Nat) (Z0 : n0 ≤ h0.size) (ST : own_ST Z cs fm) (OO : Old Z n0 h0) (hi : i < n) (hn : n < 2 ^ 30) (hc : c i < 65536) (A : OA Z h0 a1 .byte (2 * n) (own_by true c)) :
    MetFree l (⟨"java/lang/StringUTF16", "charAt", "([BI)C"⟩ : MethodName) (head1 (Jvm.Cond.code (⟨"java/lang/StringUTF16", "charAt", "([BI)C"⟩ : MethodName) jdk_52_method_83_code 2 (some .char) :: ws) ({ frames := 3, cells := 0, slots := 0, locals := 40 } : Room)) (fun a U => a = #[(.ref a1), (.int (Int32.ofNat i))] ∧ Z.Warmed39 U.vm ∧ U.heap = h0) (fun _ _ _ _ _ => True) (fun _ U o U' => ∃ v L, o = .returned v ∧ Q_u16c Z cs fm a1 i n c h0 n0 v U'.heap L ∧ FrameEnd U o U' L ({ frames := 3, cells := 0, slots := 0, locals := 40 } : Room).cells ({ frames := 3, cells := 0, slots := 0, locals := 40 } : Room).slots) := by
  refine MetFree.of_bodySF (plainFor_of_name pn_java_lang_StringUTF16) hisR ?_
  intro p ee s m args below meth cc s₁ Bd hml0 hP hK
  obtain ⟨rfl, hZ, hh⟩ := hP
  have hx := Bd.exec
  have hby := Bd.bytes
  have hml : cc.maxLocals = 2 := hml0
  have hown : s.vm.findClass "java/lang/StringUTF16" = some m.cls := findClass_of_methodNamed Bd.named
  have hnm := (name_of_methodNamed Bd.named Bd.method).1
  have X0 : Stand p l ee ({ frames := 3, cells := 0, slots := 0, locals := 40 } : Room) s m #[(.ref a1), (.int (Int32.ofNat i))] below meth cc s₁ [] 0 0 := Stand.of_body Bd
  have e0 : s₁.heap = h0 := by rw [← hh, Bd.state]; rfl
  have N0 := Fr.nil n0
  show Goes p ee below s ({ frames := 3, cells := 0, slots := 0, locals := 40 } : Room).cells ({ frames := 3, cells := 0, slots := 0, locals := 40 } : Room).slots (Q_u16c Z cs fm a1 i n c h0 n0) (s₁.setTop (entryFrame m #[(.ref a1), (.int (Int32.ofNat i))] 2))
  refine Goes.step (fun _ hr_ => castTop (ef_u16c m a1 (Int32.ofNat i)) hr_) ?_
  show Goes p ee below s _ _ _ (s₁.setTop (mkF m 0 #[.val (.ref a1), .val (.int (Int32.ofNat i))] []))
  refine Goes.step (fun _ hr_ => XS.iloadN X0.here hx rfl (hb hby d_jdk_52_method_83_code_0) rfl  hr_) ?_
  show Goes p ee below s _ _ _ (s₁.setTop (mkF m 1 #[.val (.ref a1), .val (.int (Int32.ofNat i))] [(.int (Int32.ofNat i))]))
  refine Goes.step (fun _ hr_ => XS.aloadN X0.here hx rfl (hb hby d_jdk_52_method_83_code_1) rfl rfl hr_) ?_
  show Goes p ee below s _ _ _ (s₁.setTop (mkF m 2 #[.val (.ref a1), .val (.int (Int32.ofNat i))] [(.ref a1), (.int (Int32.ofNat i))]))
  have lt_a1 := A.lt
  obtain ⟨v1, T1, L1, X1, hQ1, st1⟩ := own_callS X0 hx hZ (y := (⟨"java/lang/StringUTF16", "checkIndex", "(I[B)V"⟩ : MethodName)) hown (hw _ (List.mem_of_getElem? (i := 137) rfl)) (hw _ (List.mem_of_getElem? (i := 138) rfl)) (hw _ (List.mem_of_getElem? (i := 23) rfl)) (hw _ (List.mem_of_getElem? (i := 139) rfl)) (by decide) (argsL := [(.int (Int32.ofNat i)), (.ref a1)]) (rm_u16ci l Z a0 hw [] cs fm i a1 n _ h0 n0 Z0 ST OO hi hn A) e0 (W := 0) (by decide) (by decide) (by decide) (by decide) (g := (mkF m 2 #[.val (.ref a1), .val (.int (Int32.ofNat i))] [(.ref a1), (.int (Int32.ofNat i))])) rfl (by rw [hml]; rfl) (rest := []) (lenOf pd_3 rfl) rfl (by show 2 * 0 + _ ≤ _; exact Nat.le_of_eq rfl) (hb hby d_jdk_52_method_83_code_2)
  refine Goes.step st1 ?_
  obtain ⟨rfl, N1, e1⟩ := hQ1
  have N2 := Fr.app N0 N1
  show Goes p ee below s _ _ _ (T1.setTop (mkF m 5 #[.val (.ref a1), .val (.int (Int32.ofNat i))] []))
  refine Goes.step (fun _ hr_ => XS.aloadN X1.here hx rfl (hb hby d_jdk_52_method_83_code_5) rfl rfl hr_) ?_
  show Goes p ee below s _ _ _ (T1.setTop (mkF m 6 #[.val (.ref a1), .val (.int (Int32.ofNat i))] [(.ref a1)]))
  refine Goes.step (fun _ hr_ => XS.iloadN X1.here hx rfl (hb hby d_jdk_52_method_83_code_6) rfl  hr_) ?_
  show Goes p ee below s _ _ _ (T1.setTop (mkF m 7 #[.val (.ref a1), .val (.int (Int32.ofNat i))] [(.int (Int32.ofNat i)), (.ref a1)]))
  have lt_a1 := A.lt
  obtain ⟨v3, T3, L3, X3, hQ3, st3⟩ := own_callS X1 hx hZ (y := (⟨"java/lang/StringUTF16", "getChar", "([BI)C"⟩ : MethodName)) hown (hw _ (List.mem_of_getElem? (i := 127) rfl)) (hw _ (List.mem_of_getElem? (i := 128) rfl)) (hw _ (List.mem_of_getElem? (i := 23) rfl)) (hw _ (List.mem_of_getElem? (i := 129) rfl)) (by decide) (argsL := [(.ref a1), (.int (Int32.ofNat i))]) (rm_getc l Z a0 hw [] cs fm a1 i n c h0 n0 Z0 ST OO hi (by omega) hc A) e1 (W := 0) (by decide) (by decide) (by decide) (by decide) (g := (mkF m 7 #[.val (.ref a1), .val (.int (Int32.ofNat i))] [(.int (Int32.ofNat i)), (.ref a1)])) rfl (by rw [hml]; rfl) (rest := []) (lenOf pd_4 rfl) rfl (by show 2 * 0 + _ ≤ _; exact Nat.le_of_eq rfl) (hb hby d_jdk_52_method_83_code_7)
  refine Goes.step st3 ?_
  obtain ⟨rfl, N3, e3⟩ := hQ3
  have N4 := Fr.app N2 N3
  show Goes p ee below s _ _ _ (T3.setTop (mkF m 10 #[.val (.ref a1), .val (.int (Int32.ofNat i))] [(.int (Int32.ofNat (c i)))]))
  refine Goes.retZ X3 hx Bd.notSynchronized Bd.returns (by simp) (own_nchar (c i) hc) (hb hby d_jdk_52_method_83_code_10) (by decide) (by decide) ?_
  exact ⟨rfl, N4, e3⟩
theorem ef_coder (m : MethodId) (x0 : Addr) : entryFrame m #[(.ref x0)] 1 = mkF m 0 #[.val (.ref x0)] [] := by first | (simp [entryFrame, mkF, argsToLocals, Value.category]; done) | rfl
theorem d_jdk_42_method_152_code_0 : decode jdk_42_method_152_code 0 = .ok (.getstatic 38, 3) := by decide +kernel
theorem d_jdk_42_method_152_code_3 : decode jdk_42_method_152_code 3 = .ok (.ifCond .eq 10, 3) := by decide +kernel
theorem d_jdk_42_method_152_code_6 : decode jdk_42_method_152_code 6 = .ok (.aload_n 0, 1) := by decide +kernel
theorem d_jdk_42_method_152_code_7 : decode jdk_42_method_152_code 7 = .ok (.getfield 15, 3) := by decide +kernel
theorem d_jdk_42_method_152_code_10 : decode jdk_42_method_152_code 10 = .ok (.goto 4, 3) := by decide +kernel
theorem d_jdk_42_method_152_code_14 : decode jdk_42_method_152_code 14 = .ok (.ireturn, 1) := by decide +kernel
def Q_coder (Z : State) (cs : Int32) (fm : Value) (a1 : Addr) (u : Bool) (h0 : Heap) (n0 : Nat) (v : Option Value) (h : Heap) (L : List Loc) : Prop := v = some (.int (own_cd u)) ∧ Fr n0 L ∧ h = h0
set_option maxRecDepth 65536 in
set_option maxHeartbeats 40000000 in
theorem rm_coder (l : Launch) (Z : State) (a0 : Array Value) (hw : ∀ d ∈ tables_1, d.before a0 Z = true) (ws : List Jvm.Cond) (cs : Int32) (fm : Value) (a1 : Addr) (u : Bool) (h0 : Heap) (n0 : Nat) (Z0 : n0 ≤ h0.size) (ST : own_ST Z cs fm) (OO : Old Z n0 h0) (FC : Fld Z h0 a1 "java/lang/String" "coder" "B" (.int (own_cd u))) :
    MetFree l (⟨"java/lang/String", "coder", "()B"⟩ : MethodName) (head1 (Jvm.Cond.code (⟨"java/lang/String", "coder", "()B"⟩ : MethodName) jdk_42_method_152_code 1 (some .byte) :: ws) ({ frames := 0, cells := 0, slots := 0, locals := 0 } : Room)) (fun a U => a = #[(.ref a1)] ∧ Z.Warmed39 U.vm ∧ U.heap = h0) (fun _ _ _ _ _ => True) (fun _ U o U' => ∃ v L, o = .returned v ∧ Q_coder Z cs fm a1 u h0 n0 v U'.heap L ∧ FrameEnd U o U' L ({ frames := 0, cells := 0, slots := 0, locals := 0 } : Room).cells ({ frames := 0, cells := 0, slots := 0, locals := 0 } : Room).slots) := by
  refine MetFree.of_bodySF (plainFor_of_name pn_java_lang_String) hisR ?_
  intro p ee s m args below meth cc s₁ Bd hml0 hP hK
  obtain ⟨rfl, hZ, hh⟩ := hP
  have hx := Bd.exec
  have hby := Bd.bytes
  have hml : cc.maxLocals = 1 := hml0
  have hown : s.vm.findClass "java/lang/String" = some m.cls := findClass_of_methodNamed Bd.named
  have hnm := (name_of_methodNamed Bd.named Bd.method).1
  have X0 : Stand p l ee ({ frames := 0, cells := 0, slots := 0, locals := 0 } : Room) s m #[(.ref a1)] below meth cc s₁ [] 0 0 := Stand.of_body Bd
  have e0 : s₁.heap = h0 := by rw [← hh, Bd.state]; rfl
  have N0 := Fr.nil n0
  show Goes p ee below s ({ frames := 0, cells := 0, slots := 0, locals := 0 } : Room).cells ({ frames := 0, cells := 0, slots := 0, locals := 0 } : Room).slots (Q_coder Z cs fm a1 u h0 n0) (s₁.setTop (entryFrame m #[(.ref a1)] 1))
  refine Goes.step (fun _ hr_ => castTop (ef_coder m a1) hr_) ?_
  show Goes p ee below s _ _ _ (s₁.setTop (mkF m 0 #[.val (.ref a1)] []))
  obtain ⟨T1, X1, e1, st1⟩ := getS X0 hx hZ (host := "") hown (hw _ (List.mem_of_getElem? (i := 20) rfl)) Via.refl e0 ((ST.1).ext OO.2) (g := (mkF m 0 #[.val (.ref a1)] [])) rfl (hb hby d_jdk_42_method_152_code_0)
  refine Goes.step st1 ?_
  show Goes p ee below s _ _ _ (T1.setTop (mkF m 3 #[.val (.ref a1)] [(.int cs)]))
  refine Goes.step (fun _ hr_ => XS.ifNo X1.here hx rfl (hb hby d_jdk_42_method_152_code_3) rfl ((if0 _ _).trans (feq (ST.2.1)).1) hr_) ?_
  show Goes p ee below s _ _ _ (T1.setTop (mkF m 6 #[.val (.ref a1)] []))
  refine Goes.step (fun _ hr_ => XS.aloadN X1.here hx rfl (hb hby d_jdk_42_method_152_code_6) rfl rfl hr_) ?_
  show Goes p ee below s _ _ _ (T1.setTop (mkF m 7 #[.val (.ref a1)] [(.ref a1)]))
  obtain ⟨T2, X2, e2, st2⟩ := getF X1 hx hZ hown (host := "") (Or.inl (hw _ (List.mem_of_getElem? (i := 32) rfl))) Via.refl e1 FC (g := (mkF m 7 #[.val (.ref a1)] [(.ref a1)])) rfl rfl (hb hby d_jdk_42_method_152_code_7)
  refine Goes.step st2 ?_
  show Goes p ee below s _ _ _ (T2.setTop (mkF m 10 #[.val (.ref a1)] [(.int (own_cd u))]))
  refine Goes.step (fun _ hr_ => XS.goto X2.here hx rfl (pc0 := 10) (pc' := 14) rfl (hb hby d_jdk_42_method_152_code_10) (by decide) (by decide) hr_) ?_
  show Goes p ee below s _ _ _ (T2.setTop (mkF m 14 #[.val (.ref a1)] [(.int (own_cd u))]))
  refine Goes.retZ X2 hx Bd.notSynchronized Bd.returns (by simp) (own_cd_byte u).1 (hb hby d_jdk_42_method_152_code_14) (by decide) (by decide) ?_
  exact ⟨rfl, N0, e2⟩
theorem ef_isL (m : MethodId) (x0 : Addr) : entryFrame m #[(.ref x0)] 1 = mkF m 0 #[.val (.ref x0)] [] := by first | (simp [entryFrame, mkF, argsToLocals, Value.category]; done) | rfl
theorem d_jdk_42_method_154_code_0 : decode jdk_42_method_154_code 0 = .ok (.getstatic 38, 3) := by decide +kernel
theorem d_jdk_42_method_154_code_3 : decode jdk_42_method_154_code 3 = .ok (.ifCond .eq 14, 3) := by decide +kernel
theorem d_jdk_42_method_154_code_6 : decode jdk_42_method_154_code 6 = .ok (.aload_n 0, 1) := by decide +kernel
theorem d_jdk_42_method_154_code_7 : decode jdk_42_method_154_code 7 = .ok (.getfield 15, 3) := by decide +kernel
theorem d_jdk_42_method_154_code_10 : decode jdk_42_method_154_code 10 = .ok (.ifCond .ne 7, 3) := by decide +kernel
theorem d_jdk_42_method_154_code_13 : decode jdk_42_method_154_code 13 = .ok (.iconst 1, 1) := by decide +kernel
theorem d_jdk_42_method_154_code_14 : decode jdk_42_method_154_code 14 = .ok (.goto 4, 3) := by decide +kernel
theorem d_jdk_42_method_154_code_18 : decode jdk_42_method_154_code 18 = .ok (.ireturn, 1) := by decide +kernel
theorem d_jdk_42_method_154_code_17 : decode jdk_42_method_154_code 17 = .ok (.iconst 0, 1) := by decide +kernel
def Q_isL (Z : State) (cs : Int32) (fm : Value) (a1 : Addr) (u : Bool) (h0 : Heap) (n0 : Nat) (v : Option Value) (h : Heap) (L : List Loc) : Prop := v = some (.int (if u then 0 else 1)) ∧ Fr n0 L ∧ h = h0
set_option maxRecDepth 65536 in
set_option maxHeartbeats 40000000 in
theorem rm_isL (l : Launch) (Z : State) (a0 : Array Value) (hw : ∀ d ∈ tables_1, d.before a0 Z = true) (ws : List Jvm.Cond) (cs : Int32) (fm : Value) (a1 : Addr) (u : Bool) (h0 : Heap) (n0 : Nat) (Z0 : n0 ≤ h0.size) (ST : own_ST Z cs fm) (OO : Old Z n0 h0) (FC : Fld Z h0 a1 "java/lang/String" "coder" "B" (.int (own_cd u))) :
    MetFree l (⟨"java/lang/String", "isLatin1", "()Z"⟩ : MethodName) (head1 (Jvm.Cond.code (⟨"java/lang/String", "isLatin1", "()Z"⟩ : MethodName) jdk_42_method_154_code 1 (some .boolean) :: ws) ({ frames := 0, cells := 0, slots := 0, locals := 0 } : Room)) (fun a U => a = #[(.ref a1)] ∧ Z.Warmed39 U.vm ∧ U.heap = h0) (fun _ _ _ _ _ => True) (fun _ U o U' => ∃ v L, o = .returned v ∧ Q_isL Z cs fm a1 u h0 n0 v U'.heap L ∧ FrameEnd U o U' L ({ frames := 0, cells := 0, slots := 0, locals := 0 } : Room).cells ({ frames := 0, cells := 0, slots := 0, locals := 0 } : Room).slots) := by
  refine MetFree.of_bodySF (plainFor_of_name pn_java_lang_String) hisR ?_
  intro p ee s m args below meth cc s₁ Bd hml0 hP hK
  obtain ⟨rfl, hZ, hh⟩ := hP
  have hx := Bd.exec
  have hby := Bd.bytes
  have hml : cc.maxLocals = 1 := hml0
  have hown : s.vm.findClass "java/lang/String" = some m.cls := findClass_of_methodNamed Bd.named
  have hnm := (name_of_methodNamed Bd.named Bd.method).1
  have X0 : Stand p l ee ({ frames := 0, cells := 0, slots := 0, locals := 0 } : Room) s m #[(.ref a1)] below meth cc s₁ [] 0 0 := Stand.of_body Bd
  have e0 : s₁.heap = h0 := by rw [← hh, Bd.state]; rfl
  have N0 := Fr.nil n0
  show Goes p ee below s ({ frames := 0, cells := 0, slots := 0, locals := 0 } : Room).cells ({ frames := 0, cells := 0, slots := 0, locals := 0 } : Room).slots (Q_isL Z cs fm a1 u h0 n0) (s₁.setTop (entryFrame m #[(.ref a1)] 1))
  refine Goes.step (fun _ hr_ => castTop (ef_isL m a1) hr_) ?_
  show Goes p ee below s _ _ _ (s₁.setTop (mkF m 0 #[.val (.ref a1)] []))
  cases u
  · have FC : Fld Z h0 a1 "java/lang/String" "coder" "B" (.int 0) := FC
    show Goes p ee below s _ _ _ (s₁.setTop (mkF m 0 #[.val (.ref a1)] []))
    obtain ⟨T1, X1, e1, st1⟩ := getS X0 hx hZ (host := "") hown (hw _ (List.mem_of_getElem? (i := 20) rfl)) Via.refl e0 ((ST.1).ext OO.2) (g := (mkF m 0 #[.val (.ref a1)] [])) rfl (hb hby d_jdk_42_method_154_code_0)
    refine Goes.step st1 ?_
    show Goes p ee below s _ _ _ (T1.setTop (mkF m 3 #[.val (.ref a1)] [(.int cs)]))
    refine Goes.step (fun _ hr_ => XS.ifNo X1.here hx rfl (hb hby d_jdk_42_method_154_code_3) rfl ((if0 _ _).trans (feq (ST.2.1)).1) hr_) ?_
    show Goes p ee below s _ _ _ (T1.setTop (mkF m 6 #[.val (.ref a1)] []))
    refine Goes.step (fun _ hr_ => XS.aloadN X1.here hx rfl (hb hby d_jdk_42_method_154_code_6) rfl rfl hr_) ?_
    show Goes p ee below s _ _ _ (T1.setTop (mkF m 7 #[.val (.ref a1)] [(.ref a1)]))
    obtain ⟨T2, X2, e2, st2⟩ := getF X1 hx hZ hown (host := "") (Or.inl (hw _ (List.mem_of_getElem? (i := 32) rfl))) Via.refl e1 FC (g := (mkF m 7 #[.val (.ref a1)] [(.ref a1)])) rfl rfl (hb hby d_jdk_42_method_154_code_7)
    refine Goes.step st2 ?_
    show Goes p ee below s _ _ _ (T2.setTop (mkF m 10 #[.val (.ref a1)] [(.int (0 : Int32))]))
    refine Goes.step (fun _ hr_ => XS.ifNo X2.here hx rfl (hb hby d_jdk_42_method_154_code_10) rfl ((if0 _ _).trans (teq rfl).2) hr_) ?_
    show Goes p ee below s _ _ _ (T2.setTop (mkF m 13 #[.val (.ref a1)] []))
    refine Goes.step (fun _ hr_ => XS.iconst X2.here hx rfl (hb hby d_jdk_42_method_154_code_13) hr_) ?_
    show Goes p ee below s _ _ _ (T2.setTop (mkF m 14 #[.val (.ref a1)] [(.int (1 : Int32))]))
    refine Goes.step (fun _ hr_ => XS.goto X2.here hx rfl (pc0 := 14) (pc' := 18) rfl (hb hby d_jdk_42_method_154_code_14) (by decide) (by decide) hr_) ?_
    show Goes p ee below s _ _ _ (T2.setTop (mkF m 18 #[.val (.ref a1)] [(.int (1 : Int32))]))
    refine Goes.retZ X2 hx Bd.notSynchronized Bd.returns (by simp) rfl (hb hby d_jdk_42_method_154_code_18) (by decide) (by decide) ?_
    exact ⟨rfl, N0, e2⟩
  · have FC : Fld Z h0 a1 "java/lang/String" "coder" "B" (.int 1) := FC
    show Goes p ee below s _ _ _ (s₁.setTop (mkF m 0 #[.val (.ref a1)] []))
    obtain ⟨T3, X3, e3, st3⟩ := getS X0 hx hZ (host := "") hown (hw _ (List.mem_of_getElem? (i := 20) rfl)) Via.refl e0 ((ST.1).ext OO.2) (g := (mkF m 0 #[.val (.ref a1)] [])) rfl (hb hby d_jdk_42_method_154_code_0)
    refine Goes.step st3 ?_
    show Goes p ee below s _ _ _ (T3.setTop (mkF m 3 #[.val (.ref a1)] [(.int cs)]))
    refine Goes.step (fun _ hr_ => XS.ifNo X3.here hx rfl (hb hby d_jdk_42_method_154_code_3) rfl ((if0 _ _).trans (feq (ST.2.1)).1) hr_) ?_
    show Goes p ee below s _ _ _ (T3.setTop (mkF m 6 #[.val (.ref a1)] []))
    refine Goes.step (fun _ hr_ => XS.aloadN X3.here hx rfl (hb hby d_jdk_42_method_154_code_6) rfl rfl hr_) ?_
    show Goes p ee below s _ _ _ (T3.setTop (mkF m 7 #[.val (.ref a1)] [(.ref a1)]))
    obtain ⟨T4, X4, e4, st4⟩ := getF X3 hx hZ hown (host := "") (Or.inl (hw _ (List.mem_of_getElem? (i := 32) rfl))) Via.refl e3 FC (g := (mkF m 7 #[.val (.ref a1)] [(.ref a1)])) rfl rfl (hb hby d_jdk_42_method_154_code_7)
    refine Goes.step st4 ?_
    show Goes p ee below s _ _ _ (T4.setTop (mkF m 10 #[.val (.ref a1)] [(.int (1 : Int32))]))
    refine Goes.step (fun _ hr_ => XS.ifYes X4.here hx rfl (pc0 := 10) (pc' := 17) rfl (hb hby d_jdk_42_method_154_code_10) rfl ((if0 _ _).trans (feq (by decide)).2) (by decide) (by decide) hr_) ?_
    show Goes p ee below s _ _ _ (T4.setTop (mkF m 17 #[.val (.ref a1)] []))
    refine Goes.step (fun _ hr_ => XS.iconst X4.here hx rfl (hb hby d_jdk_42_method_154_code_17) hr_) ?_
    show Goes p ee below s _ _ _ (T4.setTop (mkF m 18 #[.val (.ref a1)] [(.int (0 : Int32))]))
    refine Goes.retZ X4 hx Bd.notSynchronized Bd.returns (by simp) rfl (hb hby d_jdk_42_method_154_code_18) (by decide) (by decide) ?_
    exact ⟨rfl, N0, e4⟩
theorem ef_slen (m : MethodId) (x0 : Addr) : entryFrame m #[(.ref x0)] 1 = mkF m 0 #[.val (.ref x0)] [] := by first | (simp [entryFrame, mkF, argsToLocals, Value.category]; done) | rfl
theorem d_jdk_42_method_54_code_0 : decode jdk_42_method_54_code 0 = .ok (.aload_n 0, 1) := by decide +kernel
theorem d_jdk_42_method_54_code_1 : decode jdk_42_method_54_code 1 = .ok (.getfield 9, 3) := by decide +kernel
theorem d_jdk_42_method_54_code_4 : decode jdk_42_method_54_code 4 = .ok (.arraylength, 1) := by decide +kernel
theorem d_jdk_42_method_54_code_5 : decode jdk_42_method_54_code 5 = .ok (.aload_n 0, 1) := by decide +kernel
theorem pd_5 : parseMethodDescriptor "()B" = some ⟨[], some .byte⟩ := by decide +kernel
theorem d_jdk_42_method_54_code_6 : decode jdk_42_method_54_code 6 = .ok (.invokevirtual 335, 3) := by decide +kernel
theorem d_jdk_42_method_54_code_9 : decode jdk_42_method_54_code 9 = .ok (.ishr, 1) := by decide +kernel
theorem d_jdk_42_method_54_code_10 : decode jdk_42_method_54_code 10 = .ok (.ireturn, 1) := by decide +kernel
def Q_slen (Z : State) (cs : Int32) (fm : Value) (a1 b : Addr) (u : Bool) (n : Nat) (c : Nat → Nat) (h0 : Heap) (n0 : Nat) (v : Option Value) (h : Heap) (L : List Loc) : Prop := v = some (.int (Int32.ofNat n)) ∧ Fr n0 L ∧ h = h0
set_option maxRecDepth 65536 in
set_option maxHeartbeats 40000000 in
theorem rm_slen (l : Launch) (Z : State) (a0 : Array Value) (hw : ∀ d ∈ tables_1, d.before a0 Z = true) (ws : List Jvm.Cond) (cs : Int32) (fm : Value) (a1 b : Addr) (u : Bool) (n : Nat) (c : Nat → Nat) (h0 : Heap) (n0 : Nat) (Z0 : n0 ≤ h0.size) (ST : own_ST Z cs fm) (OO : Old Z n0 h0) (hn : n < 2 ^ 29) (E : Exa Z h0 a1 "java/lang/String") (FV : Fld Z h0 a1 "java/lang/String" "value" "[B" (.ref b)) (FC : Fld Z h0 a1 "java/lang/String" "coder" "B" (.int (own_cd u))) (A : OA Z h0 b .byte (own_len u n) (own_by u c)) :
    MetFree l (⟨"java/lang/String", "length", "()I"⟩ : MethodName) (head1 (Jvm.Cond.code (⟨"java/lang/String", "length", "()I"⟩ : MethodName) jdk_42_method_54_code 1 (some .int) :: ws) ({ frames := 1, cells := 0, slots := 0, locals := 13 } : Room)) (fun a U => a = #[(.ref a1)] ∧ Z.Warmed39 U.vm ∧ U.heap = h0) (fun _ _ _ _ _ => True) (fun _ U o U' => ∃ v L, o = .returned v ∧ Q_slen Z cs fm a1 b u n c h0 n0 v U'.heap L ∧ FrameEnd U o U' L ({ frames := 1, cells := 0, slots := 0, locals := 13 } : Room).cells ({ frames := 1, cells := 0, slots := 0, locals := 13 } : Room).slots) := by
  refine MetFree.of_bodySF (plainFor_of_name pn_java_lang_String) hisR ?_
  intro p ee s m args below meth cc s₁ Bd hml0 hP hK
  obtain ⟨rfl, hZ, hh⟩ := hP
  have hx := Bd.exec
  have hby := Bd.bytes
  have hml : cc.maxLocals = 1 := hml0
  have hown : s.vm.findClass "java/lang/String" = some m.cls := findClass_of_methodNamed Bd.named
  have hnm := (name_of_methodNamed Bd.named Bd.method).1
  have X0 : Stand p l ee ({ frames := 1, cells := 0, slots := 0, locals := 13 } : Room) s m #[(.ref a1)] below meth cc s₁ [] 0 0 := Stand.of_body Bd
  have e0 : s₁.heap = h0 := by rw [← hh, Bd.state]; rfl
  have N0 := Fr.nil n0
  show Goes p ee below s ({ frames := 1, cells := 0, slots := 0, locals := 13 } : Room).cells ({ frames := 1, cells := 0, slots := 0, locals := 13 } : Room).slots (Q_slen Z cs fm a1 b u n c h0 n0) (s₁.setTop (entryFrame m #[(.ref a1)] 1))
  refine Goes.step (fun _ hr_ => castTop (ef_slen m a1) hr_) ?_
  show Goes p ee below s _ _ _ (s₁.setTop (mkF m 0 #[.val (.ref a1)] []))
  cases u
  · have FC : Fld Z h0 a1 "java/lang/String" "coder" "B" (.int 0) := FC
    have A : OA Z h0 b .byte n (own_by false c) := A
    show Goes p ee below s _ _ _ (s₁.setTop (mkF m 0 #[.val (.ref a1)] []))
    refine Goes.step (fun _ hr_ => XS.aloadN X0.here hx rfl (hb hby d_jdk_42_method_54_code_0) rfl rfl hr_) ?_
    show Goes p ee below s _ _ _ (s₁.setTop (mkF m 1 #[.val (.ref a1)] [(.ref a1)]))
    obtain ⟨T1, X1, e1, st1⟩ := getF X0 hx hZ hown (host := "") (Or.inl (hw _ (List.mem_of_getElem? (i := 34) rfl))) Via.refl e0 FV (g := (mkF m 1 #[.val (.ref a1)] [(.ref a1)])) rfl rfl (hb hby d_jdk_42_method_54_code_1)
    refine Goes.step st1 ?_
    show Goes p ee below s _ _ _ (T1.setTop (mkF m 4 #[.val (.ref a1)] [(.ref b)]))
    refine Goes.step (own_alen X1 hx hZ e1 A (z := (Int32.ofNat n)) rfl (g := (mkF m 4 #[.val (.ref a1)] [(.ref b)])) rfl rfl (hb hby d_jdk_42_method_54_code_4)) ?_
    show Goes p ee below s _ _ _ (T1.setTop (mkF m 5 #[.val (.ref a1)] [(.int (Int32.ofNat n))]))
    refine Goes.step (fun _ hr_ => XS.aloadN X1.here hx rfl (hb hby d_jdk_42_method_54_code_5) rfl rfl hr_) ?_
    show Goes p ee below s _ _ _ (T1.setTop (mkF m 6 #[.val (.ref a1)] [(.ref a1), (.int (Int32.ofNat n))]))
    have lt_a1 := E.lt
    have lt_b := A.lt
    obtain ⟨v2, T2, L2, X2, hQ2, st2⟩ := own_callV X1 hx hZ (y := (⟨"java/lang/String", "coder", "()B"⟩ : MethodName)) hown (hw _ (List.mem_of_getElem? (i := 67) rfl)) (hw _ (List.mem_of_getElem? (i := 68) rfl)) (hw _ (List.mem_of_getElem? (i := 70) rfl)) (hw _ (List.mem_of_getElem? (i := 69) rfl)) (hw _ (List.mem_of_getElem? (i := 8) rfl)) (hw _ (List.mem_of_getElem? (i := 71) rfl)) (by decide) (a := a1) (argsL := []) (rm_coder l Z a0 hw [] cs fm a1 false h0 n0 Z0 ST OO FC) e1 E (W := 1) (by decide) (by decide) (by decide) (by decide) (g := (mkF m 6 #[.val (.ref a1)] [(.ref a1), (.int (Int32.ofNat n))])) rfl (by rw [hml]; rfl) (rest := [(.int (Int32.ofNat n))]) (lenOf pd_5 rfl) rfl (by show 2 * 0 + _ ≤ _; exact Nat.le_of_eq rfl) (hb hby d_jdk_42_method_54_code_6)
    refine Goes.step st2 ?_
    obtain ⟨rfl, N2, e2⟩ := hQ2
    have N3 := Fr.app N0 N2
    show Goes p ee below s _ _ _ (T2.setTop (mkF m 9 #[.val (.ref a1)] [(.int (0 : Int32)), (.int (Int32.ofNat n))]))
    refine Goes.step (fun _ hr_ => XT.ishr X2.here hx rfl (hb hby d_jdk_42_method_54_code_9) rfl hr_) ?_
    show Goes p ee below s _ _ _ (T2.setTop (mkF m 10 #[.val (.ref a1)] [(.int ((Int32.ofNat n) >>> ((0 : Int32) &&& 31)))]))
    rw [own_shr0 n (by omega)]
    show Goes p ee below s _ _ _ (T2.setTop (mkF m 10 #[.val (.ref a1)] [(.int (Int32.ofNat n))]))
    refine Goes.retI X2 hx Bd.notSynchronized Bd.returns (hb hby d_jdk_42_method_54_code_10) (by decide) (by decide) ?_
    exact ⟨rfl, N3, e2⟩
  · have FC : Fld Z h0 a1 "java/lang/String" "coder" "B" (.int 1) := FC
    have A : OA Z h0 b .byte (2 * n) (own_by true c) := A
    show Goes p ee below s _ _ _ (s₁.setTop (mkF m 0 #[.val (.ref a1)] []))
    refine Goes.step (fun _ hr_ => XS.aloadN X0.here hx rfl (hb hby d_jdk_42_method_54_code_0) rfl rfl hr_) ?_
    show Goes p ee below s _ _ _ (s₁.setTop (mkF m 1 #[.val (.ref a1)] [(.ref a1)]))
    obtain ⟨T4, X4, e4, st4⟩ := getF X0 hx hZ hown (host := "") (Or.inl (hw _ (List.mem_of_getElem? (i := 34) rfl))) Via.refl e0 FV (g := (mkF m 1 #[.val (.ref a1)] [(.ref a1)])) rfl rfl (hb hby d_jdk_42_method_54_code_1)
    refine Goes.step st4 ?_
    show Goes p ee below s _ _ _ (T4.setTop (mkF m 4 #[.val (.ref a1)] [(.ref b)]))
    refine Goes.step (own_alen X4 hx hZ e4 A (z := (Int32.ofNat (2 * n))) rfl (g := (mkF m 4 #[.val (.ref a1)] [(.ref b)])) rfl rfl (hb hby d_jdk_42_method_54_code_4)) ?_
    show Goes p ee below s _ _ _ (T4.setTop (mkF m 5 #[.val (.ref a1)] [(.int (Int32.ofNat (2 * n)))]))
    refine Goes.step (fun _ hr_ => XS.aloadN X4.here hx rfl (hb hby d_jdk_42_method_54_code_5) rfl rfl hr_) ?_
    show Goes p ee below s _ _ _ (T4.setTop (mkF m 6 #[.val (.ref a1)] [(.ref a1), (.int (Int32.ofNat (2 * n)))]))
    have lt_a1 := E.lt
    have lt_b := A.lt
    obtain ⟨v5, T5, L5, X5, hQ5, st5⟩ := own_callV X4 hx hZ (y := (⟨"java/lang/String", "coder", "()B"⟩ : MethodName)) hown (hw _ (List.mem_of_getElem? (i := 67) rfl)) (hw _ (List.mem_of_getElem? (i := 68) rfl)) (hw _ (List.mem_of_getElem? (i := 70) rfl)) (hw _ (List.mem_of_getElem? (i := 69) rfl)) (hw _ (List.mem_of_getElem? (i := 8) rfl)) (hw _ (List.mem_of_getElem? (i := 71) rfl)) (by decide) (a := a1) (argsL := []) (rm_coder l Z a0 hw [] cs fm a1 true h0 n0 Z0 ST OO FC) e4 E (W := 1) (by decide) (by decide) (by decide) (by decide) (g := (mkF m 6 #[.val (.ref a1)] [(.ref a1), (.int (Int32.ofNat (2 * n)))])) rfl (by rw [hml]; rfl) (rest := [(.int (Int32.ofNat (2 * n)))]) (lenOf pd_5 rfl) rfl (by show 2 * 0 + _ ≤ _; exact Nat.le_of_eq rfl) (hb hby d_jdk_42_method_54_code_6)
    refine Goes.step st5 ?_
    obtain ⟨rfl, N5, e5⟩ := hQ5
    have N6 := Fr.app N0 N5
    show Goes p ee below s _ _ _ (T5.setTop (mkF m 9 #[.val (.ref a1)] [(.int (1 : Int32)), (.int (Int32.ofNat (2 * n)))]))
    refine Goes.step (fun _ hr_ => XT.ishr X5.here hx rfl (hb hby d_jdk_42_method_54_code_9) rfl hr_) ?_
    show Goes p ee below s _ _ _ (T5.setTop (mkF m 10 #[.val (.ref a1)] [(.int ((Int32.ofNat (2 * n)) >>> ((1 : Int32) &&& 31)))]))
    rw [own_shr1 n (by omega)]
    show Goes p ee below s _ _ _ (T5.setTop (mkF m 10 #[.val (.ref a1)] [(.int (Int32.ofNat n))]))
    refine Goes.retI X5 hx Bd.notSynchronized Bd.returns (hb hby d_jdk_42_method_54_code_10) (by decide) (by decide) ?_
    exact ⟨rfl, N6, e5⟩
theorem ef_schar (m : MethodId) (x0 : Addr) (x1 : Int32) : entryFrame m #[(.ref x0), (.int x1)] 2 = mkF m 0 #[.val (.ref x0), .val (.int x1)] [] := by first | (simp [entryFrame, mkF, argsToLocals, Value.category]; done) | rfl
theorem d_jdk_42_method_56_code_0 : decode jdk_42_method_56_code 0 = .ok (.aload_n 0, 1) := by decide +kernel
theorem pd_6 : parseMethodDescriptor "()Z" = some ⟨[], some .boolean⟩ := by decide +kernel
theorem d_jdk_42_method_56_code_1 : decode jdk_42_method_56_code 1 = .ok (.invokevirtual 492, 3) := by decide +kernel
theorem d_jdk_42_method_56_code_4 : decode jdk_42_method_56_code 4 = .ok (.ifCond .eq 12, 3) := by decide +kernel
theorem d_jdk_42_method_56_code_7 : decode jdk_42_method_56_code 7 = .ok (.aload_n 0, 1) := by decide +kernel
theorem d_jdk_42_method_56_code_8 : decode jdk_42_method_56_code 8 = .ok (.getfield 9, 3) := by decide +kernel
theorem d_jdk_42_method_56_code_11 : decode jdk_42_method_56_code 11 = .ok (.iload_n 1, 1) := by decide +kernel
theorem d_jdk_42_method_56_code_12 : decode jdk_42_method_56_code 12 = .ok (.invokestatic 495, 3) := by decide +kernel
theorem d_jdk_42_method_56_code_15 : decode jdk_42_method_56_code 15 = .ok (.ireturn, 1) := by decide +kernel
theorem d_jdk_42_method_56_code_16 : decode jdk_42_method_56_code 16 = .ok (.aload_n 0, 1) := by decide +kernel
theorem d_jdk_42_method_56_code_17 : decode jdk_42_method_56_code 17 = .ok (.getfield 9, 3) := by decide +kernel
theorem d_jdk_42_method_56_code_20 : decode jdk_42_method_56_code 20 = .ok (.iload_n 1, 1) := by decide +kernel
theorem d_jdk_42_method_56_code_21 : decode jdk_42_method_56_code 21 = .ok (.invokestatic 498, 3) := by decide +kernel
theorem d_jdk_42_method_56_code_24 : decode jdk_42_method_56_code 24 = .ok (.ireturn, 1) := by decide +kernel
def Q_schar (Z : State) (cs : Int32) (fm : Value) (a1 b : Addr) (u : Bool) (n : Nat) (c : Nat → Nat) (i : Nat) (h0 : Heap) (n0 : Nat) (v : Option Value) (h : Heap) (L : List Loc) : Prop := v = some (.int (Int32.ofNat (c i))) ∧ Fr n0 L ∧ h = h0
set_option maxRecDepth 65536 in
set_option maxHeartbeats 40000000 in
theorem rm_schar (l : Launch) (Z : State) (a0 : Array Value) (hw : ∀ d ∈ tables_1, d.before a0 Z = true) (ws : List Jvm.Cond) (cs : Int32) (fm : Value) (a1 b : Addr) (u : Bool) (n : Nat) (c : Nat → Nat) (i : Nat) (h0 : Heap) (n0 : Nat) (Z0 : n0 ≤ h0.size) (ST : own_ST Z cs fm) (OO : Old Z n0 h0) (hn : n < 2 ^ 29) (E : Exa Z h0 a1 "java/lang/String") (FV : Fld Z h0 a1 "java/lang/String" "value" "[B" (.ref b)) (FC : Fld Z h0 a1 "java/lang/String" "coder" "B" (.int (own_cd u))) (A : OA Z h0 b .byte (own_len u n) (own_by u c)) (hc : ∀ j, j < n → c j < 65536) (hl : u = false → ∀ j, j < n → c j < 256) (hi : i < n) :
    MetFree l (⟨"java/lang/String", "charAt", "(I)C"⟩ : MethodName) (head1 (Jvm.Cond.code (⟨"java/lang/String", "charAt", "(I)C"⟩ : MethodName) jdk_42_method_56_code 2 (some .char) :: ws) ({ frames := 4, cells := 0, slots := 0, locals := 53 } : Room)) (fun a U => a = #[(.ref a1), (.int (Int32.ofNat i))] ∧ Z.Warmed39 U.vm ∧ U.heap = h0) (fun _ _ _ _ _ => True) (fun _ U o U' => ∃ v L, o = .returned v ∧ Q_schar Z cs fm a1 b u n c i h0 n0 v U'.heap L ∧ FrameEnd U o U' L ({ frames := 4, cells := 0, slots := 0, locals := 53 } : Room).cells ({ frames := 4, cells := 0, slots := 0, locals := 53 } : Room).slots) := by
  refine MetFree.of_bodySF (plainFor_of_name pn_java_lang_String) hisR ?_
  intro p ee s m args below meth cc s₁ Bd hml0 hP hK
  obtain ⟨rfl, hZ, hh⟩ := hP
  have hx := Bd.exec
  have hby := Bd.bytes
  have hml : cc.maxLocals = 2 := hml0
  have hown : s.vm.findClass "java/lang/String" = some m.cls := findClass_of_methodNamed Bd.named
  have hnm := (name_of_methodNamed Bd.named Bd.method).1
  have X0 : Stand p l ee ({ frames := 4, cells := 0, slots := 0, locals := 53 } : Room) s m #[(.ref a1), (.int (Int32.ofNat i))] below meth cc s₁ [] 0 0 := Stand.of_body Bd
  have e0 : s₁.heap = h0 := by rw [← hh, Bd.state]; rfl
  have N0 := Fr.nil n0
  show Goes p ee below s ({ frames := 4, cells := 0, slots := 0, locals := 53 } : Room).cells ({ frames := 4, cells := 0, slots := 0, locals := 53 } : Room).slots (Q_schar Z cs fm a1 b u n c i h0 n0) (s₁.setTop (entryFrame m #[(.ref a1), (.int (Int32.ofNat i))] 2))
  refine Goes.step (fun _ hr_ => castTop (ef_schar m a1 (Int32.ofNat i)) hr_) ?_
  show Goes p ee below s _ _ _ (s₁.setTop (mkF m 0 #[.val (.ref a1), .val (.int (Int32.ofNat i))] []))
  cases u
  · have FC : Fld Z h0 a1 "java/lang/String" "coder" "B" (.int 0) := FC
    have A : OA Z h0 b .byte n (own_by false c) := A
    show Goes p ee below s _ _ _ (s₁.setTop (mkF m 0 #[.val (.ref a1), .val (.int (Int32.ofNat i))] []))
    refine Goes.step (fun _ hr_ => XS.aloadN X0.here hx rfl (hb hby d_jdk_42_method_56_code_0) rfl rfl hr_) ?_
    show Goes p ee below s _ _ _ (s₁.setTop (mkF m 1 #[.val (.ref a1), .val (.int (Int32.ofNat i))] [(.ref a1)]))
    have lt_a1 := E.lt
    have lt_b := A.lt
    obtain ⟨v1, T1, L1, X1, hQ1, st1⟩ := own_callV X0 hx hZ (y := (⟨"java/lang/String", "isLatin1", "()Z"⟩ : MethodName)) hown (hw _ (List.mem_of_getElem? (i := 80) rfl)) (hw _ (List.mem_of_getElem? (i := 81) rfl)) (hw _ (List.mem_of_getElem? (i := 83) rfl)) (hw _ (List.mem_of_getElem? (i := 82) rfl)) (hw _ (List.mem_of_getElem? (i := 8) rfl)) (hw _ (List.mem_of_getElem? (i := 84) rfl)) (by decide) (a := a1) (argsL := []) (rm_isL l Z a0 hw [] cs fm a1 false h0 n0 Z0 ST OO FC) e0 E (W := 0) (by decide) (by decide) (by decide) (by decide) (g := (mkF m 1 #[.val (.ref a1), .val (.int (Int32.ofNat i))] [(.ref a1)])) rfl (by rw [hml]; rfl) (rest := []) (lenOf pd_6 rfl) rfl (by show 2 * 0 + _ ≤ _; exact Nat.le_of_eq rfl) (hb hby d_jdk_42_method_56_code_1)
    refine Goes.step st1 ?_
    obtain ⟨rfl, N1, e1⟩ := hQ1
    have N2 := Fr.app N0 N1
    show Goes p ee below s _ _ _ (T1.setTop (mkF m 4 #[.val (.ref a1), .val (.int (Int32.ofNat i))] [(.int (1 : Int32))]))
    refine Goes.step (fun _ hr_ => XS.ifNo X1.here hx rfl (hb hby d_jdk_42_method_56_code_4) rfl ((if0 _ _).trans (feq (by decide)).1) hr_) ?_
    show Goes p ee below s _ _ _ (T1.setTop (mkF m 7 #[.val (.ref a1), .val (.int (Int32.ofNat i))] []))
    refine Goes.step (fun _ hr_ => XS.aloadN X1.here hx rfl (hb hby d_jdk_42_method_56_code_7) rfl rfl hr_) ?_
    show Goes p ee below s _ _ _ (T1.setTop (mkF m 8 #[.val (.ref a1), .val (.int (Int32.ofNat i))] [(.ref a1)]))
    obtain ⟨T3, X3, e3, st3⟩ := getF X1 hx hZ hown (host := "") (Or.inl (hw _ (List.mem_of_getElem? (i := 34) rfl))) Via.refl e1 FV (g := (mkF m 8 #[.val (.ref a1), .val (.int (Int32.ofNat i))] [(.ref a1)])) rfl rfl (hb hby d_jdk_42_method_56_code_8)
    refine Goes.step st3 ?_
    show Goes p ee below s _ _ _ (T3.setTop (mkF m 11 #[.val (.ref a1), .val (.int (Int32.ofNat i))] [(.ref b)]))
    refine Goes.step (fun _ hr_ => XS.iloadN X3.here hx rfl (hb hby d_jdk_42_method_56_code_11) rfl  hr_) ?_
    show Goes p ee below s _ _ _ (T3.setTop (mkF m 12 #[.val (.ref a1), .val (.int (Int32.ofNat i))] [(.int (Int32.ofNat i)), (.ref b)]))
    have lt_a1 := E.lt
    have lt_b := A.lt
    obtain ⟨v4, T4, L4, X4, hQ4, st4⟩ := own_callS X3 hx hZ (y := (⟨"java/lang/StringLatin1", "charAt", "([BI)C"⟩ : MethodName)) hown (hw _ (List.mem_of_getElem? (i := 99) rfl)) (hw _ (List.mem_of_getElem? (i := 100) rfl)) (hw _ (List.mem_of_getElem? (i := 87) rfl)) (hw _ (List.mem_of_getElem? (i := 101) rfl)) (by decide) (argsL := [(.ref b), (.int (Int32.ofNat i))]) (rm_l1c l Z a0 hw [] cs fm b i n c h0 n0 Z0 ST OO hi (by omega) (hl rfl i hi) A) e3 (W := 0) (by decide) (by decide) (by decide) (by decide) (g := (mkF m 12 #[.val (.ref a1), .val (.int (Int32.ofNat i))] [(.int (Int32.ofNat i)), (.ref b)])) rfl (by rw [hml]; rfl) (rest := []) (lenOf pd_4 rfl) rfl (by show 2 * 0 + _ ≤ _; exact Nat.le_of_eq rfl) (hb hby d_jdk_42_method_56_code_12)
    refine Goes.step st4 ?_
    obtain ⟨rfl, N4, e4⟩ := hQ4
    have N5 := Fr.app N2 N4
    show Goes p ee below s _ _ _ (T4.setTop (mkF m 15 #[.val (.ref a1), .val (.int (Int32.ofNat i))] [(.int (Int32.ofNat (c i)))]))
    refine Goes.retZ X4 hx Bd.notSynchronized Bd.returns (by simp) (own_nchar (c i) (hc i hi)) (hb hby d_jdk_42_method_56_code_15) (by decide) (by decide) ?_
    exact ⟨rfl, N5, e4⟩
  · have FC : Fld Z h0 a1 "java/lang/String" "coder" "B" (.int 1) := FC
    have A : OA Z h0 b .byte (2 * n) (own_by true c) := A
    show Goes p ee below s _ _ _ (s₁.setTop (mkF m 0 #[.val (.ref a1), .val (.int (Int32.ofNat i))] []))
    refine Goes.step (fun _ hr_ => XS.aloadN X0.here hx rfl (hb hby d_jdk_42_method_56_code_0) rfl rfl hr_) ?_
    show Goes p ee below s _ _ _ (s₁.setTop (mkF m 1 #[.val (.ref a1), .val (.int (Int32.ofNat i))] [(.ref a1)]))
    have lt_a1 := E.lt
    have lt_b := A.lt
    obtain ⟨v6, T6, L6, X6, hQ6, st6⟩ := own_callV X0 hx hZ (y := (⟨"java/lang/String", "isLatin1", "()Z"⟩ : MethodName)) hown (hw _ (List.mem_of_getElem? (i := 80) rfl)) (hw _ (List.mem_of_getElem? (i := 81) rfl)) (hw _ (List.mem_of_getElem? (i := 83) rfl)) (hw _ (List.mem_of_getElem? (i := 82) rfl)) (hw _ (List.mem_of_getElem? (i := 8) rfl)) (hw _ (List.mem_of_getElem? (i := 84) rfl)) (by decide) (a := a1) (argsL := []) (rm_isL l Z a0 hw [] cs fm a1 true h0 n0 Z0 ST OO FC) e0 E (W := 0) (by decide) (by decide) (by decide) (by decide) (g := (mkF m 1 #[.val (.ref a1), .val (.int (Int32.ofNat i))] [(.ref a1)])) rfl (by rw [hml]; rfl) (rest := []) (lenOf pd_6 rfl) rfl (by show 2 * 0 + _ ≤ _; exact Nat.le_of_eq rfl) (hb hby d_jdk_42_method_56_code_1)
    refine Goes.step st6 ?_
    obtain ⟨rfl, N6, e6⟩ := hQ6
    have N7 := Fr.app N0 N6
    show Goes p ee below s _ _ _ (T6.setTop (mkF m 4 #[.val (.ref a1), .val (.int (Int32.ofNat i))] [(.int (0 : Int32))]))
    refine Goes.step (fun _ hr_ => XS.ifYes X6.here hx rfl (pc0 := 4) (pc' := 16) rfl (hb hby d_jdk_42_method_56_code_4) rfl ((if0 _ _).trans (teq rfl).1) (by decide) (by decide) hr_) ?_
    show Goes p ee below s _ _ _ (T6.setTop (mkF m 16 #[.val (.ref a1), .val (.int (Int32.ofNat i))] []))
    refine Goes.step (fun _ hr_ => XS.aloadN X6.here hx rfl (hb hby d_jdk_42_method_56_code_16) rfl rfl hr_) ?_
    show Goes p ee below s _ _ _ (T6.setTop (mkF m 17 #[.val (.ref a1), .val (.int (Int32.ofNat i))] [(.ref a1)]))
    obtain ⟨T8, X8, e8, st8⟩ := getF X6 hx hZ hown (host := "") (Or.inl (hw _ (List.mem_of_getElem? (i := 34) rfl))) Via.refl e6 FV (g := (mkF m 17 #[.val (.ref a1), .val (.int (Int32.ofNat i))] [(.ref a1)])) rfl rfl (hb hby d_jdk_42_method_56_code_17)
    refine Goes.step st8 ?_
    show Goes p ee below s _ _ _ (T8.setTop (mkF m 20 #[.val (.ref a1), .val (.int (Int32.ofNat i))] [(.ref b)]))
    refine Goes.step (fun _ hr_ => XS.iloadN X8.here hx rfl (hb hby d_jdk_42_method_56_code_20) rfl  hr_) ?_
    show Goes p ee below s _ _ _ (T8.setTop (mkF m 21 #[.val (.ref a1), .val (.int (Int32.ofNat i))] [(.int (Int32.ofNat i)), (.ref b)]))
    have lt_a1 := E.lt
    have lt_b := A.lt
    obtain ⟨v9, T9, L9, X9, hQ9, st9⟩ := own_callS X8 hx hZ (y := (⟨"java/lang/StringUTF16", "charAt", "([BI)C"⟩ : MethodName)) hown (hw _ (List.mem_of_getElem? (i := 134) rfl)) (hw _ (List.mem_of_getElem? (i := 135) rfl)) (hw _ (List.mem_of_getElem? (i := 23) rfl)) (hw _ (List.mem_of_getElem? (i := 136) rfl)) (by decide) (argsL := [(.ref b), (.int (Int32.ofNat i))]) (rm_u16c l Z a0 hw [] cs fm b i n c h0 n0 Z0 ST OO hi (by omega) (hc i hi) A) e8 (W := 0) (by decide) (by decide) (by decide) (by decide) (g := (mkF m 21 #[.val (.ref a1), .val (.int (Int32.ofNat i))] [(.int (Int32.ofNat i)), (.ref b)])) rfl (by rw [hml]; rfl) (rest := []) (lenOf pd_4 rfl) rfl (by show 2 * 0 + _ ≤ _; exact Nat.le_of_eq rfl) (hb hby d_jdk_42_method_56_code_21)
    refine Goes.step st9 ?_
    obtain ⟨rfl, N9, e9⟩ := hQ9
    have N10 := Fr.app N7 N9
    show Goes p ee below s _ _ _ (T9.setTop (mkF m 24 #[.val (.ref a1), .val (.int (Int32.ofNat i))] [(.int (Int32.ofNat (c i)))]))
    refine Goes.retZ X9 hx Bd.notSynchronized Bd.returns (by simp) (own_nchar (c i) (hc i hi)) (hb hby d_jdk_42_method_56_code_24) (by decide) (by decide) ?_
    exact ⟨rfl, N10, e9⟩
theorem ef_nbl (m : MethodId) (x0 : Int32) : entryFrame m #[(.int x0)] 1 = mkF m 0 #[.val (.int x0)] [] := by first | (simp [entryFrame, mkF, argsToLocals, Value.category]; done) | rfl
theorem d_jdk_52_method_3_code_0 : decode jdk_52_method_3_code 0 = .ok (.iload_n 0, 1) := by decide +kernel
theorem d_jdk_52_method_3_code_1 : decode jdk_52_method_3_code 1 = .ok (.ifCond .ge 11, 3) := by decide +kernel
theorem d_jdk_52_method_3_code_12 : decode jdk_52_method_3_code 12 = .ok (.iload_n 0, 1) := by decide +kernel
theorem d_jdk_52_method_3_code_13 : decode jdk_52_method_3_code 13 = .ok (.ldc 20, 2) := by decide +kernel
theorem d_jdk_52_method_3_code_15 : decode jdk_52_method_3_code 15 = .ok (.if_icmp .lt 40, 3) := by decide +kernel
theorem d_jdk_52_method_3_code_55 : decode jdk_52_method_3_code 55 = .ok (.iload_n 0, 1) := by decide +kernel
theorem d_jdk_52_method_3_code_56 : decode jdk_52_method_3_code 56 = .ok (.iconst 1, 1) := by decide +kernel
theorem d_jdk_52_method_3_code_57 : decode jdk_52_method_3_code 57 = .ok (.ishl, 1) := by decide +kernel
theorem d_jdk_52_method_3_code_58 : decode jdk_52_method_3_code 58 = .ok (.ireturn, 1) := by decide +kernel
def Q_nbl (Z : State) (cs : Int32) (fm : Value) (n : Nat) (h0 : Heap) (n0 : Nat) (v : Option Value) (h : Heap) (L : List Loc) : Prop := v = some (.int (Int32.ofNat (2 * n))) ∧ Fr n0 L ∧ h = h0
set_option maxRecDepth 65536 in
set_option maxHeartbeats 40000000 in
theorem rm_nbl (l : Launch) (Z : State) (a0 : Array Value) (hw : ∀ d ∈ tables_1, d.before a0 Z = true) (ws : List Jvm.Cond) (cs : Int32) (fm : Value) (n : Nat) (h0 : Heap) (n0 : Nat) (Z0 : n0 ≤ h0.size) (ST : own_ST Z cs fm) (OO : Old Z n0 h0) (hn : n < 1073741823) :
    MetFree l (⟨"java/lang/StringUTF16", "newBytesLength", "(I)I"⟩ : MethodName) (head1 (Jvm.Cond.code (⟨"java/lang/StringUTF16", "newBytesLength", "(I)I"⟩ : MethodName) jdk_52_method_3_code 1 (some .int) :: ws) ({ frames := 0, cells := 0, slots := 0, locals := 0 } : Room)) (fun a U => a = #[(.int (Int32.ofNat n))] ∧ Z.Warmed39 U.vm ∧ U.heap = h0) (fun _ _ _ _ _ => True) (fun _ U o U' => ∃ v L, o = .returned v ∧ Q_nbl Z cs fm n h0 n0 v U'.heap L ∧ FrameEnd U o U' L ({ frames := 0, cells := 0, slots := 0, locals := 0 } : Room).cells ({ frames := 0, cells := 0, slots := 0, locals := 0 } : Room).slots) := by
  refine MetFree.of_bodySF (plainFor_of_name pn_java_lang_StringUTF16) hisR ?_
  intro p ee s m args below meth cc s₁ Bd hml0 hP hK
  obtain ⟨rfl, hZ, hh⟩ := hP
  have hx := Bd.exec
  have hby := Bd.bytes
  have hml : cc.maxLocals = 1 := hml0
  have hown : s.vm.findClass "java/lang/StringUTF16" = some m.cls := findClass_of_methodNamed Bd.named
  have hnm := (name_of_methodNamed Bd.named Bd.method).1
  have X0 : Stand p l ee ({ frames := 0, cells := 0, slots := 0, locals := 0 } : Room) s m #[(.int (Int32.ofNat n))] below meth cc s₁ [] 0 0 := Stand.of_body Bd
  have e0 : s₁.heap = h0 := by rw [← hh, Bd.state]; rfl
  have N0 := Fr.nil n0
  show Goes p ee below s ({ frames := 0, cells := 0, slots := 0, locals := 0 } : Room).cells ({ frames := 0, cells := 0, slots := 0, locals := 0 } : Room).slots (Q_nbl Z cs fm n h0 n0) (s₁.setTop (entryFrame m #[(.int (Int32.ofNat n))] 1))
  refine Goes.step (fun _ hr_ => castTop (ef_nbl m (Int32.ofNat n)) hr_) ?_
  show Goes p ee below s _ _ _ (s₁.setTop (mkF m 0 #[.val (.int (Int32.ofNat n))] []))
  refine Goes.step (fun _ hr_ => XS.iloadN X0.here hx rfl (hb hby d_jdk_52_method_3_code_0) rfl  hr_) ?_
  show Goes p ee below s _ _ _ (s₁.setTop (mkF m 1 #[.val (.int (Int32.ofNat n))] [(.int (Int32.ofNat n))]))
  refine Goes.step (fun _ hr_ => XS.ifYes X0.here hx rfl (pc0 := 1) (pc' := 12) rfl (hb hby d_jdk_52_method_3_code_1) rfl ((if0 _ _).trans (flt (own_nneg n (by omega))).2.1) (by decide) (by decide) hr_) ?_
  show Goes p ee below s _ _ _ (s₁.setTop (mkF m 12 #[.val (.int (Int32.ofNat n))] []))
  refine Goes.step (fun _ hr_ => XS.iloadN X0.here hx rfl (hb hby d_jdk_52_method_3_code_12) rfl  hr_) ?_
  show Goes p ee below s _ _ _ (s₁.setTop (mkF m 13 #[.val (.int (Int32.ofNat n))] [(.int (Int32.ofNat n))]))
  refine Goes.step (X0.ldcInt hx hown (mvT hZ (hw _ (List.mem_of_getElem? (i := 120) rfl))) (g := (mkF m 13 #[.val (.int (Int32.ofNat n))] [(.int (Int32.ofNat n))])) rfl (hb hby d_jdk_52_method_3_code_13)) ?_
  show Goes p ee below s _ _ _ (s₁.setTop (mkF m 15 #[.val (.int (Int32.ofNat n))] [(.int (1073741823 : Int32)), (.int (Int32.ofNat n))]))
  refine Goes.step (fun _ hr_ => XS.icmpYes X0.here hx rfl (pc0 := 15) (pc' := 55) rfl (hb hby d_jdk_52_method_3_code_15) rfl (tlt ((own_ltN n 1073741823 (by omega) (by decide)).mpr hn)).1 (by decide) (by decide) hr_) ?_
  show Goes p ee below s _ _ _ (s₁.setTop (mkF m 55 #[.val (.int (Int32.ofNat n))] []))
  refine Goes.step (fun _ hr_ => XS.iloadN X0.here hx rfl (hb hby d_jdk_52_method_3_code_55) rfl  hr_) ?_
  show Goes p ee below s _ _ _ (s₁.setTop (mkF m 56 #[.val (.int (Int32.ofNat n))] [(.int (Int32.ofNat n))]))
  refine Goes.step (fun _ hr_ => XS.iconst X0.here hx rfl (hb hby d_jdk_52_method_3_code_56) hr_) ?_
  show Goes p ee below s _ _ _ (s₁.setTop (mkF m 57 #[.val (.int (Int32.ofNat n))] [(.int (1 : Int32)), (.int (Int32.ofNat n))]))
  refine Goes.step (fun _ hr_ => XT.ishl X0.here hx rfl (hb hby d_jdk_52_method_3_code_57) rfl hr_) ?_
  show Goes p ee below s _ _ _ (s₁.setTop (mkF m 58 #[.val (.int (Int32.ofNat n))] [(.int ((Int32.ofNat n) <<< ((1 : Int32) &&& 31)))]))
  rw [own_shl1 n (by omega)]
  show Goes p ee below s _ _ _ (s₁.setTop (mkF m 58 #[.val (.int (Int32.ofNat n))] [(.int (Int32.ofNat (2 * n)))]))
  refine Goes.retI X0 hx Bd.notSynchronized Bd.returns (hb hby d_jdk_52_method_3_code_58) (by decide) (by decide) ?_
  exact ⟨rfl, N0, e0⟩
theorem ef_nbf (m : MethodId) (x0 : Int32) : entryFrame m #[(.int x0)] 1 = mkF m 0 #[.val (.int x0)] [] := by first | (simp [entryFrame, mkF, argsToLocals, Value.category]; done) | rfl
theorem d_jdk_52_method_2_code_0 : decode jdk_52_method_2_code 0 = .ok (.iload_n 0, 1) := by decide +kernel
theorem pd_7 : parseMethodDescriptor "(I)I" = some ⟨[.int], some .int⟩ := by decide +kernel
theorem d_jdk_52_method_2_code_1 : decode jdk_52_method_2_code 1 = .ok (.invokestatic 11, 3) := by decide +kernel
theorem d_jdk_52_method_2_code_4 : decode jdk_52_method_2_code 4 = .ok (.newarray .byte, 2) := by decide +kernel
theorem d_jdk_52_method_2_code_6 : decode jdk_52_method_2_code 6 = .ok (.areturn, 1) := by decide +kernel
def Q_nbf (Z : State) (cs : Int32) (fm : Value) (n : Nat) (h0 : Heap) (n0 : Nat) (v : Option Value) (h : Heap) (L : List Loc) : Prop := ∃ b : Addr, v = some (.ref b) ∧ Fr n0 L ∧ h0.size ≤ b ∧ Keep h0 h [] ∧ OA Z h b .byte (2 * n) (fun _ => .int 0)
set_option maxRecDepth 65536 in
set_option maxHeartbeats 40000000 in
theorem rm_nbf (l : Launch) (Z : State) (a0 : Array Value) (hw : ∀ d ∈ tables_1, d.before a0 Z = true) (ws : List Jvm.Cond) (cs : Int32) (fm : Value) (n : Nat) (h0 : Heap) (n0 : Nat) (Z0 : n0 ≤ h0.size) (ST : own_ST Z cs fm) (OO : Old Z n0 h0) (hn : n ≤ 4) :
    MetFree l (⟨"java/lang/StringUTF16", "newBytesFor", "(I)[B"⟩ : MethodName) (head1 (Jvm.Cond.code (⟨"java/lang/StringUTF16", "newBytesFor", "(I)[B"⟩ : MethodName) jdk_52_method_2_code 1 (some (.array .byte)) :: ws) ({ frames := 1, cells := 1, slots := 8, locals := 12 } : Room)) (fun a U => a = #[(.int (Int32.ofNat n))] ∧ Z.Warmed39 U.vm ∧ U.heap = h0) (fun _ _ _ _ _ => True) (fun _ U o U' => ∃ v L, o = .returned v ∧ Q_nbf Z cs fm n h0 n0 v U'.heap L ∧ FrameEnd U o U' L ({ frames := 1, cells := 1, slots := 8, locals := 12 } : Room).cells ({ frames := 1, cells := 1, slots := 8, locals := 12 } : Room).slots) := by
  refine MetFree.of_bodySF (plainFor_of_name pn_java_lang_StringUTF16) hisR ?_
  intro p ee s m args below meth cc s₁ Bd hml0 hP hK
  obtain ⟨rfl, hZ, hh⟩ := hP
  have hx := Bd.exec
  have hby := Bd.bytes
  have hml : cc.maxLocals = 1 := hml0
  have hown : s.vm.findClass "java/lang/StringUTF16" = some m.cls := findClass_of_methodNamed Bd.named
  have hnm := (name_of_methodNamed Bd.named Bd.method).1
  have X0 : Stand p l ee ({ frames := 1, cells := 1, slots := 8, locals := 12 } : Room) s m #[(.int (Int32.ofNat n))] below meth cc s₁ [] 0 0 := Stand.of_body Bd
  have e0 : s₁.heap = h0 := by rw [← hh, Bd.state]; rfl
  have N0 := Fr.nil n0
  show Goes p ee below s ({ frames := 1, cells := 1, slots := 8, locals := 12 } : Room).cells ({ frames := 1, cells := 1, slots := 8, locals := 12 } : Room).slots (Q_nbf Z cs fm n h0 n0) (s₁.setTop (entryFrame m #[(.int (Int32.ofNat n))] 1))
  refine Goes.step (fun _ hr_ => castTop (ef_nbf m (Int32.ofNat n)) hr_) ?_
  show Goes p ee below s _ _ _ (s₁.setTop (mkF m 0 #[.val (.int (Int32.ofNat n))] []))
  have K0 := Keep.refl h0 ([] : List Addr)
  refine Goes.step (fun _ hr_ => XS.iloadN X0.here hx rfl (hb hby d_jdk_52_method_2_code_0) rfl  hr_) ?_
  show Goes p ee below s _ _ _ (s₁.setTop (mkF m 1 #[.val (.int (Int32.ofNat n))] [(.int (Int32.ofNat n))]))
  obtain ⟨v1, T1, L1, X1, hQ1, st1⟩ := own_callS X0 hx hZ (y := (⟨"java/lang/StringUTF16", "newBytesLength", "(I)I"⟩ : MethodName)) hown (hw _ (List.mem_of_getElem? (i := 117) rfl)) (hw _ (List.mem_of_getElem? (i := 118) rfl)) (hw _ (List.mem_of_getElem? (i := 23) rfl)) (hw _ (List.mem_of_getElem? (i := 119) rfl)) (by decide) (argsL := [(.int (Int32.ofNat n))]) (rm_nbl l Z a0 hw [] cs fm n h0 n0 Z0 ST OO (by omega)) e0 (W := 0) (by decide) (by decide) (by decide) (by decide) (g := (mkF m 1 #[.val (.int (Int32.ofNat n))] [(.int (Int32.ofNat n))])) rfl (by rw [hml]; rfl) (rest := []) (lenOf pd_7 rfl) rfl (by show 2 * 0 + _ ≤ _; exact Nat.le_of_eq rfl) (hb hby d_jdk_52_method_2_code_1)
  refine Goes.step st1 ?_
  obtain ⟨rfl, N1, e1⟩ := hQ1
  have N2 := Fr.app N0 N1
  show Goes p ee below s _ _ _ (T1.setTop (mkF m 4 #[.val (.int (Int32.ofNat n))] [(.int (Int32.ofNat (2 * n)))]))
  obtain ⟨T3, h3, X3, e3, E3, A3, st3⟩ := own_newP X1 hx hZ (aty := .byte) (hw _ (List.mem_of_getElem? (i := 25) rfl)) e1 (z := (Int32.ofNat (2 * n))) (own_nneg (2 * n) (by omega)) (n := (2 * n)) (own_clamp (2 * n) (by omega)) (cap := 8) (by omega) (by decide) (by decide) (by decide) (g := (mkF m 4 #[.val (.int (Int32.ofNat n))] [(.int (Int32.ofNat (2 * n)))])) rfl rfl (hb hby d_jdk_52_method_2_code_4)
  obtain ⟨b3, g_b3⟩ : ∃ z, z = h0.size := ⟨_, rfl⟩
  have ge_b3 : n0 ≤ b3 := Nat.le_trans Z0 (Nat.le_of_eq g_b3.symm)
  have sz_b3 : h0.size ≤ b3 := Nat.le_trans K0.1 (Nat.le_of_eq g_b3.symm)
  rw [← g_b3] at A3 st3
  have Zp4 := Nat.le_trans Z0 E3.1
  have OO := OO.ext E3
  have K5 := K0.ext E3
  refine Goes.step st3 ?_
  have A_b3 : OA Z h3 b3 .byte (2 * n) (fun _ => (.int 0)) := A3
  show Goes p ee below s _ _ _ (T3.setTop (mkF m 6 #[.val (.int (Int32.ofNat n))] [(.ref b3)]))
  refine Goes.retA X3 hx Bd.notSynchronized Bd.returns rfl rfl (hb hby d_jdk_52_method_2_code_6) (by decide) (by decide) ?_
  rw [e3]
  exact ⟨_, rfl, N2, sz_b3, K5, A_b3⟩
theorem ef_putc (m : MethodId) (x0 : Addr) (x1 : Int32) (x2 : Int32) : entryFrame m #[(.ref x0), (.int x1), (.int x2)] 3 = mkF m 0 #[.val (.ref x0), .val (.int x1), .val (.int x2)] [] := by first | (simp [entryFrame, mkF, argsToLocals, Value.category]; done) | rfl
theorem d_jdk_52_method_4_code_0 : decode jdk_52_method_4_code 0 = .ok (.getstatic 44, 3) := by decide +kernel
theorem d_jdk_52_method_4_code_3 : decode jdk_52_method_4_code 3 = .ok (.ifCond .ne 25, 3) := by decide +kernel
theorem d_jdk_52_method_4_code_28 : decode jdk_52_method_4_code 28 = .ok (.iload_n 1, 1) := by decide +kernel
theorem d_jdk_52_method_4_code_29 : decode jdk_52_method_4_code 29 = .ok (.iconst 1, 1) := by decide +kernel
theorem d_jdk_52_method_4_code_30 : decode jdk_52_method_4_code 30 = .ok (.ishl, 1) := by decide +kernel
theorem d_jdk_52_method_4_code_31 : decode jdk_52_method_4_code 31 = .ok (.istore_n 1, 1) := by decide +kernel
theorem d_jdk_52_method_4_code_32 : decode jdk_52_method_4_code 32 = .ok (.aload_n 0, 1) := by decide +kernel
theorem d_jdk_52_method_4_code_33 : decode jdk_52_method_4_code 33 = .ok (.iload_n 1, 1) := by decide +kernel
theorem d_jdk_52_method_4_code_34 : decode jdk_52_method_4_code 34 = .ok (.iinc 1 1, 3) := by decide +kernel
theorem d_jdk_52_method_4_code_37 : decode jdk_52_method_4_code 37 = .ok (.iload_n 2, 1) := by decide +kernel
theorem d_jdk_52_method_4_code_38 : decode jdk_52_method_4_code 38 = .ok (.getstatic 59, 3) := by decide +kernel
theorem d_jdk_52_method_4_code_41 : decode jdk_52_method_4_code 41 = .ok (.ishr, 1) := by decide +kernel
theorem d_jdk_52_method_4_code_42 : decode jdk_52_method_4_code 42 = .ok (.i2b, 1) := by decide +kernel
theorem d_jdk_52_method_4_code_43 : decode jdk_52_method_4_code 43 = .ok (.bastore, 1) := by decide +kernel
theorem d_jdk_52_method_4_code_44 : decode jdk_52_method_4_code 44 = .ok (.aload_n 0, 1) := by decide +kernel
theorem d_jdk_52_method_4_code_45 : decode jdk_52_method_4_code 45 = .ok (.iload_n 1, 1) := by decide +kernel
theorem d_jdk_52_method_4_code_46 : decode jdk_52_method_4_code 46 = .ok (.iload_n 2, 1) := by decide +kernel
theorem d_jdk_52_method_4_code_47 : decode jdk_52_method_4_code 47 = .ok (.getstatic 63, 3) := by decide +kernel
theorem d_jdk_52_method_4_code_50 : decode jdk_52_method_4_code 50 = .ok (.ishr, 1) := by decide +kernel
theorem d_jdk_52_method_4_code_51 : decode jdk_52_method_4_code 51 = .ok (.i2b, 1) := by decide +kernel
theorem d_jdk_52_method_4_code_52 : decode jdk_52_method_4_code 52 = .ok (.bastore, 1) := by decide +kernel
theorem d_jdk_52_method_4_code_53 : decode jdk_52_method_4_code 53 = .ok (.return_, 1) := by decide +kernel
def Q_putc (Z : State) (cs : Int32) (fm : Value) (a1 : Addr) (i k n : Nat) (f : Nat → Value) (h0 : Heap) (n0 : Nat) (v : Option Value) (h : Heap) (L : List Loc) : Prop := v = none ∧ Fr n0 L ∧ Keep h0 h [a1] ∧ OA Z h a1 .byte (2 * n) (fun j => if j = 2 * i + 1 then .int (own_bt (k / 256)) else if j = 2 * i then .int (own_bt k) else f j)
set_option maxRecDepth 65536 in
set_option maxHeartbeats 40000000 in
theorem rm_putc (l : Launch) (Z : State) (a0 : Array Value) (hw : ∀ d ∈ tables_1, d.before a0 Z = true) (ws : List Jvm.Cond) (cs : Int32) (fm : Value) (a1 : Addr) (i k n : Nat) (f : Nat → Value) (h0 : Heap) (n0 : Nat) (Z0 : n0 ≤ h0.size) (ST : own_ST Z cs fm) (OO : Old Z n0 h0) (hi : i < n) (hk : k < 65536) (hn : n < 2 ^ 30) (ge_a1 : n0 ≤ a1) (A : OA Z h0 a1 .byte (2 * n) f) :
    MetFree l (⟨"java/lang/StringUTF16", "putChar", "([BII)V"⟩ : MethodName) (head1 (Jvm.Cond.code (⟨"java/lang/StringUTF16", "putChar", "([BII)V"⟩ : MethodName) jdk_52_method_4_code 3 none :: ws) ({ frames := 0, cells := 0, slots := 0, locals := 0 } : Room)) (fun a U => a = #[(.ref a1), (.int (Int32.ofNat i)), (.int (Int32.ofNat k))] ∧ Z.Warmed39 U.vm ∧ U.heap = h0) (fun _ _ _ _ _ => True) (fun _ U o U' => ∃ v L, o = .returned v ∧ Q_putc Z cs fm a1 i k n f h0 n0 v U'.heap L ∧ FrameEnd U o U' L ({ frames := 0, cells := 0, slots := 0, locals := 0 } : Room).cells ({ frames := 0, cells := 0, slots := 0, locals := 0 } : Room).slots) := by
  refine MetFree.of_bodySF (plainFor_of_name pn_java_lang_StringUTF16) hisR ?_
  intro p ee s m args below meth cc s₁ Bd hml0 hP hK
  obtain ⟨rfl, hZ, hh⟩ := hP
  have hx := Bd.exec
  have hby := Bd.bytes
  have hml : cc.maxLocals = 3 := hml0
  have hown : s.vm.findClass "java/lang/StringUTF16" = some m.cls := findClass_of_methodNamed Bd.named
  have hnm := (name_of_methodNamed Bd.named Bd.method).1
  have X0 : Stand p l ee ({ frames := 0, cells := 0, slots := 0, locals := 0 } : Room) s m #[(.ref a1), (.int (Int32.ofNat i)), (.int (Int32.ofNat k))] below meth cc s₁ [] 0 0 := Stand.of_body Bd
  have e0 : s₁.heap = h0 := by rw [← hh, Bd.state]; rfl
  have N0 := Fr.nil n0
  show Goes p ee below s ({ frames := 0, cells := 0, slots := 0, locals := 0 } : Room).cells ({ frames := 0, cells := 0, slots := 0, locals := 0 } : Room).slots (Q_putc Z cs fm a1 i k n f h0 n0) (s₁.setTop (entryFrame m #[(.ref a1), (.int (Int32.ofNat i)), (.int (Int32.ofNat k))] 3))
  refine Goes.step (fun _ hr_ => castTop (ef_putc m a1 (Int32.ofNat i) (Int32.ofNat k)) hr_) ?_
  show Goes p ee below s _ _ _ (s₁.setTop (mkF m 0 #[.val (.ref a1), .val (.int (Int32.ofNat i)), .val (.int (Int32.ofNat k))] []))
  have K0 := Keep.refl h0 ([a1] : List Addr)
  obtain ⟨T1, X1, e1, st1⟩ := getS X0 hx hZ (host := "") hown (hw _ (List.mem_of_getElem? (i := 124) rfl)) Via.refl e0 ((ST.2.2.2.2.1).ext OO.2) (g := (mkF m 0 #[.val (.ref a1), .val (.int (Int32.ofNat i)), .val (.int (Int32.ofNat k))] [])) rfl (hb hby d_jdk_52_method_4_code_0)
  refine Goes.step st1 ?_
  show Goes p ee below s _ _ _ (T1.setTop (mkF m 3 #[.val (.ref a1), .val (.int (Int32.ofNat i)), .val (.int (Int32.ofNat k))] [(.int (1 : Int32))]))
  refine Goes.step (fun _ hr_ => XS.ifYes X1.here hx rfl (pc0 := 3) (pc' := 28) rfl (hb hby d_jdk_52_method_4_code_3) rfl ((if0 _ _).trans (feq (by decide)).2) (by decide) (by decide) hr_) ?_
  show Goes p ee below s _ _ _ (T1.setTop (mkF m 28 #[.val (.ref a1), .val (.int (Int32.ofNat i)), .val (.int (Int32.ofNat k))] []))
  refine Goes.step (fun _ hr_ => XS.iloadN X1.here hx rfl (hb hby d_jdk_52_method_4_code_28) rfl  hr_) ?_
  show Goes p ee below s _ _ _ (T1.setTop (mkF m 29 #[.val (.ref a1), .val (.int (Int32.ofNat i)), .val (.int (Int32.ofNat k))] [(.int (Int32.ofNat i))]))
  refine Goes.step (fun _ hr_ => XS.iconst X1.here hx rfl (hb hby d_jdk_52_method_4_code_29) hr_) ?_
  show Goes p ee below s _ _ _ (T1.setTop (mkF m 30 #[.val (.ref a1), .val (.int (Int32.ofNat i)), .val (.int (Int32.ofNat k))] [(.int (1 : Int32)), (.int (Int32.ofNat i))]))
  refine Goes.step (fun _ hr_ => XT.ishl X1.here hx rfl (hb hby d_jdk_52_method_4_code_30) rfl hr_) ?_
  show Goes p ee below s _ _ _ (T1.setTop (mkF m 31 #[.val (.ref a1), .val (.int (Int32.ofNat i)), .val (.int (Int32.ofNat k))] [(.int ((Int32.ofNat i) <<< ((1 : Int32) &&& 31)))]))
  rw [own_shl1 i (by omega)]
  show Goes p ee below s _ _ _ (T1.setTop (mkF m 31 #[.val (.ref a1), .val (.int (Int32.ofNat i)), .val (.int (Int32.ofNat k))] [(.int (Int32.ofNat (2 * i)))]))
  refine Goes.step (fun _ hr_ => XS.istoreN X1.here hx rfl (hb hby d_jdk_52_method_4_code_31) rfl  (l' := #[.val (.ref a1), .val (.int (Int32.ofNat (2 * i))), .val (.int (Int32.ofNat k))]) rfl hr_) ?_
  show Goes p ee below s _ _ _ (T1.setTop (mkF m 32 #[.val (.ref a1), .val (.int (Int32.ofNat (2 * i))), .val (.int (Int32.ofNat k))] []))
  refine Goes.step (fun _ hr_ => XS.aloadN X1.here hx rfl (hb hby d_jdk_52_method_4_code_32) rfl rfl hr_) ?_
  show Goes p ee below s _ _ _ (T1.setTop (mkF m 33 #[.val (.ref a1), .val (.int (Int32.ofNat (2 * i))), .val (.int (Int32.ofNat k))] [(.ref a1)]))
  refine Goes.step (fun _ hr_ => XS.iloadN X1.here hx rfl (hb hby d_jdk_52_method_4_code_33) rfl  hr_) ?_
  show Goes p ee below s _ _ _ (T1.setTop (mkF m 34 #[.val (.ref a1), .val (.int (Int32.ofNat (2 * i))), .val (.int (Int32.ofNat k))] [(.int (Int32.ofNat (2 * i))), (.ref a1)]))
  refine Goes.step (fun _ hr_ => XS.iinc X1.here hx rfl (hb hby d_jdk_52_method_4_code_34) rfl (l' := #[.val (.ref a1), .val (.int ((Int32.ofNat (2 * i)) + (1 : Int32))), .val (.int (Int32.ofNat k))]) rfl hr_) ?_
  show Goes p ee below s _ _ _ (T1.setTop (mkF m 37 #[.val (.ref a1), .val (.int ((Int32.ofNat (2 * i)) + (1 : Int32))), .val (.int (Int32.ofNat k))] [(.int (Int32.ofNat (2 * i))), (.ref a1)]))
  rw [show Int32.ofNat (2 * i) + (1 : Int32) = Int32.ofNat (2 * i + 1) from own_addN (2 * i) 1]
  show Goes p ee below s _ _ _ (T1.setTop (mkF m 37 #[.val (.ref a1), .val (.int (Int32.ofNat (2 * i + 1))), .val (.int (Int32.ofNat k))] [(.int (Int32.ofNat (2 * i))), (.ref a1)]))
  refine Goes.step (fun _ hr_ => XS.iloadN X1.here hx rfl (hb hby d_jdk_52_method_4_code_37) rfl  hr_) ?_
  show Goes p ee below s _ _ _ (T1.setTop (mkF m 38 #[.val (.ref a1), .val (.int (Int32.ofNat (2 * i + 1))), .val (.int (Int32.ofNat k))] [(.int (Int32.ofNat k)), (.int (Int32.ofNat (2 * i))), (.ref a1)]))
  obtain ⟨T2, X2, e2, st2⟩ := getS X1 hx hZ (host := "") hown (hw _ (List.mem_of_getElem? (i := 125) rfl)) Via.refl e1 ((ST.2.2.2.2.2.1).ext OO.2) (g := (mkF m 38 #[.val (.ref a1), .val (.int (Int32.ofNat (2 * i + 1))), .val (.int (Int32.ofNat k))] [(.int (Int32.ofNat k)), (.int (Int32.ofNat (2 * i))), (.ref a1)])) rfl (hb hby d_jdk_52_method_4_code_38)
  refine Goes.step st2 ?_
  show Goes p ee below s _ _ _ (T2.setTop (mkF m 41 #[.val (.ref a1), .val (.int (Int32.ofNat (2 * i + 1))), .val (.int (Int32.ofNat k))] [(.int (0 : Int32)), (.int (Int32.ofNat k)), (.int (Int32.ofNat (2 * i))), (.ref a1)]))
  refine Goes.step (fun _ hr_ => XT.ishr X2.here hx rfl (hb hby d_jdk_52_method_4_code_41) rfl hr_) ?_
  show Goes p ee below s _ _ _ (T2.setTop (mkF m 42 #[.val (.ref a1), .val (.int (Int32.ofNat (2 * i + 1))), .val (.int (Int32.ofNat k))] [(.int ((Int32.ofNat k) >>> ((0 : Int32) &&& 31))), (.int (Int32.ofNat (2 * i))), (.ref a1)]))
  rw [own_shr0 k (by omega)]
  show Goes p ee below s _ _ _ (T2.setTop (mkF m 42 #[.val (.ref a1), .val (.int (Int32.ofNat (2 * i + 1))), .val (.int (Int32.ofNat k))] [(.int (Int32.ofNat k)), (.int (Int32.ofNat (2 * i))), (.ref a1)]))
  refine Goes.step (fun _ hr_ => XT.i2b X2.here hx rfl (hb hby d_jdk_52_method_4_code_42) rfl hr_) ?_
  show Goes p ee below s _ _ _ (T2.setTop (mkF m 43 #[.val (.ref a1), .val (.int (Int32.ofNat (2 * i + 1))), .val (.int (Int32.ofNat k))] [(.int (Int32.ofNat k).toInt8.toInt32), (.int (Int32.ofNat (2 * i))), (.ref a1)]))
  obtain ⟨T3, h3, X3, e3, W3, A3, st3⟩ := own_stB X2 hx hZ e2 A (x := (Int32.ofNat k).toInt8.toInt32) (j := (Int32.ofNat (2 * i))) (own_nneg (2 * i) (by omega)) (k := (2 * i)) (own_clamp (2 * i) (by omega)) (by omega) (g := (mkF m 43 #[.val (.ref a1), .val (.int (Int32.ofNat (2 * i + 1))), .val (.int (Int32.ofNat k))] [(.int (Int32.ofNat k).toInt8.toInt32), (.int (Int32.ofNat (2 * i))), (.ref a1)])) rfl rfl (hb hby d_jdk_52_method_4_code_43)
  refine Goes.step st3 ?_
  have Zp4 := Nat.le_trans Z0 (Keep.of_wr W3).1
  have N5 := Fr.snoc X3 N0 ge_a1
  have OO := OO.wr W3 ge_a1
  have K6 := K0.wr W3 (Or.inl (List.mem_of_getElem? (i := 0) rfl))
  have A : OA Z h3 a1 .byte (2 * n) (fun j => if j = 2 * i then .int (own_bt k) else f j) := A3.congr (fun j hj => by rw [own_bt_nar]; rfl)
  show Goes p ee below s _ _ _ (T3.setTop (mkF m 44 #[.val (.ref a1), .val (.int (Int32.ofNat (2 * i + 1))), .val (.int (Int32.ofNat k))] []))
  refine Goes.step (fun _ hr_ => XS.aloadN X3.here hx rfl (hb hby d_jdk_52_method_4_code_44) rfl rfl hr_) ?_
  show Goes p ee below s _ _ _ (T3.setTop (mkF m 45 #[.val (.ref a1), .val (.int (Int32.ofNat (2 * i + 1))), .val (.int (Int32.ofNat k))] [(.ref a1)]))
  refine Goes.step (fun _ hr_ => XS.iloadN X3.here hx rfl (hb hby d_jdk_52_method_4_code_45) rfl  hr_) ?_
  show Goes p ee below s _ _ _ (T3.setTop (mkF m 46 #[.val (.ref a1), .val (.int (Int32.ofNat (2 * i + 1))), .val (.int (Int32.ofNat k))] [(.int (Int32.ofNat (2 * i + 1))), (.ref a1)]))
  refine Goes.step (fun _ hr_ => XS.iloadN X3.here hx rfl (hb hby d_jdk_52_method_4_code_46) rfl  hr_) ?_
  show Goes p ee below s _ _ _ (T3.setTop (mkF m 47 #[.val (.ref a1), .val (.int (Int32.ofNat (2 * i + 1))), .val (.int (Int32.ofNat k))] [(.int (Int32.ofNat k)), (.int (Int32.ofNat (2 * i + 1))), (.ref a1)]))
  obtain ⟨T7, X7, e7, st7⟩ := getS X3 hx hZ (host := "") hown (hw _ (List.mem_of_getElem? (i := 126) rfl)) Via.refl e3 ((ST.2.2.2.2.2.2.1).ext OO.2) (g := (mkF m 47 #[.val (.ref a1), .val (.int (Int32.ofNat (2 * i + 1))), .val (.int (Int32.ofNat k))] [(.int (Int32.ofNat k)), (.int (Int32.ofNat (2 * i + 1))), (.ref a1)])) rfl (hb hby d_jdk_52_method_4_code_47)
  refine Goes.step st7 ?_
  show Goes p ee below s _ _ _ (T7.setTop (mkF m 50 #[.val (.ref a1), .val (.int (Int32.ofNat (2 * i + 1))), .val (.int (Int32.ofNat k))] [(.int (8 : Int32)), (.int (Int32.ofNat k)), (.int (Int32.ofNat (2 * i + 1))), (.ref a1)]))
  refine Goes.step (fun _ hr_ => XT.ishr X7.here hx rfl (hb hby d_jdk_52_method_4_code_50) rfl hr_) ?_
  show Goes p ee below s _ _ _ (T7.setTop (mkF m 51 #[.val (.ref a1), .val (.int (Int32.ofNat (2 * i + 1))), .val (.int (Int32.ofNat k))] [(.int ((Int32.ofNat k) >>> ((8 : Int32) &&& 31))), (.int (Int32.ofNat (2 * i + 1))), (.ref a1)]))
  rw [own_shr8 k (by omega)]
  show Goes p ee below s _ _ _ (T7.setTop (mkF m 51 #[.val (.ref a1), .val (.int (Int32.ofNat (2 * i + 1))), .val (.int (Int32.ofNat k))] [(.int (Int32.ofNat (k / 256))), (.int (Int32.ofNat (2 * i + 1))), (.ref a1)]))
  refine Goes.step (fun _ hr_ => XT.i2b X7.here hx rfl (hb hby d_jdk_52_method_4_code_51) rfl hr_) ?_
  show Goes p ee below s _ _ _ (T7.setTop (mkF m 52 #[.val (.ref a1), .val (.int (Int32.ofNat (2 * i + 1))), .val (.int (Int32.ofNat k))] [(.int (Int32.ofNat (k / 256)).toInt8.toInt32), (.int (Int32.ofNat (2 * i + 1))), (.ref a1)]))
  obtain ⟨T8, h8, X8, e8, W8, A8, st8⟩ := own_stB X7 hx hZ e7 A (x := (Int32.ofNat (k / 256)).toInt8.toInt32) (j := (Int32.ofNat (2 * i + 1))) (own_nneg (2 * i + 1) (by omega)) (k := (2 * i + 1)) (own_clamp (2 * i + 1) (by omega)) (by omega) (g := (mkF m 52 #[.val (.ref a1), .val (.int (Int32.ofNat (2 * i + 1))), .val (.int (Int32.ofNat k))] [(.int (Int32.ofNat (k / 256)).toInt8.toInt32), (.int (Int32.ofNat (2 * i + 1))), (.ref a1)])) rfl rfl (hb hby d_jdk_52_method_4_code_52)
  refine Goes.step st8 ?_
  have Zp9 := Nat.le_trans Zp4 (Keep.of_wr W8).1
  have N10 := Fr.snoc X8 N5 ge_a1
  have OO := OO.wr W8 ge_a1
  have K11 := K6.wr W8 (Or.inl (List.mem_of_getElem? (i := 0) rfl))
  have A : OA Z h8 a1 .byte (2 * n) (fun j => if j = 2 * i + 1 then .int (own_bt (k / 256)) else if j = 2 * i then .int (own_bt k) else f j) := A8.congr (fun j hj => by rw [own_bt_nar]; rfl)
  show Goes p ee below s _ _ _ (T8.setTop (mkF m 53 #[.val (.ref a1), .val (.int (Int32.ofNat (2 * i + 1))), .val (.int (Int32.ofNat k))] []))
  refine Goes.retV X8 hx Bd.notSynchronized Bd.returns (hb hby d_jdk_52_method_4_code_53) (by decide) (by decide) ?_
  rw [e8]
  exact ⟨rfl, N10, K11, A⟩
theorem ef_tob (m : MethodId) (x0 : Addr) (x1 : Int32) (x2 : Int32) : entryFrame m #[(.ref x0), (.int x1), (.int x2)] 5 = mkF m 0 #[.val (.ref x0), .val (.int x1), .val (.int x2), .unset, .unset] [] := by first | (simp [entryFrame, mkF, argsToLocals, Value.category]; done) | rfl
theorem d_jdk_52_method_14_code_0 : decode jdk_52_method_14_code 0 = .ok (.iload_n 2, 1) := by decide +kernel
theorem pd_8 : parseMethodDescriptor "(I)[B" = some ⟨[.int], some (.array .byte)⟩ := by decide +kernel
theorem d_jdk_52_method_14_code_1 : decode jdk_52_method_14_code 1 = .ok (.invokestatic 107, 3) := by decide +kernel
theorem d_jdk_52_method_14_code_4 : decode jdk_52_method_14_code 4 = .ok (.astore_n 3, 1) := by decide +kernel
theorem d_jdk_52_method_14_code_5 : decode jdk_52_method_14_code 5 = .ok (.iconst 0, 1) := by decide +kernel
theorem d_jdk_52_method_14_code_6 : decode jdk_52_method_14_code 6 = .ok (.istore 4, 2) := by decide +kernel
theorem d_jdk_52_method_14_code_8 : decode jdk_52_method_14_code 8 = .ok (.iload 4, 2) := by decide +kernel
theorem d_jdk_52_method_14_code_10 : decode jdk_52_method_14_code 10 = .ok (.iload_n 2, 1) := by decide +kernel
theorem d_jdk_52_method_14_code_11 : decode jdk_52_method_14_code 11 = .ok (.if_icmp .ge 21, 3) := by decide +kernel
theorem d_jdk_52_method_14_code_14 : decode jdk_52_method_14_code 14 = .ok (.aload_n 3, 1) := by decide +kernel
theorem d_jdk_52_method_14_code_15 : decode jdk_52_method_14_code 15 = .ok (.iload 4, 2) := by decide +kernel
theorem d_jdk_52_method_14_code_17 : decode jdk_52_method_14_code 17 = .ok (.aload_n 0, 1) := by decide +kernel
theorem d_jdk_52_method_14_code_18 : decode jdk_52_method_14_code 18 = .ok (.iload_n 1, 1) := by decide +kernel
theorem d_jdk_52_method_14_code_19 : decode jdk_52_method_14_code 19 = .ok (.caload, 1) := by decide +kernel
theorem pd_9 : parseMethodDescriptor "([BII)V" = some ⟨[(.array .byte), .int, .int], none⟩ := by decide +kernel
theorem d_jdk_52_method_14_code_20 : decode jdk_52_method_14_code 20 = .ok (.invokestatic 111, 3) := by decide +kernel
theorem d_jdk_52_method_14_code_23 : decode jdk_52_method_14_code 23 = .ok (.iinc 1 1, 3) := by decide +kernel
theorem d_jdk_52_method_14_code_26 : decode jdk_52_method_14_code 26 = .ok (.iinc 4 1, 3) := by decide +kernel
theorem d_jdk_52_method_14_code_29 : decode jdk_52_method_14_code 29 = .ok (.goto (-21), 3) := by decide +kernel
theorem d_jdk_52_method_14_code_32 : decode jdk_52_method_14_code 32 = .ok (.aload_n 3, 1) := by decide +kernel
theorem d_jdk_52_method_14_code_33 : decode jdk_52_method_14_code 33 = .ok (.areturn, 1) := by decide +kernel
def Q_tob (Z : State) (cs : Int32) (fm : Value) (a1 : Addr) (n : Nat) (c : Nat → Nat) (h0 : Heap) (n0 : Nat) (v : Option Value) (h : Heap) (L : List Loc) : Prop := ∃ b : Addr, v = some (.ref b) ∧ Fr n0 L ∧ h0.size ≤ b ∧ Keep h0 h [] ∧ OA Z h b .byte (2 * n) (own_by true c)
set_option maxRecDepth 65536 in
set_option maxHeartbeats 40000000 in
theorem rm_tob (l : Launch) (Z : State) (a0 : Array Value) (hw : ∀ d ∈ tables_1, d.before a0 Z = true) (ws : List Jvm.Cond) (cs : Int32) (fm : Value) (a1 : Addr) (n : Nat) (c : Nat → Nat) (h0 : Heap) (n0 : Nat) (Z0 : n0 ≤ h0.size) (ST : own_ST Z cs fm) (OO : Old Z n0 h0) (hn : n ≤ 4) (hc : ∀ j, j < n → c j < 65536) (A : OA Z h0 a1 .char n (fun i => .int (Int32.ofNat (c i)))) :
    MetFree l (⟨"java/lang/StringUTF16", "toBytes", "([CII)[B"⟩ : MethodName) (head1 (Jvm.Cond.code (⟨"java/lang/StringUTF16", "toBytes", "([CII)[B"⟩ : MethodName) jdk_52_method_14_code 5 (some (.array .byte)) :: ws) ({ frames := 2, cells := 1, slots := 8, locals := 24 } : Room)) (fun a U => a = #[(.ref a1), (.int (0 : Int32)), (.int (Int32.ofNat n))] ∧ Z.Warmed39 U.vm ∧ U.heap = h0) (fun _ _ _ _ _ => True) (fun _ U o U' => ∃ v L, o = .returned v ∧ Q_tob Z cs fm a1 n c h0 n0 v U'.heap L ∧ FrameEnd U o U' L ({ frames := 2, cells := 1, slots := 8, locals := 24 } : Room).cells ({ frames := 2, cells := 1, slots := 8, locals := 24 } : Room).slots) := by
  refine MetFree.of_bodySF (plainFor_of_name pn_java_lang_StringUTF16) hisR ?_
  intro p ee s m args below meth cc s₁ Bd hml0 hP hK
  obtain ⟨rfl, hZ, hh⟩ := hP
  have hx := Bd.exec
  have hby := Bd.bytes
  have hml : cc.maxLocals = 5 := hml0
  have hown : s.vm.findClass "java/lang/StringUTF16" = some m.cls := findClass_of_methodNamed Bd.named
  have hnm := (name_of_methodNamed Bd.named Bd.method).1
  have X0 : Stand p l ee ({ frames := 2, cells := 1, slots := 8, locals := 24 } : Room) s m #[(.ref a1), (.int (0 : Int32)), (.int (Int32.ofNat n))] below meth cc s₁ [] 0 0 := Stand.of_body Bd
  have e0 : s₁.heap = h0 := by rw [← hh, Bd.state]; rfl
  have N0 := Fr.nil n0
  show Goes p ee below s ({ frames := 2, cells := 1, slots := 8, locals := 24 } : Room).cells ({ frames := 2, cells := 1, slots := 8, locals := 24 } : Room).slots (Q_tob Z cs fm a1 n c h0 n0) (s₁.setTop (entryFrame m #[(.ref a1), (.int (0 : Int32)), (.int (Int32.ofNat n))] 5))
  refine Goes.step (fun _ hr_ => castTop (ef_tob m a1 (0 : Int32) (Int32.ofNat n)) hr_) ?_
  show Goes p ee below s _ _ _ (s₁.setTop (mkF m 0 #[.val (.ref a1), .val (.int (0 : Int32)), .val (.int (Int32.ofNat n)), .unset, .unset] []))
  have K0 := Keep.refl h0 ([] : List Addr)
  refine Goes.step (fun _ hr_ => XS.iloadN X0.here hx rfl (hb hby d_jdk_52_method_14_code_0) rfl  hr_) ?_
  show Goes p ee below s _ _ _ (s₁.setTop (mkF m 1 #[.val (.ref a1), .val (.int (0 : Int32)), .val (.int (Int32.ofNat n)), .unset, .unset] [(.int (Int32.ofNat n))]))
  have lt_a1 := A.lt
  obtain ⟨v1, T1, L1, X1, hQ1, st1⟩ := own_callS X0 hx hZ (y := (⟨"java/lang/StringUTF16", "newBytesFor", "(I)[B"⟩ : MethodName)) hown (hw _ (List.mem_of_getElem? (i := 114) rfl)) (hw _ (List.mem_of_getElem? (i := 115) rfl)) (hw _ (List.mem_of_getElem? (i := 23) rfl)) (hw _ (List.mem_of_getElem? (i := 116) rfl)) (by decide) (argsL := [(.int (Int32.ofNat n))]) (rm_nbf l Z a0 hw [] cs fm n h0 n0 Z0 ST OO hn) e0 (W := 0) (by decide) (by decide) (by decide) (by decide) (g := (mkF m 1 #[.val (.ref a1), .val (.int (0 : Int32)), .val (.int (Int32.ofNat n)), .unset, .unset] [(.int (Int32.ofNat n))])) rfl (by rw [hml]; rfl) (rest := []) (lenOf pd_8 rfl) rfl (by show 2 * 0 + _ ≤ _; exact Nat.le_of_eq rfl) (hb hby d_jdk_52_method_14_code_1)
  refine Goes.step st1 ?_
  obtain ⟨b1, rfl, N1, sz1, Kc1, A_b1⟩ := hQ1
  have N2 := Fr.app N0 N1
  obtain ⟨h1, e1⟩ : ∃ h', T1.heap = h' := ⟨_, rfl⟩
  rw [e1] at Kc1 A_b1
  have A := A.keep Kc1 nin0
  have OO := OO.keep Kc1 all0
  have K3 := K0.trans Kc1 all0
  have Zp4 := Nat.le_trans Z0 Kc1.1
  have ge_b1 : n0 ≤ b1 := Nat.le_trans Z0 sz1
  have sz_b1 : h0.size ≤ b1 := Nat.le_trans K0.1 sz1
  have ne_a1_b1 : a1 ≠ b1 := Nat.ne_of_lt (Nat.lt_of_lt_of_le lt_a1 sz1)
  show Goes p ee below s _ _ _ (T1.setTop (mkF m 4 #[.val (.ref a1), .val (.int (0 : Int32)), .val (.int (Int32.ofNat n)), .unset, .unset] [(.ref b1)]))
  refine Goes.step (fun _ hr_ => XS.astoreN X1.here hx rfl (hb hby d_jdk_52_method_14_code_4) rfl rfl (l' := #[.val (.ref a1), .val (.int (0 : Int32)), .val (.int (Int32.ofNat n)), .val (.ref b1), .unset]) rfl hr_) ?_
  show Goes p ee below s _ _ _ (T1.setTop (mkF m 5 #[.val (.ref a1), .val (.int (0 : Int32)), .val (.int (Int32.ofNat n)), .val (.ref b1), .unset] []))
  refine Goes.step (fun _ hr_ => XS.iconst X1.here hx rfl (hb hby d_jdk_52_method_14_code_5) hr_) ?_
  show Goes p ee below s _ _ _ (T1.setTop (mkF m 6 #[.val (.ref a1), .val (.int (0 : Int32)), .val (.int (Int32.ofNat n)), .val (.ref b1), .unset] [(.int (0 : Int32))]))
  refine Goes.step (fun _ hr_ => XS.istore X1.here hx rfl (hb hby d_jdk_52_method_14_code_6) rfl  (l' := #[.val (.ref a1), .val (.int (0 : Int32)), .val (.int (Int32.ofNat n)), .val (.ref b1), .val (.int (0 : Int32))]) rfl hr_) ?_
  show Goes p ee below s _ _ _ (T1.setTop (mkF m 8 #[.val (.ref a1), .val (.int (0 : Int32)), .val (.int (Int32.ofNat n)), .val (.ref b1), .val (.int (0 : Int32))] []))
  have loop : ∀ (d i : Nat) (T : State) (locs : List Loc) (hh : Heap), Stand p l ee ({ frames := 2, cells := 1, slots := 8, locals := 24 } : Room) s m #[(.ref a1), (.int (0 : Int32)), (.int (Int32.ofNat n))] below meth cc T locs 1 8 → T.heap = hh → Fr n0 locs → n0 ≤ hh.size → Keep h0 hh [] → Old Z n0 hh → OA Z hh a1 .char n (fun i => .int (Int32.ofNat (c i))) → OA Z hh b1 .byte (2 * n) (fun j => if j < 2 * i then own_by true c j else .int 0) → 0 < d → n < i + d → i ≤ n → Goes p ee below s ({ frames := 2, cells := 1, slots := 8, locals := 24 } : Room).cells ({ frames := 2, cells := 1, slots := 8, locals := 24 } : Room).slots (Q_tob Z cs fm a1 n c h0 n0) (T.setTop (mkF m 8 #[.val (.ref a1), .val (.int (Int32.ofNat i)), .val (.int (Int32.ofNat n)), .val (.ref b1), .val (.int (Int32.ofNat i))] [])) := by
    intro d
    induction d with
    | zero => intro i T locs hh X eT N Zp K OO A A_b1 q1; omega
    | succ d ih =>
      intro i T locs hh X eT N Zp K OO A A_b1 q1 q2 q3
      show Goes p ee below s _ _ _ (T.setTop (mkF m 8 #[.val (.ref a1), .val (.int (Int32.ofNat i)), .val (.int (Int32.ofNat n)), .val (.ref b1), .val (.int (Int32.ofNat i))] []))
      refine Goes.step (fun _ hr_ => XS.iload X.here hx rfl (hb hby d_jdk_52_method_14_code_8) rfl  hr_) ?_
      show Goes p ee below s _ _ _ (T.setTop (mkF m 10 #[.val (.ref a1), .val (.int (Int32.ofNat i)), .val (.int (Int32.ofNat n)), .val (.ref b1), .val (.int (Int32.ofNat i))] [(.int (Int32.ofNat i))]))
      refine Goes.step (fun _ hr_ => XS.iloadN X.here hx rfl (hb hby d_jdk_52_method_14_code_10) rfl  hr_) ?_
      show Goes p ee below s _ _ _ (T.setTop (mkF m 11 #[.val (.ref a1), .val (.int (Int32.ofNat i)), .val (.int (Int32.ofNat n)), .val (.ref b1), .val (.int (Int32.ofNat i))] [(.int (Int32.ofNat n)), (.int (Int32.ofNat i))]))
      by_cases hn11_5 : i < n
      · refine Goes.step (fun _ hr_ => XS.icmpNo X.here hx rfl (hb hby d_jdk_52_method_14_code_11) rfl (tlt ((own_ltN i n (by omega) (by omega)).mpr hn11_5)).2.1 hr_) ?_
        show Goes p ee below s _ _ _ (T.setTop (mkF m 14 #[.val (.ref a1), .val (.int (Int32.ofNat i)), .val (.int (Int32.ofNat n)), .val (.ref b1), .val (.int (Int32.ofNat i))] []))
        refine Goes.step (fun _ hr_ => XS.aloadN X.here hx rfl (hb hby d_jdk_52_method_14_code_14) rfl rfl hr_) ?_
        show Goes p ee below s _ _ _ (T.setTop (mkF m 15 #[.val (.ref a1), .val (.int (Int32.ofNat i)), .val (.int (Int32.ofNat n)), .val (.ref b1), .val (.int (Int32.ofNat i))] [(.ref b1)]))
        refine Goes.step (fun _ hr_ => XS.iload X.here hx rfl (hb hby d_jdk_52_method_14_code_15) rfl  hr_) ?_
        show Goes p ee below s _ _ _ (T.setTop (mkF m 17 #[.val (.ref a1), .val (.int (Int32.ofNat i)), .val (.int (Int32.ofNat n)), .val (.ref b1), .val (.int (Int32.ofNat i))] [(.int (Int32.ofNat i)), (.ref b1)]))
        refine Goes.step (fun _ hr_ => XS.aloadN X.here hx rfl (hb hby d_jdk_52_method_14_code_17) rfl rfl hr_) ?_
        show Goes p ee below s _ _ _ (T.setTop (mkF m 18 #[.val (.ref a1), .val (.int (Int32.ofNat i)), .val (.int (Int32.ofNat n)), .val (.ref b1), .val (.int (Int32.ofNat i))] [(.ref a1), (.int (Int32.ofNat i)), (.ref b1)]))
        refine Goes.step (fun _ hr_ => XS.iloadN X.here hx rfl (hb hby d_jdk_52_method_14_code_18) rfl  hr_) ?_
        show Goes p ee below s _ _ _ (T.setTop (mkF m 19 #[.val (.ref a1), .val (.int (Int32.ofNat i)), .val (.int (Int32.ofNat n)), .val (.ref b1), .val (.int (Int32.ofNat i))] [(.int (Int32.ofNat i)), (.ref a1), (.int (Int32.ofNat i)), (.ref b1)]))
        refine Goes.step (own_caload X hx hZ eT A (j := (Int32.ofNat i)) (own_nneg i (by omega)) (k := i) (own_clamp i (by omega)) hn11_5 (v := (.int (Int32.ofNat (c i)))) rfl (g := (mkF m 19 #[.val (.ref a1), .val (.int (Int32.ofNat i)), .val (.int (Int32.ofNat n)), .val (.ref b1), .val (.int (Int32.ofNat i))] [(.int (Int32.ofNat i)), (.ref a1), (.int (Int32.ofNat i)), (.ref b1)])) rfl rfl (hb hby d_jdk_52_method_14_code_19)) ?_
        show Goes p ee below s _ _ _ (T.setTop (mkF m 20 #[.val (.ref a1), .val (.int (Int32.ofNat i)), .val (.int (Int32.ofNat n)), .val (.ref b1), .val (.int (Int32.ofNat i))] [(.int (Int32.ofNat (c i))), (.int (Int32.ofNat i)), (.ref b1)]))
        have lt_a1 := A.lt
        have lt_b1 := A_b1.lt
        obtain ⟨v6, T6, L6, X6, hQ6, st6⟩ := own_callS X hx hZ (y := (⟨"java/lang/StringUTF16", "putChar", "([BII)V"⟩ : MethodName)) hown (hw _ (List.mem_of_getElem? (i := 121) rfl)) (hw _ (List.mem_of_getElem? (i := 122) rfl)) (hw _ (List.mem_of_getElem? (i := 23) rfl)) (hw _ (List.mem_of_getElem? (i := 123) rfl)) (by decide) (argsL := [(.ref b1), (.int (Int32.ofNat i)), (.int (Int32.ofNat (c i)))]) (rm_putc l Z a0 hw [] cs fm b1 i (c i) n _ hh n0 Zp ST OO hn11_5 (hc i hn11_5) (by omega) ge_b1 A_b1) eT (W := 0) (by decide) (by decide) (by decide) (by decide) (g := (mkF m 20 #[.val (.ref a1), .val (.int (Int32.ofNat i)), .val (.int (Int32.ofNat n)), .val (.ref b1), .val (.int (Int32.ofNat i))] [(.int (Int32.ofNat (c i))), (.int (Int32.ofNat i)), (.ref b1)])) rfl (by rw [hml]; rfl) (rest := []) (lenOf pd_9 rfl) rfl (by show 2 * 0 + _ ≤ _; exact Nat.le_of_eq rfl) (hb hby d_jdk_52_method_14_code_20)
        refine Goes.step st6 ?_
        obtain ⟨rfl, N6, Kc6, A_b1⟩ := hQ6
        have N7 := Fr.app N N6
        obtain ⟨h6, e6⟩ : ∃ h', T6.heap = h' := ⟨_, rfl⟩
        rw [e6] at Kc6 A_b1
        have A := A.keep Kc6 (ninS ne_a1_b1 nin0)
        have OO := OO.keep Kc6 (allS ge_b1 all0)
        have K8 := K.trans Kc6 (allS (Or.inr sz_b1) all0)
        have Zp9 := Nat.le_trans Zp Kc6.1
        show Goes p ee below s _ _ _ (T6.setTop (mkF m 23 #[.val (.ref a1), .val (.int (Int32.ofNat i)), .val (.int (Int32.ofNat n)), .val (.ref b1), .val (.int (Int32.ofNat i))] []))
        refine Goes.step (fun _ hr_ => XS.iinc X6.here hx rfl (hb hby d_jdk_52_method_14_code_23) rfl (l' := #[.val (.ref a1), .val (.int ((Int32.ofNat i) + (1 : Int32))), .val (.int (Int32.ofNat n)), .val (.ref b1), .val (.int (Int32.ofNat i))]) rfl hr_) ?_
        show Goes p ee below s _ _ _ (T6.setTop (mkF m 26 #[.val (.ref a1), .val (.int ((Int32.ofNat i) + (1 : Int32))), .val (.int (Int32.ofNat n)), .val (.ref b1), .val (.int (Int32.ofNat i))] []))
        rw [show Int32.ofNat i + (1 : Int32) = Int32.ofNat (i + 1) from own_addN i 1]
        show Goes p ee below s _ _ _ (T6.setTop (mkF m 26 #[.val (.ref a1), .val (.int (Int32.ofNat (i + 1))), .val (.int (Int32.ofNat n)), .val (.ref b1), .val (.int (Int32.ofNat i))] []))
        refine Goes.step (fun _ hr_ => XS.iinc X6.here hx rfl (hb hby d_jdk_52_method_14_code_26) rfl (l' := #[.val (.ref a1), .val (.int (Int32.ofNat (i + 1))), .val (.int (Int32.ofNat n)), .val (.ref b1), .val (.int ((Int32.ofNat i) + (1 : Int32)))]) rfl hr_) ?_
        show Goes p ee below s _ _ _ (T6.setTop (mkF m 29 #[.val (.ref a1), .val (.int (Int32.ofNat (i + 1))), .val (.int (Int32.ofNat n)), .val (.ref b1), .val (.int ((Int32.ofNat i) + (1 : Int32)))] []))
        rw [show Int32.ofNat i + (1 : Int32) = Int32.ofNat (i + 1) from own_addN i 1]
        show Goes p ee below s _ _ _ (T6.setTop (mkF m 29 #[.val (.ref a1), .val (.int (Int32.ofNat (i + 1))), .val (.int (Int32.ofNat n)), .val (.ref b1), .val (.int (Int32.ofNat (i + 1)))] []))
        refine Goes.step (fun _ hr_ => XS.goto X6.here hx rfl (pc0 := 29) (pc' := 8) rfl (hb hby d_jdk_52_method_14_code_29) (by decide) (by decide) hr_) ?_
        show Goes p ee below s _ _ _ (T6.setTop (mkF m 8 #[.val (.ref a1), .val (.int (Int32.ofNat (i + 1))), .val (.int (Int32.ofNat n)), .val (.ref b1), .val (.int (Int32.ofNat (i + 1)))] []))
        exact ih (i + 1) _ _ _ X6 e6 N7 Zp9 K8 OO A (own_part_next A_b1) (by omega) (by omega) (by omega)
      · refine Goes.step (fun _ hr_ => XS.icmpYes X.here hx rfl (pc0 := 11) (pc' := 32) rfl (hb hby d_jdk_52_method_14_code_11) rfl (flt (fun z => hn11_5 ((own_ltN i n (by omega) (by omega)).mp z))).2.1 (by decide) (by decide) hr_) ?_
        show Goes p ee below s _ _ _ (T.setTop (mkF m 32 #[.val (.ref a1), .val (.int (Int32.ofNat i)), .val (.int (Int32.ofNat n)), .val (.ref b1), .val (.int (Int32.ofNat i))] []))
        refine Goes.step (fun _ hr_ => XS.aloadN X.here hx rfl (hb hby d_jdk_52_method_14_code_32) rfl rfl hr_) ?_
        show Goes p ee below s _ _ _ (T.setTop (mkF m 33 #[.val (.ref a1), .val (.int (Int32.ofNat i)), .val (.int (Int32.ofNat n)), .val (.ref b1), .val (.int (Int32.ofNat i))] [(.ref b1)]))
        refine Goes.retA X hx Bd.notSynchronized Bd.returns rfl rfl (hb hby d_jdk_52_method_14_code_33) (by decide) (by decide) ?_
        rw [eT]
        exact ⟨_, rfl, N, sz_b1, K, A_b1.congr (fun j hj => if_pos (by omega))⟩
  exact loop (n + 1) 0 _ _ _ X1 e1 N2 Zp4 K3 OO A (A_b1.congr (fun j hj => (if_neg (by omega)).symm)) (by omega) (by omega) (by omega)
theorem ef_cmp5 (m : MethodId) (x0 : Addr) (x1 : Int32) (x2 : Addr) (x3 : Int32) (x4 : Int32) : entryFrame m #[(.ref x0), (.int x1), (.ref x2), (.int x3), (.int x4)] 7 = mkF m 0 #[.val (.ref x0), .val (.int x1), .val (.ref x2), .val (.int x3), .val (.int x4), .unset, .unset] [] := by first | (simp [entryFrame, mkF, argsToLocals, Value.category]; done) | rfl
theorem own_os6 {a1 a2 : Addr} {i1 i3 i4 i5 v : Int32} {s6 : Slot} (h : One s6) : storeLocals #[.val (.ref a1), .val (.int i1), .val (.ref a2), .val (.int i3), .val (.int i4), .val (.int i5), s6] 6 (.int v) = some #[.val (.ref a1), .val (.int i1), .val (.ref a2), .val (.int i3), .val (.int i4), .val (.int i5), .val (.int v)] := by
  rcases h with rfl | ⟨w, rfl, hw⟩
  · rfl
  · cases w <;> first | rfl | (simp [Value.category] at hw)
theorem d_jdk_52_method_21_code_0 : decode jdk_52_method_21_code 0 = .ok (.iconst 0, 1) := by decide +kernel
theorem d_jdk_52_method_21_code_1 : decode jdk_52_method_21_code 1 = .ok (.istore 5, 2) := by decide +kernel
theorem d_jdk_52_method_21_code_3 : decode jdk_52_method_21_code 3 = .ok (.iload 5, 2) := by decide +kernel
theorem d_jdk_52_method_21_code_5 : decode jdk_52_method_21_code 5 = .ok (.iload 4, 2) := by decide +kernel
theorem d_jdk_52_method_21_code_7 : decode jdk_52_method_21_code 7 = .ok (.if_icmp .ge 37, 3) := by decide +kernel
theorem d_jdk_52_method_21_code_10 : decode jdk_52_method_21_code 10 = .ok (.aload_n 0, 1) := by decide +kernel
theorem d_jdk_52_method_21_code_11 : decode jdk_52_method_21_code 11 = .ok (.iload_n 1, 1) := by decide +kernel
theorem d_jdk_52_method_21_code_12 : decode jdk_52_method_21_code 12 = .ok (.caload, 1) := by decide +kernel
theorem d_jdk_52_method_21_code_13 : decode jdk_52_method_21_code 13 = .ok (.istore 6, 2) := by decide +kernel
theorem d_jdk_52_method_21_code_15 : decode jdk_52_method_21_code 15 = .ok (.iload 6, 2) := by decide +kernel
theorem d_jdk_52_method_21_code_17 : decode jdk_52_method_21_code 17 = .ok (.sipush 255, 3) := by decide +kernel
theorem d_jdk_52_method_21_code_20 : decode jdk_52_method_21_code 20 = .ok (.if_icmp .le 6, 3) := by decide +kernel
theorem d_jdk_52_method_21_code_23 : decode jdk_52_method_21_code 23 = .ok (.iload 5, 2) := by decide +kernel
theorem d_jdk_52_method_21_code_25 : decode jdk_52_method_21_code 25 = .ok (.ireturn, 1) := by decide +kernel
theorem d_jdk_52_method_21_code_26 : decode jdk_52_method_21_code 26 = .ok (.aload_n 2, 1) := by decide +kernel
theorem d_jdk_52_method_21_code_27 : decode jdk_52_method_21_code 27 = .ok (.iload_n 3, 1) := by decide +kernel
theorem d_jdk_52_method_21_code_28 : decode jdk_52_method_21_code 28 = .ok (.iload 6, 2) := by decide +kernel
theorem d_jdk_52_method_21_code_30 : decode jdk_52_method_21_code 30 = .ok (.i2b, 1) := by decide +kernel
theorem d_jdk_52_method_21_code_31 : decode jdk_52_method_21_code 31 = .ok (.bastore, 1) := by decide +kernel
theorem d_jdk_52_method_21_code_32 : decode jdk_52_method_21_code 32 = .ok (.iinc 1 1, 3) := by decide +kernel
theorem d_jdk_52_method_21_code_35 : decode jdk_52_method_21_code 35 = .ok (.iinc 3 1, 3) := by decide +kernel
theorem d_jdk_52_method_21_code_38 : decode jdk_52_method_21_code 38 = .ok (.iinc 5 1, 3) := by decide +kernel
theorem d_jdk_52_method_21_code_41 : decode jdk_52_method_21_code 41 = .ok (.goto (-38), 3) := by decide +kernel
theorem d_jdk_52_method_21_code_44 : decode jdk_52_method_21_code 44 = .ok (.iload 4, 2) := by decide +kernel
theorem d_jdk_52_method_21_code_46 : decode jdk_52_method_21_code 46 = .ok (.ireturn, 1) := by decide +kernel
def Q_cmp5 (Z : State) (cs : Int32) (fm : Value) (a1 a2 : Addr) (n : Nat) (c : Nat → Nat) (f : Nat → Value) (h0 : Heap) (n0 : Nat) (v : Option Value) (h : Heap) (L : List Loc) : Prop := Fr n0 L ∧ Keep h0 h [a2] ∧ ((v = some (.int (Int32.ofNat n)) ∧ (∀ j, j < n → c j < 256) ∧ OA Z h a2 .byte n (own_by false c)) ∨ ∃ k, k < n ∧ v = some (.int (Int32.ofNat k)) ∧ 255 < c k)
set_option maxRecDepth 65536 in
set_option maxHeartbeats 40000000 in
theorem rm_cmp5 (l : Launch) (Z : State) (a0 : Array Value) (hw : ∀ d ∈ tables_1, d.before a0 Z = true) (ws : List Jvm.Cond) (cs : Int32) (fm : Value) (a1 a2 : Addr) (n : Nat) (c : Nat → Nat) (f : Nat → Value) (h0 : Heap) (n0 : Nat) (Z0 : n0 ≤ h0.size) (ST : own_ST Z cs fm) (OO : Old Z n0 h0) (hn : n ≤ 4) (hc : ∀ j, j < n → c j < 65536) (ne12 : a1 ≠ a2) (ge_a2 : n0 ≤ a2) (A : OA Z h0 a1 .char n (fun i => .int (Int32.ofNat (c i)))) (B : OA Z h0 a2 .byte n f) :
    MetFree l (⟨"java/lang/StringUTF16", "compress", "([CI[BII)I"⟩ : MethodName) (head1 (Jvm.Cond.code (⟨"java/lang/StringUTF16", "compress", "([CI[BII)I"⟩ : MethodName) jdk_52_method_21_code 7 (some .int) :: ws) ({ frames := 0, cells := 0, slots := 0, locals := 0 } : Room)) (fun a U => a = #[(.ref a1), (.int (0 : Int32)), (.ref a2), (.int (0 : Int32)), (.int (Int32.ofNat n))] ∧ Z.Warmed39 U.vm ∧ U.heap = h0) (fun _ _ _ _ _ => True) (fun _ U o U' => ∃ v L, o = .returned v ∧ Q_cmp5 Z cs fm a1 a2 n c f h0 n0 v U'.heap L ∧ FrameEnd U o U' L ({ frames := 0, cells := 0, slots := 0, locals := 0 } : Room).cells ({ frames := 0, cells := 0, slots := 0, locals := 0 } : Room).slots) := by
  refine MetFree.of_bodySF (plainFor_of_name pn_java_lang_StringUTF16) hisR ?_
  intro p ee s m args below meth cc s₁ Bd hml0 hP hK
  obtain ⟨rfl, hZ, hh⟩ := hP
  have hx := Bd.exec
  have hby := Bd.bytes
  have hml : cc.maxLocals = 7 := hml0
  have hown : s.vm.findClass "java/lang/StringUTF16" = some m.cls := findClass_of_methodNamed Bd.named
  have hnm := (name_of_methodNamed Bd.named Bd.method).1
  have X0 : Stand p l ee ({ frames := 0, cells := 0, slots := 0, locals := 0 } : Room) s m #[(.ref a1), (.int (0 : Int32)), (.ref a2), (.int (0 : Int32)), (.int (Int32.ofNat n))] below meth cc s₁ [] 0 0 := Stand.of_body Bd
  have e0 : s₁.heap = h0 := by rw [← hh, Bd.state]; rfl
  have N0 := Fr.nil n0
  show Goes p ee below s ({ frames := 0, cells := 0, slots := 0, locals := 0 } : Room).cells ({ frames := 0, cells := 0, slots := 0, locals := 0 } : Room).slots (Q_cmp5 Z cs fm a1 a2 n c f h0 n0) (s₁.setTop (entryFrame m #[(.ref a1), (.int (0 : Int32)), (.ref a2), (.int (0 : Int32)), (.int (Int32.ofNat n))] 7))
  refine Goes.step (fun _ hr_ => castTop (ef_cmp5 m a1 (0 : Int32) a2 (0 : Int32) (Int32.ofNat n)) hr_) ?_
  show Goes p ee below s _ _ _ (s₁.setTop (mkF m 0 #[.val (.ref a1), .val (.int (0 : Int32)), .val (.ref a2), .val (.int (0 : Int32)), .val (.int (Int32.ofNat n)), .unset, .unset] []))
  have K0 := Keep.refl h0 ([a2] : List Addr)
  refine Goes.step (fun _ hr_ => XS.iconst X0.here hx rfl (hb hby d_jdk_52_method_21_code_0) hr_) ?_
  show Goes p ee below s _ _ _ (s₁.setTop (mkF m 1 #[.val (.ref a1), .val (.int (0 : Int32)), .val (.ref a2), .val (.int (0 : Int32)), .val (.int (Int32.ofNat n)), .unset, .unset] [(.int (0 : Int32))]))
  refine Goes.step (fun _ hr_ => XS.istore X0.here hx rfl (hb hby d_jdk_52_method_21_code_1) rfl  (l' := #[.val (.ref a1), .val (.int (0 : Int32)), .val (.ref a2), .val (.int (0 : Int32)), .val (.int (Int32.ofNat n)), .val (.int (0 : Int32)), .unset]) rfl hr_) ?_
  show Goes p ee below s _ _ _ (s₁.setTop (mkF m 3 #[.val (.ref a1), .val (.int (0 : Int32)), .val (.ref a2), .val (.int (0 : Int32)), .val (.int (Int32.ofNat n)), .val (.int (0 : Int32)), .unset] []))
  have loop : ∀ (d i : Nat) (s6 : Slot) (T : State) (locs : List Loc) (hh : Heap), One s6 → Stand p l ee ({ frames := 0, cells := 0, slots := 0, locals := 0 } : Room) s m #[(.ref a1), (.int (0 : Int32)), (.ref a2), (.int (0 : Int32)), (.int (Int32.ofNat n))] below meth cc T locs 0 0 → T.heap = hh → Fr n0 locs → n0 ≤ hh.size → Keep h0 hh [a2] → Old Z n0 hh → OA Z hh a1 .char n (fun i => .int (Int32.ofNat (c i))) → OA Z hh a2 .byte n (fun j => if j < i then own_by false c j else f j) → (∀ j, j < i → c j < 256) → 0 < d → n < i + d → i ≤ n → Goes p ee below s ({ frames := 0, cells := 0, slots := 0, locals := 0 } : Room).cells ({ frames := 0, cells := 0, slots := 0, locals := 0 } : Room).slots (Q_cmp5 Z cs fm a1 a2 n c f h0 n0) (T.setTop (mkF m 3 #[.val (.ref a1), .val (.int (Int32.ofNat i)), .val (.ref a2), .val (.int (Int32.ofNat i)), .val (.int (Int32.ofNat n)), .val (.int (Int32.ofNat i)), s6] [])) := by
    intro d
    induction d with
    | zero => intro i s6 T locs hh o6 X eT N Zp K OO A B hall q1; omega
    | succ d ih =>
      intro i s6 T locs hh o6 X eT N Zp K OO A B hall q1 q2 q3
      show Goes p ee below s _ _ _ (T.setTop (mkF m 3 #[.val (.ref a1), .val (.int (Int32.ofNat i)), .val (.ref a2), .val (.int (Int32.ofNat i)), .val (.int (Int32.ofNat n)), .val (.int (Int32.ofNat i)), s6] []))
      refine Goes.step (fun _ hr_ => XS.iload X.here hx rfl (hb hby d_jdk_52_method_21_code_3) rfl  hr_) ?_
      show Goes p ee below s _ _ _ (T.setTop (mkF m 5 #[.val (.ref a1), .val (.int (Int32.ofNat i)), .val (.ref a2), .val (.int (Int32.ofNat i)), .val (.int (Int32.ofNat n)), .val (.int (Int32.ofNat i)), s6] [(.int (Int32.ofNat i))]))
      refine Goes.step (fun _ hr_ => XS.iload X.here hx rfl (hb hby d_jdk_52_method_21_code_5) rfl  hr_) ?_
      show Goes p ee below s _ _ _ (T.setTop (mkF m 7 #[.val (.ref a1), .val (.int (Int32.ofNat i)), .val (.ref a2), .val (.int (Int32.ofNat i)), .val (.int (Int32.ofNat n)), .val (.int (Int32.ofNat i)), s6] [(.int (Int32.ofNat n)), (.int (Int32.ofNat i))]))
      by_cases hn7_1 : i < n
      · refine Goes.step (fun _ hr_ => XS.icmpNo X.here hx rfl (hb hby d_jdk_52_method_21_code_7) rfl (tlt ((own_ltN i n (by omega) (by omega)).mpr hn7_1)).2.1 hr_) ?_
        show Goes p ee below s _ _ _ (T.setTop (mkF m 10 #[.val (.ref a1), .val (.int (Int32.ofNat i)), .val (.ref a2), .val (.int (Int32.ofNat i)), .val (.int (Int32.ofNat n)), .val (.int (Int32.ofNat i)), s6] []))
        refine Goes.step (fun _ hr_ => XS.aloadN X.here hx rfl (hb hby d_jdk_52_method_21_code_10) rfl rfl hr_) ?_
        show Goes p ee below s _ _ _ (T.setTop (mkF m 11 #[.val (.ref a1), .val (.int (Int32.ofNat i)), .val (.ref a2), .val (.int (Int32.ofNat i)), .val (.int (Int32.ofNat n)), .val (.int (Int32.ofNat i)), s6] [(.ref a1)]))
        refine Goes.step (fun _ hr_ => XS.iloadN X.here hx rfl (hb hby d_jdk_52_method_21_code_11) rfl  hr_) ?_
        show Goes p ee below s _ _ _ (T.setTop (mkF m 12 #[.val (.ref a1), .val (.int (Int32.ofNat i)), .val (.ref a2), .val (.int (Int32.ofNat i)), .val (.int (Int32.ofNat n)), .val (.int (Int32.ofNat i)), s6] [(.int (Int32.ofNat i)), (.ref a1)]))
        refine Goes.step (own_caload X hx hZ eT A (j := (Int32.ofNat i)) (own_nneg i (by omega)) (k := i) (own_clamp i (by omega)) hn7_1 (v := (.int (Int32.ofNat (c i)))) rfl (g := (mkF m 12 #[.val (.ref a1), .val (.int (Int32.ofNat i)), .val (.ref a2), .val (.int (Int32.ofNat i)), .val (.int (Int32.ofNat n)), .val (.int (Int32.ofNat i)), s6] [(.int (Int32.ofNat i)), (.ref a1)])) rfl rfl (hb hby d_jdk_52_method_21_code_12)) ?_
        show Goes p ee below s _ _ _ (T.setTop (mkF m 13 #[.val (.ref a1), .val (.int (Int32.ofNat i)), .val (.ref a2), .val (.int (Int32.ofNat i)), .val (.int (Int32.ofNat n)), .val (.int (Int32.ofNat i)), s6] [(.int (Int32.ofNat (c i)))]))
        refine Goes.step (fun _ hr_ => XS.istore X.here hx rfl (hb hby d_jdk_52_method_21_code_13) rfl  (l' := #[.val (.ref a1), .val (.int (Int32.ofNat i)), .val (.ref a2), .val (.int (Int32.ofNat i)), .val (.int (Int32.ofNat n)), .val (.int (Int32.ofNat i)), .val (.int (Int32.ofNat (c i)))]) (own_os6 o6) hr_) ?_
        show Goes p ee below s _ _ _ (T.setTop (mkF m 15 #[.val (.ref a1), .val (.int (Int32.ofNat i)), .val (.ref a2), .val (.int (Int32.ofNat i)), .val (.int (Int32.ofNat n)), .val (.int (Int32.ofNat i)), .val (.int (Int32.ofNat (c i)))] []))
        refine Goes.step (fun _ hr_ => XS.iload X.here hx rfl (hb hby d_jdk_52_method_21_code_15) rfl  hr_) ?_
        show Goes p ee below s _ _ _ (T.setTop (mkF m 17 #[.val (.ref a1), .val (.int (Int32.ofNat i)), .val (.ref a2), .val (.int (Int32.ofNat i)), .val (.int (Int32.ofNat n)), .val (.int (Int32.ofNat i)), .val (.int (Int32.ofNat (c i)))] [(.int (Int32.ofNat (c i)))]))
        refine Goes.step (fun _ hr_ => XS.sipush X.here hx rfl (hb hby d_jdk_52_method_21_code_17) hr_) ?_
        show Goes p ee below s _ _ _ (T.setTop (mkF m 20 #[.val (.ref a1), .val (.int (Int32.ofNat i)), .val (.ref a2), .val (.int (Int32.ofNat i)), .val (.int (Int32.ofNat n)), .val (.int (Int32.ofNat i)), .val (.int (Int32.ofNat (c i)))] [(.int (255 : Int32)), (.int (Int32.ofNat (c i)))]))
        by_cases hn20_2 : 255 < c i
        · refine Goes.step (fun _ hr_ => XS.icmpNo X.here hx rfl (hb hby d_jdk_52_method_21_code_20) rfl (tlt ((own_ltN 255 (c i) (by decide) (Nat.lt_trans (hc i hn7_1) (by decide))).mpr hn20_2)).2.2.2 hr_) ?_
          show Goes p ee below s _ _ _ (T.setTop (mkF m 23 #[.val (.ref a1), .val (.int (Int32.ofNat i)), .val (.ref a2), .val (.int (Int32.ofNat i)), .val (.int (Int32.ofNat n)), .val (.int (Int32.ofNat i)), .val (.int (Int32.ofNat (c i)))] []))
          refine Goes.step (fun _ hr_ => XS.iload X.here hx rfl (hb hby d_jdk_52_method_21_code_23) rfl  hr_) ?_
          show Goes p ee below s _ _ _ (T.setTop (mkF m 25 #[.val (.ref a1), .val (.int (Int32.ofNat i)), .val (.ref a2), .val (.int (Int32.ofNat i)), .val (.int (Int32.ofNat n)), .val (.int (Int32.ofNat i)), .val (.int (Int32.ofNat (c i)))] [(.int (Int32.ofNat i))]))
          refine Goes.retI X hx Bd.notSynchronized Bd.returns (hb hby d_jdk_52_method_21_code_25) (by decide) (by decide) ?_
          rw [eT]
          exact ⟨N, K, Or.inr ⟨i, hn7_1, rfl, hn20_2⟩⟩
        · refine Goes.step (fun _ hr_ => XS.icmpYes X.here hx rfl (pc0 := 20) (pc' := 26) rfl (hb hby d_jdk_52_method_21_code_20) rfl (flt (fun z => hn20_2 ((own_ltN 255 (c i) (by decide) (Nat.lt_trans (hc i hn7_1) (by decide))).mp z))).2.2.2 (by decide) (by decide) hr_) ?_
          show Goes p ee below s _ _ _ (T.setTop (mkF m 26 #[.val (.ref a1), .val (.int (Int32.ofNat i)), .val (.ref a2), .val (.int (Int32.ofNat i)), .val (.int (Int32.ofNat n)), .val (.int (Int32.ofNat i)), .val (.int (Int32.ofNat (c i)))] []))
          refine Goes.step (fun _ hr_ => XS.aloadN X.here hx rfl (hb hby d_jdk_52_method_21_code_26) rfl rfl hr_) ?_
          show Goes p ee below s _ _ _ (T.setTop (mkF m 27 #[.val (.ref a1), .val (.int (Int32.ofNat i)), .val (.ref a2), .val (.int (Int32.ofNat i)), .val (.int (Int32.ofNat n)), .val (.int (Int32.ofNat i)), .val (.int (Int32.ofNat (c i)))] [(.ref a2)]))
          refine Goes.step (fun _ hr_ => XS.iloadN X.here hx rfl (hb hby d_jdk_52_method_21_code_27) rfl  hr_) ?_
          show Goes p ee below s _ _ _ (T.setTop (mkF m 28 #[.val (.ref a1), .val (.int (Int32.ofNat i)), .val (.ref a2), .val (.int (Int32.ofNat i)), .val (.int (Int32.ofNat n)), .val (.int (Int32.ofNat i)), .val (.int (Int32.ofNat (c i)))] [(.int (Int32.ofNat i)), (.ref a2)]))
          refine Goes.step (fun _ hr_ => XS.iload X.here hx rfl (hb hby d_jdk_52_method_21_code_28) rfl  hr_) ?_
          show Goes p ee below s _ _ _ (T.setTop (mkF m 30 #[.val (.ref a1), .val (.int (Int32.ofNat i)), .val (.ref a2), .val (.int (Int32.ofNat i)), .val (.int (Int32.ofNat n)), .val (.int (Int32.ofNat i)), .val (.int (Int32.ofNat (c i)))] [(.int (Int32.ofNat (c i))), (.int (Int32.ofNat i)), (.ref a2)]))
          refine Goes.step (fun _ hr_ => XT.i2b X.here hx rfl (hb hby d_jdk_52_method_21_code_30) rfl hr_) ?_
          show Goes p ee below s _ _ _ (T.setTop (mkF m 31 #[.val (.ref a1), .val (.int (Int32.ofNat i)), .val (.ref a2), .val (.int (Int32.ofNat i)), .val (.int (Int32.ofNat n)), .val (.int (Int32.ofNat i)), .val (.int (Int32.ofNat (c i)))] [(.int (Int32.ofNat (c i)).toInt8.toInt32), (.int (Int32.ofNat i)), (.ref a2)]))
          obtain ⟨T3, h3, X3, e3, W3, A3, st3⟩ := own_stB X hx hZ eT B (x := (Int32.ofNat (c i)).toInt8.toInt32) (j := (Int32.ofNat i)) (own_nneg i (by omega)) (k := i) (own_clamp i (by omega)) hn7_1 (g := (mkF m 31 #[.val (.ref a1), .val (.int (Int32.ofNat i)), .val (.ref a2), .val (.int (Int32.ofNat i)), .val (.int (Int32.ofNat n)), .val (.int (Int32.ofNat i)), .val (.int (Int32.ofNat (c i)))] [(.int (Int32.ofNat (c i)).toInt8.toInt32), (.int (Int32.ofNat i)), (.ref a2)])) rfl rfl (hb hby d_jdk_52_method_21_code_31)
          refine Goes.step st3 ?_
          have A := A.other W3 ne12
          have Zp4 := Nat.le_trans Zp (Keep.of_wr W3).1
          have N5 := Fr.snoc X3 N ge_a2
          have OO := OO.wr W3 ge_a2
          have K6 := K.wr W3 (Or.inl (List.mem_of_getElem? (i := 0) rfl))
          have B : OA Z h3 a2 .byte n (fun j => if j = i then .int (own_bt (c i)) else if j < i then own_by false c j else f j) := A3.congr (fun j hj => by rw [own_bt_nar]; rfl)
          show Goes p ee below s _ _ _ (T3.setTop (mkF m 32 #[.val (.ref a1), .val (.int (Int32.ofNat i)), .val (.ref a2), .val (.int (Int32.ofNat i)), .val (.int (Int32.ofNat n)), .val (.int (Int32.ofNat i)), .val (.int (Int32.ofNat (c i)))] []))
          refine Goes.step (fun _ hr_ => XS.iinc X3.here hx rfl (hb hby d_jdk_52_method_21_code_32) rfl (l' := #[.val (.ref a1), .val (.int ((Int32.ofNat i) + (1 : Int32))), .val (.ref a2), .val (.int (Int32.ofNat i)), .val (.int (Int32.ofNat n)), .val (.int (Int32.ofNat i)), .val (.int (Int32.ofNat (c i)))]) rfl hr_) ?_
          show Goes p ee below s _ _ _ (T3.setTop (mkF m 35 #[.val (.ref a1), .val (.int ((Int32.ofNat i) + (1 : Int32))), .val (.ref a2), .val (.int (Int32.ofNat i)), .val (.int (Int32.ofNat n)), .val (.int (Int32.ofNat i)), .val (.int (Int32.ofNat (c i)))] []))
          refine Goes.step (fun _ hr_ => XS.iinc X3.here hx rfl (hb hby d_jdk_52_method_21_code_35) rfl (l' := #[.val (.ref a1), .val (.int ((Int32.ofNat i) + (1 : Int32))), .val (.ref a2), .val (.int ((Int32.ofNat i) + (1 : Int32))), .val (.int (Int32.ofNat n)), .val (.int (Int32.ofNat i)), .val (.int (Int32.ofNat (c i)))]) rfl hr_) ?_
          show Goes p ee below s _ _ _ (T3.setTop (mkF m 38 #[.val (.ref a1), .val (.int ((Int32.ofNat i) + (1 : Int32))), .val (.ref a2), .val (.int ((Int32.ofNat i) + (1 : Int32))), .val (.int (Int32.ofNat n)), .val (.int (Int32.ofNat i)), .val (.int (Int32.ofNat (c i)))] []))
          refine Goes.step (fun _ hr_ => XS.iinc X3.here hx rfl (hb hby d_jdk_52_method_21_code_38) rfl (l' := #[.val (.ref a1), .val (.int ((Int32.ofNat i) + (1 : Int32))), .val (.ref a2), .val (.int ((Int32.ofNat i) + (1 : Int32))), .val (.int (Int32.ofNat n)), .val (.int ((Int32.ofNat i) + (1 : Int32))), .val (.int (Int32.ofNat (c i)))]) rfl hr_) ?_
          show Goes p ee below s _ _ _ (T3.setTop (mkF m 41 #[.val (.ref a1), .val (.int ((Int32.ofNat i) + (1 : Int32))), .val (.ref a2), .val (.int ((Int32.ofNat i) + (1 : Int32))), .val (.int (Int32.ofNat n)), .val (.int ((Int32.ofNat i) + (1 : Int32))), .val (.int (Int32.ofNat (c i)))] []))
          rw [show Int32.ofNat i + (1 : Int32) = Int32.ofNat (i + 1) from own_addN i 1]
          show Goes p ee below s _ _ _ (T3.setTop (mkF m 41 #[.val (.ref a1), .val (.int (Int32.ofNat (i + 1))), .val (.ref a2), .val (.int (Int32.ofNat (i + 1))), .val (.int (Int32.ofNat n)), .val (.int (Int32.ofNat (i + 1))), .val (.int (Int32.ofNat (c i)))] []))
          refine Goes.step (fun _ hr_ => XS.goto X3.here hx rfl (pc0 := 41) (pc' := 3) rfl (hb hby d_jdk_52_method_21_code_41) (by decide) (by decide) hr_) ?_
          show Goes p ee below s _ _ _ (T3.setTop (mkF m 3 #[.val (.ref a1), .val (.int (Int32.ofNat (i + 1))), .val (.ref a2), .val (.int (Int32.ofNat (i + 1))), .val (.int (Int32.ofNat n)), .val (.int (Int32.ofNat (i + 1))), .val (.int (Int32.ofNat (c i)))] []))
          exact ih (i + 1) _ _ _ _ (One.val rfl) X3 e3 N5 Zp4 K6 OO A (own_lat_next B) (fun j hj => by
            by_cases q : j = i
            · rw [q]; omega
            · exact hall j (by omega)) (by omega) (by omega) (by omega)
      · refine Goes.step (fun _ hr_ => XS.icmpYes X.here hx rfl (pc0 := 7) (pc' := 44) rfl (hb hby d_jdk_52_method_21_code_7) rfl (flt (fun z => hn7_1 ((own_ltN i n (by omega) (by omega)).mp z))).2.1 (by decide) (by decide) hr_) ?_
        show Goes p ee below s _ _ _ (T.setTop (mkF m 44 #[.val (.ref a1), .val (.int (Int32.ofNat i)), .val (.ref a2), .val (.int (Int32.ofNat i)), .val (.int (Int32.ofNat n)), .val (.int (Int32.ofNat i)), s6] []))
        refine Goes.step (fun _ hr_ => XS.iload X.here hx rfl (hb hby d_jdk_52_method_21_code_44) rfl  hr_) ?_
        show Goes p ee below s _ _ _ (T.setTop (mkF m 46 #[.val (.ref a1), .val (.int (Int32.ofNat i)), .val (.ref a2), .val (.int (Int32.ofNat i)), .val (.int (Int32.ofNat n)), .val (.int (Int32.ofNat i)), s6] [(.int (Int32.ofNat n))]))
        refine Goes.retI X hx Bd.notSynchronized Bd.returns (hb hby d_jdk_52_method_21_code_46) (by decide) (by decide) ?_
        rw [eT]
        exact ⟨N, K, Or.inl ⟨rfl, fun j hj => hall j (by omega), B.congr (fun j hj => if_pos (by omega))⟩⟩
  exact loop (n + 1) 0 _ _ _ _ One.u X0 e0 N0 Z0 K0 OO A (B.congr (fun j hj => (if_neg (by omega)).symm)) (fun j hj => by omega) (by omega) (by omega) (by omega)
theorem ef_cmp3 (m : MethodId) (x0 : Addr) (x1 : Int32) (x2 : Int32) : entryFrame m #[(.ref x0), (.int x1), (.int x2)] 6 = mkF m 0 #[.val (.ref x0), .val (.int x1), .val (.int x2), .unset, .unset, .unset] [] := by first | (simp [entryFrame, mkF, argsToLocals, Value.category]; done) | rfl
theorem d_jdk_52_method_16_code_0 : decode jdk_52_method_16_code 0 = .ok (.iload_n 2, 1) := by decide +kernel
theorem d_jdk_52_method_16_code_1 : decode jdk_52_method_16_code 1 = .ok (.newarray .byte, 2) := by decide +kernel
theorem d_jdk_52_method_16_code_3 : decode jdk_52_method_16_code 3 = .ok (.astore_n 3, 1) := by decide +kernel
theorem d_jdk_52_method_16_code_4 : decode jdk_52_method_16_code 4 = .ok (.aload_n 0, 1) := by decide +kernel
theorem d_jdk_52_method_16_code_5 : decode jdk_52_method_16_code 5 = .ok (.iload_n 1, 1) := by decide +kernel
theorem d_jdk_52_method_16_code_6 : decode jdk_52_method_16_code 6 = .ok (.aload_n 3, 1) := by decide +kernel
theorem d_jdk_52_method_16_code_7 : decode jdk_52_method_16_code 7 = .ok (.iconst 0, 1) := by decide +kernel
theorem d_jdk_52_method_16_code_8 : decode jdk_52_method_16_code 8 = .ok (.iload_n 2, 1) := by decide +kernel
theorem pd_10 : parseMethodDescriptor "([CI[BII)I" = some ⟨[(.array .char), .int, (.array .byte), .int, .int], some .int⟩ := by decide +kernel
theorem d_jdk_52_method_16_code_9 : decode jdk_52_method_16_code 9 = .ok (.invokestatic 115, 3) := by decide +kernel
theorem d_jdk_52_method_16_code_12 : decode jdk_52_method_16_code 12 = .ok (.istore 4, 2) := by decide +kernel
theorem d_jdk_52_method_16_code_14 : decode jdk_52_method_16_code 14 = .ok (.iload 4, 2) := by decide +kernel
theorem d_jdk_52_method_16_code_16 : decode jdk_52_method_16_code 16 = .ok (.iload_n 2, 1) := by decide +kernel
theorem d_jdk_52_method_16_code_17 : decode jdk_52_method_16_code 17 = .ok (.if_icmp .eq 40, 3) := by decide +kernel
theorem d_jdk_52_method_16_code_57 : decode jdk_52_method_16_code 57 = .ok (.aload_n 3, 1) := by decide +kernel
theorem d_jdk_52_method_16_code_58 : decode jdk_52_method_16_code 58 = .ok (.areturn, 1) := by decide +kernel
theorem d_jdk_52_method_16_code_20 : decode jdk_52_method_16_code 20 = .ok (.aload_n 0, 1) := by decide +kernel
theorem d_jdk_52_method_16_code_21 : decode jdk_52_method_16_code 21 = .ok (.iload_n 1, 1) := by decide +kernel
theorem d_jdk_52_method_16_code_22 : decode jdk_52_method_16_code 22 = .ok (.iload_n 2, 1) := by decide +kernel
theorem pd_11 : parseMethodDescriptor "([CII)[B" = some ⟨[(.array .char), .int, .int], some (.array .byte)⟩ := by decide +kernel
theorem d_jdk_52_method_16_code_23 : decode jdk_52_method_16_code 23 = .ok (.invokestatic 119, 3) := by decide +kernel
theorem d_jdk_52_method_16_code_26 : decode jdk_52_method_16_code 26 = .ok (.astore 5, 2) := by decide +kernel
theorem d_jdk_52_method_16_code_28 : decode jdk_52_method_16_code 28 = .ok (.aload 5, 2) := by decide +kernel
theorem d_jdk_52_method_16_code_30 : decode jdk_52_method_16_code 30 = .ok (.iload 4, 2) := by decide +kernel
theorem d_jdk_52_method_16_code_32 : decode jdk_52_method_16_code 32 = .ok (.invokestatic 71, 3) := by decide +kernel
theorem d_jdk_52_method_16_code_35 : decode jdk_52_method_16_code 35 = .ok (.sipush 255, 3) := by decide +kernel
theorem d_jdk_52_method_16_code_38 : decode jdk_52_method_16_code 38 = .ok (.if_icmp .gt 16, 3) := by decide +kernel
theorem d_jdk_52_method_16_code_54 : decode jdk_52_method_16_code 54 = .ok (.aload 5, 2) := by decide +kernel
theorem d_jdk_52_method_16_code_56 : decode jdk_52_method_16_code 56 = .ok (.areturn, 1) := by decide +kernel
def Q_cmp3 (Z : State) (cs : Int32) (fm : Value) (a1 : Addr) (n : Nat) (c : Nat → Nat) (h0 : Heap) (n0 : Nat) (v : Option Value) (h : Heap) (L : List Loc) : Prop := ∃ (b : Addr) (u : Bool), v = some (.ref b) ∧ Fr n0 L ∧ h0.size ≤ b ∧ Keep h0 h [] ∧ OA Z h b .byte (own_len u n) (own_by u c) ∧ (u = false → ∀ j, j < n → c j < 256) ∧ (u = true → ∃ j, j < n ∧ 255 < c j)
set_option maxRecDepth 65536 in
set_option maxHeartbeats 40000000 in
theorem rm_cmp3 (l : Launch) (Z : State) (a0 : Array Value) (hw : ∀ d ∈ tables_1, d.before a0 Z = true) (ws : List Jvm.Cond) (cs : Int32) (fm : Value) (a1 : Addr) (n : Nat) (c : Nat → Nat) (h0 : Heap) (n0 : Nat) (Z0 : n0 ≤ h0.size) (ST : own_ST Z cs fm) (OO : Old Z n0 h0) (hn0 : 0 < n) (hn : n ≤ 4) (hc : ∀ j, j < n → c j < 65536) (A : OA Z h0 a1 .char n (fun i => .int (Int32.ofNat (c i)))) :
    MetFree l (⟨"java/lang/StringUTF16", "compress", "([CII)[B"⟩ : MethodName) (head1 (Jvm.Cond.code (⟨"java/lang/StringUTF16", "compress", "([CII)[B"⟩ : MethodName) jdk_52_method_16_code 6 (some (.array .byte)) :: ws) ({ frames := 3, cells := 2, slots := 12, locals := 40 } : Room)) (fun a U => a = #[(.ref a1), (.int (0 : Int32)), (.int (Int32.ofNat n))] ∧ Z.Warmed39 U.vm ∧ U.heap = h0) (fun _ _ _ _ _ => True) (fun _ U o U' => ∃ v L, o = .returned v ∧ Q_cmp3 Z cs fm a1 n c h0 n0 v U'.heap L ∧ FrameEnd U o U' L ({ frames := 3, cells := 2, slots := 12, locals := 40 } : Room).cells ({ frames := 3, cells := 2, slots := 12, locals := 40 } : Room).slots) := by
  refine MetFree.of_bodySF (plainFor_of_name pn_java_lang_StringUTF16) hisR ?_
  intro p ee s m args below meth cc s₁ Bd hml0 hP hK
  obtain ⟨rfl, hZ, hh⟩ := hP
  have hx := Bd.exec
  have hby := Bd.bytes
  have hml : cc.maxLocals = 6 := hml0
  have hown : s.vm.findClass "java/lang/StringUTF16" = some m.cls := findClass_of_methodNamed Bd.named
  have hnm := (name_of_methodNamed Bd.named Bd.method).1
  have X0 : Stand p l ee ({ frames := 3, cells := 2, slots := 12, locals := 40 } : Room) s m #[(.ref a1), (.int (0 : Int32)), (.int (Int32.ofNat n))] below meth cc s₁ [] 0 0 := Stand.of_body Bd
  have e0 : s₁.heap = h0 := by rw [← hh, Bd.state]; rfl
  have N0 := Fr.nil n0
  show Goes p ee below s ({ frames := 3, cells := 2, slots := 12, locals := 40 } : Room).cells ({ frames := 3, cells := 2, slots := 12, locals := 40 } : Room).slots (Q_cmp3 Z cs fm a1 n c h0 n0) (s₁.setTop (entryFrame m #[(.ref a1), (.int (0 : Int32)), (.int (Int32.ofNat n))] 6))
  refine Goes.step (fun _ hr_ => castTop (ef_cmp3 m a1 (0 : Int32) (Int32.ofNat n)) hr_) ?_
  show Goes p ee below s _ _ _ (s₁.setTop (mkF m 0 #[.val (.ref a1), .val (.int (0 : Int32)), .val (.int (Int32.ofNat n)), .unset, .unset, .unset] []))
  have K0 := Keep.refl h0 ([] : List Addr)
  refine Goes.step (fun _ hr_ => XS.iloadN X0.here hx rfl (hb hby d_jdk_52_method_16_code_0) rfl  hr_) ?_
  show Goes p ee below s _ _ _ (s₁.setTop (mkF m 1 #[.val (.ref a1), .val (.int (0 : Int32)), .val (.int (Int32.ofNat n)), .unset, .unset, .unset] [(.int (Int32.ofNat n))]))
  obtain ⟨T1, h1, X1, e1, E1, A1, st1⟩ := own_newP X0 hx hZ (aty := .byte) (hw _ (List.mem_of_getElem? (i := 25) rfl)) e0 (z := (Int32.ofNat n)) (own_nneg n (by omega)) (n := n) (own_clamp n (by omega)) (cap := 4) hn (by decide) (by decide) (by decide) (g := (mkF m 1 #[.val (.ref a1), .val (.int (0 : Int32)), .val (.int (Int32.ofNat n)), .unset, .unset, .unset] [(.int (Int32.ofNat n))])) rfl rfl (hb hby d_jdk_52_method_16_code_1)
  obtain ⟨b1, g_b1⟩ : ∃ z, z = h0.size := ⟨_, rfl⟩
  have ne_a1_b1 : a1 ≠ b1 := Nat.ne_of_lt (Nat.lt_of_lt_of_le A.lt (Nat.le_of_eq g_b1.symm))
  have ge_b1 : n0 ≤ b1 := Nat.le_trans Z0 (Nat.le_of_eq g_b1.symm)
  have sz_b1 : h0.size ≤ b1 := Nat.le_trans K0.1 (Nat.le_of_eq g_b1.symm)
  rw [← g_b1] at A1 st1
  have A := A.ext E1
  have Zp2 := Nat.le_trans Z0 E1.1
  have OO := OO.ext E1
  have K3 := K0.ext E1
  refine Goes.step st1 ?_
  have A_b1 : OA Z h1 b1 .byte n (fun _ => (.int 0)) := A1
  show Goes p ee below s _ _ _ (T1.setTop (mkF m 3 #[.val (.ref a1), .val (.int (0 : Int32)), .val (.int (Int32.ofNat n)), .unset, .unset, .unset] [(.ref b1)]))
  refine Goes.step (fun _ hr_ => XS.astoreN X1.here hx rfl (hb hby d_jdk_52_method_16_code_3) rfl rfl (l' := #[.val (.ref a1), .val (.int (0 : Int32)), .val (.int (Int32.ofNat n)), .val (.ref b1), .unset, .unset]) rfl hr_) ?_
  show Goes p ee below s _ _ _ (T1.setTop (mkF m 4 #[.val (.ref a1), .val (.int (0 : Int32)), .val (.int (Int32.ofNat n)), .val (.ref b1), .unset, .unset] []))
  refine Goes.step (fun _ hr_ => XS.aloadN X1.here hx rfl (hb hby d_jdk_52_method_16_code_4) rfl rfl hr_) ?_
  show Goes p ee below s _ _ _ (T1.setTop (mkF m 5 #[.val (.ref a1), .val (.int (0 : Int32)), .val (.int (Int32.ofNat n)), .val (.ref b1), .unset, .unset] [(.ref a1)]))
  refine Goes.step (fun _ hr_ => XS.iloadN X1.here hx rfl (hb hby d_jdk_52_method_16_code_5) rfl  hr_) ?_
  show Goes p ee below s _ _ _ (T1.setTop (mkF m 6 #[.val (.ref a1), .val (.int (0 : Int32)), .val (.int (Int32.ofNat n)), .val (.ref b1), .unset, .unset] [(.int (0 : Int32)), (.ref a1)]))
  refine Goes.step (fun _ hr_ => XS.aloadN X1.here hx rfl (hb hby d_jdk_52_method_16_code_6) rfl rfl hr_) ?_
  show Goes p ee below s _ _ _ (T1.setTop (mkF m 7 #[.val (.ref a1), .val (.int (0 : Int32)), .val (.int (Int32.ofNat n)), .val (.ref b1), .unset, .unset] [(.ref b1), (.int (0 : Int32)), (.ref a1)]))
  refine Goes.step (fun _ hr_ => XS.iconst X1.here hx rfl (hb hby d_jdk_52_method_16_code_7) hr_) ?_
  show Goes p ee below s _ _ _ (T1.setTop (mkF m 8 #[.val (.ref a1), .val (.int (0 : Int32)), .val (.int (Int32.ofNat n)), .val (.ref b1), .unset, .unset] [(.int (0 : Int32)), (.ref b1), (.int (0 : Int32)), (.ref a1)]))
  refine Goes.step (fun _ hr_ => XS.iloadN X1.here hx rfl (hb hby d_jdk_52_method_16_code_8) rfl  hr_) ?_
  show Goes p ee below s _ _ _ (T1.setTop (mkF m 9 #[.val (.ref a1), .val (.int (0 : Int32)), .val (.int (Int32.ofNat n)), .val (.ref b1), .unset, .unset] [(.int (Int32.ofNat n)), (.int (0 : Int32)), (.ref b1), (.int (0 : Int32)), (.ref a1)]))
  have lt_a1 := A.lt
  have lt_b1 := A_b1.lt
  obtain ⟨v4, T4, L4, X4, hQ4, st4⟩ := own_callS X1 hx hZ (y := (⟨"java/lang/StringUTF16", "compress", "([CI[BII)I"⟩ : MethodName)) hown (hw _ (List.mem_of_getElem? (i := 26) rfl)) (hw _ (List.mem_of_getElem? (i := 27) rfl)) (hw _ (List.mem_of_getElem? (i := 23) rfl)) (hw _ (List.mem_of_getElem? (i := 28) rfl)) (by decide) (argsL := [(.ref a1), (.int (0 : Int32)), (.ref b1), (.int (0 : Int32)), (.int (Int32.ofNat n))]) (rm_cmp5 l Z a0 hw [] cs fm a1 b1 n c _ h1 n0 Zp2 ST OO hn hc ne_a1_b1 ge_b1 A A_b1) e1 (W := 0) (by decide) (by decide) (by decide) (by decide) (g := (mkF m 9 #[.val (.ref a1), .val (.int (0 : Int32)), .val (.int (Int32.ofNat n)), .val (.ref b1), .unset, .unset] [(.int (Int32.ofNat n)), (.int (0 : Int32)), (.ref b1), (.int (0 : Int32)), (.ref a1)])) rfl (by rw [hml]; rfl) (rest := []) (lenOf pd_10 rfl) rfl (by show 2 * 0 + _ ≤ _; exact Nat.le_of_eq rfl) (hb hby d_jdk_52_method_16_code_9)
  refine Goes.step st4 ?_
  obtain ⟨N4, Kc4, hv4⟩ := hQ4
  have N5 := Fr.app N0 N4
  obtain ⟨h4, e4⟩ : ∃ h', T4.heap = h' := ⟨_, rfl⟩
  rw [e4] at Kc4 hv4
  have A := A.keep Kc4 (ninS ne_a1_b1 nin0)
  have OO := OO.keep Kc4 (allS ge_b1 all0)
  have K6 := K3.trans Kc4 (allS (Or.inr sz_b1) all0)
  have Zp7 := Nat.le_trans Zp2 Kc4.1
  rcases hv4 with ⟨rfl, hall, A_b1⟩ | ⟨k, hk, rfl, hk255⟩
  · show Goes p ee below s _ _ _ (T4.setTop (mkF m 12 #[.val (.ref a1), .val (.int (0 : Int32)), .val (.int (Int32.ofNat n)), .val (.ref b1), .unset, .unset] [(.int (Int32.ofNat n))]))
    refine Goes.step (fun _ hr_ => XS.istore X4.here hx rfl (hb hby d_jdk_52_method_16_code_12) rfl  (l' := #[.val (.ref a1), .val (.int (0 : Int32)), .val (.int (Int32.ofNat n)), .val (.ref b1), .val (.int (Int32.ofNat n)), .unset]) rfl hr_) ?_
    show Goes p ee below s _ _ _ (T4.setTop (mkF m 14 #[.val (.ref a1), .val (.int (0 : Int32)), .val (.int (Int32.ofNat n)), .val (.ref b1), .val (.int (Int32.ofNat n)), .unset] []))
    refine Goes.step (fun _ hr_ => XS.iload X4.here hx rfl (hb hby d_jdk_52_method_16_code_14) rfl  hr_) ?_
    show Goes p ee below s _ _ _ (T4.setTop (mkF m 16 #[.val (.ref a1), .val (.int (0 : Int32)), .val (.int (Int32.ofNat n)), .val (.ref b1), .val (.int (Int32.ofNat n)), .unset] [(.int (Int32.ofNat n))]))
    refine Goes.step (fun _ hr_ => XS.iloadN X4.here hx rfl (hb hby d_jdk_52_method_16_code_16) rfl  hr_) ?_
    show Goes p ee below s _ _ _ (T4.setTop (mkF m 17 #[.val (.ref a1), .val (.int (0 : Int32)), .val (.int (Int32.ofNat n)), .val (.ref b1), .val (.int (Int32.ofNat n)), .unset] [(.int (Int32.ofNat n)), (.int (Int32.ofNat n))]))
    refine Goes.step (fun _ hr_ => XS.icmpYes X4.here hx rfl (pc0 := 17) (pc' := 57) rfl (hb hby d_jdk_52_method_16_code_17) rfl (teq rfl).1 (by decide) (by decide) hr_) ?_
    show Goes p ee below s _ _ _ (T4.setTop (mkF m 57 #[.val (.ref a1), .val (.int (0 : Int32)), .val (.int (Int32.ofNat n)), .val (.ref b1), .val (.int (Int32.ofNat n)), .unset] []))
    refine Goes.step (fun _ hr_ => XS.aloadN X4.here hx rfl (hb hby d_jdk_52_method_16_code_57) rfl rfl hr_) ?_
    show Goes p ee below s _ _ _ (T4.setTop (mkF m 58 #[.val (.ref a1), .val (.int (0 : Int32)), .val (.int (Int32.ofNat n)), .val (.ref b1), .val (.int (Int32.ofNat n)), .unset] [(.ref b1)]))
    refine Goes.retA X4 hx Bd.notSynchronized Bd.returns rfl rfl (hb hby d_jdk_52_method_16_code_58) (by decide) (by decide) ?_
    rw [e4]
    exact ⟨_, false, rfl, N5, sz_b1, K6, A_b1, fun _ => hall, nofun⟩
  · show Goes p ee below s _ _ _ (T4.setTop (mkF m 12 #[.val (.ref a1), .val (.int (0 : Int32)), .val (.int (Int32.ofNat n)), .val (.ref b1), .unset, .unset] [(.int (Int32.ofNat k))]))
    refine Goes.step (fun _ hr_ => XS.istore X4.here hx rfl (hb hby d_jdk_52_method_16_code_12) rfl  (l' := #[.val (.ref a1), .val (.int (0 : Int32)), .val (.int (Int32.ofNat n)), .val (.ref b1), .val (.int (Int32.ofNat k)), .unset]) rfl hr_) ?_
    show Goes p ee below s _ _ _ (T4.setTop (mkF m 14 #[.val (.ref a1), .val (.int (0 : Int32)), .val (.int (Int32.ofNat n)), .val (.ref b1), .val (.int (Int32.ofNat k)), .unset] []))
    refine Goes.step (fun _ hr_ => XS.iload X4.here hx rfl (hb hby d_jdk_52_method_16_code_14) rfl  hr_) ?_
    show Goes p ee below s _ _ _ (T4.setTop (mkF m 16 #[.val (.ref a1), .val (.int (0 : Int32)), .val (.int (Int32.ofNat n)), .val (.ref b1), .val (.int (Int32.ofNat k)), .unset] [(.int (Int32.ofNat k))]))
    refine Goes.step (fun _ hr_ => XS.iloadN X4.here hx rfl (hb hby d_jdk_52_method_16_code_16) rfl  hr_) ?_
    show Goes p ee below s _ _ _ (T4.setTop (mkF m 17 #[.val (.ref a1), .val (.int (0 : Int32)), .val (.int (Int32.ofNat n)), .val (.ref b1), .val (.int (Int32.ofNat k)), .unset] [(.int (Int32.ofNat n)), (.int (Int32.ofNat k))]))
    refine Goes.step (fun _ hr_ => XS.icmpNo X4.here hx rfl (hb hby d_jdk_52_method_16_code_17) rfl (feq (fun z => absurd ((own_eqN k n (by omega) (by omega)).mp z) (by omega))).1 hr_) ?_
    show Goes p ee below s _ _ _ (T4.setTop (mkF m 20 #[.val (.ref a1), .val (.int (0 : Int32)), .val (.int (Int32.ofNat n)), .val (.ref b1), .val (.int (Int32.ofNat k)), .unset] []))
    refine Goes.step (fun _ hr_ => XS.aloadN X4.here hx rfl (hb hby d_jdk_52_method_16_code_20) rfl rfl hr_) ?_
    show Goes p ee below s _ _ _ (T4.setTop (mkF m 21 #[.val (.ref a1), .val (.int (0 : Int32)), .val (.int (Int32.ofNat n)), .val (.ref b1), .val (.int (Int32.ofNat k)), .unset] [(.ref a1)]))
    refine Goes.step (fun _ hr_ => XS.iloadN X4.here hx rfl (hb hby d_jdk_52_method_16_code_21) rfl  hr_) ?_
    show Goes p ee below s _ _ _ (T4.setTop (mkF m 22 #[.val (.ref a1), .val (.int (0 : Int32)), .val (.int (Int32.ofNat n)), .val (.ref b1), .val (.int (Int32.ofNat k)), .unset] [(.int (0 : Int32)), (.ref a1)]))
    refine Goes.step (fun _ hr_ => XS.iloadN X4.here hx rfl (hb hby d_jdk_52_method_16_code_22) rfl  hr_) ?_
    show Goes p ee below s _ _ _ (T4.setTop (mkF m 23 #[.val (.ref a1), .val (.int (0 : Int32)), .val (.int (Int32.ofNat n)), .val (.ref b1), .val (.int (Int32.ofNat k)), .unset] [(.int (Int32.ofNat n)), (.int (0 : Int32)), (.ref a1)]))
    have lt_a1 := A.lt
    obtain ⟨v8, T8, L8, X8, hQ8, st8⟩ := own_callS X4 hx hZ (y := (⟨"java/lang/StringUTF16", "toBytes", "([CII)[B"⟩ : MethodName)) hown (hw _ (List.mem_of_getElem? (i := 111) rfl)) (hw _ (List.mem_of_getElem? (i := 112) rfl)) (hw _ (List.mem_of_getElem? (i := 23) rfl)) (hw _ (List.mem_of_getElem? (i := 113) rfl)) (by decide) (argsL := [(.ref a1), (.int (0 : Int32)), (.int (Int32.ofNat n))]) (rm_tob l Z a0 hw [] cs fm a1 n c h4 n0 Zp7 ST OO hn hc A) e4 (W := 0) (by decide) (by decide) (by decide) (by decide) (g := (mkF m 23 #[.val (.ref a1), .val (.int (0 : Int32)), .val (.int (Int32.ofNat n)), .val (.ref b1), .val (.int (Int32.ofNat k)), .unset] [(.int (Int32.ofNat n)), (.int (0 : Int32)), (.ref a1)])) rfl (by rw [hml]; rfl) (rest := []) (lenOf pd_11 rfl) rfl (by show 2 * 0 + _ ≤ _; exact Nat.le_of_eq rfl) (hb hby d_jdk_52_method_16_code_23)
    refine Goes.step st8 ?_
    obtain ⟨b8, rfl, N8, sz8, Kc8, A_b8⟩ := hQ8
    have N9 := Fr.app N5 N8
    obtain ⟨h8, e8⟩ : ∃ h', T8.heap = h' := ⟨_, rfl⟩
    rw [e8] at Kc8 A_b8
    have A := A.keep Kc8 nin0
    have OO := OO.keep Kc8 all0
    have K10 := K6.trans Kc8 all0
    have Zp11 := Nat.le_trans Zp7 Kc8.1
    have ge_b8 : n0 ≤ b8 := Nat.le_trans Zp7 sz8
    have sz_b8 : h0.size ≤ b8 := Nat.le_trans K6.1 sz8
    have ne_a1_b8 : a1 ≠ b8 := Nat.ne_of_lt (Nat.lt_of_lt_of_le lt_a1 sz8)
    show Goes p ee below s _ _ _ (T8.setTop (mkF m 26 #[.val (.ref a1), .val (.int (0 : Int32)), .val (.int (Int32.ofNat n)), .val (.ref b1), .val (.int (Int32.ofNat k)), .unset] [(.ref b8)]))
    refine Goes.step (fun _ hr_ => XS.astore X8.here hx rfl (hb hby d_jdk_52_method_16_code_26) rfl rfl (l' := #[.val (.ref a1), .val (.int (0 : Int32)), .val (.int (Int32.ofNat n)), .val (.ref b1), .val (.int (Int32.ofNat k)), .val (.ref b8)]) rfl hr_) ?_
    show Goes p ee below s _ _ _ (T8.setTop (mkF m 28 #[.val (.ref a1), .val (.int (0 : Int32)), .val (.int (Int32.ofNat n)), .val (.ref b1), .val (.int (Int32.ofNat k)), .val (.ref b8)] []))
    refine Goes.step (fun _ hr_ => XS.aload X8.here hx rfl (hb hby d_jdk_52_method_16_code_28) rfl rfl hr_) ?_
    show Goes p ee below s _ _ _ (T8.setTop (mkF m 30 #[.val (.ref a1), .val (.int (0 : Int32)), .val (.int (Int32.ofNat n)), .val (.ref b1), .val (.int (Int32.ofNat k)), .val (.ref b8)] [(.ref b8)]))
    refine Goes.step (fun _ hr_ => XS.iload X8.here hx rfl (hb hby d_jdk_52_method_16_code_30) rfl  hr_) ?_
    show Goes p ee below s _ _ _ (T8.setTop (mkF m 32 #[.val (.ref a1), .val (.int (0 : Int32)), .val (.int (Int32.ofNat n)), .val (.ref b1), .val (.int (Int32.ofNat k)), .val (.ref b8)] [(.int (Int32.ofNat k)), (.ref b8)]))
    have lt_a1 := A.lt
    have lt_b8 := A_b8.lt
    obtain ⟨v12, T12, L12, X12, hQ12, st12⟩ := own_callS X8 hx hZ (y := (⟨"java/lang/StringUTF16", "getChar", "([BI)C"⟩ : MethodName)) hown (hw _ (List.mem_of_getElem? (i := 127) rfl)) (hw _ (List.mem_of_getElem? (i := 128) rfl)) (hw _ (List.mem_of_getElem? (i := 23) rfl)) (hw _ (List.mem_of_getElem? (i := 129) rfl)) (by decide) (argsL := [(.ref b8), (.int (Int32.ofNat k))]) (rm_getc l Z a0 hw [] cs fm b8 k n c h8 n0 Zp11 ST OO hk (by omega) (hc k hk) A_b8) e8 (W := 0) (by decide) (by decide) (by decide) (by decide) (g := (mkF m 32 #[.val (.ref a1), .val (.int (0 : Int32)), .val (.int (Int32.ofNat n)), .val (.ref b1), .val (.int (Int32.ofNat k)), .val (.ref b8)] [(.int (Int32.ofNat k)), (.ref b8)])) rfl (by rw [hml]; rfl) (rest := []) (lenOf pd_4 rfl) rfl (by show 2 * 0 + _ ≤ _; exact Nat.le_of_eq rfl) (hb hby d_jdk_52_method_16_code_32)
    refine Goes.step st12 ?_
    obtain ⟨rfl, N12, e12⟩ := hQ12
    have N13 := Fr.app N9 N12
    show Goes p ee below s _ _ _ (T12.setTop (mkF m 35 #[.val (.ref a1), .val (.int (0 : Int32)), .val (.int (Int32.ofNat n)), .val (.ref b1), .val (.int (Int32.ofNat k)), .val (.ref b8)] [(.int (Int32.ofNat (c k)))]))
    refine Goes.step (fun _ hr_ => XS.sipush X12.here hx rfl (hb hby d_jdk_52_method_16_code_35) hr_) ?_
    show Goes p ee below s _ _ _ (T12.setTop (mkF m 38 #[.val (.ref a1), .val (.int (0 : Int32)), .val (.int (Int32.ofNat n)), .val (.ref b1), .val (.int (Int32.ofNat k)), .val (.ref b8)] [(.int (255 : Int32)), (.int (Int32.ofNat (c k)))]))
    refine Goes.step (fun _ hr_ => XS.icmpYes X12.here hx rfl (pc0 := 38) (pc' := 54) rfl (hb hby d_jdk_52_method_16_code_38) rfl (tlt ((own_ltN 255 (c k) (by decide) (Nat.lt_trans (hc k hk) (by decide))).mpr hk255)).2.2.1 (by decide) (by decide) hr_) ?_
    show Goes p ee below s _ _ _ (T12.setTop (mkF m 54 #[.val (.ref a1), .val (.int (0 : Int32)), .val (.int (Int32.ofNat n)), .val (.ref b1), .val (.int (Int32.ofNat k)), .val (.ref b8)] []))
    refine Goes.step (fun _ hr_ => XS.aload X12.here hx rfl (hb hby d_jdk_52_method_16_code_54) rfl rfl hr_) ?_
    show Goes p ee below s _ _ _ (T12.setTop (mkF m 56 #[.val (.ref a1), .val (.int (0 : Int32)), .val (.int (Int32.ofNat n)), .val (.ref b1), .val (.int (Int32.ofNat k)), .val (.ref b8)] [(.ref b8)]))
    refine Goes.retA X12 hx Bd.notSynchronized Bd.returns rfl rfl (hb hby d_jdk_52_method_16_code_56) (by decide) (by decide) ?_
    rw [e12]
    exact ⟨_, true, rfl, N13, sz_b8, K10, A_b8, nofun, fun _ => ⟨k, hk, hk255⟩⟩
theorem ef_cfa (m : MethodId) (x0 : Addr) (x1 : Int32) : entryFrame m #[(.ref x0), (.int x1)] 2 = mkF m 0 #[.val (.ref x0), .val (.int x1)] [] := by first | (simp [entryFrame, mkF, argsToLocals, Value.category]; done) | rfl
theorem d_jdk_52_method_15_code_0 : decode jdk_52_method_15_code 0 = .ok (.iload_n 1, 1) := by decide +kernel
theorem d_jdk_52_method_15_code_1 : decode jdk_52_method_15_code 1 = .ok (.aload_n 0, 1) := by decide +kernel
theorem d_jdk_52_method_15_code_2 : decode jdk_52_method_15_code 2 = .ok (.arraylength, 1) := by decide +kernel
theorem d_jdk_52_method_15_code_3 : decode jdk_52_method_15_code 3 = .ok (.isub, 1) := by decide +kernel
theorem d_jdk_52_method_15_code_4 : decode jdk_52_method_15_code 4 = .ok (.bipush 31, 2) := by decide +kernel
theorem d_jdk_52_method_15_code_6 : decode jdk_52_method_15_code 6 = .ok (.iushr, 1) := by decide +kernel
theorem d_jdk_52_method_15_code_7 : decode jdk_52_method_15_code 7 = .ok (.i2b, 1) := by decide +kernel
theorem d_jdk_52_method_15_code_8 : decode jdk_52_method_15_code 8 = .ok (.ireturn, 1) := by decide +kernel
def Q_cfa (Z : State) (cs : Int32) (fm : Value) (a1 : Addr) (n : Nat) (u : Bool) (f : Nat → Value) (h0 : Heap) (n0 : Nat) (v : Option Value) (h : Heap) (L : List Loc) : Prop := v = some (.int (own_cd u)) ∧ Fr n0 L ∧ h = h0
set_option maxRecDepth 65536 in
set_option maxHeartbeats 40000000 in
theorem rm_cfa (l : Launch) (Z : State) (a0 : Array Value) (hw : ∀ d ∈ tables_1, d.before a0 Z = true) (ws : List Jvm.Cond) (cs : Int32) (fm : Value) (a1 : Addr) (n : Nat) (u : Bool) (f : Nat → Value) (h0 : Heap) (n0 : Nat) (Z0 : n0 ≤ h0.size) (ST : own_ST Z cs fm) (OO : Old Z n0 h0) (hn0 : 0 < n) (hn : n < 2 ^ 30) (A : OA Z h0 a1 .byte (own_len u n) f) :
    MetFree l (⟨"java/lang/StringUTF16", "coderFromArrayLen", "([BI)B"⟩ : MethodName) (head1 (Jvm.Cond.code (⟨"java/lang/StringUTF16", "coderFromArrayLen", "([BI)B"⟩ : MethodName) jdk_52_method_15_code 2 (some .byte) :: ws) ({ frames := 0, cells := 0, slots := 0, locals := 0 } : Room)) (fun a U => a = #[(.ref a1), (.int (Int32.ofNat n))] ∧ Z.Warmed39 U.vm ∧ U.heap = h0) (fun _ _ _ _ _ => True) (fun _ U o U' => ∃ v L, o = .returned v ∧ Q_cfa Z cs fm a1 n u f h0 n0 v U'.heap L ∧ FrameEnd U o U' L ({ frames := 0, cells := 0, slots := 0, locals := 0 } : Room).cells ({ frames := 0, cells := 0, slots := 0, locals := 0 } : Room).slots) := by
  refine MetFree.of_bodySF (plainFor_of_name pn_java_lang_StringUTF16) hisR ?_
  intro p ee s m args below meth cc s₁ Bd hml0 hP hK
  obtain ⟨rfl, hZ, hh⟩ := hP
  have hx := Bd.exec
  have hby := Bd.bytes
  have hml : cc.maxLocals = 2 := hml0
  have hown : s.vm.findClass "java/lang/StringUTF16" = some m.cls := findClass_of_methodNamed Bd.named
  have hnm := (name_of_methodNamed Bd.named Bd.method).1
  have X0 : Stand p l ee ({ frames := 0, cells := 0, slots := 0, locals := 0 } : Room) s m #[(.ref a1), (.int (Int32.ofNat n))] below meth cc s₁ [] 0 0 := Stand.of_body Bd
  have e0 : s₁.heap = h0 := by rw [← hh, Bd.state]; rfl
  have N0 := Fr.nil n0
  show Goes p ee below s ({ frames := 0, cells := 0, slots := 0, locals := 0 } : Room).cells ({ frames := 0, cells := 0, slots := 0, locals := 0 } : Room).slots (Q_cfa Z cs fm a1 n u f h0 n0) (s₁.setTop (entryFrame m #[(.ref a1), (.int (Int32.ofNat n))] 2))
  refine Goes.step (fun _ hr_ => castTop (ef_cfa m a1 (Int32.ofNat n)) hr_) ?_
  show Goes p ee below s _ _ _ (s₁.setTop (mkF m 0 #[.val (.ref a1), .val (.int (Int32.ofNat n))] []))
  cases u
  · have A : OA Z h0 a1 .byte n f := A
    show Goes p ee below s _ _ _ (s₁.setTop (mkF m 0 #[.val (.ref a1), .val (.int (Int32.ofNat n))] []))
    refine Goes.step (fun _ hr_ => XS.iloadN X0.here hx rfl (hb hby d_jdk_52_method_15_code_0) rfl  hr_) ?_
    show Goes p ee below s _ _ _ (s₁.setTop (mkF m 1 #[.val (.ref a1), .val (.int (Int32.ofNat n))] [(.int (Int32.ofNat n))]))
    refine Goes.step (fun _ hr_ => XS.aloadN X0.here hx rfl (hb hby d_jdk_52_method_15_code_1) rfl rfl hr_) ?_
    show Goes p ee below s _ _ _ (s₁.setTop (mkF m 2 #[.val (.ref a1), .val (.int (Int32.ofNat n))] [(.ref a1), (.int (Int32.ofNat n))]))
    refine Goes.step (own_alen X0 hx hZ e0 A (z := (Int32.ofNat n)) rfl (g := (mkF m 2 #[.val (.ref a1), .val (.int (Int32.ofNat n))] [(.ref a1), (.int (Int32.ofNat n))])) rfl rfl (hb hby d_jdk_52_method_15_code_2)) ?_
    show Goes p ee below s _ _ _ (s₁.setTop (mkF m 3 #[.val (.ref a1), .val (.int (Int32.ofNat n))] [(.int (Int32.ofNat n)), (.int (Int32.ofNat n))]))
    refine Goes.step (fun _ hr_ => XS.isub X0.here hx rfl (hb hby d_jdk_52_method_15_code_3) rfl hr_) ?_
    show Goes p ee below s _ _ _ (s₁.setTop (mkF m 4 #[.val (.ref a1), .val (.int (Int32.ofNat n))] [(.int ((Int32.ofNat n) - (Int32.ofNat n)))]))
    refine Goes.step (fun _ hr_ => XS.bipush X0.here hx rfl (hb hby d_jdk_52_method_15_code_4) hr_) ?_
    show Goes p ee below s _ _ _ (s₁.setTop (mkF m 6 #[.val (.ref a1), .val (.int (Int32.ofNat n))] [(.int (31 : Int32)), (.int ((Int32.ofNat n) - (Int32.ofNat n)))]))
    refine Goes.step (fun _ hr_ => XT.iushr X0.here hx rfl (hb hby d_jdk_52_method_15_code_6) rfl hr_) ?_
    show Goes p ee below s _ _ _ (s₁.setTop (mkF m 7 #[.val (.ref a1), .val (.int (Int32.ofNat n))] [(.int (XT.ushr ((Int32.ofNat n) - (Int32.ofNat n)) (31 : Int32)))]))
    refine Goes.step (fun _ hr_ => XT.i2b X0.here hx rfl (hb hby d_jdk_52_method_15_code_7) rfl hr_) ?_
    show Goes p ee below s _ _ _ (s₁.setTop (mkF m 8 #[.val (.ref a1), .val (.int (Int32.ofNat n))] [(.int (XT.ushr ((Int32.ofNat n) - (Int32.ofNat n)) (31 : Int32)).toInt8.toInt32)]))
    rw [own_cd0 n]
    show Goes p ee below s _ _ _ (s₁.setTop (mkF m 8 #[.val (.ref a1), .val (.int (Int32.ofNat n))] [(.int (0 : Int32))]))
    refine Goes.retZ X0 hx Bd.notSynchronized Bd.returns (by simp) rfl (hb hby d_jdk_52_method_15_code_8) (by decide) (by decide) ?_
    exact ⟨rfl, N0, e0⟩
  · have A : OA Z h0 a1 .byte (2 * n) f := A
    show Goes p ee below s _ _ _ (s₁.setTop (mkF m 0 #[.val (.ref a1), .val (.int (Int32.ofNat n))] []))
    refine Goes.step (fun _ hr_ => XS.iloadN X0.here hx rfl (hb hby d_jdk_52_method_15_code_0) rfl  hr_) ?_
    show Goes p ee below s _ _ _ (s₁.setTop (mkF m 1 #[.val (.ref a1), .val (.int (Int32.ofNat n))] [(.int (Int32.ofNat n))]))
    refine Goes.step (fun _ hr_ => XS.aloadN X0.here hx rfl (hb hby d_jdk_52_method_15_code_1) rfl rfl hr_) ?_
    show Goes p ee below s _ _ _ (s₁.setTop (mkF m 2 #[.val (.ref a1), .val (.int (Int32.ofNat n))] [(.ref a1), (.int (Int32.ofNat n))]))
    refine Goes.step (own_alen X0 hx hZ e0 A (z := (Int32.ofNat (2 * n))) rfl (g := (mkF m 2 #[.val (.ref a1), .val (.int (Int32.ofNat n))] [(.ref a1), (.int (Int32.ofNat n))])) rfl rfl (hb hby d_jdk_52_method_15_code_2)) ?_
    show Goes p ee below s _ _ _ (s₁.setTop (mkF m 3 #[.val (.ref a1), .val (.int (Int32.ofNat n))] [(.int (Int32.ofNat (2 * n))), (.int (Int32.ofNat n))]))
    refine Goes.step (fun _ hr_ => XS.isub X0.here hx rfl (hb hby d_jdk_52_method_15_code_3) rfl hr_) ?_
    show Goes p ee below s _ _ _ (s₁.setTop (mkF m 4 #[.val (.ref a1), .val (.int (Int32.ofNat n))] [(.int ((Int32.ofNat n) - (Int32.ofNat (2 * n))))]))
    refine Goes.step (fun _ hr_ => XS.bipush X0.here hx rfl (hb hby d_jdk_52_method_15_code_4) hr_) ?_
    show Goes p ee below s _ _ _ (s₁.setTop (mkF m 6 #[.val (.ref a1), .val (.int (Int32.ofNat n))] [(.int (31 : Int32)), (.int ((Int32.ofNat n) - (Int32.ofNat (2 * n))))]))
    refine Goes.step (fun _ hr_ => XT.iushr X0.here hx rfl (hb hby d_jdk_52_method_15_code_6) rfl hr_) ?_
    show Goes p ee below s _ _ _ (s₁.setTop (mkF m 7 #[.val (.ref a1), .val (.int (Int32.ofNat n))] [(.int (XT.ushr ((Int32.ofNat n) - (Int32.ofNat (2 * n))) (31 : Int32)))]))
    refine Goes.step (fun _ hr_ => XT.i2b X0.here hx rfl (hb hby d_jdk_52_method_15_code_7) rfl hr_) ?_
    show Goes p ee below s _ _ _ (s₁.setTop (mkF m 8 #[.val (.ref a1), .val (.int (Int32.ofNat n))] [(.int (XT.ushr ((Int32.ofNat n) - (Int32.ofNat (2 * n))) (31 : Int32)).toInt8.toInt32)]))
    rw [own_cd1 n hn0 hn]
    show Goes p ee below s _ _ _ (s₁.setTop (mkF m 8 #[.val (.ref a1), .val (.int (Int32.ofNat n))] [(.int (1 : Int32))]))
    refine Goes.retZ X0 hx Bd.notSynchronized Bd.returns (by simp) rfl (hb hby d_jdk_52_method_15_code_8) (by decide) (by decide) ?_
    exact ⟨rfl, N0, e0⟩
theorem ef_sin5 (m : MethodId) (x0 : Addr) (x1 : Addr) (x2 : Int32) (x3 : Int32) : entryFrame m #[(.ref x0), (.ref x1), (.int x2), (.int x3), .null] 6 = mkF m 0 #[.val (.ref x0), .val (.ref x1), .val (.int x2), .val (.int x3), .val .null, .unset] [] := by first | (simp [entryFrame, mkF, argsToLocals, Value.category]; done) | rfl
theorem d_jdk_42_method_149_code_0 : decode jdk_42_method_149_code 0 = .ok (.aload_n 0, 1) := by decide +kernel
theorem d_jdk_42_method_149_code_1 : decode jdk_42_method_149_code 1 = .ok (.invokespecial 1, 3) := by decide +kernel
theorem d_jdk_42_method_149_code_4 : decode jdk_42_method_149_code 4 = .ok (.iload_n 3, 1) := by decide +kernel
theorem d_jdk_42_method_149_code_5 : decode jdk_42_method_149_code 5 = .ok (.ifCond .ne 22, 3) := by decide +kernel
theorem d_jdk_42_method_149_code_27 : decode jdk_42_method_149_code 27 = .ok (.getstatic 38, 3) := by decide +kernel
theorem d_jdk_42_method_149_code_30 : decode jdk_42_method_149_code 30 = .ok (.ifCond .eq 28, 3) := by decide +kernel
theorem d_jdk_42_method_149_code_33 : decode jdk_42_method_149_code 33 = .ok (.aload_n 1, 1) := by decide +kernel
theorem d_jdk_42_method_149_code_34 : decode jdk_42_method_149_code 34 = .ok (.iload_n 2, 1) := by decide +kernel
theorem d_jdk_42_method_149_code_35 : decode jdk_42_method_149_code 35 = .ok (.iload_n 3, 1) := by decide +kernel
theorem d_jdk_42_method_149_code_36 : decode jdk_42_method_149_code 36 = .ok (.invokestatic 177, 3) := by decide +kernel
theorem d_jdk_42_method_149_code_39 : decode jdk_42_method_149_code 39 = .ok (.astore 5, 2) := by decide +kernel
theorem d_jdk_42_method_149_code_41 : decode jdk_42_method_149_code 41 = .ok (.aload_n 0, 1) := by decide +kernel
theorem d_jdk_42_method_149_code_42 : decode jdk_42_method_149_code 42 = .ok (.aload 5, 2) := by decide +kernel
theorem d_jdk_42_method_149_code_44 : decode jdk_42_method_149_code 44 = .ok (.iload_n 3, 1) := by decide +kernel
theorem pd_12 : parseMethodDescriptor "([BI)B" = some ⟨[(.array .byte), .int], some .byte⟩ := by decide +kernel
theorem d_jdk_42_method_149_code_45 : decode jdk_42_method_149_code 45 = .ok (.invokestatic 47, 3) := by decide +kernel
theorem d_jdk_42_method_149_code_48 : decode jdk_42_method_149_code 48 = .ok (.putfield 15, 3) := by decide +kernel
theorem d_jdk_42_method_149_code_51 : decode jdk_42_method_149_code 51 = .ok (.aload_n 0, 1) := by decide +kernel
theorem d_jdk_42_method_149_code_52 : decode jdk_42_method_149_code 52 = .ok (.aload 5, 2) := by decide +kernel
theorem d_jdk_42_method_149_code_54 : decode jdk_42_method_149_code 54 = .ok (.putfield 9, 3) := by decide +kernel
theorem d_jdk_42_method_149_code_57 : decode jdk_42_method_149_code 57 = .ok (.return_, 1) := by decide +kernel
def Q_sin5 (Z : State) (cs : Int32) (fm : Value) (a1 a2 : Addr) (n : Nat) (c : Nat → Nat) (uv uc : Value) (h0 : Heap) (n0 : Nat) (v : Option Value) (h : Heap) (L : List Loc) : Prop := v = none ∧ Fr n0 L ∧ Keep h0 h [a1] ∧ ∃ (b : Addr) (u : Bool), h0.size ≤ b ∧ Exa Z h a1 "java/lang/String" ∧ Fld Z h a1 "java/lang/String" "value" "[B" (.ref b) ∧ Fld Z h a1 "java/lang/String" "coder" "B" (.int (own_cd u)) ∧ OA Z h b .byte (own_len u n) (own_by u c) ∧ (u = false → ∀ j, j < n → c j < 256) ∧ (u = true → ∃ j, j < n ∧ 255 < c j)
set_option maxRecDepth 65536 in
set_option maxHeartbeats 40000000 in
theorem rm_sin5 (l : Launch) (Z : State) (a0 : Array Value) (hw : ∀ d ∈ tables_1, d.before a0 Z = true) (ws : List Jvm.Cond) (cs : Int32) (fm : Value) (a1 a2 : Addr) (n : Nat) (c : Nat → Nat) (uv uc : Value) (h0 : Heap) (n0 : Nat) (Z0 : n0 ≤ h0.size) (ST : own_ST Z cs fm) (OO : Old Z n0 h0) (hn0 : 0 < n) (hn : n ≤ 4) (hc : ∀ j, j < n → c j < 65536) (ge_a1 : n0 ≤ a1) (ne12 : a1 ≠ a2) (E : Exa Z h0 a1 "java/lang/String") (FV : Fld Z h0 a1 "java/lang/String" "value" "[B" uv) (FC : Fld Z h0 a1 "java/lang/String" "coder" "B" uc) (A : OA Z h0 a2 .char n (fun i => .int (Int32.ofNat (c i)))) :
    MetFree l (⟨"java/lang/String", "<init>", "([CIILjava/lang/Void;)V"⟩ : MethodName) (head1 (Jvm.Cond.code (⟨"java/lang/String", "<init>", "([CIILjava/lang/Void;)V"⟩ : MethodName) jdk_42_method_149_code 6 none :: ws) ({ frames := 4, cells := 2, slots := 12, locals := 57 } : Room)) (fun a U => a = #[(.ref a1), (.ref a2), (.int (0 : Int32)), (.int (Int32.ofNat n)), .null] ∧ Z.Warmed39 U.vm ∧ U.heap = h0) (fun _ _ _ _ _ => True) (fun _ U o U' => ∃ v L, o = .returned v ∧ Q_sin5 Z cs fm a1 a2 n c uv uc h0 n0 v U'.heap L ∧ FrameEnd U o U' L ({ frames := 4, cells := 2, slots := 12, locals := 57 } : Room).cells ({ frames := 4, cells := 2, slots := 12, locals := 57 } : Room).slots) := by
  refine MetFree.of_bodySF (plainFor_of_name pn_java_lang_String) hisR ?_
  intro p ee s m args below meth cc s₁ Bd hml0 hP hK
  obtain ⟨rfl, hZ, hh⟩ := hP
  have hx := Bd.exec
  have hby := Bd.bytes
  have hml : cc.maxLocals = 6 := hml0
  have hown : s.vm.findClass "java/lang/String" = some m.cls := findClass_of_methodNamed Bd.named
  have hnm := (name_of_methodNamed Bd.named Bd.method).1
  have X0 : Stand p l ee ({ frames := 4, cells := 2, slots := 12, locals := 57 } : Room) s m #[(.ref a1), (.ref a2), (.int (0 : Int32)), (.int (Int32.ofNat n)), .null] below meth cc s₁ [] 0 0 := Stand.of_body Bd
  have e0 : s₁.heap = h0 := by rw [← hh, Bd.state]; rfl
  have N0 := Fr.nil n0
  show Goes p ee below s ({ frames := 4, cells := 2, slots := 12, locals := 57 } : Room).cells ({ frames := 4, cells := 2, slots := 12, locals := 57 } : Room).slots (Q_sin5 Z cs fm a1 a2 n c uv uc h0 n0) (s₁.setTop (entryFrame m #[(.ref a1), (.ref a2), (.int (0 : Int32)), (.int (Int32.ofNat n)), .null] 6))
  refine Goes.step (fun _ hr_ => castTop (ef_sin5 m a1 a2 (0 : Int32) (Int32.ofNat n)) hr_) ?_
  show Goes p ee below s _ _ _ (s₁.setTop (mkF m 0 #[.val (.ref a1), .val (.ref a2), .val (.int (0 : Int32)), .val (.int (Int32.ofNat n)), .val .null, .unset] []))
  have K0 := Keep.refl h0 ([a1] : List Addr)
  refine Goes.step (fun _ hr_ => XS.aloadN X0.here hx rfl (hb hby d_jdk_42_method_149_code_0) rfl rfl hr_) ?_
  show Goes p ee below s _ _ _ (s₁.setTop (mkF m 1 #[.val (.ref a1), .val (.ref a2), .val (.int (0 : Int32)), .val (.int (Int32.ofNat n)), .val .null, .unset] [(.ref a1)]))
  obtain ⟨T1, X1, e1, st1⟩ := initO X0 hx hZ hown (hw _ (List.mem_of_getElem? (i := 17) rfl)) (hw _ (List.mem_of_getElem? (i := 18) rfl)) (hw _ (List.mem_of_getElem? (i := 19) rfl)) e0 (g := (mkF m 1 #[.val (.ref a1), .val (.ref a2), .val (.int (0 : Int32)), .val (.int (Int32.ofNat n)), .val .null, .unset] [(.ref a1)])) rfl (by rw [hml]; rfl) rfl (hb hby d_jdk_42_method_149_code_1) (by decide) (W := 0) (by show 2 * 0 + _ ≤ _; exact Nat.le_of_eq rfl) (by decide)
  refine Goes.step st1 ?_
  show Goes p ee below s _ _ _ (T1.setTop (mkF m 4 #[.val (.ref a1), .val (.ref a2), .val (.int (0 : Int32)), .val (.int (Int32.ofNat n)), .val .null, .unset] []))
  refine Goes.step (fun _ hr_ => XS.iloadN X1.here hx rfl (hb hby d_jdk_42_method_149_code_4) rfl  hr_) ?_
  show Goes p ee below s _ _ _ (T1.setTop (mkF m 5 #[.val (.ref a1), .val (.ref a2), .val (.int (0 : Int32)), .val (.int (Int32.ofNat n)), .val .null, .unset] [(.int (Int32.ofNat n))]))
  refine Goes.step (fun _ hr_ => XS.ifYes X1.here hx rfl (pc0 := 5) (pc' := 27) rfl (hb hby d_jdk_42_method_149_code_5) rfl ((if0 _ _).trans (feq (fun z => absurd ((own_eqN n 0 (by omega) (by decide)).mp z) (by omega))).2) (by decide) (by decide) hr_) ?_
  show Goes p ee below s _ _ _ (T1.setTop (mkF m 27 #[.val (.ref a1), .val (.ref a2), .val (.int (0 : Int32)), .val (.int (Int32.ofNat n)), .val .null, .unset] []))
  obtain ⟨T2, X2, e2, st2⟩ := getS X1 hx hZ (host := "") hown (hw _ (List.mem_of_getElem? (i := 20) rfl)) Via.refl e1 ((ST.1).ext OO.2) (g := (mkF m 27 #[.val (.ref a1), .val (.ref a2), .val (.int (0 : Int32)), .val (.int (Int32.ofNat n)), .val .null, .unset] [])) rfl (hb hby d_jdk_42_method_149_code_27)
  refine Goes.step st2 ?_
  show Goes p ee below s _ _ _ (T2.setTop (mkF m 30 #[.val (.ref a1), .val (.ref a2), .val (.int (0 : Int32)), .val (.int (Int32.ofNat n)), .val .null, .unset] [(.int cs)]))
  refine Goes.step (fun _ hr_ => XS.ifNo X2.here hx rfl (hb hby d_jdk_42_method_149_code_30) rfl ((if0 _ _).trans (feq (ST.2.1)).1) hr_) ?_
  show Goes p ee below s _ _ _ (T2.setTop (mkF m 33 #[.val (.ref a1), .val (.ref a2), .val (.int (0 : Int32)), .val (.int (Int32.ofNat n)), .val .null, .unset] []))
  refine Goes.step (fun _ hr_ => XS.aloadN X2.here hx rfl (hb hby d_jdk_42_method_149_code_33) rfl rfl hr_) ?_
  show Goes p ee below s _ _ _ (T2.setTop (mkF m 34 #[.val (.ref a1), .val (.ref a2), .val (.int (0 : Int32)), .val (.int (Int32.ofNat n)), .val .null, .unset] [(.ref a2)]))
  refine Goes.step (fun _ hr_ => XS.iloadN X2.here hx rfl (hb hby d_jdk_42_method_149_code_34) rfl  hr_) ?_
  show Goes p ee below s _ _ _ (T2.setTop (mkF m 35 #[.val (.ref a1), .val (.ref a2), .val (.int (0 : Int32)), .val (.int (Int32.ofNat n)), .val .null, .unset] [(.int (0 : Int32)), (.ref a2)]))
  refine Goes.step (fun _ hr_ => XS.iloadN X2.here hx rfl (hb hby d_jdk_42_method_149_code_35) rfl  hr_) ?_
  show Goes p ee below s _ _ _ (T2.setTop (mkF m 36 #[.val (.ref a1), .val (.ref a2), .val (.int (0 : Int32)), .val (.int (Int32.ofNat n)), .val .null, .unset] [(.int (Int32.ofNat n)), (.int (0 : Int32)), (.ref a2)]))
  have lt_a1 := E.lt
  have lt_a2 := A.lt
  obtain ⟨v3, T3, L3, X3, hQ3, st3⟩ := own_callS X2 hx hZ (y := (⟨"java/lang/StringUTF16", "compress", "([CII)[B"⟩ : MethodName)) hown (hw _ (List.mem_of_getElem? (i := 21) rfl)) (hw _ (List.mem_of_getElem? (i := 22) rfl)) (hw _ (List.mem_of_getElem? (i := 23) rfl)) (hw _ (List.mem_of_getElem? (i := 24) rfl)) (by decide) (argsL := [(.ref a2), (.int (0 : Int32)), (.int (Int32.ofNat n))]) (rm_cmp3 l Z a0 hw [] cs fm a2 n c h0 n0 Z0 ST OO hn0 hn hc A) e2 (W := 0) (by decide) (by decide) (by decide) (by decide) (g := (mkF m 36 #[.val (.ref a1), .val (.ref a2), .val (.int (0 : Int32)), .val (.int (Int32.ofNat n)), .val .null, .unset] [(.int (Int32.ofNat n)), (.int (0 : Int32)), (.ref a2)])) rfl (by rw [hml]; rfl) (rest := []) (lenOf pd_11 rfl) rfl (by show 2 * 0 + _ ≤ _; exact Nat.le_of_eq rfl) (hb hby d_jdk_42_method_149_code_36)
  refine Goes.step st3 ?_
  obtain ⟨b3, u, rfl, N3, sz3, Kc3, A_b3, hlu, hlu2⟩ := hQ3
  have N4 := Fr.app N0 N3
  obtain ⟨h3, e3⟩ : ∃ h', T3.heap = h' := ⟨_, rfl⟩
  rw [e3] at Kc3 A_b3
  have E := E.keep Kc3
  have FV := FV.keep Kc3 nin0
  have FC := FC.keep Kc3 nin0
  have A := A.keep Kc3 nin0
  have OO := OO.keep Kc3 all0
  have K5 := K0.trans Kc3 all0
  have Zp6 := Nat.le_trans Z0 Kc3.1
  have ge_b3 : n0 ≤ b3 := Nat.le_trans Z0 sz3
  have sz_b3 : h0.size ≤ b3 := Nat.le_trans K0.1 sz3
  have ne_a1_b3 : a1 ≠ b3 := Nat.ne_of_lt (Nat.lt_of_lt_of_le lt_a1 sz3)
  have ne_a2_b3 : a2 ≠ b3 := Nat.ne_of_lt (Nat.lt_of_lt_of_le lt_a2 sz3)
  show Goes p ee below s _ _ _ (T3.setTop (mkF m 39 #[.val (.ref a1), .val (.ref a2), .val (.int (0 : Int32)), .val (.int (Int32.ofNat n)), .val .null, .unset] [(.ref b3)]))
  refine Goes.step (fun _ hr_ => XS.astore X3.here hx rfl (hb hby d_jdk_42_method_149_code_39) rfl rfl (l' := #[.val (.ref a1), .val (.ref a2), .val (.int (0 : Int32)), .val (.int (Int32.ofNat n)), .val .null, .val (.ref b3)]) rfl hr_) ?_
  show Goes p ee below s _ _ _ (T3.setTop (mkF m 41 #[.val (.ref a1), .val (.ref a2), .val (.int (0 : Int32)), .val (.int (Int32.ofNat n)), .val .null, .val (.ref b3)] []))
  refine Goes.step (fun _ hr_ => XS.aloadN X3.here hx rfl (hb hby d_jdk_42_method_149_code_41) rfl rfl hr_) ?_
  show Goes p ee below s _ _ _ (T3.setTop (mkF m 42 #[.val (.ref a1), .val (.ref a2), .val (.int (0 : Int32)), .val (.int (Int32.ofNat n)), .val .null, .val (.ref b3)] [(.ref a1)]))
  refine Goes.step (fun _ hr_ => XS.aload X3.here hx rfl (hb hby d_jdk_42_method_149_code_42) rfl rfl hr_) ?_
  show Goes p ee below s _ _ _ (T3.setTop (mkF m 44 #[.val (.ref a1), .val (.ref a2), .val (.int (0 : Int32)), .val (.int (Int32.ofNat n)), .val .null, .val (.ref b3)] [(.ref b3), (.ref a1)]))
  refine Goes.step (fun _ hr_ => XS.iloadN X3.here hx rfl (hb hby d_jdk_42_method_149_code_44) rfl  hr_) ?_
  show Goes p ee below s _ _ _ (T3.setTop (mkF m 45 #[.val (.ref a1), .val (.ref a2), .val (.int (0 : Int32)), .val (.int (Int32.ofNat n)), .val .null, .val (.ref b3)] [(.int (Int32.ofNat n)), (.ref b3), (.ref a1)]))
  have lt_a1 := E.lt
  have lt_a2 := A.lt
  have lt_b3 := A_b3.lt
  obtain ⟨v7, T7, L7, X7, hQ7, st7⟩ := own_callS X3 hx hZ (y := (⟨"java/lang/StringUTF16", "coderFromArrayLen", "([BI)B"⟩ : MethodName)) hown (hw _ (List.mem_of_getElem? (i := 29) rfl)) (hw _ (List.mem_of_getElem? (i := 30) rfl)) (hw _ (List.mem_of_getElem? (i := 23) rfl)) (hw _ (List.mem_of_getElem? (i := 31) rfl)) (by decide) (argsL := [(.ref b3), (.int (Int32.ofNat n))]) (rm_cfa l Z a0 hw [] cs fm b3 n u _ h3 n0 Zp6 ST OO hn0 (by omega) A_b3) e3 (W := 1) (by decide) (by decide) (by decide) (by decide) (g := (mkF m 45 #[.val (.ref a1), .val (.ref a2), .val (.int (0 : Int32)), .val (.int (Int32.ofNat n)), .val .null, .val (.ref b3)] [(.int (Int32.ofNat n)), (.ref b3), (.ref a1)])) rfl (by rw [hml]; rfl) (rest := [(.ref a1)]) (lenOf pd_12 rfl) rfl (by show 2 * 0 + _ ≤ _; exact Nat.le_of_eq rfl) (hb hby d_jdk_42_method_149_code_45)
  refine Goes.step st7 ?_
  obtain ⟨rfl, N7, e7⟩ := hQ7
  have N8 := Fr.app N4 N7
  show Goes p ee below s _ _ _ (T7.setTop (mkF m 48 #[.val (.ref a1), .val (.ref a2), .val (.int (0 : Int32)), .val (.int (Int32.ofNat n)), .val .null, .val (.ref b3)] [(.int (own_cd u)), (.ref a1)]))
  obtain ⟨T9, h9, X9, e9, W9, st9⟩ := putFN X7 hx hZ hown (hw _ (List.mem_of_getElem? (i := 32) rfl)) Via.refl e7 FC E (Or.inr ⟨(hw _ (List.mem_of_getElem? (i := 33) rfl)), rfl, hnm⟩) (hw _ (List.mem_of_getElem? (i := 7) rfl)) (ty := .byte) (v' := (.int (own_cd u))) (by decide) (own_cd_byte u).1 (own_cd_byte u).2 (g := (mkF m 48 #[.val (.ref a1), .val (.ref a2), .val (.int (0 : Int32)), .val (.int (Int32.ofNat n)), .val .null, .val (.ref b3)] [(.int (own_cd u)), (.ref a1)])) rfl rfl (hb hby d_jdk_42_method_149_code_48)
  refine Goes.step st9 ?_
  have E := E.wr W9
  have FV := FV.other W9 (Or.inr (slot_ne (Or.inr (hw _ (List.mem_of_getElem? (i := 35) rfl))) (Or.inr (hw _ (List.mem_of_getElem? (i := 33) rfl))) (by decide) (t := (.array .byte)) (t' := .byte) (by decide) (by decide)))
  have A := A.other W9 (Ne.symm ne12)
  have A_b3 := A_b3.other W9 (Ne.symm ne_a1_b3)
  have Zp10 := Nat.le_trans Zp6 (Keep.of_wr W9).1
  have FC := FC.same W9
  have N11 := Fr.snoc X9 N8 ge_a1
  have OO := OO.wr W9 ge_a1
  have K12 := K5.wr W9 (Or.inl (List.mem_of_getElem? (i := 0) rfl))
  show Goes p ee below s _ _ _ (T9.setTop (mkF m 51 #[.val (.ref a1), .val (.ref a2), .val (.int (0 : Int32)), .val (.int (Int32.ofNat n)), .val .null, .val (.ref b3)] []))
  refine Goes.step (fun _ hr_ => XS.aloadN X9.here hx rfl (hb hby d_jdk_42_method_149_code_51) rfl rfl hr_) ?_
  show Goes p ee below s _ _ _ (T9.setTop (mkF m 52 #[.val (.ref a1), .val (.ref a2), .val (.int (0 : Int32)), .val (.int (Int32.ofNat n)), .val .null, .val (.ref b3)] [(.ref a1)]))
  refine Goes.step (fun _ hr_ => XS.aload X9.here hx rfl (hb hby d_jdk_42_method_149_code_52) rfl rfl hr_) ?_
  show Goes p ee below s _ _ _ (T9.setTop (mkF m 54 #[.val (.ref a1), .val (.ref a2), .val (.int (0 : Int32)), .val (.int (Int32.ofNat n)), .val .null, .val (.ref b3)] [(.ref b3), (.ref a1)]))
  obtain ⟨T13, h13, X13, e13, W13, st13⟩ := putF X9 hx hZ hown (host := "") (Or.inl (hw _ (List.mem_of_getElem? (i := 34) rfl))) Via.refl e9 FV E (Or.inr ⟨(hw _ (List.mem_of_getElem? (i := 35) rfl)), rfl, hnm⟩) (hw _ (List.mem_of_getElem? (i := 7) rfl)) (ty := (.array .byte)) (by decide) rfl rfl (g := (mkF m 54 #[.val (.ref a1), .val (.ref a2), .val (.int (0 : Int32)), .val (.int (Int32.ofNat n)), .val .null, .val (.ref b3)] [(.ref b3), (.ref a1)])) rfl rfl (hb hby d_jdk_42_method_149_code_54)
  refine Goes.step st13 ?_
  have E := E.wr W13
  have FC := FC.other W13 (Or.inr (slot_ne (Or.inr (hw _ (List.mem_of_getElem? (i := 33) rfl))) (Or.inr (hw _ (List.mem_of_getElem? (i := 35) rfl))) (by decide) (t := .byte) (t' := (.array .byte)) (by decide) (by decide)))
  have A := A.other W13 (Ne.symm ne12)
  have A_b3 := A_b3.other W13 (Ne.symm ne_a1_b3)
  have Zp14 := Nat.le_trans Zp10 (Keep.of_wr W13).1
  have FV := FV.same W13
  have N15 := Fr.snoc X13 N11 ge_a1
  have OO := OO.wr W13 ge_a1
  have K16 := K12.wr W13 (Or.inl (List.mem_of_getElem? (i := 0) rfl))
  show Goes p ee below s _ _ _ (T13.setTop (mkF m 57 #[.val (.ref a1), .val (.ref a2), .val (.int (0 : Int32)), .val (.int (Int32.ofNat n)), .val .null, .val (.ref b3)] []))
  refine Goes.retV X13 hx Bd.notSynchronized Bd.returns (hb hby d_jdk_42_method_149_code_57) (by decide) (by decide) ?_
  rw [e13]
  exact ⟨rfl, N15, K16, b3, u, sz_b3, E, FV, FC, A_b3, hlu, hlu2⟩
theorem ef_sin1 (m : MethodId) (x0 : Addr) (x1 : Addr) : entryFrame m #[(.ref x0), (.ref x1)] 2 = mkF m 0 #[.val (.ref x0), .val (.ref x1)] [] := by first | (simp [entryFrame, mkF, argsToLocals, Value.category]; done) | rfl
theorem d_jdk_42_method_3_code_0 : decode jdk_42_method_3_code 0 = .ok (.aload_n 0, 1) := by decide +kernel
theorem d_jdk_42_method_3_code_1 : decode jdk_42_method_3_code 1 = .ok (.aload_n 1, 1) := by decide +kernel
theorem d_jdk_42_method_3_code_2 : decode jdk_42_method_3_code 2 = .ok (.iconst 0, 1) := by decide +kernel
theorem d_jdk_42_method_3_code_3 : decode jdk_42_method_3_code 3 = .ok (.aload_n 1, 1) := by decide +kernel
theorem d_jdk_42_method_3_code_4 : decode jdk_42_method_3_code 4 = .ok (.arraylength, 1) := by decide +kernel
theorem d_jdk_42_method_3_code_5 : decode jdk_42_method_3_code 5 = .ok (.aconst_null, 1) := by decide +kernel
theorem pd_13 : parseMethodDescriptor "([CIILjava/lang/Void;)V" = some ⟨[(.array .char), .int, .int, (.object "java/lang/Void")], none⟩ := by decide +kernel
theorem d_jdk_42_method_3_code_6 : decode jdk_42_method_3_code 6 = .ok (.invokespecial 27, 3) := by decide +kernel
theorem d_jdk_42_method_3_code_9 : decode jdk_42_method_3_code 9 = .ok (.return_, 1) := by decide +kernel
def Q_sin1 (Z : State) (cs : Int32) (fm : Value) (a1 a2 : Addr) (n : Nat) (c : Nat → Nat) (uv uc : Value) (h0 : Heap) (n0 : Nat) (v : Option Value) (h : Heap) (L : List Loc) : Prop := v = none ∧ Fr n0 L ∧ Keep h0 h [a1] ∧ ∃ (b : Addr) (u : Bool), h0.size ≤ b ∧ Exa Z h a1 "java/lang/String" ∧ Fld Z h a1 "java/lang/String" "value" "[B" (.ref b) ∧ Fld Z h a1 "java/lang/String" "coder" "B" (.int (own_cd u)) ∧ OA Z h b .byte (own_len u n) (own_by u c) ∧ (u = false → ∀ j, j < n → c j < 256) ∧ (u = true → ∃ j, j < n ∧ 255 < c j)
set_option maxRecDepth 65536 in
set_option maxHeartbeats 40000000 in
theorem rm_sin1 (l : Launch) (Z : State) (a0 : Array Value) (hw : ∀ d ∈ tables_1, d.before a0 Z = true) (ws : List Jvm.Cond) (cs : Int32) (fm : Value) (a1 a2 : Addr) (n : Nat) (c : Nat → Nat) (uv uc : Value) (h0 : Heap) (n0 : Nat) (Z0 : n0 ≤ h0.size) (ST : own_ST Z cs fm) (OO : Old Z n0 h0) (hn0 : 0 < n) (hn : n ≤ 4) (hc : ∀ j, j < n → c j < 65536) (ge_a1 : n0 ≤ a1) (ne12 : a1 ≠ a2) (E : Exa Z h0 a1 "java/lang/String") (FV : Fld Z h0 a1 "java/lang/String" "value" "[B" uv) (FC : Fld Z h0 a1 "java/lang/String" "coder" "B" uc) (A : OA Z h0 a2 .char n (fun i => .int (Int32.ofNat (c i)))) :
    MetFree l (⟨"java/lang/String", "<init>", "([C)V"⟩ : MethodName) (head1 (Jvm.Cond.code (⟨"java/lang/String", "<init>", "([C)V"⟩ : MethodName) jdk_42_method_3_code 2 none :: ws) ({ frames := 5, cells := 2, slots := 12, locals := 74 } : Room)) (fun a U => a = #[(.ref a1), (.ref a2)] ∧ Z.Warmed39 U.vm ∧ U.heap = h0) (fun _ _ _ _ _ => True) (fun _ U o U' => ∃ v L, o = .returned v ∧ Q_sin1 Z cs fm a1 a2 n c uv uc h0 n0 v U'.heap L ∧ FrameEnd U o U' L ({ frames := 5, cells := 2, slots := 12, locals := 74 } : Room).cells ({ frames := 5, cells := 2, slots := 12, locals := 74 } : Room).slots) := by
  refine MetFree.of_bodySF (plainFor_of_name pn_java_lang_String) hisR ?_
  intro p ee s m args below meth cc s₁ Bd hml0 hP hK
  obtain ⟨rfl, hZ, hh⟩ := hP
  have hx := Bd.exec
  have hby := Bd.bytes
  have hml : cc.maxLocals = 2 := hml0
  have hown : s.vm.findClass "java/lang/String" = some m.cls := findClass_of_methodNamed Bd.named
  have hnm := (name_of_methodNamed Bd.named Bd.method).1
  have X0 : Stand p l ee ({ frames := 5, cells := 2, slots := 12, locals := 74 } : Room) s m #[(.ref a1), (.ref a2)] below meth cc s₁ [] 0 0 := Stand.of_body Bd
  have e0 : s₁.heap = h0 := by rw [← hh, Bd.state]; rfl
  have N0 := Fr.nil n0
  show Goes p ee below s ({ frames := 5, cells := 2, slots := 12, locals := 74 } : Room).cells ({ frames := 5, cells := 2, slots := 12, locals := 74 } : Room).slots (Q_sin1 Z cs fm a1 a2 n c uv uc h0 n0) (s₁.setTop (entryFrame m #[(.ref a1), (.ref a2)] 2))
  refine Goes.step (fun _ hr_ => castTop (ef_sin1 m a1 a2) hr_) ?_
  show Goes p ee below s _ _ _ (s₁.setTop (mkF m 0 #[.val (.ref a1), .val (.ref a2)] []))
  have K0 := Keep.refl h0 ([a1] : List Addr)
  refine Goes.step (fun _ hr_ => XS.aloadN X0.here hx rfl (hb hby d_jdk_42_method_3_code_0) rfl rfl hr_) ?_
  show Goes p ee below s _ _ _ (s₁.setTop (mkF m 1 #[.val (.ref a1), .val (.ref a2)] [(.ref a1)]))
  refine Goes.step (fun _ hr_ => XS.aloadN X0.here hx rfl (hb hby d_jdk_42_method_3_code_1) rfl rfl hr_) ?_
  show Goes p ee below s _ _ _ (s₁.setTop (mkF m 2 #[.val (.ref a1), .val (.ref a2)] [(.ref a2), (.ref a1)]))
  refine Goes.step (fun _ hr_ => XS.iconst X0.here hx rfl (hb hby d_jdk_42_method_3_code_2) hr_) ?_
  show Goes p ee below s _ _ _ (s₁.setTop (mkF m 3 #[.val (.ref a1), .val (.ref a2)] [(.int (0 : Int32)), (.ref a2), (.ref a1)]))
  refine Goes.step (fun _ hr_ => XS.aloadN X0.here hx rfl (hb hby d_jdk_42_method_3_code_3) rfl rfl hr_) ?_
  show Goes p ee below s _ _ _ (s₁.setTop (mkF m 4 #[.val (.ref a1), .val (.ref a2)] [(.ref a2), (.int (0 : Int32)), (.ref a2), (.ref a1)]))
  refine Goes.step (own_alen X0 hx hZ e0 A (z := (Int32.ofNat n)) rfl (g := (mkF m 4 #[.val (.ref a1), .val (.ref a2)] [(.ref a2), (.int (0 : Int32)), (.ref a2), (.ref a1)])) rfl rfl (hb hby d_jdk_42_method_3_code_4)) ?_
  show Goes p ee below s _ _ _ (s₁.setTop (mkF m 5 #[.val (.ref a1), .val (.ref a2)] [(.int (Int32.ofNat n)), (.int (0 : Int32)), (.ref a2), (.ref a1)]))
  refine Goes.step (fun _ hr_ => XS.aconstNull X0.here hx rfl (hb hby d_jdk_42_method_3_code_5) hr_) ?_
  show Goes p ee below s _ _ _ (s₁.setTop (mkF m 6 #[.val (.ref a1), .val (.ref a2)] [.null, (.int (Int32.ofNat n)), (.int (0 : Int32)), (.ref a2), (.ref a1)]))
  have lt_a1 := E.lt
  have lt_a2 := A.lt
  obtain ⟨v1, T1, L1, X1, hQ1, st1⟩ := own_callN X0 hx hZ (y := (⟨"java/lang/String", "<init>", "([CIILjava/lang/Void;)V"⟩ : MethodName)) rfl hown (hw _ (List.mem_of_getElem? (i := 13) rfl)) (hw _ (List.mem_of_getElem? (i := 14) rfl)) (hw _ (List.mem_of_getElem? (i := 8) rfl)) (hw _ (List.mem_of_getElem? (i := 16) rfl)) (by decide) (a := a1) (argsL := [(.ref a2), (.int (0 : Int32)), (.int (Int32.ofNat n)), .null]) (rm_sin5 l Z a0 hw [] cs fm a1 a2 n c uv uc h0 n0 Z0 ST OO hn0 hn hc ge_a1 ne12 E FV FC A) e0 (W := 0) (by decide) (by decide) (by decide) (by decide) (g := (mkF m 6 #[.val (.ref a1), .val (.ref a2)] [.null, (.int (Int32.ofNat n)), (.int (0 : Int32)), (.ref a2), (.ref a1)])) rfl (by rw [hml]; rfl) (rest := []) (lenOf pd_13 rfl) rfl (by show 2 * 0 + _ ≤ _; exact Nat.le_of_eq rfl) (hb hby d_jdk_42_method_3_code_6)
  refine Goes.step st1 ?_
  obtain ⟨rfl, N1, Kc1, b1, u, sz1, Ei1, Fv1, Fc1, A_b1, hlu, hlu2⟩ := hQ1
  have N2 := Fr.app N0 N1
  obtain ⟨h1, e1⟩ : ∃ h', T1.heap = h' := ⟨_, rfl⟩
  rw [e1] at Kc1 Ei1 Fv1 Fc1 A_b1
  have A := A.keep Kc1 (ninS (Ne.symm ne12) nin0)
  have OO := OO.keep Kc1 (allS ge_a1 all0)
  have K3 := K0.trans Kc1 (allS (Or.inl (List.mem_of_getElem? (i := 0) rfl)) all0)
  have Zp4 := Nat.le_trans Z0 Kc1.1
  have ge_b1 : n0 ≤ b1 := Nat.le_trans Z0 sz1
  have sz_b1 : h0.size ≤ b1 := Nat.le_trans K0.1 sz1
  have ne_a1_b1 : a1 ≠ b1 := Nat.ne_of_lt (Nat.lt_of_lt_of_le lt_a1 sz1)
  have ne_a2_b1 : a2 ≠ b1 := Nat.ne_of_lt (Nat.lt_of_lt_of_le lt_a2 sz1)
  show Goes p ee below s _ _ _ (T1.setTop (mkF m 9 #[.val (.ref a1), .val (.ref a2)] []))
  refine Goes.retV X1 hx Bd.notSynchronized Bd.returns (hb hby d_jdk_42_method_3_code_9) (by decide) (by decide) ?_
  rw [e1]
  exact ⟨rfl, N2, K3, b1, u, sz_b1, Ei1, Fv1, Fc1, A_b1, hlu, hlu2⟩
theorem ef_sin5w (m : MethodId) (x0 : Addr) (x1 : Addr) (x2 : Int32) (x3 : Int32) : entryFrame m #[(.ref x0), (.ref x1), (.int x2), (.int x3), .null] 6 = mkF m 0 #[.val (.ref x0), .val (.ref x1), .val (.int x2), .val (.int x3), .val .null, .unset] [] := by first | (simp [entryFrame, mkF, argsToLocals, Value.category]; done) | rfl
theorem d_jdk_42_method_149_code_8 : decode jdk_42_method_149_code 8 = .ok (.aload_n 0, 1) := by decide +kernel
theorem d_jdk_42_method_149_code_9 : decode jdk_42_method_149_code 9 = .ok (.ldc 7, 2) := by decide +kernel
theorem d_jdk_42_method_149_code_11 : decode jdk_42_method_149_code 11 = .ok (.getfield 9, 3) := by decide +kernel
theorem d_jdk_42_method_149_code_14 : decode jdk_42_method_149_code 14 = .ok (.putfield 9, 3) := by decide +kernel
theorem d_jdk_42_method_149_code_17 : decode jdk_42_method_149_code 17 = .ok (.aload_n 0, 1) := by decide +kernel
theorem d_jdk_42_method_149_code_18 : decode jdk_42_method_149_code 18 = .ok (.ldc 7, 2) := by decide +kernel
theorem d_jdk_42_method_149_code_20 : decode jdk_42_method_149_code 20 = .ok (.getfield 15, 3) := by decide +kernel
theorem d_jdk_42_method_149_code_23 : decode jdk_42_method_149_code 23 = .ok (.putfield 15, 3) := by decide +kernel
theorem d_jdk_42_method_149_code_26 : decode jdk_42_method_149_code 26 = .ok (.return_, 1) := by decide +kernel
def Q_sin5w (Z : State) (cs : Int32) (fm : Value) (a1 a2 : Addr) (uv uc : Value) (h0 : Heap) (n0 : Nat) (v : Option Value) (h : Heap) (L : List Loc) : Prop := v = none ∧ Fr n0 L ∧ Keep h0 h [a1] ∧ ∃ b : Addr, Exa Z h a1 "java/lang/String" ∧ Fld Z h a1 "java/lang/String" "value" "[B" (.ref b) ∧ Fld Z h a1 "java/lang/String" "coder" "B" (.int (own_cd false)) ∧ ∀ c, OA Z h b .byte (own_len false 0) (own_by false c)
set_option maxRecDepth 65536 in
set_option maxHeartbeats 40000000 in
theorem rm_sin5w (l : Launch) (Z : State) (a0 : Array Value) (hw : ∀ d ∈ tables_1, d.before a0 Z = true) (ws : List Jvm.Cond) (cs : Int32) (fm : Value) (a1 a2 : Addr) (uv uc : Value) (h0 : Heap) (n0 : Nat) (Z0 : n0 ≤ h0.size) (ST : own_ST Z cs fm) (OO : Old Z n0 h0) (ge_a1 : n0 ≤ a1) (E : Exa Z h0 a1 "java/lang/String") (FV : Fld Z h0 a1 "java/lang/String" "value" "[B" uv) (FC : Fld Z h0 a1 "java/lang/String" "coder" "B" uc) :
    MetFree l (⟨"java/lang/String", "<init>", "([CIILjava/lang/Void;)V"⟩ : MethodName) (head1 (Jvm.Cond.code (⟨"java/lang/String", "<init>", "([CIILjava/lang/Void;)V"⟩ : MethodName) jdk_42_method_149_code 6 none :: ws) ({ frames := 1, cells := 2, slots := 4, locals := 12 } : Room)) (fun a U => a = #[(.ref a1), (.ref a2), (.int (0 : Int32)), (.int (0 : Int32)), .null] ∧ Z.Warmed39 U.vm ∧ U.heap = h0 ∧ CHv Z consts_1 U.vm h0 ∧ ∀ x ∈ ([a1] : List Addr), Safe Z consts_1 U.vm h0 x) (fun _ _ _ _ _ => True) (fun _ U o U' => ∃ v L, o = .returned v ∧ Q_sin5w Z cs fm a1 a2 uv uc h0 n0 v U'.heap L ∧ CHr Z consts_1 U.vm U.heap U'.vm U'.heap ∧ ReturnedEndW U o U' L ({ frames := 1, cells := 2, slots := 4, locals := 12 } : Room).cells ({ frames := 1, cells := 2, slots := 4, locals := 12 } : Room).slots) := by
  refine MetFree.of_bodySF (plainFor_of_name pn_java_lang_String) hisR ?_
  intro p ee s m args below meth cc s₁ Bd hml0 hP hK
  obtain ⟨rfl, hZ, hh, H, hsf⟩ := hP
  have hx := Bd.exec
  have hby := Bd.bytes
  have hml : cc.maxLocals = 6 := hml0
  have hown : (s.setVm s.vm).vm.findClass "java/lang/String" = some m.cls := findClass_of_methodNamed Bd.named
  have hnm := (name_of_methodNamed Bd.named Bd.method).1
  have X0 : Stand p l ee ({ frames := 1, cells := 2, slots := 4, locals := 12 } : Room) (s.setVm s.vm) m #[(.ref a1), (.ref a2), (.int (0 : Int32)), (.int (0 : Int32)), .null] below meth cc s₁ [] 0 0 := Stand.of_body Bd
  have e0 : s₁.heap = h0 := by rw [← hh, Bd.state]; rfl
  have N0 := Fr.nil n0
  have hEL := own_EW hw
  have hZ : Z.Warmed39 (s.setVm s.vm).vm := hZ
  have C : Cold Z consts_1 s s.vm h0 := by rw [← hh]; exact Cold.start (by rw [hh]; exact H)
  have sf_a1 := hsf a1 (List.mem_of_getElem? (i := 0) rfl)
  show GoesW p ee below s ({ frames := 1, cells := 2, slots := 4, locals := 12 } : Room).cells ({ frames := 1, cells := 2, slots := 4, locals := 12 } : Room).slots Z consts_1 (Q_sin5w Z cs fm a1 a2 uv uc h0 n0) (s₁.setTop (entryFrame m #[(.ref a1), (.ref a2), (.int (0 : Int32)), (.int (0 : Int32)), .null] 6))
  refine GoesW.step (fun _ hr_ => castTop (ef_sin5w m a1 a2 (0 : Int32) (0 : Int32)) hr_) ?_
  show GoesW p ee below s _ _ _ _ _ (s₁.setTop (mkF m 0 #[.val (.ref a1), .val (.ref a2), .val (.int (0 : Int32)), .val (.int (0 : Int32)), .val .null, .unset] []))
  have K0 := Keep.refl h0 ([a1] : List Addr)
  refine GoesW.step (fun _ hr_ => XS.aloadN X0.here hx rfl (hb hby d_jdk_42_method_149_code_0) rfl rfl hr_) ?_
  show GoesW p ee below s _ _ _ _ _ (s₁.setTop (mkF m 1 #[.val (.ref a1), .val (.ref a2), .val (.int (0 : Int32)), .val (.int (0 : Int32)), .val .null, .unset] [(.ref a1)]))
  obtain ⟨T1, X1, e1, st1⟩ := initO X0 hx hZ hown (hw _ (List.mem_of_getElem? (i := 17) rfl)) (hw _ (List.mem_of_getElem? (i := 18) rfl)) (hw _ (List.mem_of_getElem? (i := 19) rfl)) e0 (g := (mkF m 1 #[.val (.ref a1), .val (.ref a2), .val (.int (0 : Int32)), .val (.int (0 : Int32)), .val .null, .unset] [(.ref a1)])) rfl (by rw [hml]; rfl) rfl (hb hby d_jdk_42_method_149_code_1) (by decide) (W := 0) (by show 2 * 0 + _ ≤ _; exact Nat.le_of_eq rfl) (by decide)
  refine GoesW.step st1 ?_
  show GoesW p ee below s _ _ _ _ _ (T1.setTop (mkF m 4 #[.val (.ref a1), .val (.ref a2), .val (.int (0 : Int32)), .val (.int (0 : Int32)), .val .null, .unset] []))
  refine GoesW.step (fun _ hr_ => XS.iloadN X1.here hx rfl (hb hby d_jdk_42_method_149_code_4) rfl  hr_) ?_
  show GoesW p ee below s _ _ _ _ _ (T1.setTop (mkF m 5 #[.val (.ref a1), .val (.ref a2), .val (.int (0 : Int32)), .val (.int (0 : Int32)), .val .null, .unset] [(.int (0 : Int32))]))
  refine GoesW.step (fun _ hr_ => XS.ifNo X1.here hx rfl (hb hby d_jdk_42_method_149_code_5) rfl ((if0 _ _).trans (teq rfl).2) hr_) ?_
  show GoesW p ee below s _ _ _ _ _ (T1.setTop (mkF m 8 #[.val (.ref a1), .val (.ref a2), .val (.int (0 : Int32)), .val (.int (0 : Int32)), .val .null, .unset] []))
  refine GoesW.step (fun _ hr_ => XS.aloadN X1.here hx rfl (hb hby d_jdk_42_method_149_code_8) rfl rfl hr_) ?_
  show GoesW p ee below s _ _ _ _ _ (T1.setTop (mkF m 9 #[.val (.ref a1), .val (.ref a2), .val (.int (0 : Int32)), .val (.int (0 : Int32)), .val .null, .unset] [(.ref a1)]))
  have lt_a1 := E.lt
  obtain ⟨la2, lb2, vm2, T2, h2, ⟨X2, Cn2, hZ, hown, hsaf2⟩, e2, E2, Ei2, Fv2, Fc2, A_lb2, Lit2, hlit2, st2⟩ := own_ldcW X1 hx hZ hEL C hown (hw _ (List.mem_of_getElem? (i := 93) rfl)) (own_wS hw) e1 (List.mem_of_getElem? (i := 0) rfl) (vs := []) (k := 0) ⟨by decide, by decide⟩ rfl (by decide) (g := (mkF m 9 #[.val (.ref a1), .val (.ref a2), .val (.int (0 : Int32)), .val (.int (0 : Int32)), .val .null, .unset] [(.ref a1)])) rfl (hb hby d_jdk_42_method_149_code_9) (n := 0) (by decide) (by decide) (by decide) (by decide)
  refine GoesW.step st2 ?_
  rw [e2] at Cn2 hsaf2
  have sf_a1 := hsaf2 a1 lt_a1 sf_a1
  have C := Cn2
  have E := E.ext E2
  have FV := FV.ext E2
  have FC := FC.ext E2
  have Zp3 := Nat.le_trans Z0 E2.1
  have OO := OO.ext E2
  have K4 := K0.ext E2
  have ne_a1_la2 := (hlit2 a1 sf_a1).1
  have ne_a1_lb2 := (hlit2 a1 sf_a1).2
  show GoesW p ee below s _ _ _ _ _ (T2.setTop (mkF m 11 #[.val (.ref a1), .val (.ref a2), .val (.int (0 : Int32)), .val (.int (0 : Int32)), .val .null, .unset] [(.ref la2), (.ref a1)]))
  obtain ⟨T5, X5, e5, st5⟩ := getF X2 hx hZ hown (host := "") (Or.inl (hw _ (List.mem_of_getElem? (i := 34) rfl))) Via.refl e2 Fv2 (g := (mkF m 11 #[.val (.ref a1), .val (.ref a2), .val (.int (0 : Int32)), .val (.int (0 : Int32)), .val .null, .unset] [(.ref la2), (.ref a1)])) rfl rfl (hb hby d_jdk_42_method_149_code_11)
  refine GoesW.step st5 ?_
  show GoesW p ee below s _ _ _ _ _ (T5.setTop (mkF m 14 #[.val (.ref a1), .val (.ref a2), .val (.int (0 : Int32)), .val (.int (0 : Int32)), .val .null, .unset] [(.ref lb2), (.ref a1)]))
  obtain ⟨T6, h6, X6, e6, W6, st6⟩ := putF X5 hx hZ hown (host := "") (Or.inl (hw _ (List.mem_of_getElem? (i := 34) rfl))) Via.refl e5 FV E (Or.inr ⟨(hw _ (List.mem_of_getElem? (i := 35) rfl)), rfl, hnm⟩) (hw _ (List.mem_of_getElem? (i := 7) rfl)) (ty := (.array .byte)) (by decide) rfl rfl (g := (mkF m 14 #[.val (.ref a1), .val (.ref a2), .val (.int (0 : Int32)), .val (.int (0 : Int32)), .val .null, .unset] [(.ref lb2), (.ref a1)])) rfl rfl (hb hby d_jdk_42_method_149_code_14)
  refine GoesW.step st6 ?_
  have E := E.wr W6
  have FC := FC.other W6 (Or.inr (slot_ne (Or.inr (hw _ (List.mem_of_getElem? (i := 33) rfl))) (Or.inr (hw _ (List.mem_of_getElem? (i := 35) rfl))) (by decide) (t := .byte) (t' := (.array .byte)) (by decide) (by decide)))
  have Ei2 := Ei2.wr W6
  have Fv2 := Fv2.other W6 (Or.inl (Ne.symm ne_a1_la2))
  have Fc2 := Fc2.other W6 (Or.inl (Ne.symm ne_a1_la2))
  have A_lb2 := A_lb2.other W6 (Ne.symm ne_a1_lb2)
  have Zp7 := Nat.le_trans Zp3 (Keep.of_wr W6).1
  have FV := FV.same W6
  have N8 := Fr.snoc X6 N0 ge_a1
  have sfw := sf_a1
  have sf_a1 := Safe.wr W6 sfw C.chv sf_a1
  have C := C.wr W6 sfw
  have OO := OO.wr W6 ge_a1
  have K9 := K4.wr W6 (Or.inl (List.mem_of_getElem? (i := 0) rfl))
  show GoesW p ee below s _ _ _ _ _ (T6.setTop (mkF m 17 #[.val (.ref a1), .val (.ref a2), .val (.int (0 : Int32)), .val (.int (0 : Int32)), .val .null, .unset] []))
  refine GoesW.step (fun _ hr_ => XS.aloadN X6.here hx rfl (hb hby d_jdk_42_method_149_code_17) rfl rfl hr_) ?_
  show GoesW p ee below s _ _ _ _ _ (T6.setTop (mkF m 18 #[.val (.ref a1), .val (.ref a2), .val (.int (0 : Int32)), .val (.int (0 : Int32)), .val .null, .unset] [(.ref a1)]))
  refine GoesW.step (own_ldcAgainW X6 hx hZ hown (hw _ (List.mem_of_getElem? (i := 93) rfl)) Lit2 (g := (mkF m 18 #[.val (.ref a1), .val (.ref a2), .val (.int (0 : Int32)), .val (.int (0 : Int32)), .val .null, .unset] [(.ref a1)])) rfl (hb hby d_jdk_42_method_149_code_18)) ?_
  show GoesW p ee below s _ _ _ _ _ (T6.setTop (mkF m 20 #[.val (.ref a1), .val (.ref a2), .val (.int (0 : Int32)), .val (.int (0 : Int32)), .val .null, .unset] [(.ref la2), (.ref a1)]))
  obtain ⟨T11, X11, e11, st11⟩ := getF X6 hx hZ hown (host := "") (Or.inl (hw _ (List.mem_of_getElem? (i := 32) rfl))) Via.refl e6 Fc2 (g := (mkF m 20 #[.val (.ref a1), .val (.ref a2), .val (.int (0 : Int32)), .val (.int (0 : Int32)), .val .null, .unset] [(.ref la2), (.ref a1)])) rfl rfl (hb hby d_jdk_42_method_149_code_20)
  refine GoesW.step st11 ?_
  show GoesW p ee below s _ _ _ _ _ (T11.setTop (mkF m 23 #[.val (.ref a1), .val (.ref a2), .val (.int (0 : Int32)), .val (.int (0 : Int32)), .val .null, .unset] [(.int (0 : Int32)), (.ref a1)]))
  obtain ⟨T12, h12, X12, e12, W12, st12⟩ := putFN X11 hx hZ hown (hw _ (List.mem_of_getElem? (i := 32) rfl)) Via.refl e11 FC E (Or.inr ⟨(hw _ (List.mem_of_getElem? (i := 33) rfl)), rfl, hnm⟩) (hw _ (List.mem_of_getElem? (i := 7) rfl)) (ty := .byte) (v' := (.int (0 : Int32))) (by decide) rfl rfl (g := (mkF m 23 #[.val (.ref a1), .val (.ref a2), .val (.int (0 : Int32)), .val (.int (0 : Int32)), .val .null, .unset] [(.int (0 : Int32)), (.ref a1)])) rfl rfl (hb hby d_jdk_42_method_149_code_23)
  refine GoesW.step st12 ?_
  have E := E.wr W12
  have FV := FV.other W12 (Or.inr (slot_ne (Or.inr (hw _ (List.mem_of_getElem? (i := 35) rfl))) (Or.inr (hw _ (List.mem_of_getElem? (i := 33) rfl))) (by decide) (t := (.array .byte)) (t' := .byte) (by decide) (by decide)))
  have Ei2 := Ei2.wr W12
  have Fv2 := Fv2.other W12 (Or.inl (Ne.symm ne_a1_la2))
  have Fc2 := Fc2.other W12 (Or.inl (Ne.symm ne_a1_la2))
  have A_lb2 := A_lb2.other W12 (Ne.symm ne_a1_lb2)
  have Zp13 := Nat.le_trans Zp7 (Keep.of_wr W12).1
  have FC := FC.same W12
  have N14 := Fr.snoc X12 N8 ge_a1
  have sfw := sf_a1
  have sf_a1 := Safe.wr W12 sfw C.chv sf_a1
  have C := C.wr W12 sfw
  have OO := OO.wr W12 ge_a1
  have K15 := K9.wr W12 (Or.inl (List.mem_of_getElem? (i := 0) rfl))
  show GoesW p ee below s _ _ _ _ _ (T12.setTop (mkF m 26 #[.val (.ref a1), .val (.ref a2), .val (.int (0 : Int32)), .val (.int (0 : Int32)), .val .null, .unset] []))
  refine GoesW.retV X12 hx hZ hEL C e12 Bd.notSynchronized Bd.returns (hb hby d_jdk_42_method_149_code_26) (by decide) (by decide) ?_
  rw [e12]
  exact ⟨rfl, N14, K15, lb2, E, FV, FC, fun c => A_lb2.congr (fun j hj => absurd hj (Nat.not_lt_zero j))⟩
theorem ef_sin1w (m : MethodId) (x0 : Addr) (x1 : Addr) : entryFrame m #[(.ref x0), (.ref x1)] 2 = mkF m 0 #[.val (.ref x0), .val (.ref x1)] [] := by first | (simp [entryFrame, mkF, argsToLocals, Value.category]; done) | rfl
def Q_sin1w (Z : State) (cs : Int32) (fm : Value) (a1 a2 : Addr) (uv uc : Value) (f : Nat → Value) (h0 : Heap) (n0 : Nat) (v : Option Value) (h : Heap) (L : List Loc) : Prop := v = none ∧ Fr n0 L ∧ Keep h0 h [a1] ∧ ∃ b : Addr, Exa Z h a1 "java/lang/String" ∧ Fld Z h a1 "java/lang/String" "value" "[B" (.ref b) ∧ Fld Z h a1 "java/lang/String" "coder" "B" (.int (own_cd false)) ∧ ∀ c, OA Z h b .byte (own_len false 0) (own_by false c)
set_option maxRecDepth 65536 in
set_option maxHeartbeats 40000000 in
theorem rm_sin1w (l : Launch) (Z : State) (a0 : Array Value) (hw : ∀ d ∈ tables_1, d.before a0 Z = true) (ws : List Jvm.Cond) (cs : Int32) (fm : Value) (a1 a2 : Addr) (uv uc : Value) (f : Nat → Value) (h0 : Heap) (n0 : Nat) (Z0 : n0 ≤ h0.size) (ST : own_ST Z cs fm) (OO : Old Z n0 h0) (ge_a1 : n0 ≤ a1) (ne12 : a1 ≠ a2) (E : Exa Z h0 a1 "java/lang/String") (FV : Fld Z h0 a1 "java/lang/String" "value" "[B" uv) (FC : Fld Z h0 a1 "java/lang/String" "coder" "B" uc) (A : OA Z h0 a2 .char 0 f) :
    MetFree l (⟨"java/lang/String", "<init>", "([C)V"⟩ : MethodName) (head1 (Jvm.Cond.code (⟨"java/lang/String", "<init>", "([C)V"⟩ : MethodName) jdk_42_method_3_code 2 none :: ws) ({ frames := 2, cells := 2, slots := 4, locals := 29 } : Room)) (fun a U => a = #[(.ref a1), (.ref a2)] ∧ Z.Warmed39 U.vm ∧ U.heap = h0 ∧ CHv Z consts_1 U.vm h0 ∧ ∀ x ∈ ([a1] : List Addr), Safe Z consts_1 U.vm h0 x) (fun _ _ _ _ _ => True) (fun _ U o U' => ∃ v L, o = .returned v ∧ Q_sin1w Z cs fm a1 a2 uv uc f h0 n0 v U'.heap L ∧ CHr Z consts_1 U.vm U.heap U'.vm U'.heap ∧ ReturnedEndW U o U' L ({ frames := 2, cells := 2, slots := 4, locals := 29 } : Room).cells ({ frames := 2, cells := 2, slots := 4, locals := 29 } : Room).slots) := by
  refine MetFree.of_bodySF (plainFor_of_name pn_java_lang_String) hisR ?_
  intro p ee s m args below meth cc s₁ Bd hml0 hP hK
  obtain ⟨rfl, hZ, hh, H, hsf⟩ := hP
  have hx := Bd.exec
  have hby := Bd.bytes
  have hml : cc.maxLocals = 2 := hml0
  have hown : (s.setVm s.vm).vm.findClass "java/lang/String" = some m.cls := findClass_of_methodNamed Bd.named
  have hnm := (name_of_methodNamed Bd.named Bd.method).1
  have X0 : Stand p l ee ({ frames := 2, cells := 2, slots := 4, locals := 29 } : Room) (s.setVm s.vm) m #[(.ref a1), (.ref a2)] below meth cc s₁ [] 0 0 := Stand.of_body Bd
  have e0 : s₁.heap = h0 := by rw [← hh, Bd.state]; rfl
  have N0 := Fr.nil n0
  have hEL := own_EW hw
  have hZ : Z.Warmed39 (s.setVm s.vm).vm := hZ
  have C : Cold Z consts_1 s s.vm h0 := by rw [← hh]; exact Cold.start (by rw [hh]; exact H)
  have sf_a1 := hsf a1 (List.mem_of_getElem? (i := 0) rfl)
  show GoesW p ee below s ({ frames := 2, cells := 2, slots := 4, locals := 29 } : Room).cells ({ frames := 2, cells := 2, slots := 4, locals := 29 } : Room).slots Z consts_1 (Q_sin1w Z cs fm a1 a2 uv uc f h0 n0) (s₁.setTop (entryFrame m #[(.ref a1), (.ref a2)] 2))
  refine GoesW.step (fun _ hr_ => castTop (ef_sin1w m a1 a2) hr_) ?_
  show GoesW p ee below s _ _ _ _ _ (s₁.setTop (mkF m 0 #[.val (.ref a1), .val (.ref a2)] []))
  have K0 := Keep.refl h0 ([a1] : List Addr)
  refine GoesW.step (fun _ hr_ => XS.aloadN X0.here hx rfl (hb hby d_jdk_42_method_3_code_0) rfl rfl hr_) ?_
  show GoesW p ee below s _ _ _ _ _ (s₁.setTop (mkF m 1 #[.val (.ref a1), .val (.ref a2)] [(.ref a1)]))
  refine GoesW.step (fun _ hr_ => XS.aloadN X0.here hx rfl (hb hby d_jdk_42_method_3_code_1) rfl rfl hr_) ?_
  show GoesW p ee below s _ _ _ _ _ (s₁.setTop (mkF m 2 #[.val (.ref a1), .val (.ref a2)] [(.ref a2), (.ref a1)]))
  refine GoesW.step (fun _ hr_ => XS.iconst X0.here hx rfl (hb hby d_jdk_42_method_3_code_2) hr_) ?_
  show GoesW p ee below s _ _ _ _ _ (s₁.setTop (mkF m 3 #[.val (.ref a1), .val (.ref a2)] [(.int (0 : Int32)), (.ref a2), (.ref a1)]))
  refine GoesW.step (fun _ hr_ => XS.aloadN X0.here hx rfl (hb hby d_jdk_42_method_3_code_3) rfl rfl hr_) ?_
  show GoesW p ee below s _ _ _ _ _ (s₁.setTop (mkF m 4 #[.val (.ref a1), .val (.ref a2)] [(.ref a2), (.int (0 : Int32)), (.ref a2), (.ref a1)]))
  refine GoesW.step (own_alen X0 hx hZ e0 A (z := (0 : Int32)) rfl (g := (mkF m 4 #[.val (.ref a1), .val (.ref a2)] [(.ref a2), (.int (0 : Int32)), (.ref a2), (.ref a1)])) rfl rfl (hb hby d_jdk_42_method_3_code_4)) ?_
  show GoesW p ee below s _ _ _ _ _ (s₁.setTop (mkF m 5 #[.val (.ref a1), .val (.ref a2)] [(.int (0 : Int32)), (.int (0 : Int32)), (.ref a2), (.ref a1)]))
  refine GoesW.step (fun _ hr_ => XS.aconstNull X0.here hx rfl (hb hby d_jdk_42_method_3_code_5) hr_) ?_
  show GoesW p ee below s _ _ _ _ _ (s₁.setTop (mkF m 6 #[.val (.ref a1), .val (.ref a2)] [.null, (.int (0 : Int32)), (.int (0 : Int32)), (.ref a2), (.ref a1)]))
  have lt_a1 := E.lt
  have lt_a2 := A.lt
  obtain ⟨v1, vm1, T1, L1, ⟨X1, Cn1, hZ, hown, hsaf1⟩, hQ1, st1⟩ := own_callNW X0 hx hZ hEL C (y := (⟨"java/lang/String", "<init>", "([CIILjava/lang/Void;)V"⟩ : MethodName)) rfl hown (hw _ (List.mem_of_getElem? (i := 13) rfl)) (hw _ (List.mem_of_getElem? (i := 14) rfl)) (hw _ (List.mem_of_getElem? (i := 8) rfl)) (hw _ (List.mem_of_getElem? (i := 16) rfl)) (by decide) (a := a1) (argsL := [(.ref a2), (.int (0 : Int32)), (.int (0 : Int32)), .null]) (ws := [a1]) (own_allS ⟨lt_a1, sf_a1⟩ (fun _ q => nomatch q)) (rm_sin5w l Z a0 hw [] cs fm a1 a2 _ _ h0 n0 Z0 ST OO ge_a1 E FV FC) e0 (W := 0) (by decide) (by decide) (by decide) (by decide) (g := (mkF m 6 #[.val (.ref a1), .val (.ref a2)] [.null, (.int (0 : Int32)), (.int (0 : Int32)), (.ref a2), (.ref a1)])) rfl (by rw [hml]; rfl) (rest := []) (lenOf pd_13 rfl) rfl (by show 2 * 0 + _ ≤ _; exact Nat.le_of_eq rfl) (hb hby d_jdk_42_method_3_code_6)
  refine GoesW.step st1 ?_
  obtain ⟨rfl, N1, Kc1, b1, Ei1, Fv1, Fc1, AE_b1⟩ := hQ1
  have N2 := Fr.app N0 N1
  obtain ⟨h1, e1⟩ : ∃ h', T1.heap = h' := ⟨_, rfl⟩
  rw [e1] at Kc1 Cn1 hsaf1 Ei1 Fv1 Fc1 AE_b1
  have sf_a1 := hsaf1 a1 lt_a1 sf_a1
  have C := Cn1
  have A := A.keep Kc1 (ninS (Ne.symm ne12) nin0)
  have OO := OO.keep Kc1 (allS ge_a1 all0)
  have K3 := K0.trans Kc1 (allS (Or.inl (List.mem_of_getElem? (i := 0) rfl)) all0)
  have Zp4 := Nat.le_trans Z0 Kc1.1
  have A_b1 := AE_b1 (fun _ => 0)
  show GoesW p ee below s _ _ _ _ _ (T1.setTop (mkF m 9 #[.val (.ref a1), .val (.ref a2)] []))
  refine GoesW.retV X1 hx hZ hEL C e1 Bd.notSynchronized Bd.returns (hb hby d_jdk_42_method_3_code_9) (by decide) (by decide) ?_
  rw [e1]
  exact ⟨rfl, N2, K3, b1, Ei1, Fv1, Fc1, AE_b1⟩
theorem own_or_nneg {a b : Int32} (ha : ¬ a < 0) (hb : ¬ b < 0) : ¬ (a ||| b) < 0 := by
  have z0 : (0 : Int32).toInt = 0 := rfl
  rw [Int32.lt_iff_toInt_lt, z0] at ha hb ⊢
  have h1 : a.toBitVec.msb = false := by rw [BitVec.msb_eq_toInt]; exact decide_eq_false ha
  have h2 : b.toBitVec.msb = false := by rw [BitVec.msb_eq_toInt]; exact decide_eq_false hb
  have h3 : (a ||| b).toBitVec.msb = false := by rw [Int32.toBitVec_or, BitVec.msb_or, h1, h2]; rfl
  rw [BitVec.msb_eq_toInt] at h3
  exact of_decide_eq_false h3
theorem own_OAlt {Z : State} {h : Heap} {a : Addr} {ty : FieldType} {n : Nat} {f : Nat → Value} (A : OA Z h a ty n f) : n < 2 ^ 31 := by
  obtain ⟨c, A, r1, r2, H⟩ := A
  exact r2
theorem own_by_shift (c : Nat → Nat) (i j : Nat) : own_by true c (2 * i + j) = own_by true (fun t => c (i + t)) j := by
  have h1 : (2 * i + j) % 2 = j % 2 := by omega
  have h2 : (2 * i + j) / 2 = i + j / 2 := by omega
  simp only [own_by, if_true, h1, h2]
theorem own_by_shift0 (c : Nat → Nat) (i j : Nat) : own_by false c (i + j) = own_by false (fun t => c (i + t)) j := by simp [own_by]
theorem own_OAzero {Z : State} {h : Heap} {b : Addr} {u : Bool} {n i j : Nat} {c : Nat → Nat} (h1 : i = 0) (h2 : j = n) (A : OA Z h b .byte (own_len u n) (own_by u c)) : OA Z h b .byte (own_len u (j - i)) (own_by u (fun t => c (i + t))) := by
  subst h1
  subst h2
  have e : (fun t => c (0 + t)) = c := funext fun t => by rw [Nat.zero_add]
  rw [e]
  exact A
theorem own_len_le (u : Bool) (n : Nat) : n ≤ own_len u n ∧ own_len u n ≤ 2 * n := by
  cases u
  · exact ⟨Nat.le_refl _, by show n ≤ 2 * n; omega⟩
  · exact ⟨by show n ≤ 2 * n; omega, Nat.le_refl _⟩
theorem ef_min (m : MethodId) (x0 : Int32) (x1 : Int32) : entryFrame m #[(.int x0), (.int x1)] 2 = mkF m 0 #[.val (.int x0), .val (.int x1)] [] := by first | (simp [entryFrame, mkF, argsToLocals, Value.category]; done) | rfl
theorem d_jdk_29_method_69_code_0 : decode jdk_29_method_69_code 0 = .ok (.iload_n 0, 1) := by decide +kernel
theorem d_jdk_29_method_69_code_1 : decode jdk_29_method_69_code 1 = .ok (.iload_n 1, 1) := by decide +kernel
theorem d_jdk_29_method_69_code_2 : decode jdk_29_method_69_code 2 = .ok (.if_icmp .gt 7, 3) := by decide +kernel
theorem d_jdk_29_method_69_code_9 : decode jdk_29_method_69_code 9 = .ok (.iload_n 1, 1) := by decide +kernel
theorem d_jdk_29_method_69_code_10 : decode jdk_29_method_69_code 10 = .ok (.ireturn, 1) := by decide +kernel
theorem d_jdk_29_method_69_code_5 : decode jdk_29_method_69_code 5 = .ok (.iload_n 0, 1) := by decide +kernel
theorem d_jdk_29_method_69_code_6 : decode jdk_29_method_69_code 6 = .ok (.goto 4, 3) := by decide +kernel
def Q_min (Z : State) (i j : Nat) (h0 : Heap) (n0 : Nat) (v : Option Value) (h : Heap) (L : List Loc) : Prop := v = some (.int (Int32.ofNat j)) ∧ Fr n0 L ∧ h = h0
set_option maxRecDepth 65536 in
set_option maxHeartbeats 40000000 in
theorem rm_min (l : Launch) (Z : State) (a0 : Array Value) (hw : ∀ d ∈ tables_1, d.before a0 Z = true) (ws : List Jvm.Cond) (i j : Nat) (h0 : Heap) (n0 : Nat) (Z0 : n0 ≤ h0.size) (hi : i < 2 ^ 31) (hij : j ≤ i) :
    MetFree l (⟨"java/lang/Math", "min", "(II)I"⟩ : MethodName) (head1 (Jvm.Cond.code (⟨"java/lang/Math", "min", "(II)I"⟩ : MethodName) jdk_29_method_69_code 2 (some .int) :: ws) ({ frames := 0, cells := 0, slots := 0, locals := 0 } : Room)) (fun a U => a = #[(.int (Int32.ofNat i)), (.int (Int32.ofNat j))] ∧ Z.Warmed39 U.vm ∧ U.heap = h0) (fun _ _ _ _ _ => True) (fun _ U o U' => ∃ v L, o = .returned v ∧ Q_min Z i j h0 n0 v U'.heap L ∧ FrameEnd U o U' L ({ frames := 0, cells := 0, slots := 0, locals := 0 } : Room).cells ({ frames := 0, cells := 0, slots := 0, locals := 0 } : Room).slots) := by
  refine MetFree.of_bodySF (Jvm.Free.JP.mathPlain rfl (by decide +kernel)) hisR ?_
  intro p ee s m args below meth cc s₁ Bd hml0 hP hK
  obtain ⟨rfl, hZ, hh⟩ := hP
  have hx := Bd.exec
  have hby := Bd.bytes
  have hml : cc.maxLocals = 2 := hml0
  have hown : s.vm.findClass "java/lang/Math" = some m.cls := findClass_of_methodNamed Bd.named
  have hnm := (name_of_methodNamed Bd.named Bd.method).1
  have X0 : Stand p l ee ({ frames := 0, cells := 0, slots := 0, locals := 0 } : Room) s m #[(.int (Int32.ofNat i)), (.int (Int32.ofNat j))] below meth cc s₁ [] 0 0 := Stand.of_body Bd
  have e0 : s₁.heap = h0 := by rw [← hh, Bd.state]; rfl
  have N0 := Fr.nil n0
  show Goes p ee below s ({ frames := 0, cells := 0, slots := 0, locals := 0 } : Room).cells ({ frames := 0, cells := 0, slots := 0, locals := 0 } : Room).slots (Q_min Z i j h0 n0) (s₁.setTop (entryFrame m #[(.int (Int32.ofNat i)), (.int (Int32.ofNat j))] 2))
  refine Goes.step (fun _ hr_ => castTop (ef_min m (Int32.ofNat i) (Int32.ofNat j)) hr_) ?_
  show Goes p ee below s _ _ _ (s₁.setTop (mkF m 0 #[.val (.int (Int32.ofNat i)), .val (.int (Int32.ofNat j))] []))
  refine Goes.step (fun _ hr_ => XS.iloadN X0.here hx rfl (hb hby d_jdk_29_method_69_code_0) rfl  hr_) ?_
  show Goes p ee below s _ _ _ (s₁.setTop (mkF m 1 #[.val (.int (Int32.ofNat i)), .val (.int (Int32.ofNat j))] [(.int (Int32.ofNat i))]))
  refine Goes.step (fun _ hr_ => XS.iloadN X0.here hx rfl (hb hby d_jdk_29_method_69_code_1) rfl  hr_) ?_
  show Goes p ee below s _ _ _ (s₁.setTop (mkF m 2 #[.val (.int (Int32.ofNat i)), .val (.int (Int32.ofNat j))] [(.int (Int32.ofNat j)), (.int (Int32.ofNat i))]))
  by_cases hn2_1 : j < i
  · refine Goes.step (fun _ hr_ => XS.icmpYes X0.here hx rfl (pc0 := 2) (pc' := 9) rfl (hb hby d_jdk_29_method_69_code_2) rfl (tlt ((own_ltN j i (by omega) hi).mpr hn2_1)).2.2.1 (by decide) (by decide) hr_) ?_
    show Goes p ee below s _ _ _ (s₁.setTop (mkF m 9 #[.val (.int (Int32.ofNat i)), .val (.int (Int32.ofNat j))] []))
    refine Goes.step (fun _ hr_ => XS.iloadN X0.here hx rfl (hb hby d_jdk_29_method_69_code_9) rfl  hr_) ?_
    show Goes p ee below s _ _ _ (s₁.setTop (mkF m 10 #[.val (.int (Int32.ofNat i)), .val (.int (Int32.ofNat j))] [(.int (Int32.ofNat j))]))
    refine Goes.retI X0 hx Bd.notSynchronized Bd.returns (hb hby d_jdk_29_method_69_code_10) (by decide) (by decide) ?_
    exact ⟨rfl, N0, e0⟩
  · refine Goes.step (fun _ hr_ => XS.icmpNo X0.here hx rfl (hb hby d_jdk_29_method_69_code_2) rfl (flt (fun z => hn2_1 ((own_ltN j i (by omega) hi).mp z))).2.2.1 hr_) ?_
    show Goes p ee below s _ _ _ (s₁.setTop (mkF m 5 #[.val (.int (Int32.ofNat i)), .val (.int (Int32.ofNat j))] []))
    refine Goes.step (fun _ hr_ => XS.iloadN X0.here hx rfl (hb hby d_jdk_29_method_69_code_5) rfl  hr_) ?_
    show Goes p ee below s _ _ _ (s₁.setTop (mkF m 6 #[.val (.int (Int32.ofNat i)), .val (.int (Int32.ofNat j))] [(.int (Int32.ofNat i))]))
    refine Goes.step (fun _ hr_ => XS.goto X0.here hx rfl (pc0 := 6) (pc' := 10) rfl (hb hby d_jdk_29_method_69_code_6) (by decide) (by decide) hr_) ?_
    show Goes p ee below s _ _ _ (s₁.setTop (mkF m 10 #[.val (.int (Int32.ofNat i)), .val (.int (Int32.ofNat j))] [(.int (Int32.ofNat i))]))
    refine Goes.retI X0 hx Bd.notSynchronized Bd.returns (hb hby d_jdk_29_method_69_code_10) (by decide) (by decide) ?_
    exact ⟨by rw [show i = j by omega], N0, e0⟩
theorem ef_ckl (m : MethodId) (x0 : Int32) (x1 : Int32) : entryFrame m #[(.int x0), (.int x1)] 2 = mkF m 0 #[.val (.int x0), .val (.int x1)] [] := by first | (simp [entryFrame, mkF, argsToLocals, Value.category]; done) | rfl
theorem pn_java_util_Arrays : plainName "java/util/Arrays" = true := by first | (simp [plainName, overriddenIn]; done) | decide +kernel
theorem d_jdk_65_method_131_code_0 : decode jdk_65_method_131_code 0 = .ok (.iload_n 1, 1) := by decide +kernel
theorem d_jdk_65_method_131_code_1 : decode jdk_65_method_131_code 1 = .ok (.iload_n 0, 1) := by decide +kernel
theorem d_jdk_65_method_131_code_2 : decode jdk_65_method_131_code 2 = .ok (.if_icmp .ge 35, 3) := by decide +kernel
theorem d_jdk_65_method_131_code_37 : decode jdk_65_method_131_code 37 = .ok (.return_, 1) := by decide +kernel
def Q_ckl (Z : State) (i j : Nat) (h0 : Heap) (n0 : Nat) (v : Option Value) (h : Heap) (L : List Loc) : Prop := v = none ∧ Fr n0 L ∧ h = h0
set_option maxRecDepth 65536 in
set_option maxHeartbeats 40000000 in
theorem rm_ckl (l : Launch) (Z : State) (a0 : Array Value) (hw : ∀ d ∈ tables_1, d.before a0 Z = true) (ws : List Jvm.Cond) (i j : Nat) (h0 : Heap) (n0 : Nat) (Z0 : n0 ≤ h0.size) (hij : i ≤ j) (hj : j < 2 ^ 31) :
    MetFree l (⟨"java/util/Arrays", "checkLength", "(II)V"⟩ : MethodName) (head1 (Jvm.Cond.code (⟨"java/util/Arrays", "checkLength", "(II)V"⟩ : MethodName) jdk_65_method_131_code 2 none :: ws) ({ frames := 0, cells := 0, slots := 0, locals := 0 } : Room)) (fun a U => a = #[(.int (Int32.ofNat i)), (.int (Int32.ofNat j))] ∧ Z.Warmed39 U.vm ∧ U.heap = h0) (fun _ _ _ _ _ => True) (fun _ U o U' => ∃ v L, o = .returned v ∧ Q_ckl Z i j h0 n0 v U'.heap L ∧ FrameEnd U o U' L ({ frames := 0, cells := 0, slots := 0, locals := 0 } : Room).cells ({ frames := 0, cells := 0, slots := 0, locals := 0 } : Room).slots) := by
  refine MetFree.of_bodySF (plainFor_of_name pn_java_util_Arrays) hisR ?_
  intro p ee s m args below meth cc s₁ Bd hml0 hP hK
  obtain ⟨rfl, hZ, hh⟩ := hP
  have hx := Bd.exec
  have hby := Bd.bytes
  have hml : cc.maxLocals = 2 := hml0
  have hown : s.vm.findClass "java/util/Arrays" = some m.cls := findClass_of_methodNamed Bd.named
  have hnm := (name_of_methodNamed Bd.named Bd.method).1
  have X0 : Stand p l ee ({ frames := 0, cells := 0, slots := 0, locals := 0 } : Room) s m #[(.int (Int32.ofNat i)), (.int (Int32.ofNat j))] below meth cc s₁ [] 0 0 := Stand.of_body Bd
  have e0 : s₁.heap = h0 := by rw [← hh, Bd.state]; rfl
  have N0 := Fr.nil n0
  show Goes p ee below s ({ frames := 0, cells := 0, slots := 0, locals := 0 } : Room).cells ({ frames := 0, cells := 0, slots := 0, locals := 0 } : Room).slots (Q_ckl Z i j h0 n0) (s₁.setTop (entryFrame m #[(.int (Int32.ofNat i)), (.int (Int32.ofNat j))] 2))
  refine Goes.step (fun _ hr_ => castTop (ef_ckl m (Int32.ofNat i) (Int32.ofNat j)) hr_) ?_
  show Goes p ee below s _ _ _ (s₁.setTop (mkF m 0 #[.val (.int (Int32.ofNat i)), .val (.int (Int32.ofNat j))] []))
  refine Goes.step (fun _ hr_ => XS.iloadN X0.here hx rfl (hb hby d_jdk_65_method_131_code_0) rfl  hr_) ?_
  show Goes p ee below s _ _ _ (s₁.setTop (mkF m 1 #[.val (.int (Int32.ofNat i)), .val (.int (Int32.ofNat j))] [(.int (Int32.ofNat j))]))
  refine Goes.step (fun _ hr_ => XS.iloadN X0.here hx rfl (hb hby d_jdk_65_method_131_code_1) rfl  hr_) ?_
  show Goes p ee below s _ _ _ (s₁.setTop (mkF m 2 #[.val (.int (Int32.ofNat i)), .val (.int (Int32.ofNat j))] [(.int (Int32.ofNat i)), (.int (Int32.ofNat j))]))
  refine Goes.step (fun _ hr_ => XS.icmpYes X0.here hx rfl (pc0 := 2) (pc' := 37) rfl (hb hby d_jdk_65_method_131_code_2) rfl (flt (fun z => absurd ((own_ltN j i hj (by omega)).mp z) (by omega))).2.1 (by decide) (by decide) hr_) ?_
  show Goes p ee below s _ _ _ (s₁.setTop (mkF m 37 #[.val (.int (Int32.ofNat i)), .val (.int (Int32.ofNat j))] []))
  refine Goes.retV X0 hx Bd.notSynchronized Bd.returns (hb hby d_jdk_65_method_131_code_37) (by decide) (by decide) ?_
  exact ⟨rfl, N0, e0⟩
theorem ef_corb (m : MethodId) (x0 : Addr) (x1 : Int32) (x2 : Int32) : entryFrame m #[(.ref x0), (.int x1), (.int x2)] 5 = mkF m 0 #[.val (.ref x0), .val (.int x1), .val (.int x2), .unset, .unset] [] := by first | (simp [entryFrame, mkF, argsToLocals, Value.category]; done) | rfl
theorem d_jdk_65_method_133_code_0 : decode jdk_65_method_133_code 0 = .ok (.iload_n 1, 1) := by decide +kernel
theorem d_jdk_65_method_133_code_1 : decode jdk_65_method_133_code 1 = .ok (.iload_n 2, 1) := by decide +kernel
theorem d_jdk_65_method_133_code_2 : decode jdk_65_method_133_code 2 = .ok (.invokestatic 343, 3) := by decide +kernel
theorem d_jdk_65_method_133_code_5 : decode jdk_65_method_133_code 5 = .ok (.iload_n 2, 1) := by decide +kernel
theorem d_jdk_65_method_133_code_6 : decode jdk_65_method_133_code 6 = .ok (.iload_n 1, 1) := by decide +kernel
theorem d_jdk_65_method_133_code_7 : decode jdk_65_method_133_code 7 = .ok (.isub, 1) := by decide +kernel
theorem d_jdk_65_method_133_code_8 : decode jdk_65_method_133_code 8 = .ok (.istore_n 3, 1) := by decide +kernel
theorem d_jdk_65_method_133_code_9 : decode jdk_65_method_133_code 9 = .ok (.iload_n 3, 1) := by decide +kernel
theorem d_jdk_65_method_133_code_10 : decode jdk_65_method_133_code 10 = .ok (.newarray .byte, 2) := by decide +kernel
theorem d_jdk_65_method_133_code_12 : decode jdk_65_method_133_code 12 = .ok (.astore 4, 2) := by decide +kernel
theorem d_jdk_65_method_133_code_14 : decode jdk_65_method_133_code 14 = .ok (.aload_n 0, 1) := by decide +kernel
theorem d_jdk_65_method_133_code_15 : decode jdk_65_method_133_code 15 = .ok (.iload_n 1, 1) := by decide +kernel
theorem d_jdk_65_method_133_code_16 : decode jdk_65_method_133_code 16 = .ok (.aload 4, 2) := by decide +kernel
theorem d_jdk_65_method_133_code_18 : decode jdk_65_method_133_code 18 = .ok (.iconst 0, 1) := by decide +kernel
theorem d_jdk_65_method_133_code_19 : decode jdk_65_method_133_code 19 = .ok (.aload_n 0, 1) := by decide +kernel
theorem d_jdk_65_method_133_code_20 : decode jdk_65_method_133_code 20 = .ok (.arraylength, 1) := by decide +kernel
theorem d_jdk_65_method_133_code_21 : decode jdk_65_method_133_code 21 = .ok (.iload_n 1, 1) := by decide +kernel
theorem d_jdk_65_method_133_code_22 : decode jdk_65_method_133_code 22 = .ok (.isub, 1) := by decide +kernel
theorem d_jdk_65_method_133_code_23 : decode jdk_65_method_133_code 23 = .ok (.iload_n 3, 1) := by decide +kernel
theorem pd_14 : parseMethodDescriptor "(II)I" = some ⟨[.int, .int], some .int⟩ := by decide +kernel
theorem d_jdk_65_method_133_code_24 : decode jdk_65_method_133_code 24 = .ok (.invokestatic 304, 3) := by decide +kernel
theorem d_jdk_65_method_133_code_27 : decode jdk_65_method_133_code 27 = .ok (.invokestatic 150, 3) := by decide +kernel
theorem d_jdk_65_method_133_code_30 : decode jdk_65_method_133_code 30 = .ok (.aload 4, 2) := by decide +kernel
theorem d_jdk_65_method_133_code_32 : decode jdk_65_method_133_code 32 = .ok (.areturn, 1) := by decide +kernel
def Q_corb (Z : State) (cs : Int32) (fm : Value) (a1 : Addr) (i j mm : Nat) (f : Nat → Value) (h0 : Heap) (n0 : Nat) (v : Option Value) (h : Heap) (L : List Loc) : Prop := ∃ b : Addr, v = some (.ref b) ∧ Fr n0 L ∧ h0.size ≤ b ∧ Keep h0 h [] ∧ OA Z h b .byte (j - i) (fun t => f (i + t))
set_option maxRecDepth 65536 in
set_option maxHeartbeats 40000000 in
theorem rm_corb (l : Launch) (Z : State) (a0 : Array Value) (hw : ∀ d ∈ tables_1, d.before a0 Z = true) (ws : List Jvm.Cond) (cs : Int32) (fm : Value) (a1 : Addr) (i j mm : Nat) (f : Nat → Value) (h0 : Heap) (n0 : Nat) (Z0 : n0 ≤ h0.size) (ST : own_ST Z cs fm) (OO : Old Z n0 h0) (hij : i ≤ j) (hjm : j ≤ mm) (hk : j - i ≤ 8) (A : OA Z h0 a1 .byte mm f) :
    MetFree l (⟨"java/util/Arrays", "copyOfRangeByte", "([BII)[B"⟩ : MethodName) (head1 (Jvm.Cond.code (⟨"java/util/Arrays", "copyOfRangeByte", "([BII)[B"⟩ : MethodName) jdk_65_method_133_code 5 (some (.array .byte)) :: ws) ({ frames := 1, cells := 1, slots := 8, locals := 18 } : Room)) (fun a U => a = #[(.ref a1), (.int (Int32.ofNat i)), (.int (Int32.ofNat j))] ∧ Z.Warmed39 U.vm ∧ U.heap = h0) (fun _ _ _ _ _ => True) (fun _ U o U' => ∃ v L, o = .returned v ∧ Q_corb Z cs fm a1 i j mm f h0 n0 v U'.heap L ∧ FrameEnd U o U' L ({ frames := 1, cells := 1, slots := 8, locals := 18 } : Room).cells ({ frames := 1, cells := 1, slots := 8, locals := 18 } : Room).slots) := by
  refine MetFree.of_bodySF (plainFor_of_name pn_java_util_Arrays) hisR ?_
  intro p ee s m args below meth cc s₁ Bd hml0 hP hK
  obtain ⟨rfl, hZ, hh⟩ := hP
  have hx := Bd.exec
  have hby := Bd.bytes
  have hml : cc.maxLocals = 5 := hml0
  have hown : s.vm.findClass "java/util/Arrays" = some m.cls := findClass_of_methodNamed Bd.named
  have hnm := (name_of_methodNamed Bd.named Bd.method).1
  have X0 : Stand p l ee ({ frames := 1, cells := 1, slots := 8, locals := 18 } : Room) s m #[(.ref a1), (.int (Int32.ofNat i)), (.int (Int32.ofNat j))] below meth cc s₁ [] 0 0 := Stand.of_body Bd
  have e0 : s₁.heap = h0 := by rw [← hh, Bd.state]; rfl
  have N0 := Fr.nil n0
  show Goes p ee below s ({ frames := 1, cells := 1, slots := 8, locals := 18 } : Room).cells ({ frames := 1, cells := 1, slots := 8, locals := 18 } : Room).slots (Q_corb Z cs fm a1 i j mm f h0 n0) (s₁.setTop (entryFrame m #[(.ref a1), (.int (Int32.ofNat i)), (.int (Int32.ofNat j))] 5))
  refine Goes.step (fun _ hr_ => castTop (ef_corb m a1 (Int32.ofNat i) (Int32.ofNat j)) hr_) ?_
  show Goes p ee below s _ _ _ (s₁.setTop (mkF m 0 #[.val (.ref a1), .val (.int (Int32.ofNat i)), .val (.int (Int32.ofNat j)), .unset, .unset] []))
  have K0 := Keep.refl h0 ([] : List Addr)
  have hm := own_OAlt A
  show Goes p ee below s _ _ _ (s₁.setTop (mkF m 0 #[.val (.ref a1), .val (.int (Int32.ofNat i)), .val (.int (Int32.ofNat j)), .unset, .unset] []))
  refine Goes.step (fun _ hr_ => XS.iloadN X0.here hx rfl (hb hby d_jdk_65_method_133_code_0) rfl  hr_) ?_
  show Goes p ee below s _ _ _ (s₁.setTop (mkF m 1 #[.val (.ref a1), .val (.int (Int32.ofNat i)), .val (.int (Int32.ofNat j)), .unset, .unset] [(.int (Int32.ofNat i))]))
  refine Goes.step (fun _ hr_ => XS.iloadN X0.here hx rfl (hb hby d_jdk_65_method_133_code_1) rfl  hr_) ?_
  show Goes p ee below s _ _ _ (s₁.setTop (mkF m 2 #[.val (.ref a1), .val (.int (Int32.ofNat i)), .val (.int (Int32.ofNat j)), .unset, .unset] [(.int (Int32.ofNat j)), (.int (Int32.ofNat i))]))
  have lt_a1 := A.lt
  obtain ⟨v1, T1, L1, X1, hQ1, st1⟩ := own_callS X0 hx hZ (y := (⟨"java/util/Arrays", "checkLength", "(II)V"⟩ : MethodName)) hown (hw _ (List.mem_of_getElem? (i := 167) rfl)) (hw _ (List.mem_of_getElem? (i := 168) rfl)) (hw _ (List.mem_of_getElem? (i := 162) rfl)) (hw _ (List.mem_of_getElem? (i := 169) rfl)) (by decide) (argsL := [(.int (Int32.ofNat i)), (.int (Int32.ofNat j))]) (rm_ckl l Z a0 hw [] i j h0 n0 Z0 hij (by omega)) e0 (W := 0) (by decide) (by decide) (by decide) (by decide) (g := (mkF m 2 #[.val (.ref a1), .val (.int (Int32.ofNat i)), .val (.int (Int32.ofNat j)), .unset, .unset] [(.int (Int32.ofNat j)), (.int (Int32.ofNat i))])) rfl (by rw [hml]; rfl) (rest := []) (lenOf pd_1 rfl) rfl (by show 2 * 0 + _ ≤ _; exact Nat.le_of_eq rfl) (hb hby d_jdk_65_method_133_code_2)
  refine Goes.step st1 ?_
  obtain ⟨rfl, N1, e1⟩ := hQ1
  have N2 := Fr.app N0 N1
  show Goes p ee below s _ _ _ (T1.setTop (mkF m 5 #[.val (.ref a1), .val (.int (Int32.ofNat i)), .val (.int (Int32.ofNat j)), .unset, .unset] []))
  refine Goes.step (fun _ hr_ => XS.iloadN X1.here hx rfl (hb hby d_jdk_65_method_133_code_5) rfl  hr_) ?_
  show Goes p ee below s _ _ _ (T1.setTop (mkF m 6 #[.val (.ref a1), .val (.int (Int32.ofNat i)), .val (.int (Int32.ofNat j)), .unset, .unset] [(.int (Int32.ofNat j))]))
  refine Goes.step (fun _ hr_ => XS.iloadN X1.here hx rfl (hb hby d_jdk_65_method_133_code_6) rfl  hr_) ?_
  show Goes p ee below s _ _ _ (T1.setTop (mkF m 7 #[.val (.ref a1), .val (.int (Int32.ofNat i)), .val (.int (Int32.ofNat j)), .unset, .unset] [(.int (Int32.ofNat i)), (.int (Int32.ofNat j))]))
  refine Goes.step (fun _ hr_ => XS.isub X1.here hx rfl (hb hby d_jdk_65_method_133_code_7) rfl hr_) ?_
  show Goes p ee below s _ _ _ (T1.setTop (mkF m 8 #[.val (.ref a1), .val (.int (Int32.ofNat i)), .val (.int (Int32.ofNat j)), .unset, .unset] [(.int ((Int32.ofNat j) - (Int32.ofNat i)))]))
  rw [own_subN j i (by omega) hij]
  show Goes p ee below s _ _ _ (T1.setTop (mkF m 8 #[.val (.ref a1), .val (.int (Int32.ofNat i)), .val (.int (Int32.ofNat j)), .unset, .unset] [(.int (Int32.ofNat (j - i)))]))
  refine Goes.step (fun _ hr_ => XS.istoreN X1.here hx rfl (hb hby d_jdk_65_method_133_code_8) rfl  (l' := #[.val (.ref a1), .val (.int (Int32.ofNat i)), .val (.int (Int32.ofNat j)), .val (.int (Int32.ofNat (j - i))), .unset]) rfl hr_) ?_
  show Goes p ee below s _ _ _ (T1.setTop (mkF m 9 #[.val (.ref a1), .val (.int (Int32.ofNat i)), .val (.int (Int32.ofNat j)), .val (.int (Int32.ofNat (j - i))), .unset] []))
  refine Goes.step (fun _ hr_ => XS.iloadN X1.here hx rfl (hb hby d_jdk_65_method_133_code_9) rfl  hr_) ?_
  show Goes p ee below s _ _ _ (T1.setTop (mkF m 10 #[.val (.ref a1), .val (.int (Int32.ofNat i)), .val (.int (Int32.ofNat j)), .val (.int (Int32.ofNat (j - i))), .unset] [(.int (Int32.ofNat (j - i)))]))
  obtain ⟨T3, h3, X3, e3, E3, A3, st3⟩ := own_newP X1 hx hZ (aty := .byte) (hw _ (List.mem_of_getElem? (i := 25) rfl)) e1 (z := (Int32.ofNat (j - i))) (own_nneg (j - i) (by omega)) (n := (j - i)) (own_clamp (j - i) (by omega)) (cap := 8) hk (by decide) (by decide) (by decide) (g := (mkF m 10 #[.val (.ref a1), .val (.int (Int32.ofNat i)), .val (.int (Int32.ofNat j)), .val (.int (Int32.ofNat (j - i))), .unset] [(.int (Int32.ofNat (j - i)))])) rfl rfl (hb hby d_jdk_65_method_133_code_10)
  obtain ⟨b3, g_b3⟩ : ∃ z, z = h0.size := ⟨_, rfl⟩
  have ne_a1_b3 : a1 ≠ b3 := Nat.ne_of_lt (Nat.lt_of_lt_of_le A.lt (Nat.le_of_eq g_b3.symm))
  have ge_b3 : n0 ≤ b3 := Nat.le_trans Z0 (Nat.le_of_eq g_b3.symm)
  have sz_b3 : h0.size ≤ b3 := Nat.le_trans K0.1 (Nat.le_of_eq g_b3.symm)
  rw [← g_b3] at A3 st3
  have A := A.ext E3
  have Zp4 := Nat.le_trans Z0 E3.1
  have OO := OO.ext E3
  have K5 := K0.ext E3
  refine Goes.step st3 ?_
  have A_b3 : OA Z h3 b3 .byte (j - i) (fun _ => (.int 0)) := A3
  show Goes p ee below s _ _ _ (T3.setTop (mkF m 12 #[.val (.ref a1), .val (.int (Int32.ofNat i)), .val (.int (Int32.ofNat j)), .val (.int (Int32.ofNat (j - i))), .unset] [(.ref b3)]))
  refine Goes.step (fun _ hr_ => XS.astore X3.here hx rfl (hb hby d_jdk_65_method_133_code_12) rfl rfl (l' := #[.val (.ref a1), .val (.int (Int32.ofNat i)), .val (.int (Int32.ofNat j)), .val (.int (Int32.ofNat (j - i))), .val (.ref b3)]) rfl hr_) ?_
  show Goes p ee below s _ _ _ (T3.setTop (mkF m 14 #[.val (.ref a1), .val (.int (Int32.ofNat i)), .val (.int (Int32.ofNat j)), .val (.int (Int32.ofNat (j - i))), .val (.ref b3)] []))
  refine Goes.step (fun _ hr_ => XS.aloadN X3.here hx rfl (hb hby d_jdk_65_method_133_code_14) rfl rfl hr_) ?_
  show Goes p ee below s _ _ _ (T3.setTop (mkF m 15 #[.val (.ref a1), .val (.int (Int32.ofNat i)), .val (.int (Int32.ofNat j)), .val (.int (Int32.ofNat (j - i))), .val (.ref b3)] [(.ref a1)]))
  refine Goes.step (fun _ hr_ => XS.iloadN X3.here hx rfl (hb hby d_jdk_65_method_133_code_15) rfl  hr_) ?_
  show Goes p ee below s _ _ _ (T3.setTop (mkF m 16 #[.val (.ref a1), .val (.int (Int32.ofNat i)), .val (.int (Int32.ofNat j)), .val (.int (Int32.ofNat (j - i))), .val (.ref b3)] [(.int (Int32.ofNat i)), (.ref a1)]))
  refine Goes.step (fun _ hr_ => XS.aload X3.here hx rfl (hb hby d_jdk_65_method_133_code_16) rfl rfl hr_) ?_
  show Goes p ee below s _ _ _ (T3.setTop (mkF m 18 #[.val (.ref a1), .val (.int (Int32.ofNat i)), .val (.int (Int32.ofNat j)), .val (.int (Int32.ofNat (j - i))), .val (.ref b3)] [(.ref b3), (.int (Int32.ofNat i)), (.ref a1)]))
  refine Goes.step (fun _ hr_ => XS.iconst X3.here hx rfl (hb hby d_jdk_65_method_133_code_18) hr_) ?_
  show Goes p ee below s _ _ _ (T3.setTop (mkF m 19 #[.val (.ref a1), .val (.int (Int32.ofNat i)), .val (.int (Int32.ofNat j)), .val (.int (Int32.ofNat (j - i))), .val (.ref b3)] [(.int (0 : Int32)), (.ref b3), (.int (Int32.ofNat i)), (.ref a1)]))
  refine Goes.step (fun _ hr_ => XS.aloadN X3.here hx rfl (hb hby d_jdk_65_method_133_code_19) rfl rfl hr_) ?_
  show Goes p ee below s _ _ _ (T3.setTop (mkF m 20 #[.val (.ref a1), .val (.int (Int32.ofNat i)), .val (.int (Int32.ofNat j)), .val (.int (Int32.ofNat (j - i))), .val (.ref b3)] [(.ref a1), (.int (0 : Int32)), (.ref b3), (.int (Int32.ofNat i)), (.ref a1)]))
  refine Goes.step (own_alen X3 hx hZ e3 A (z := (Int32.ofNat mm)) rfl (g := (mkF m 20 #[.val (.ref a1), .val (.int (Int32.ofNat i)), .val (.int (Int32.ofNat j)), .val (.int (Int32.ofNat (j - i))), .val (.ref b3)] [(.ref a1), (.int (0 : Int32)), (.ref b3), (.int (Int32.ofNat i)), (.ref a1)])) rfl rfl (hb hby d_jdk_65_method_133_code_20)) ?_
  show Goes p ee below s _ _ _ (T3.setTop (mkF m 21 #[.val (.ref a1), .val (.int (Int32.ofNat i)), .val (.int (Int32.ofNat j)), .val (.int (Int32.ofNat (j - i))), .val (.ref b3)] [(.int (Int32.ofNat mm)), (.int (0 : Int32)), (.ref b3), (.int (Int32.ofNat i)), (.ref a1)]))
  refine Goes.step (fun _ hr_ => XS.iloadN X3.here hx rfl (hb hby d_jdk_65_method_133_code_21) rfl  hr_) ?_
  show Goes p ee below s _ _ _ (T3.setTop (mkF m 22 #[.val (.ref a1), .val (.int (Int32.ofNat i)), .val (.int (Int32.ofNat j)), .val (.int (Int32.ofNat (j - i))), .val (.ref b3)] [(.int (Int32.ofNat i)), (.int (Int32.ofNat mm)), (.int (0 : Int32)), (.ref b3), (.int (Int32.ofNat i)), (.ref a1)]))
  refine Goes.step (fun _ hr_ => XS.isub X3.here hx rfl (hb hby d_jdk_65_method_133_code_22) rfl hr_) ?_
  show Goes p ee below s _ _ _ (T3.setTop (mkF m 23 #[.val (.ref a1), .val (.int (Int32.ofNat i)), .val (.int (Int32.ofNat j)), .val (.int (Int32.ofNat (j - i))), .val (.ref b3)] [(.int ((Int32.ofNat mm) - (Int32.ofNat i))), (.int (0 : Int32)), (.ref b3), (.int (Int32.ofNat i)), (.ref a1)]))
  rw [own_subN mm i (by omega) (by omega)]
  show Goes p ee below s _ _ _ (T3.setTop (mkF m 23 #[.val (.ref a1), .val (.int (Int32.ofNat i)), .val (.int (Int32.ofNat j)), .val (.int (Int32.ofNat (j - i))), .val (.ref b3)] [(.int (Int32.ofNat (mm - i))), (.int (0 : Int32)), (.ref b3), (.int (Int32.ofNat i)), (.ref a1)]))
  refine Goes.step (fun _ hr_ => XS.iloadN X3.here hx rfl (hb hby d_jdk_65_method_133_code_23) rfl  hr_) ?_
  show Goes p ee below s _ _ _ (T3.setTop (mkF m 24 #[.val (.ref a1), .val (.int (Int32.ofNat i)), .val (.int (Int32.ofNat j)), .val (.int (Int32.ofNat (j - i))), .val (.ref b3)] [(.int (Int32.ofNat (j - i))), (.int (Int32.ofNat (mm - i))), (.int (0 : Int32)), (.ref b3), (.int (Int32.ofNat i)), (.ref a1)]))
  have lt_a1 := A.lt
  have lt_b3 := A_b3.lt
  obtain ⟨v6, T6, L6, X6, hQ6, st6⟩ := own_callS X3 hx hZ (y := (⟨"java/lang/Math", "min", "(II)I"⟩ : MethodName)) hown (hw _ (List.mem_of_getElem? (i := 170) rfl)) (hw _ (List.mem_of_getElem? (i := 171) rfl)) (hw _ (List.mem_of_getElem? (i := 172) rfl)) (hw _ (List.mem_of_getElem? (i := 173) rfl)) (by decide) (argsL := [(.int (Int32.ofNat (mm - i))), (.int (Int32.ofNat (j - i)))]) (rm_min l Z a0 hw [] (mm - i) (j - i) h3 n0 Zp4 (by omega) (by omega)) e3 (W := 4) (by decide) (by decide) (by decide) (by decide) (g := (mkF m 24 #[.val (.ref a1), .val (.int (Int32.ofNat i)), .val (.int (Int32.ofNat j)), .val (.int (Int32.ofNat (j - i))), .val (.ref b3)] [(.int (Int32.ofNat (j - i))), (.int (Int32.ofNat (mm - i))), (.int (0 : Int32)), (.ref b3), (.int (Int32.ofNat i)), (.ref a1)])) rfl (by rw [hml]; rfl) (rest := [(.int (0 : Int32)), (.ref b3), (.int (Int32.ofNat i)), (.ref a1)]) (lenOf pd_14 rfl) rfl (by show 2 * 0 + _ ≤ _; exact Nat.le_of_eq rfl) (hb hby d_jdk_65_method_133_code_24)
  refine Goes.step st6 ?_
  obtain ⟨rfl, N6, e6⟩ := hQ6
  have N7 := Fr.app N2 N6
  show Goes p ee below s _ _ _ (T6.setTop (mkF m 27 #[.val (.ref a1), .val (.int (Int32.ofNat i)), .val (.int (Int32.ofNat j)), .val (.int (Int32.ofNat (j - i))), .val (.ref b3)] [(.int (Int32.ofNat (j - i))), (.int (0 : Int32)), (.ref b3), (.int (Int32.ofNat i)), (.ref a1)]))
  obtain ⟨T8, h8, L8, X8, e8, Nc8, Kc8, Ac8, st8⟩ := own_copy X6 hx hZ hown (hw _ (List.mem_of_getElem? (i := 174) rfl)) (hw _ (List.mem_of_getElem? (i := 177) rfl)) (hw _ (List.mem_of_getElem? (i := 175) rfl)) (hw _ (List.mem_of_getElem? (i := 176) rfl)) e6 (sp := i) (dp := 0) (nn := (j - i)) A A_b3 rfl (by omega) (by omega) N7 ge_b3 (g := (mkF m 27 #[.val (.ref a1), .val (.int (Int32.ofNat i)), .val (.int (Int32.ofNat j)), .val (.int (Int32.ofNat (j - i))), .val (.ref b3)] [(.int (Int32.ofNat (j - i))), (.int (0 : Int32)), (.ref b3), (.int (Int32.ofNat i)), (.ref a1)])) rfl (by rw [hml]; rfl) (rest := []) rfl (hb hby d_jdk_65_method_133_code_27) (by decide) (W := 0) (by show 2 * 0 + _ ≤ _; exact Nat.le_of_eq rfl) (by decide)
  refine Goes.step st8 ?_
  have A := A.keep Kc8 (ninS ne_a1_b3 nin0)
  have OO := OO.keep Kc8 (allS ge_b3 all0)
  have K9 := K5.trans Kc8 (allS (Or.inr sz_b3) all0)
  have Zp10 := Nat.le_trans Zp4 Kc8.1
  have A_b3 := Ac8
  show Goes p ee below s _ _ _ (T8.setTop (mkF m 30 #[.val (.ref a1), .val (.int (Int32.ofNat i)), .val (.int (Int32.ofNat j)), .val (.int (Int32.ofNat (j - i))), .val (.ref b3)] []))
  refine Goes.step (fun _ hr_ => XS.aload X8.here hx rfl (hb hby d_jdk_65_method_133_code_30) rfl rfl hr_) ?_
  show Goes p ee below s _ _ _ (T8.setTop (mkF m 32 #[.val (.ref a1), .val (.int (Int32.ofNat i)), .val (.int (Int32.ofNat j)), .val (.int (Int32.ofNat (j - i))), .val (.ref b3)] [(.ref b3)]))
  refine Goes.retA X8 hx Bd.notSynchronized Bd.returns rfl rfl (hb hby d_jdk_65_method_133_code_32) (by decide) (by decide) ?_
  rw [e8]
  exact ⟨_, rfl, Nc8, sz_b3, K9, A_b3.congr (fun t ht => if_pos ⟨Nat.zero_le _, by omega⟩)⟩
theorem ef_cor (m : MethodId) (x0 : Addr) (x1 : Int32) (x2 : Int32) : entryFrame m #[(.ref x0), (.int x1), (.int x2)] 3 = mkF m 0 #[.val (.ref x0), .val (.int x1), .val (.int x2)] [] := by first | (simp [entryFrame, mkF, argsToLocals, Value.category]; done) | rfl
theorem d_jdk_65_method_132_code_0 : decode jdk_65_method_132_code 0 = .ok (.iload_n 1, 1) := by decide +kernel
theorem d_jdk_65_method_132_code_1 : decode jdk_65_method_132_code 1 = .ok (.ifCond .ne 9, 3) := by decide +kernel
theorem d_jdk_65_method_132_code_4 : decode jdk_65_method_132_code 4 = .ok (.iload_n 2, 1) := by decide +kernel
theorem d_jdk_65_method_132_code_5 : decode jdk_65_method_132_code 5 = .ok (.aload_n 0, 1) := by decide +kernel
theorem d_jdk_65_method_132_code_6 : decode jdk_65_method_132_code 6 = .ok (.arraylength, 1) := by decide +kernel
theorem d_jdk_65_method_132_code_7 : decode jdk_65_method_132_code 7 = .ok (.if_icmp .eq 10, 3) := by decide +kernel
theorem d_jdk_65_method_132_code_10 : decode jdk_65_method_132_code 10 = .ok (.aload_n 0, 1) := by decide +kernel
theorem d_jdk_65_method_132_code_11 : decode jdk_65_method_132_code 11 = .ok (.iload_n 1, 1) := by decide +kernel
theorem d_jdk_65_method_132_code_12 : decode jdk_65_method_132_code 12 = .ok (.iload_n 2, 1) := by decide +kernel
theorem pd_15 : parseMethodDescriptor "([BII)[B" = some ⟨[(.array .byte), .int, .int], some (.array .byte)⟩ := by decide +kernel
theorem d_jdk_65_method_132_code_13 : decode jdk_65_method_132_code 13 = .ok (.invokestatic 339, 3) := by decide +kernel
theorem d_jdk_65_method_132_code_16 : decode jdk_65_method_132_code 16 = .ok (.areturn, 1) := by decide +kernel
def Q_cor (Z : State) (cs : Int32) (fm : Value) (a1 : Addr) (i j mm : Nat) (f : Nat → Value) (h0 : Heap) (n0 : Nat) (v : Option Value) (h : Heap) (L : List Loc) : Prop := ∃ b : Addr, v = some (.ref b) ∧ Fr n0 L ∧ h0.size ≤ b ∧ Keep h0 h [] ∧ OA Z h b .byte (j - i) (fun t => f (i + t))
set_option maxRecDepth 65536 in
set_option maxHeartbeats 40000000 in
theorem rm_cor (l : Launch) (Z : State) (a0 : Array Value) (hw : ∀ d ∈ tables_1, d.before a0 Z = true) (ws : List Jvm.Cond) (cs : Int32) (fm : Value) (a1 : Addr) (i j mm : Nat) (f : Nat → Value) (h0 : Heap) (n0 : Nat) (Z0 : n0 ≤ h0.size) (ST : own_ST Z cs fm) (OO : Old Z n0 h0) (hne : ¬ (i = 0 ∧ j = mm)) (hij : i ≤ j) (hjm : j ≤ mm) (hk : j - i ≤ 8) (A : OA Z h0 a1 .byte mm f) :
    MetFree l (⟨"java/util/Arrays", "copyOfRange", "([BII)[B"⟩ : MethodName) (head1 (Jvm.Cond.code (⟨"java/util/Arrays", "copyOfRange", "([BII)[B"⟩ : MethodName) jdk_65_method_132_code 3 (some (.array .byte)) :: ws) ({ frames := 2, cells := 1, slots := 8, locals := 34 } : Room)) (fun a U => a = #[(.ref a1), (.int (Int32.ofNat i)), (.int (Int32.ofNat j))] ∧ Z.Warmed39 U.vm ∧ U.heap = h0) (fun _ _ _ _ _ => True) (fun _ U o U' => ∃ v L, o = .returned v ∧ Q_cor Z cs fm a1 i j mm f h0 n0 v U'.heap L ∧ FrameEnd U o U' L ({ frames := 2, cells := 1, slots := 8, locals := 34 } : Room).cells ({ frames := 2, cells := 1, slots := 8, locals := 34 } : Room).slots) := by
  refine MetFree.of_bodySF (plainFor_of_name pn_java_util_Arrays) hisR ?_
  intro p ee s m args below meth cc s₁ Bd hml0 hP hK
  obtain ⟨rfl, hZ, hh⟩ := hP
  have hx := Bd.exec
  have hby := Bd.bytes
  have hml : cc.maxLocals = 3 := hml0
  have hown : s.vm.findClass "java/util/Arrays" = some m.cls := findClass_of_methodNamed Bd.named
  have hnm := (name_of_methodNamed Bd.named Bd.method).1
  have X0 : Stand p l ee ({ frames := 2, cells := 1, slots := 8, locals := 34 } : Room) s m #[(.ref a1), (.int (Int32.ofNat i)), (.int (Int32.ofNat j))] below meth cc s₁ [] 0 0 := Stand.of_body Bd
  have e0 : s₁.heap = h0 := by rw [← hh, Bd.state]; rfl
  have N0 := Fr.nil n0
  show Goes p ee below s ({ frames := 2, cells := 1, slots := 8, locals := 34 } : Room).cells ({ frames := 2, cells := 1, slots := 8, locals := 34 } : Room).slots (Q_cor Z cs fm a1 i j mm f h0 n0) (s₁.setTop (entryFrame m #[(.ref a1), (.int (Int32.ofNat i)), (.int (Int32.ofNat j))] 3))
  refine Goes.step (fun _ hr_ => castTop (ef_cor m a1 (Int32.ofNat i) (Int32.ofNat j)) hr_) ?_
  show Goes p ee below s _ _ _ (s₁.setTop (mkF m 0 #[.val (.ref a1), .val (.int (Int32.ofNat i)), .val (.int (Int32.ofNat j))] []))
  have K0 := Keep.refl h0 ([] : List Addr)
  have hm := own_OAlt A
  show Goes p ee below s _ _ _ (s₁.setTop (mkF m 0 #[.val (.ref a1), .val (.int (Int32.ofNat i)), .val (.int (Int32.ofNat j))] []))
  refine Goes.step (fun _ hr_ => XS.iloadN X0.here hx rfl (hb hby d_jdk_65_method_132_code_0) rfl  hr_) ?_
  show Goes p ee below s _ _ _ (s₁.setTop (mkF m 1 #[.val (.ref a1), .val (.int (Int32.ofNat i)), .val (.int (Int32.ofNat j))] [(.int (Int32.ofNat i))]))
  by_cases hn1_1 : i = 0
  · refine Goes.step (fun _ hr_ => XS.ifNo X0.here hx rfl (hb hby d_jdk_65_method_132_code_1) rfl ((if0 _ _).trans (teq ((own_eqN i 0 (by omega) (by decide)).mpr hn1_1)).2) hr_) ?_
    show Goes p ee below s _ _ _ (s₁.setTop (mkF m 4 #[.val (.ref a1), .val (.int (Int32.ofNat i)), .val (.int (Int32.ofNat j))] []))
    refine Goes.step (fun _ hr_ => XS.iloadN X0.here hx rfl (hb hby d_jdk_65_method_132_code_4) rfl  hr_) ?_
    show Goes p ee below s _ _ _ (s₁.setTop (mkF m 5 #[.val (.ref a1), .val (.int (Int32.ofNat i)), .val (.int (Int32.ofNat j))] [(.int (Int32.ofNat j))]))
    refine Goes.step (fun _ hr_ => XS.aloadN X0.here hx rfl (hb hby d_jdk_65_method_132_code_5) rfl rfl hr_) ?_
    show Goes p ee below s _ _ _ (s₁.setTop (mkF m 6 #[.val (.ref a1), .val (.int (Int32.ofNat i)), .val (.int (Int32.ofNat j))] [(.ref a1), (.int (Int32.ofNat j))]))
    refine Goes.step (own_alen X0 hx hZ e0 A (z := (Int32.ofNat mm)) rfl (g := (mkF m 6 #[.val (.ref a1), .val (.int (Int32.ofNat i)), .val (.int (Int32.ofNat j))] [(.ref a1), (.int (Int32.ofNat j))])) rfl rfl (hb hby d_jdk_65_method_132_code_6)) ?_
    show Goes p ee below s _ _ _ (s₁.setTop (mkF m 7 #[.val (.ref a1), .val (.int (Int32.ofNat i)), .val (.int (Int32.ofNat j))] [(.int (Int32.ofNat mm)), (.int (Int32.ofNat j))]))
    refine Goes.step (fun _ hr_ => XS.icmpNo X0.here hx rfl (hb hby d_jdk_65_method_132_code_7) rfl (feq (fun z => hne ⟨hn1_1, (own_eqN j mm (by omega) hm).mp z⟩)).1 hr_) ?_
    show Goes p ee below s _ _ _ (s₁.setTop (mkF m 10 #[.val (.ref a1), .val (.int (Int32.ofNat i)), .val (.int (Int32.ofNat j))] []))
    refine Goes.step (fun _ hr_ => XS.aloadN X0.here hx rfl (hb hby d_jdk_65_method_132_code_10) rfl rfl hr_) ?_
    show Goes p ee below s _ _ _ (s₁.setTop (mkF m 11 #[.val (.ref a1), .val (.int (Int32.ofNat i)), .val (.int (Int32.ofNat j))] [(.ref a1)]))
    refine Goes.step (fun _ hr_ => XS.iloadN X0.here hx rfl (hb hby d_jdk_65_method_132_code_11) rfl  hr_) ?_
    show Goes p ee below s _ _ _ (s₁.setTop (mkF m 12 #[.val (.ref a1), .val (.int (Int32.ofNat i)), .val (.int (Int32.ofNat j))] [(.int (Int32.ofNat i)), (.ref a1)]))
    refine Goes.step (fun _ hr_ => XS.iloadN X0.here hx rfl (hb hby d_jdk_65_method_132_code_12) rfl  hr_) ?_
    show Goes p ee below s _ _ _ (s₁.setTop (mkF m 13 #[.val (.ref a1), .val (.int (Int32.ofNat i)), .val (.int (Int32.ofNat j))] [(.int (Int32.ofNat j)), (.int (Int32.ofNat i)), (.ref a1)]))
    have lt_a1 := A.lt
    obtain ⟨v2, T2, L2, X2, hQ2, st2⟩ := own_callS X0 hx hZ (y := (⟨"java/util/Arrays", "copyOfRangeByte", "([BII)[B"⟩ : MethodName)) hown (hw _ (List.mem_of_getElem? (i := 164) rfl)) (hw _ (List.mem_of_getElem? (i := 165) rfl)) (hw _ (List.mem_of_getElem? (i := 162) rfl)) (hw _ (List.mem_of_getElem? (i := 166) rfl)) (by decide) (argsL := [(.ref a1), (.int (Int32.ofNat i)), (.int (Int32.ofNat j))]) (rm_corb l Z a0 hw [] cs fm a1 i j _ _ h0 n0 Z0 ST OO hij hjm hk A) e0 (W := 0) (by decide) (by decide) (by decide) (by decide) (g := (mkF m 13 #[.val (.ref a1), .val (.int (Int32.ofNat i)), .val (.int (Int32.ofNat j))] [(.int (Int32.ofNat j)), (.int (Int32.ofNat i)), (.ref a1)])) rfl (by rw [hml]; rfl) (rest := []) (lenOf pd_15 rfl) rfl (by show 2 * 0 + _ ≤ _; exact Nat.le_of_eq rfl) (hb hby d_jdk_65_method_132_code_13)
    refine Goes.step st2 ?_
    obtain ⟨b2, rfl, N2, sz2, Kc2, A_b2⟩ := hQ2
    have N3 := Fr.app N0 N2
    obtain ⟨h2, e2⟩ : ∃ h', T2.heap = h' := ⟨_, rfl⟩
    rw [e2] at Kc2 A_b2
    have A := A.keep Kc2 nin0
    have OO := OO.keep Kc2 all0
    have K4 := K0.trans Kc2 all0
    have Zp5 := Nat.le_trans Z0 Kc2.1
    have ge_b2 : n0 ≤ b2 := Nat.le_trans Z0 sz2
    have sz_b2 : h0.size ≤ b2 := Nat.le_trans K0.1 sz2
    have ne_a1_b2 : a1 ≠ b2 := Nat.ne_of_lt (Nat.lt_of_lt_of_le lt_a1 sz2)
    show Goes p ee below s _ _ _ (T2.setTop (mkF m 16 #[.val (.ref a1), .val (.int (Int32.ofNat i)), .val (.int (Int32.ofNat j))] [(.ref b2)]))
    refine Goes.retA X2 hx Bd.notSynchronized Bd.returns rfl rfl (hb hby d_jdk_65_method_132_code_16) (by decide) (by decide) ?_
    rw [e2]
    exact ⟨_, rfl, N3, sz_b2, K4, A_b2⟩
  · refine Goes.step (fun _ hr_ => XS.ifYes X0.here hx rfl (pc0 := 1) (pc' := 10) rfl (hb hby d_jdk_65_method_132_code_1) rfl ((if0 _ _).trans (feq (fun z => hn1_1 ((own_eqN i 0 (by omega) (by decide)).mp z))).2) (by decide) (by decide) hr_) ?_
    show Goes p ee below s _ _ _ (s₁.setTop (mkF m 10 #[.val (.ref a1), .val (.int (Int32.ofNat i)), .val (.int (Int32.ofNat j))] []))
    refine Goes.step (fun _ hr_ => XS.aloadN X0.here hx rfl (hb hby d_jdk_65_method_132_code_10) rfl rfl hr_) ?_
    show Goes p ee below s _ _ _ (s₁.setTop (mkF m 11 #[.val (.ref a1), .val (.int (Int32.ofNat i)), .val (.int (Int32.ofNat j))] [(.ref a1)]))
    refine Goes.step (fun _ hr_ => XS.iloadN X0.here hx rfl (hb hby d_jdk_65_method_132_code_11) rfl  hr_) ?_
    show Goes p ee below s _ _ _ (s₁.setTop (mkF m 12 #[.val (.ref a1), .val (.int (Int32.ofNat i)), .val (.int (Int32.ofNat j))] [(.int (Int32.ofNat i)), (.ref a1)]))
    refine Goes.step (fun _ hr_ => XS.iloadN X0.here hx rfl (hb hby d_jdk_65_method_132_code_12) rfl  hr_) ?_
    show Goes p ee below s _ _ _ (s₁.setTop (mkF m 13 #[.val (.ref a1), .val (.int (Int32.ofNat i)), .val (.int (Int32.ofNat j))] [(.int (Int32.ofNat j)), (.int (Int32.ofNat i)), (.ref a1)]))
    have lt_a1 := A.lt
    obtain ⟨v6, T6, L6, X6, hQ6, st6⟩ := own_callS X0 hx hZ (y := (⟨"java/util/Arrays", "copyOfRangeByte", "([BII)[B"⟩ : MethodName)) hown (hw _ (List.mem_of_getElem? (i := 164) rfl)) (hw _ (List.mem_of_getElem? (i := 165) rfl)) (hw _ (List.mem_of_getElem? (i := 162) rfl)) (hw _ (List.mem_of_getElem? (i := 166) rfl)) (by decide) (argsL := [(.ref a1), (.int (Int32.ofNat i)), (.int (Int32.ofNat j))]) (rm_corb l Z a0 hw [] cs fm a1 i j _ _ h0 n0 Z0 ST OO hij hjm hk A) e0 (W := 0) (by decide) (by decide) (by decide) (by decide) (g := (mkF m 13 #[.val (.ref a1), .val (.int (Int32.ofNat i)), .val (.int (Int32.ofNat j))] [(.int (Int32.ofNat j)), (.int (Int32.ofNat i)), (.ref a1)])) rfl (by rw [hml]; rfl) (rest := []) (lenOf pd_15 rfl) rfl (by show 2 * 0 + _ ≤ _; exact Nat.le_of_eq rfl) (hb hby d_jdk_65_method_132_code_13)
    refine Goes.step st6 ?_
    obtain ⟨b6, rfl, N6, sz6, Kc6, A_b6⟩ := hQ6
    have N7 := Fr.app N0 N6
    obtain ⟨h6, e6⟩ : ∃ h', T6.heap = h' := ⟨_, rfl⟩
    rw [e6] at Kc6 A_b6
    have A := A.keep Kc6 nin0
    have OO := OO.keep Kc6 all0
    have K8 := K0.trans Kc6 all0
    have Zp9 := Nat.le_trans Z0 Kc6.1
    have ge_b6 : n0 ≤ b6 := Nat.le_trans Z0 sz6
    have sz_b6 : h0.size ≤ b6 := Nat.le_trans K0.1 sz6
    have ne_a1_b6 : a1 ≠ b6 := Nat.ne_of_lt (Nat.lt_of_lt_of_le lt_a1 sz6)
    show Goes p ee below s _ _ _ (T6.setTop (mkF m 16 #[.val (.ref a1), .val (.int (Int32.ofNat i)), .val (.int (Int32.ofNat j))] [(.ref b6)]))
    refine Goes.retA X6 hx Bd.notSynchronized Bd.returns rfl rfl (hb hby d_jdk_65_method_132_code_16) (by decide) (by decide) ?_
    rw [e6]
    exact ⟨_, rfl, N7, sz_b6, K8, A_b6⟩
theorem ef_pft (m : MethodId) (x0 : Int32) (x1 : Int32) (x2 : Int32) (x3 : Value) (hx3 : x3.isRef = true) : entryFrame m #[(.int x0), (.int x1), (.int x2), x3] 4 = mkF m 0 #[.val (.int x0), .val (.int x1), .val (.int x2), .val x3] [] := by cases x3 <;> simp [Value.isRef] at hx3 <;> first | (simp [entryFrame, mkF, argsToLocals, Value.category]; done) | rfl
theorem d_jdk_41_method_12_code_0 : decode jdk_41_method_12_code 0 = .ok (.iload_n 0, 1) := by decide +kernel
theorem d_jdk_41_method_12_code_1 : decode jdk_41_method_12_code 1 = .ok (.ifCond .lt 13, 3) := by decide +kernel
theorem d_jdk_41_method_12_code_4 : decode jdk_41_method_12_code 4 = .ok (.iload_n 0, 1) := by decide +kernel
theorem d_jdk_41_method_12_code_5 : decode jdk_41_method_12_code 5 = .ok (.iload_n 1, 1) := by decide +kernel
theorem d_jdk_41_method_12_code_6 : decode jdk_41_method_12_code 6 = .ok (.if_icmp .gt 8, 3) := by decide +kernel
theorem d_jdk_41_method_12_code_9 : decode jdk_41_method_12_code 9 = .ok (.iload_n 1, 1) := by decide +kernel
theorem d_jdk_41_method_12_code_10 : decode jdk_41_method_12_code 10 = .ok (.iload_n 2, 1) := by decide +kernel
theorem d_jdk_41_method_12_code_11 : decode jdk_41_method_12_code 11 = .ok (.if_icmp .le 11, 3) := by decide +kernel
theorem d_jdk_41_method_12_code_22 : decode jdk_41_method_12_code 22 = .ok (.iload_n 0, 1) := by decide +kernel
theorem d_jdk_41_method_12_code_23 : decode jdk_41_method_12_code 23 = .ok (.ireturn, 1) := by decide +kernel
def Q_pft (Z : State) (cs : Int32) (fm : Value) (i j n : Nat) (h0 : Heap) (n0 : Nat) (v : Option Value) (h : Heap) (L : List Loc) : Prop := v = some (.int (Int32.ofNat i)) ∧ Fr n0 L ∧ h = h0
set_option maxRecDepth 65536 in
set_option maxHeartbeats 40000000 in
theorem rm_pft (l : Launch) (Z : State) (a0 : Array Value) (hw : ∀ d ∈ tables_1, d.before a0 Z = true) (ws : List Jvm.Cond) (cs : Int32) (fm : Value) (i j n : Nat) (h0 : Heap) (n0 : Nat) (Z0 : n0 ≤ h0.size) (ST : own_ST Z cs fm) (OO : Old Z n0 h0) (hfm : fm.isRef = true) (hij : i ≤ j) (hjn : j ≤ n) (hn : n < 2 ^ 31) :
    MetFree l (⟨"jdk/internal/util/Preconditions", "checkFromToIndex", "(IIILjava/util/function/BiFunction;)I"⟩ : MethodName) (head1 (Jvm.Cond.code (⟨"jdk/internal/util/Preconditions", "checkFromToIndex", "(IIILjava/util/function/BiFunction;)I"⟩ : MethodName) jdk_41_method_12_code 4 (some .int) :: ws) ({ frames := 0, cells := 0, slots := 0, locals := 0 } : Room)) (fun a U => a = #[(.int (Int32.ofNat i)), (.int (Int32.ofNat j)), (.int (Int32.ofNat n)), fm] ∧ Z.Warmed39 U.vm ∧ U.heap = h0) (fun _ _ _ _ _ => True) (fun _ U o U' => ∃ v L, o = .returned v ∧ Q_pft Z cs fm i j n h0 n0 v U'.heap L ∧ FrameEnd U o U' L ({ frames := 0, cells := 0, slots := 0, locals := 0 } : Room).cells ({ frames := 0, cells := 0, slots := 0, locals := 0 } : Room).slots) := by
  refine MetFree.of_bodySF (plainFor_of_name pn_jdk_internal_util_Preconditions) hisR ?_
  intro p ee s m args below meth cc s₁ Bd hml0 hP hK
  obtain ⟨rfl, hZ, hh⟩ := hP
  have hx := Bd.exec
  have hby := Bd.bytes
  have hml : cc.maxLocals = 4 := hml0
  have hown : s.vm.findClass "jdk/internal/util/Preconditions" = some m.cls := findClass_of_methodNamed Bd.named
  have hnm := (name_of_methodNamed Bd.named Bd.method).1
  have X0 : Stand p l ee ({ frames := 0, cells := 0, slots := 0, locals := 0 } : Room) s m #[(.int (Int32.ofNat i)), (.int (Int32.ofNat j)), (.int (Int32.ofNat n)), fm] below meth cc s₁ [] 0 0 := Stand.of_body Bd
  have e0 : s₁.heap = h0 := by rw [← hh, Bd.state]; rfl
  have N0 := Fr.nil n0
  show Goes p ee below s ({ frames := 0, cells := 0, slots := 0, locals := 0 } : Room).cells ({ frames := 0, cells := 0, slots := 0, locals := 0 } : Room).slots (Q_pft Z cs fm i j n h0 n0) (s₁.setTop (entryFrame m #[(.int (Int32.ofNat i)), (.int (Int32.ofNat j)), (.int (Int32.ofNat n)), fm] 4))
  refine Goes.step (fun _ hr_ => castTop (ef_pft m (Int32.ofNat i) (Int32.ofNat j) (Int32.ofNat n) fm hfm) hr_) ?_
  show Goes p ee below s _ _ _ (s₁.setTop (mkF m 0 #[.val (.int (Int32.ofNat i)), .val (.int (Int32.ofNat j)), .val (.int (Int32.ofNat n)), .val fm] []))
  refine Goes.step (fun _ hr_ => XS.iloadN X0.here hx rfl (hb hby d_jdk_41_method_12_code_0) rfl  hr_) ?_
  show Goes p ee below s _ _ _ (s₁.setTop (mkF m 1 #[.val (.int (Int32.ofNat i)), .val (.int (Int32.ofNat j)), .val (.int (Int32.ofNat n)), .val fm] [(.int (Int32.ofNat i))]))
  refine Goes.step (fun _ hr_ => XS.ifNo X0.here hx rfl (hb hby d_jdk_41_method_12_code_1) rfl ((if0 _ _).trans (flt (own_nneg i (by omega))).1) hr_) ?_
  show Goes p ee below s _ _ _ (s₁.setTop (mkF m 4 #[.val (.int (Int32.ofNat i)), .val (.int (Int32.ofNat j)), .val (.int (Int32.ofNat n)), .val fm] []))
  refine Goes.step (fun _ hr_ => XS.iloadN X0.here hx rfl (hb hby d_jdk_41_method_12_code_4) rfl  hr_) ?_
  show Goes p ee below s _ _ _ (s₁.setTop (mkF m 5 #[.val (.int (Int32.ofNat i)), .val (.int (Int32.ofNat j)), .val (.int (Int32.ofNat n)), .val fm] [(.int (Int32.ofNat i))]))
  refine Goes.step (fun _ hr_ => XS.iloadN X0.here hx rfl (hb hby d_jdk_41_method_12_code_5) rfl  hr_) ?_
  show Goes p ee below s _ _ _ (s₁.setTop (mkF m 6 #[.val (.int (Int32.ofNat i)), .val (.int (Int32.ofNat j)), .val (.int (Int32.ofNat n)), .val fm] [(.int (Int32.ofNat j)), (.int (Int32.ofNat i))]))
  refine Goes.step (fun _ hr_ => XS.icmpNo X0.here hx rfl (hb hby d_jdk_41_method_12_code_6) rfl (flt (fun z => absurd ((own_ltN j i (by omega) (by omega)).mp z) (by omega))).2.2.1 hr_) ?_
  show Goes p ee below s _ _ _ (s₁.setTop (mkF m 9 #[.val (.int (Int32.ofNat i)), .val (.int (Int32.ofNat j)), .val (.int (Int32.ofNat n)), .val fm] []))
  refine Goes.step (fun _ hr_ => XS.iloadN X0.here hx rfl (hb hby d_jdk_41_method_12_code_9) rfl  hr_) ?_
  show Goes p ee below s _ _ _ (s₁.setTop (mkF m 10 #[.val (.int (Int32.ofNat i)), .val (.int (Int32.ofNat j)), .val (.int (Int32.ofNat n)), .val fm] [(.int (Int32.ofNat j))]))
  refine Goes.step (fun _ hr_ => XS.iloadN X0.here hx rfl (hb hby d_jdk_41_method_12_code_10) rfl  hr_) ?_
  show Goes p ee below s _ _ _ (s₁.setTop (mkF m 11 #[.val (.int (Int32.ofNat i)), .val (.int (Int32.ofNat j)), .val (.int (Int32.ofNat n)), .val fm] [(.int (Int32.ofNat n)), (.int (Int32.ofNat j))]))
  refine Goes.step (fun _ hr_ => XS.icmpYes X0.here hx rfl (pc0 := 11) (pc' := 22) rfl (hb hby d_jdk_41_method_12_code_11) rfl (flt (fun z => absurd ((own_ltN n j hn (by omega)).mp z) (by omega))).2.2.2 (by decide) (by decide) hr_) ?_
  show Goes p ee below s _ _ _ (s₁.setTop (mkF m 22 #[.val (.int (Int32.ofNat i)), .val (.int (Int32.ofNat j)), .val (.int (Int32.ofNat n)), .val fm] []))
  refine Goes.step (fun _ hr_ => XS.iloadN X0.here hx rfl (hb hby d_jdk_41_method_12_code_22) rfl  hr_) ?_
  show Goes p ee below s _ _ _ (s₁.setTop (mkF m 23 #[.val (.int (Int32.ofNat i)), .val (.int (Int32.ofNat j)), .val (.int (Int32.ofNat n)), .val fm] [(.int (Int32.ofNat i))]))
  refine Goes.retI X0 hx Bd.notSynchronized Bd.returns (hb hby d_jdk_41_method_12_code_23) (by decide) (by decide) ?_
  exact ⟨rfl, N0, e0⟩
theorem ef_sbe (m : MethodId) (x0 : Int32) (x1 : Int32) (x2 : Int32) : entryFrame m #[(.int x0), (.int x1), (.int x2)] 3 = mkF m 0 #[.val (.int x0), .val (.int x1), .val (.int x2)] [] := by first | (simp [entryFrame, mkF, argsToLocals, Value.category]; done) | rfl
theorem d_jdk_42_method_158_code_0 : decode jdk_42_method_158_code 0 = .ok (.iload_n 0, 1) := by decide +kernel
theorem d_jdk_42_method_158_code_1 : decode jdk_42_method_158_code 1 = .ok (.iload_n 1, 1) := by decide +kernel
theorem d_jdk_42_method_158_code_2 : decode jdk_42_method_158_code 2 = .ok (.iload_n 2, 1) := by decide +kernel
theorem d_jdk_42_method_158_code_3 : decode jdk_42_method_158_code 3 = .ok (.getstatic 1053, 3) := by decide +kernel
theorem pd_16 : parseMethodDescriptor "(IIILjava/util/function/BiFunction;)I" = some ⟨[.int, .int, .int, (.object "java/util/function/BiFunction")], some .int⟩ := by decide +kernel
theorem d_jdk_42_method_158_code_6 : decode jdk_42_method_158_code 6 = .ok (.invokestatic 1062, 3) := by decide +kernel
theorem d_jdk_42_method_158_code_9 : decode jdk_42_method_158_code 9 = .ok (.pop, 1) := by decide +kernel
theorem d_jdk_42_method_158_code_10 : decode jdk_42_method_158_code 10 = .ok (.return_, 1) := by decide +kernel
def Q_sbe (Z : State) (cs : Int32) (fm : Value) (i j n : Nat) (h0 : Heap) (n0 : Nat) (v : Option Value) (h : Heap) (L : List Loc) : Prop := v = none ∧ Fr n0 L ∧ h = h0
set_option maxRecDepth 65536 in
set_option maxHeartbeats 40000000 in
theorem rm_sbe (l : Launch) (Z : State) (a0 : Array Value) (hw : ∀ d ∈ tables_1, d.before a0 Z = true) (ws : List Jvm.Cond) (cs : Int32) (fm : Value) (i j n : Nat) (h0 : Heap) (n0 : Nat) (Z0 : n0 ≤ h0.size) (ST : own_ST Z cs fm) (OO : Old Z n0 h0) (hij : i ≤ j) (hjn : j ≤ n) (hn : n < 2 ^ 31) :
    MetFree l (⟨"java/lang/String", "checkBoundsBeginEnd", "(III)V"⟩ : MethodName) (head1 (Jvm.Cond.code (⟨"java/lang/String", "checkBoundsBeginEnd", "(III)V"⟩ : MethodName) jdk_42_method_158_code 3 none :: ws) ({ frames := 1, cells := 0, slots := 0, locals := 15 } : Room)) (fun a U => a = #[(.int (Int32.ofNat i)), (.int (Int32.ofNat j)), (.int (Int32.ofNat n))] ∧ Z.Warmed39 U.vm ∧ U.heap = h0) (fun _ _ _ _ _ => True) (fun _ U o U' => ∃ v L, o = .returned v ∧ Q_sbe Z cs fm i j n h0 n0 v U'.heap L ∧ FrameEnd U o U' L ({ frames := 1, cells := 0, slots := 0, locals := 15 } : Room).cells ({ frames := 1, cells := 0, slots := 0, locals := 15 } : Room).slots) := by
  refine MetFree.of_bodySF (plainFor_of_name pn_java_lang_String) hisR ?_
  intro p ee s m args below meth cc s₁ Bd hml0 hP hK
  obtain ⟨rfl, hZ, hh⟩ := hP
  have hx := Bd.exec
  have hby := Bd.bytes
  have hml : cc.maxLocals = 3 := hml0
  have hown : s.vm.findClass "java/lang/String" = some m.cls := findClass_of_methodNamed Bd.named
  have hnm := (name_of_methodNamed Bd.named Bd.method).1
  have X0 : Stand p l ee ({ frames := 1, cells := 0, slots := 0, locals := 15 } : Room) s m #[(.int (Int32.ofNat i)), (.int (Int32.ofNat j)), (.int (Int32.ofNat n))] below meth cc s₁ [] 0 0 := Stand.of_body Bd
  have e0 : s₁.heap = h0 := by rw [← hh, Bd.state]; rfl
  have N0 := Fr.nil n0
  show Goes p ee below s ({ frames := 1, cells := 0, slots := 0, locals := 15 } : Room).cells ({ frames := 1, cells := 0, slots := 0, locals := 15 } : Room).slots (Q_sbe Z cs fm i j n h0 n0) (s₁.setTop (entryFrame m #[(.int (Int32.ofNat i)), (.int (Int32.ofNat j)), (.int (Int32.ofNat n))] 3))
  refine Goes.step (fun _ hr_ => castTop (ef_sbe m (Int32.ofNat i) (Int32.ofNat j) (Int32.ofNat n)) hr_) ?_
  show Goes p ee below s _ _ _ (s₁.setTop (mkF m 0 #[.val (.int (Int32.ofNat i)), .val (.int (Int32.ofNat j)), .val (.int (Int32.ofNat n))] []))
  refine Goes.step (fun _ hr_ => XS.iloadN X0.here hx rfl (hb hby d_jdk_42_method_158_code_0) rfl  hr_) ?_
  show Goes p ee below s _ _ _ (s₁.setTop (mkF m 1 #[.val (.int (Int32.ofNat i)), .val (.int (Int32.ofNat j)), .val (.int (Int32.ofNat n))] [(.int (Int32.ofNat i))]))
  refine Goes.step (fun _ hr_ => XS.iloadN X0.here hx rfl (hb hby d_jdk_42_method_158_code_1) rfl  hr_) ?_
  show Goes p ee below s _ _ _ (s₁.setTop (mkF m 2 #[.val (.int (Int32.ofNat i)), .val (.int (Int32.ofNat j)), .val (.int (Int32.ofNat n))] [(.int (Int32.ofNat j)), (.int (Int32.ofNat i))]))
  refine Goes.step (fun _ hr_ => XS.iloadN X0.here hx rfl (hb hby d_jdk_42_method_158_code_2) rfl  hr_) ?_
  show Goes p ee below s _ _ _ (s₁.setTop (mkF m 3 #[.val (.int (Int32.ofNat i)), .val (.int (Int32.ofNat j)), .val (.int (Int32.ofNat n))] [(.int (Int32.ofNat n)), (.int (Int32.ofNat j)), (.int (Int32.ofNat i))]))
  obtain ⟨T1, X1, e1, st1⟩ := getS X0 hx hZ (host := "") hown (hw _ (List.mem_of_getElem? (i := 75) rfl)) Via.refl e0 ((ST.2.2.1).ext OO.2) (g := (mkF m 3 #[.val (.int (Int32.ofNat i)), .val (.int (Int32.ofNat j)), .val (.int (Int32.ofNat n))] [(.int (Int32.ofNat n)), (.int (Int32.ofNat j)), (.int (Int32.ofNat i))])) rfl (hb hby d_jdk_42_method_158_code_3)
  refine Goes.step st1 ?_
  show Goes p ee below s _ _ _ (T1.setTop (mkF m 6 #[.val (.int (Int32.ofNat i)), .val (.int (Int32.ofNat j)), .val (.int (Int32.ofNat n))] [fm, (.int (Int32.ofNat n)), (.int (Int32.ofNat j)), (.int (Int32.ofNat i))]))
  obtain ⟨v2, T2, L2, X2, hQ2, st2⟩ := own_callS X1 hx hZ (y := (⟨"jdk/internal/util/Preconditions", "checkFromToIndex", "(IIILjava/util/function/BiFunction;)I"⟩ : MethodName)) hown (hw _ (List.mem_of_getElem? (i := 77) rfl)) (hw _ (List.mem_of_getElem? (i := 78) rfl)) (hw _ (List.mem_of_getElem? (i := 76) rfl)) (hw _ (List.mem_of_getElem? (i := 79) rfl)) (by decide) (argsL := [(.int (Int32.ofNat i)), (.int (Int32.ofNat j)), (.int (Int32.ofNat n)), fm]) (rm_pft l Z a0 hw [] cs fm i j n h0 n0 Z0 ST OO (ST.2.2.2.1) hij hjn hn) e1 (W := 0) (by decide) (by decide) (by decide) (by decide) (g := (mkF m 6 #[.val (.int (Int32.ofNat i)), .val (.int (Int32.ofNat j)), .val (.int (Int32.ofNat n))] [fm, (.int (Int32.ofNat n)), (.int (Int32.ofNat j)), (.int (Int32.ofNat i))])) rfl (by rw [hml]; rfl) (rest := []) (lenOf pd_16 rfl) rfl (by show 2 * 0 + _ ≤ _; exact Nat.le_of_eq rfl) (hb hby d_jdk_42_method_158_code_6)
  refine Goes.step st2 ?_
  obtain ⟨rfl, N2, e2⟩ := hQ2
  have N3 := Fr.app N0 N2
  show Goes p ee below s _ _ _ (T2.setTop (mkF m 9 #[.val (.int (Int32.ofNat i)), .val (.int (Int32.ofNat j)), .val (.int (Int32.ofNat n))] [(.int (Int32.ofNat i))]))
  refine Goes.step (fun _ hr_ => XT.pop X2.here hx rfl (hb hby d_jdk_42_method_158_code_9) rfl rfl hr_) ?_
  show Goes p ee below s _ _ _ (T2.setTop (mkF m 10 #[.val (.int (Int32.ofNat i)), .val (.int (Int32.ofNat j)), .val (.int (Int32.ofNat n))] []))
  refine Goes.retV X2 hx Bd.notSynchronized Bd.returns (hb hby d_jdk_42_method_158_code_10) (by decide) (by decide) ?_
  exact ⟨rfl, N3, e2⟩
theorem ef_pfs (m : MethodId) (x0 : Int32) (x1 : Int32) (x2 : Int32) (x3 : Value) (hx3 : x3.isRef = true) : entryFrame m #[(.int x0), (.int x1), (.int x2), x3] 4 = mkF m 0 #[.val (.int x0), .val (.int x1), .val (.int x2), .val x3] [] := by cases x3 <;> simp [Value.isRef] at hx3 <;> first | (simp [entryFrame, mkF, argsToLocals, Value.category]; done) | rfl
theorem d_jdk_41_method_13_code_0 : decode jdk_41_method_13_code 0 = .ok (.iload_n 2, 1) := by decide +kernel
theorem d_jdk_41_method_13_code_1 : decode jdk_41_method_13_code 1 = .ok (.iload_n 0, 1) := by decide +kernel
theorem d_jdk_41_method_13_code_2 : decode jdk_41_method_13_code 2 = .ok (.ior, 1) := by decide +kernel
theorem d_jdk_41_method_13_code_3 : decode jdk_41_method_13_code 3 = .ok (.iload_n 1, 1) := by decide +kernel
theorem d_jdk_41_method_13_code_4 : decode jdk_41_method_13_code 4 = .ok (.ior, 1) := by decide +kernel
theorem d_jdk_41_method_13_code_5 : decode jdk_41_method_13_code 5 = .ok (.ifCond .lt 10, 3) := by decide +kernel
theorem d_jdk_41_method_13_code_8 : decode jdk_41_method_13_code 8 = .ok (.iload_n 1, 1) := by decide +kernel
theorem d_jdk_41_method_13_code_9 : decode jdk_41_method_13_code 9 = .ok (.iload_n 2, 1) := by decide +kernel
theorem d_jdk_41_method_13_code_10 : decode jdk_41_method_13_code 10 = .ok (.iload_n 0, 1) := by decide +kernel
theorem d_jdk_41_method_13_code_11 : decode jdk_41_method_13_code 11 = .ok (.isub, 1) := by decide +kernel
theorem d_jdk_41_method_13_code_12 : decode jdk_41_method_13_code 12 = .ok (.if_icmp .le 11, 3) := by decide +kernel
theorem d_jdk_41_method_13_code_23 : decode jdk_41_method_13_code 23 = .ok (.iload_n 0, 1) := by decide +kernel
theorem d_jdk_41_method_13_code_24 : decode jdk_41_method_13_code 24 = .ok (.ireturn, 1) := by decide +kernel
def Q_pfs (Z : State) (cs : Int32) (fm : Value) (i k n : Nat) (h0 : Heap) (n0 : Nat) (v : Option Value) (h : Heap) (L : List Loc) : Prop := v = some (.int (Int32.ofNat i)) ∧ Fr n0 L ∧ h = h0
set_option maxRecDepth 65536 in
set_option maxHeartbeats 40000000 in
theorem rm_pfs (l : Launch) (Z : State) (a0 : Array Value) (hw : ∀ d ∈ tables_1, d.before a0 Z = true) (ws : List Jvm.Cond) (cs : Int32) (fm : Value) (i k n : Nat) (h0 : Heap) (n0 : Nat) (Z0 : n0 ≤ h0.size) (ST : own_ST Z cs fm) (OO : Old Z n0 h0) (hfm : fm.isRef = true) (hik : i + k ≤ n) (hn : n < 2 ^ 31) :
    MetFree l (⟨"jdk/internal/util/Preconditions", "checkFromIndexSize", "(IIILjava/util/function/BiFunction;)I"⟩ : MethodName) (head1 (Jvm.Cond.code (⟨"jdk/internal/util/Preconditions", "checkFromIndexSize", "(IIILjava/util/function/BiFunction;)I"⟩ : MethodName) jdk_41_method_13_code 4 (some .int) :: ws) ({ frames := 0, cells := 0, slots := 0, locals := 0 } : Room)) (fun a U => a = #[(.int (Int32.ofNat i)), (.int (Int32.ofNat k)), (.int (Int32.ofNat n)), fm] ∧ Z.Warmed39 U.vm ∧ U.heap = h0) (fun _ _ _ _ _ => True) (fun _ U o U' => ∃ v L, o = .returned v ∧ Q_pfs Z cs fm i k n h0 n0 v U'.heap L ∧ FrameEnd U o U' L ({ frames := 0, cells := 0, slots := 0, locals := 0 } : Room).cells ({ frames := 0, cells := 0, slots := 0, locals := 0 } : Room).slots) := by
  refine MetFree.of_bodySF (plainFor_of_name pn_jdk_internal_util_Preconditions) hisR ?_
  intro p ee s m args below meth cc s₁ Bd hml0 hP hK
  obtain ⟨rfl, hZ, hh⟩ := hP
  have hx := Bd.exec
  have hby := Bd.bytes
  have hml : cc.maxLocals = 4 := hml0
  have hown : s.vm.findClass "jdk/internal/util/Preconditions" = some m.cls := findClass_of_methodNamed Bd.named
  have hnm := (name_of_methodNamed Bd.named Bd.method).1
  have X0 : Stand p l ee ({ frames := 0, cells := 0, slots := 0, locals := 0 } : Room) s m #[(.int (Int32.ofNat i)), (.int (Int32.ofNat k)), (.int (Int32.ofNat n)), fm] below meth cc s₁ [] 0 0 := Stand.of_body Bd
  have e0 : s₁.heap = h0 := by rw [← hh, Bd.state]; rfl
  have N0 := Fr.nil n0
  show Goes p ee below s ({ frames := 0, cells := 0, slots := 0, locals := 0 } : Room).cells ({ frames := 0, cells := 0, slots := 0, locals := 0 } : Room).slots (Q_pfs Z cs fm i k n h0 n0) (s₁.setTop (entryFrame m #[(.int (Int32.ofNat i)), (.int (Int32.ofNat k)), (.int (Int32.ofNat n)), fm] 4))
  refine Goes.step (fun _ hr_ => castTop (ef_pfs m (Int32.ofNat i) (Int32.ofNat k) (Int32.ofNat n) fm hfm) hr_) ?_
  show Goes p ee below s _ _ _ (s₁.setTop (mkF m 0 #[.val (.int (Int32.ofNat i)), .val (.int (Int32.ofNat k)), .val (.int (Int32.ofNat n)), .val fm] []))
  refine Goes.step (fun _ hr_ => XS.iloadN X0.here hx rfl (hb hby d_jdk_41_method_13_code_0) rfl  hr_) ?_
  show Goes p ee below s _ _ _ (s₁.setTop (mkF m 1 #[.val (.int (Int32.ofNat i)), .val (.int (Int32.ofNat k)), .val (.int (Int32.ofNat n)), .val fm] [(.int (Int32.ofNat n))]))
  refine Goes.step (fun _ hr_ => XS.iloadN X0.here hx rfl (hb hby d_jdk_41_method_13_code_1) rfl  hr_) ?_
  show Goes p ee below s _ _ _ (s₁.setTop (mkF m 2 #[.val (.int (Int32.ofNat i)), .val (.int (Int32.ofNat k)), .val (.int (Int32.ofNat n)), .val fm] [(.int (Int32.ofNat i)), (.int (Int32.ofNat n))]))
  refine Goes.step (fun _ hr_ => XT.ior X0.here hx rfl (hb hby d_jdk_41_method_13_code_2) rfl hr_) ?_
  show Goes p ee below s _ _ _ (s₁.setTop (mkF m 3 #[.val (.int (Int32.ofNat i)), .val (.int (Int32.ofNat k)), .val (.int (Int32.ofNat n)), .val fm] [(.int ((Int32.ofNat n) ||| (Int32.ofNat i)))]))
  refine Goes.step (fun _ hr_ => XS.iloadN X0.here hx rfl (hb hby d_jdk_41_method_13_code_3) rfl  hr_) ?_
  show Goes p ee below s _ _ _ (s₁.setTop (mkF m 4 #[.val (.int (Int32.ofNat i)), .val (.int (Int32.ofNat k)), .val (.int (Int32.ofNat n)), .val fm] [(.int (Int32.ofNat k)), (.int ((Int32.ofNat n) ||| (Int32.ofNat i)))]))
  refine Goes.step (fun _ hr_ => XT.ior X0.here hx rfl (hb hby d_jdk_41_method_13_code_4) rfl hr_) ?_
  show Goes p ee below s _ _ _ (s₁.setTop (mkF m 5 #[.val (.int (Int32.ofNat i)), .val (.int (Int32.ofNat k)), .val (.int (Int32.ofNat n)), .val fm] [(.int (((Int32.ofNat n) ||| (Int32.ofNat i)) ||| (Int32.ofNat k)))]))
  refine Goes.step (fun _ hr_ => XS.ifNo X0.here hx rfl (hb hby d_jdk_41_method_13_code_5) rfl ((if0 _ _).trans (flt (own_or_nneg (own_or_nneg (own_nneg n hn) (own_nneg i (by omega))) (own_nneg k (by omega)))).1) hr_) ?_
  show Goes p ee below s _ _ _ (s₁.setTop (mkF m 8 #[.val (.int (Int32.ofNat i)), .val (.int (Int32.ofNat k)), .val (.int (Int32.ofNat n)), .val fm] []))
  refine Goes.step (fun _ hr_ => XS.iloadN X0.here hx rfl (hb hby d_jdk_41_method_13_code_8) rfl  hr_) ?_
  show Goes p ee below s _ _ _ (s₁.setTop (mkF m 9 #[.val (.int (Int32.ofNat i)), .val (.int (Int32.ofNat k)), .val (.int (Int32.ofNat n)), .val fm] [(.int (Int32.ofNat k))]))
  refine Goes.step (fun _ hr_ => XS.iloadN X0.here hx rfl (hb hby d_jdk_41_method_13_code_9) rfl  hr_) ?_
  show Goes p ee below s _ _ _ (s₁.setTop (mkF m 10 #[.val (.int (Int32.ofNat i)), .val (.int (Int32.ofNat k)), .val (.int (Int32.ofNat n)), .val fm] [(.int (Int32.ofNat n)), (.int (Int32.ofNat k))]))
  refine Goes.step (fun _ hr_ => XS.iloadN X0.here hx rfl (hb hby d_jdk_41_method_13_code_10) rfl  hr_) ?_
  show Goes p ee below s _ _ _ (s₁.setTop (mkF m 11 #[.val (.int (Int32.ofNat i)), .val (.int (Int32.ofNat k)), .val (.int (Int32.ofNat n)), .val fm] [(.int (Int32.ofNat i)), (.int (Int32.ofNat n)), (.int (Int32.ofNat k))]))
  refine Goes.step (fun _ hr_ => XS.isub X0.here hx rfl (hb hby d_jdk_41_method_13_code_11) rfl hr_) ?_
  show Goes p ee below s _ _ _ (s₁.setTop (mkF m 12 #[.val (.int (Int32.ofNat i)), .val (.int (Int32.ofNat k)), .val (.int (Int32.ofNat n)), .val fm] [(.int ((Int32.ofNat n) - (Int32.ofNat i))), (.int (Int32.ofNat k))]))
  rw [own_subN n i hn (by omega)]
  show Goes p ee below s _ _ _ (s₁.setTop (mkF m 12 #[.val (.int (Int32.ofNat i)), .val (.int (Int32.ofNat k)), .val (.int (Int32.ofNat n)), .val fm] [(.int (Int32.ofNat (n - i))), (.int (Int32.ofNat k))]))
  refine Goes.step (fun _ hr_ => XS.icmpYes X0.here hx rfl (pc0 := 12) (pc' := 23) rfl (hb hby d_jdk_41_method_13_code_12) rfl (flt (fun z => absurd ((own_ltN (n - i) k (by omega) (by omega)).mp z) (by omega))).2.2.2 (by decide) (by decide) hr_) ?_
  show Goes p ee below s _ _ _ (s₁.setTop (mkF m 23 #[.val (.int (Int32.ofNat i)), .val (.int (Int32.ofNat k)), .val (.int (Int32.ofNat n)), .val fm] []))
  refine Goes.step (fun _ hr_ => XS.iloadN X0.here hx rfl (hb hby d_jdk_41_method_13_code_23) rfl  hr_) ?_
  show Goes p ee below s _ _ _ (s₁.setTop (mkF m 24 #[.val (.int (Int32.ofNat i)), .val (.int (Int32.ofNat k)), .val (.int (Int32.ofNat n)), .val fm] [(.int (Int32.ofNat i))]))
  refine Goes.retI X0 hx Bd.notSynchronized Bd.returns (hb hby d_jdk_41_method_13_code_24) (by decide) (by decide) ?_
  exact ⟨rfl, N0, e0⟩
theorem ef_soc (m : MethodId) (x0 : Int32) (x1 : Int32) (x2 : Int32) : entryFrame m #[(.int x0), (.int x1), (.int x2)] 3 = mkF m 0 #[.val (.int x0), .val (.int x1), .val (.int x2)] [] := by first | (simp [entryFrame, mkF, argsToLocals, Value.category]; done) | rfl
theorem d_jdk_42_method_157_code_0 : decode jdk_42_method_157_code 0 = .ok (.iload_n 0, 1) := by decide +kernel
theorem d_jdk_42_method_157_code_1 : decode jdk_42_method_157_code 1 = .ok (.iload_n 1, 1) := by decide +kernel
theorem d_jdk_42_method_157_code_2 : decode jdk_42_method_157_code 2 = .ok (.iload_n 2, 1) := by decide +kernel
theorem d_jdk_42_method_157_code_3 : decode jdk_42_method_157_code 3 = .ok (.getstatic 1053, 3) := by decide +kernel
theorem d_jdk_42_method_157_code_6 : decode jdk_42_method_157_code 6 = .ok (.invokestatic 1065, 3) := by decide +kernel
theorem d_jdk_42_method_157_code_9 : decode jdk_42_method_157_code 9 = .ok (.ireturn, 1) := by decide +kernel
def Q_soc (Z : State) (cs : Int32) (fm : Value) (i k n : Nat) (h0 : Heap) (n0 : Nat) (v : Option Value) (h : Heap) (L : List Loc) : Prop := v = some (.int (Int32.ofNat i)) ∧ Fr n0 L ∧ h = h0
set_option maxRecDepth 65536 in
set_option maxHeartbeats 40000000 in
theorem rm_soc (l : Launch) (Z : State) (a0 : Array Value) (hw : ∀ d ∈ tables_1, d.before a0 Z = true) (ws : List Jvm.Cond) (cs : Int32) (fm : Value) (i k n : Nat) (h0 : Heap) (n0 : Nat) (Z0 : n0 ≤ h0.size) (ST : own_ST Z cs fm) (OO : Old Z n0 h0) (hik : i + k ≤ n) (hn : n < 2 ^ 31) :
    MetFree l (⟨"java/lang/String", "checkBoundsOffCount", "(III)I"⟩ : MethodName) (head1 (Jvm.Cond.code (⟨"java/lang/String", "checkBoundsOffCount", "(III)I"⟩ : MethodName) jdk_42_method_157_code 3 (some .int) :: ws) ({ frames := 1, cells := 0, slots := 0, locals := 15 } : Room)) (fun a U => a = #[(.int (Int32.ofNat i)), (.int (Int32.ofNat k)), (.int (Int32.ofNat n))] ∧ Z.Warmed39 U.vm ∧ U.heap = h0) (fun _ _ _ _ _ => True) (fun _ U o U' => ∃ v L, o = .returned v ∧ Q_soc Z cs fm i k n h0 n0 v U'.heap L ∧ FrameEnd U o U' L ({ frames := 1, cells := 0, slots := 0, locals := 15 } : Room).cells ({ frames := 1, cells := 0, slots := 0, locals := 15 } : Room).slots) := by
  refine MetFree.of_bodySF (plainFor_of_name pn_java_lang_String) hisR ?_
  intro p ee s m args below meth cc s₁ Bd hml0 hP hK
  obtain ⟨rfl, hZ, hh⟩ := hP
  have hx := Bd.exec
  have hby := Bd.bytes
  have hml : cc.maxLocals = 3 := hml0
  have hown : s.vm.findClass "java/lang/String" = some m.cls := findClass_of_methodNamed Bd.named
  have hnm := (name_of_methodNamed Bd.named Bd.method).1
  have X0 : Stand p l ee ({ frames := 1, cells := 0, slots := 0, locals := 15 } : Room) s m #[(.int (Int32.ofNat i)), (.int (Int32.ofNat k)), (.int (Int32.ofNat n))] below meth cc s₁ [] 0 0 := Stand.of_body Bd
  have e0 : s₁.heap = h0 := by rw [← hh, Bd.state]; rfl
  have N0 := Fr.nil n0
  show Goes p ee below s ({ frames := 1, cells := 0, slots := 0, locals := 15 } : Room).cells ({ frames := 1, cells := 0, slots := 0, locals := 15 } : Room).slots (Q_soc Z cs fm i k n h0 n0) (s₁.setTop (entryFrame m #[(.int (Int32.ofNat i)), (.int (Int32.ofNat k)), (.int (Int32.ofNat n))] 3))
  refine Goes.step (fun _ hr_ => castTop (ef_soc m (Int32.ofNat i) (Int32.ofNat k) (Int32.ofNat n)) hr_) ?_
  show Goes p ee below s _ _ _ (s₁.setTop (mkF m 0 #[.val (.int (Int32.ofNat i)), .val (.int (Int32.ofNat k)), .val (.int (Int32.ofNat n))] []))
  refine Goes.step (fun _ hr_ => XS.iloadN X0.here hx rfl (hb hby d_jdk_42_method_157_code_0) rfl  hr_) ?_
  show Goes p ee below s _ _ _ (s₁.setTop (mkF m 1 #[.val (.int (Int32.ofNat i)), .val (.int (Int32.ofNat k)), .val (.int (Int32.ofNat n))] [(.int (Int32.ofNat i))]))
  refine Goes.step (fun _ hr_ => XS.iloadN X0.here hx rfl (hb hby d_jdk_42_method_157_code_1) rfl  hr_) ?_
  show Goes p ee below s _ _ _ (s₁.setTop (mkF m 2 #[.val (.int (Int32.ofNat i)), .val (.int (Int32.ofNat k)), .val (.int (Int32.ofNat n))] [(.int (Int32.ofNat k)), (.int (Int32.ofNat i))]))
  refine Goes.step (fun _ hr_ => XS.iloadN X0.here hx rfl (hb hby d_jdk_42_method_157_code_2) rfl  hr_) ?_
  show Goes p ee below s _ _ _ (s₁.setTop (mkF m 3 #[.val (.int (Int32.ofNat i)), .val (.int (Int32.ofNat k)), .val (.int (Int32.ofNat n))] [(.int (Int32.ofNat n)), (.int (Int32.ofNat k)), (.int (Int32.ofNat i))]))
  obtain ⟨T1, X1, e1, st1⟩ := getS X0 hx hZ (host := "") hown (hw _ (List.mem_of_getElem? (i := 75) rfl)) Via.refl e0 ((ST.2.2.1).ext OO.2) (g := (mkF m 3 #[.val (.int (Int32.ofNat i)), .val (.int (Int32.ofNat k)), .val (.int (Int32.ofNat n))] [(.int (Int32.ofNat n)), (.int (Int32.ofNat k)), (.int (Int32.ofNat i))])) rfl (hb hby d_jdk_42_method_157_code_3)
  refine Goes.step st1 ?_
  show Goes p ee below s _ _ _ (T1.setTop (mkF m 6 #[.val (.int (Int32.ofNat i)), .val (.int (Int32.ofNat k)), .val (.int (Int32.ofNat n))] [fm, (.int (Int32.ofNat n)), (.int (Int32.ofNat k)), (.int (Int32.ofNat i))]))
  obtain ⟨v2, T2, L2, X2, hQ2, st2⟩ := own_callS X1 hx hZ (y := (⟨"jdk/internal/util/Preconditions", "checkFromIndexSize", "(IIILjava/util/function/BiFunction;)I"⟩ : MethodName)) hown (hw _ (List.mem_of_getElem? (i := 157) rfl)) (hw _ (List.mem_of_getElem? (i := 158) rfl)) (hw _ (List.mem_of_getElem? (i := 76) rfl)) (hw _ (List.mem_of_getElem? (i := 159) rfl)) (by decide) (argsL := [(.int (Int32.ofNat i)), (.int (Int32.ofNat k)), (.int (Int32.ofNat n)), fm]) (rm_pfs l Z a0 hw [] cs fm i k n h0 n0 Z0 ST OO (ST.2.2.2.1) hik hn) e1 (W := 0) (by decide) (by decide) (by decide) (by decide) (g := (mkF m 6 #[.val (.int (Int32.ofNat i)), .val (.int (Int32.ofNat k)), .val (.int (Int32.ofNat n))] [fm, (.int (Int32.ofNat n)), (.int (Int32.ofNat k)), (.int (Int32.ofNat i))])) rfl (by rw [hml]; rfl) (rest := []) (lenOf pd_16 rfl) rfl (by show 2 * 0 + _ ≤ _; exact Nat.le_of_eq rfl) (hb hby d_jdk_42_method_157_code_6)
  refine Goes.step st2 ?_
  obtain ⟨rfl, N2, e2⟩ := hQ2
  have N3 := Fr.app N0 N2
  show Goes p ee below s _ _ _ (T2.setTop (mkF m 9 #[.val (.int (Int32.ofNat i)), .val (.int (Int32.ofNat k)), .val (.int (Int32.ofNat n))] [(.int (Int32.ofNat i))]))
  refine Goes.retI X2 hx Bd.notSynchronized Bd.returns (hb hby d_jdk_42_method_157_code_9) (by decide) (by decide) ?_
  exact ⟨rfl, N3, e2⟩
theorem ef_uoc (m : MethodId) (x0 : Int32) (x1 : Int32) (x2 : Addr) : entryFrame m #[(.int x0), (.int x1), (.ref x2)] 3 = mkF m 0 #[.val (.int x0), .val (.int x1), .val (.ref x2)] [] := by first | (simp [entryFrame, mkF, argsToLocals, Value.category]; done) | rfl
theorem d_jdk_52_method_94_code_0 : decode jdk_52_method_94_code 0 = .ok (.iload_n 0, 1) := by decide +kernel
theorem d_jdk_52_method_94_code_1 : decode jdk_52_method_94_code 1 = .ok (.iload_n 1, 1) := by decide +kernel
theorem d_jdk_52_method_94_code_2 : decode jdk_52_method_94_code 2 = .ok (.aload_n 2, 1) := by decide +kernel
theorem d_jdk_52_method_94_code_3 : decode jdk_52_method_94_code 3 = .ok (.invokestatic 48, 3) := by decide +kernel
theorem pd_17 : parseMethodDescriptor "(III)I" = some ⟨[.int, .int, .int], some .int⟩ := by decide +kernel
theorem d_jdk_52_method_94_code_6 : decode jdk_52_method_94_code 6 = .ok (.invokestatic 419, 3) := by decide +kernel
theorem d_jdk_52_method_94_code_9 : decode jdk_52_method_94_code 9 = .ok (.pop, 1) := by decide +kernel
theorem d_jdk_52_method_94_code_10 : decode jdk_52_method_94_code 10 = .ok (.return_, 1) := by decide +kernel
def Q_uoc (Z : State) (cs : Int32) (fm : Value) (i k : Nat) (a1 : Addr) (n : Nat) (f : Nat → Value) (h0 : Heap) (n0 : Nat) (v : Option Value) (h : Heap) (L : List Loc) : Prop := v = none ∧ Fr n0 L ∧ h = h0
set_option maxRecDepth 65536 in
set_option maxHeartbeats 40000000 in
theorem rm_uoc (l : Launch) (Z : State) (a0 : Array Value) (hw : ∀ d ∈ tables_1, d.before a0 Z = true) (ws : List Jvm.Cond) (cs : Int32) (fm : Value) (i k : Nat) (a1 : Addr) (n : Nat) (f : Nat → Value) (h0 : Heap) (n0 : Nat) (Z0 : n0 ≤ h0.size) (ST : own_ST Z cs fm) (OO : Old Z n0 h0) (hik : i + k ≤ n) (hn : n < 2 ^ 30) (A : OA Z h0 a1 .byte (2 * n) f) :
    MetFree l (⟨"java/lang/StringUTF16", "checkBoundsOffCount", "(II[B)V"⟩ : MethodName) (head1 (Jvm.Cond.code (⟨"java/lang/StringUTF16", "checkBoundsOffCount", "(II[B)V"⟩ : MethodName) jdk_52_method_94_code 3 none :: ws) ({ frames := 2, cells := 0, slots := 0, locals := 29 } : Room)) (fun a U => a = #[(.int (Int32.ofNat i)), (.int (Int32.ofNat k)), (.ref a1)] ∧ Z.Warmed39 U.vm ∧ U.heap = h0) (fun _ _ _ _ _ => True) (fun _ U o U' => ∃ v L, o = .returned v ∧ Q_uoc Z cs fm i k a1 n f h0 n0 v U'.heap L ∧ FrameEnd U o U' L ({ frames := 2, cells := 0, slots := 0, locals := 29 } : Room).cells ({ frames := 2, cells := 0, slots := 0, locals := 29 } : Room).slots) := by
  refine MetFree.of_bodySF (plainFor_of_name pn_java_lang_StringUTF16) hisR ?_
  intro p ee s m args below meth cc s₁ Bd hml0 hP hK
  obtain ⟨rfl, hZ, hh⟩ := hP
  have hx := Bd.exec
  have hby := Bd.bytes
  have hml : cc.maxLocals = 3 := hml0
  have hown : s.vm.findClass "java/lang/StringUTF16" = some m.cls := findClass_of_methodNamed Bd.named
  have hnm := (name_of_methodNamed Bd.named Bd.method).1
  have X0 : Stand p l ee ({ frames := 2, cells := 0, slots := 0, locals := 29 } : Room) s m #[(.int (Int32.ofNat i)), (.int (Int32.ofNat k)), (.ref a1)] below meth cc s₁ [] 0 0 := Stand.of_body Bd
  have e0 : s₁.heap = h0 := by rw [← hh, Bd.state]; rfl
  have N0 := Fr.nil n0
  show Goes p ee below s ({ frames := 2, cells := 0, slots := 0, locals := 29 } : Room).cells ({ frames := 2, cells := 0, slots := 0, locals := 29 } : Room).slots (Q_uoc Z cs fm i k a1 n f h0 n0) (s₁.setTop (entryFrame m #[(.int (Int32.ofNat i)), (.int (Int32.ofNat k)), (.ref a1)] 3))
  refine Goes.step (fun _ hr_ => castTop (ef_uoc m (Int32.ofNat i) (Int32.ofNat k) a1) hr_) ?_
  show Goes p ee below s _ _ _ (s₁.setTop (mkF m 0 #[.val (.int (Int32.ofNat i)), .val (.int (Int32.ofNat k)), .val (.ref a1)] []))
  refine Goes.step (fun _ hr_ => XS.iloadN X0.here hx rfl (hb hby d_jdk_52_method_94_code_0) rfl  hr_) ?_
  show Goes p ee below s _ _ _ (s₁.setTop (mkF m 1 #[.val (.int (Int32.ofNat i)), .val (.int (Int32.ofNat k)), .val (.ref a1)] [(.int (Int32.ofNat i))]))
  refine Goes.step (fun _ hr_ => XS.iloadN X0.here hx rfl (hb hby d_jdk_52_method_94_code_1) rfl  hr_) ?_
  show Goes p ee below s _ _ _ (s₁.setTop (mkF m 2 #[.val (.int (Int32.ofNat i)), .val (.int (Int32.ofNat k)), .val (.ref a1)] [(.int (Int32.ofNat k)), (.int (Int32.ofNat i))]))
  refine Goes.step (fun _ hr_ => XS.aloadN X0.here hx rfl (hb hby d_jdk_52_method_94_code_2) rfl rfl hr_) ?_
  show Goes p ee below s _ _ _ (s₁.setTop (mkF m 3 #[.val (.int (Int32.ofNat i)), .val (.int (Int32.ofNat k)), .val (.ref a1)] [(.ref a1), (.int (Int32.ofNat k)), (.int (Int32.ofNat i))]))
  have lt_a1 := A.lt
  obtain ⟨v1, T1, L1, X1, hQ1, st1⟩ := own_callS X0 hx hZ (y := (⟨"java/lang/StringUTF16", "length", "([B)I"⟩ : MethodName)) hown (hw _ (List.mem_of_getElem? (i := 140) rfl)) (hw _ (List.mem_of_getElem? (i := 141) rfl)) (hw _ (List.mem_of_getElem? (i := 23) rfl)) (hw _ (List.mem_of_getElem? (i := 142) rfl)) (by decide) (argsL := [(.ref a1)]) (rm_u16l l Z a0 hw [] cs fm a1 n _ h0 n0 Z0 ST OO (by omega) A) e0 (W := 2) (by decide) (by decide) (by decide) (by decide) (g := (mkF m 3 #[.val (.int (Int32.ofNat i)), .val (.int (Int32.ofNat k)), .val (.ref a1)] [(.ref a1), (.int (Int32.ofNat k)), (.int (Int32.ofNat i))])) rfl (by rw [hml]; rfl) (rest := [(.int (Int32.ofNat k)), (.int (Int32.ofNat i))]) (lenOf pd_2 rfl) rfl (by show 2 * 0 + _ ≤ _; exact Nat.le_of_eq rfl) (hb hby d_jdk_52_method_94_code_3)
  refine Goes.step st1 ?_
  obtain ⟨rfl, N1, e1⟩ := hQ1
  have N2 := Fr.app N0 N1
  show Goes p ee below s _ _ _ (T1.setTop (mkF m 6 #[.val (.int (Int32.ofNat i)), .val (.int (Int32.ofNat k)), .val (.ref a1)] [(.int (Int32.ofNat n)), (.int (Int32.ofNat k)), (.int (Int32.ofNat i))]))
  have lt_a1 := A.lt
  obtain ⟨v3, T3, L3, X3, hQ3, st3⟩ := own_callS X1 hx hZ (y := (⟨"java/lang/String", "checkBoundsOffCount", "(III)I"⟩ : MethodName)) hown (hw _ (List.mem_of_getElem? (i := 154) rfl)) (hw _ (List.mem_of_getElem? (i := 155) rfl)) (hw _ (List.mem_of_getElem? (i := 8) rfl)) (hw _ (List.mem_of_getElem? (i := 156) rfl)) (by decide) (argsL := [(.int (Int32.ofNat i)), (.int (Int32.ofNat k)), (.int (Int32.ofNat n))]) (rm_soc l Z a0 hw [] cs fm i k n h0 n0 Z0 ST OO hik (by omega)) e1 (W := 0) (by decide) (by decide) (by decide) (by decide) (g := (mkF m 6 #[.val (.int (Int32.ofNat i)), .val (.int (Int32.ofNat k)), .val (.ref a1)] [(.int (Int32.ofNat n)), (.int (Int32.ofNat k)), (.int (Int32.ofNat i))])) rfl (by rw [hml]; rfl) (rest := []) (lenOf pd_17 rfl) rfl (by show 2 * 0 + _ ≤ _; exact Nat.le_of_eq rfl) (hb hby d_jdk_52_method_94_code_6)
  refine Goes.step st3 ?_
  obtain ⟨rfl, N3, e3⟩ := hQ3
  have N4 := Fr.app N2 N3
  show Goes p ee below s _ _ _ (T3.setTop (mkF m 9 #[.val (.int (Int32.ofNat i)), .val (.int (Int32.ofNat k)), .val (.ref a1)] [(.int (Int32.ofNat i))]))
  refine Goes.step (fun _ hr_ => XT.pop X3.here hx rfl (hb hby d_jdk_52_method_94_code_9) rfl rfl hr_) ?_
  show Goes p ee below s _ _ _ (T3.setTop (mkF m 10 #[.val (.int (Int32.ofNat i)), .val (.int (Int32.ofNat k)), .val (.ref a1)] []))
  refine Goes.retV X3 hx Bd.notSynchronized Bd.returns (hb hby d_jdk_52_method_94_code_10) (by decide) (by decide) ?_
  exact ⟨rfl, N4, e3⟩
theorem ef_sbb (m : MethodId) (x0 : Addr) (x1 : Addr) (x2 : Int32) : entryFrame m #[(.ref x0), (.ref x1), (.int x2)] 3 = mkF m 0 #[.val (.ref x0), .val (.ref x1), .val (.int x2)] [] := by first | (simp [entryFrame, mkF, argsToLocals, Value.category]; done) | rfl
theorem d_jdk_42_method_151_code_0 : decode jdk_42_method_151_code 0 = .ok (.aload_n 0, 1) := by decide +kernel
theorem d_jdk_42_method_151_code_1 : decode jdk_42_method_151_code 1 = .ok (.invokespecial 1, 3) := by decide +kernel
theorem d_jdk_42_method_151_code_4 : decode jdk_42_method_151_code 4 = .ok (.aload_n 0, 1) := by decide +kernel
theorem d_jdk_42_method_151_code_5 : decode jdk_42_method_151_code 5 = .ok (.aload_n 1, 1) := by decide +kernel
theorem d_jdk_42_method_151_code_6 : decode jdk_42_method_151_code 6 = .ok (.putfield 9, 3) := by decide +kernel
theorem d_jdk_42_method_151_code_9 : decode jdk_42_method_151_code 9 = .ok (.aload_n 0, 1) := by decide +kernel
theorem d_jdk_42_method_151_code_10 : decode jdk_42_method_151_code 10 = .ok (.iload_n 2, 1) := by decide +kernel
theorem d_jdk_42_method_151_code_11 : decode jdk_42_method_151_code 11 = .ok (.putfield 15, 3) := by decide +kernel
theorem d_jdk_42_method_151_code_14 : decode jdk_42_method_151_code 14 = .ok (.return_, 1) := by decide +kernel
def Q_sbb (Z : State) (cs : Int32) (fm : Value) (a1 a2 : Addr) (u : Bool) (uv uc : Value) (h0 : Heap) (n0 : Nat) (v : Option Value) (h : Heap) (L : List Loc) : Prop := v = none ∧ Fr n0 L ∧ Keep h0 h [a1] ∧ Exa Z h a1 "java/lang/String" ∧ Fld Z h a1 "java/lang/String" "value" "[B" (.ref a2) ∧ Fld Z h a1 "java/lang/String" "coder" "B" (.int (own_cd u))
set_option maxRecDepth 65536 in
set_option maxHeartbeats 40000000 in
theorem rm_sbb (l : Launch) (Z : State) (a0 : Array Value) (hw : ∀ d ∈ tables_1, d.before a0 Z = true) (ws : List Jvm.Cond) (cs : Int32) (fm : Value) (a1 a2 : Addr) (u : Bool) (uv uc : Value) (h0 : Heap) (n0 : Nat) (Z0 : n0 ≤ h0.size) (ST : own_ST Z cs fm) (OO : Old Z n0 h0) (ge_a1 : n0 ≤ a1) (E : Exa Z h0 a1 "java/lang/String") (FV : Fld Z h0 a1 "java/lang/String" "value" "[B" uv) (FC : Fld Z h0 a1 "java/lang/String" "coder" "B" uc) :
    MetFree l (⟨"java/lang/String", "<init>", "([BB)V"⟩ : MethodName) (head1 (Jvm.Cond.code (⟨"java/lang/String", "<init>", "([BB)V"⟩ : MethodName) jdk_42_method_151_code 3 none :: ws) ({ frames := 1, cells := 0, slots := 0, locals := 12 } : Room)) (fun a U => a = #[(.ref a1), (.ref a2), (.int (own_cd u))] ∧ Z.Warmed39 U.vm ∧ U.heap = h0) (fun _ _ _ _ _ => True) (fun _ U o U' => ∃ v L, o = .returned v ∧ Q_sbb Z cs fm a1 a2 u uv uc h0 n0 v U'.heap L ∧ FrameEnd U o U' L ({ frames := 1, cells := 0, slots := 0, locals := 12 } : Room).cells ({ frames := 1, cells := 0, slots := 0, locals := 12 } : Room).slots) := by
  refine MetFree.of_bodySF (plainFor_of_name pn_java_lang_String) hisR ?_
  intro p ee s m args below meth cc s₁ Bd hml0 hP hK
  obtain ⟨rfl, hZ, hh⟩ := hP
  have hx := Bd.exec
  have hby := Bd.bytes
  have hml : cc.maxLocals = 3 := hml0
  have hown : s.vm.findClass "java/lang/String" = some m.cls := findClass_of_methodNamed Bd.named
  have hnm := (name_of_methodNamed Bd.named Bd.method).1
  have X0 : Stand p l ee ({ frames := 1, cells := 0, slots := 0, locals := 12 } : Room) s m #[(.ref a1), (.ref a2), (.int (own_cd u))] below meth cc s₁ [] 0 0 := Stand.of_body Bd
  have e0 : s₁.heap = h0 := by rw [← hh, Bd.state]; rfl
  have N0 := Fr.nil n0
  show Goes p ee below s ({ frames := 1, cells := 0, slots := 0, locals := 12 } : Room).cells ({ frames := 1, cells := 0, slots := 0, locals := 12 } : Room).slots (Q_sbb Z cs fm a1 a2 u uv uc h0 n0) (s₁.setTop (entryFrame m #[(.ref a1), (.ref a2), (.int (own_cd u))] 3))
  refine Goes.step (fun _ hr_ => castTop (ef_sbb m a1 a2 (own_cd u)) hr_) ?_
  show Goes p ee below s _ _ _ (s₁.setTop (mkF m 0 #[.val (.ref a1), .val (.ref a2), .val (.int (own_cd u))] []))
  have K0 := Keep.refl h0 ([a1] : List Addr)
  refine Goes.step (fun _ hr_ => XS.aloadN X0.here hx rfl (hb hby d_jdk_42_method_151_code_0) rfl rfl hr_) ?_
  show Goes p ee below s _ _ _ (s₁.setTop (mkF m 1 #[.val (.ref a1), .val (.ref a2), .val (.int (own_cd u))] [(.ref a1)]))
  obtain ⟨T1, X1, e1, st1⟩ := initO X0 hx hZ hown (hw _ (List.mem_of_getElem? (i := 17) rfl)) (hw _ (List.mem_of_getElem? (i := 18) rfl)) (hw _ (List.mem_of_getElem? (i := 19) rfl)) e0 (g := (mkF m 1 #[.val (.ref a1), .val (.ref a2), .val (.int (own_cd u))] [(.ref a1)])) rfl (by rw [hml]; rfl) rfl (hb hby d_jdk_42_method_151_code_1) (by decide) (W := 0) (by show 2 * 0 + _ ≤ _; exact Nat.le_of_eq rfl) (by decide)
  refine Goes.step st1 ?_
  show Goes p ee below s _ _ _ (T1.setTop (mkF m 4 #[.val (.ref a1), .val (.ref a2), .val (.int (own_cd u))] []))
  refine Goes.step (fun _ hr_ => XS.aloadN X1.here hx rfl (hb hby d_jdk_42_method_151_code_4) rfl rfl hr_) ?_
  show Goes p ee below s _ _ _ (T1.setTop (mkF m 5 #[.val (.ref a1), .val (.ref a2), .val (.int (own_cd u))] [(.ref a1)]))
  refine Goes.step (fun _ hr_ => XS.aloadN X1.here hx rfl (hb hby d_jdk_42_method_151_code_5) rfl rfl hr_) ?_
  show Goes p ee below s _ _ _ (T1.setTop (mkF m 6 #[.val (.ref a1), .val (.ref a2), .val (.int (own_cd u))] [(.ref a2), (.ref a1)]))
  obtain ⟨T2, h2, X2, e2, W2, st2⟩ := putF X1 hx hZ hown (host := "") (Or.inl (hw _ (List.mem_of_getElem? (i := 34) rfl))) Via.refl e1 FV E (Or.inr ⟨(hw _ (List.mem_of_getElem? (i := 35) rfl)), rfl, hnm⟩) (hw _ (List.mem_of_getElem? (i := 7) rfl)) (ty := (.array .byte)) (by decide) rfl rfl (g := (mkF m 6 #[.val (.ref a1), .val (.ref a2), .val (.int (own_cd u))] [(.ref a2), (.ref a1)])) rfl rfl (hb hby d_jdk_42_method_151_code_6)
  refine Goes.step st2 ?_
  have E := E.wr W2
  have FC := FC.other W2 (Or.inr (slot_ne (Or.inr (hw _ (List.mem_of_getElem? (i := 33) rfl))) (Or.inr (hw _ (List.mem_of_getElem? (i := 35) rfl))) (by decide) (t := .byte) (t' := (.array .byte)) (by decide) (by decide)))
  have Zp3 := Nat.le_trans Z0 (Keep.of_wr W2).1
  have FV := FV.same W2
  have N4 := Fr.snoc X2 N0 ge_a1
  have OO := OO.wr W2 ge_a1
  have K5 := K0.wr W2 (Or.inl (List.mem_of_getElem? (i := 0) rfl))
  show Goes p ee below s _ _ _ (T2.setTop (mkF m 9 #[.val (.ref a1), .val (.ref a2), .val (.int (own_cd u))] []))
  refine Goes.step (fun _ hr_ => XS.aloadN X2.here hx rfl (hb hby d_jdk_42_method_151_code_9) rfl rfl hr_) ?_
  show Goes p ee below s _ _ _ (T2.setTop (mkF m 10 #[.val (.ref a1), .val (.ref a2), .val (.int (own_cd u))] [(.ref a1)]))
  refine Goes.step (fun _ hr_ => XS.iloadN X2.here hx rfl (hb hby d_jdk_42_method_151_code_10) rfl  hr_) ?_
  show Goes p ee below s _ _ _ (T2.setTop (mkF m 11 #[.val (.ref a1), .val (.ref a2), .val (.int (own_cd u))] [(.int (own_cd u)), (.ref a1)]))
  obtain ⟨T6, h6, X6, e6, W6, st6⟩ := putFN X2 hx hZ hown (hw _ (List.mem_of_getElem? (i := 32) rfl)) Via.refl e2 FC E (Or.inr ⟨(hw _ (List.mem_of_getElem? (i := 33) rfl)), rfl, hnm⟩) (hw _ (List.mem_of_getElem? (i := 7) rfl)) (ty := .byte) (v' := (.int (own_cd u))) (by decide) (own_cd_byte u).1 (own_cd_byte u).2 (g := (mkF m 11 #[.val (.ref a1), .val (.ref a2), .val (.int (own_cd u))] [(.int (own_cd u)), (.ref a1)])) rfl rfl (hb hby d_jdk_42_method_151_code_11)
  refine Goes.step st6 ?_
  have E := E.wr W6
  have FV := FV.other W6 (Or.inr (slot_ne (Or.inr (hw _ (List.mem_of_getElem? (i := 35) rfl))) (Or.inr (hw _ (List.mem_of_getElem? (i := 33) rfl))) (by decide) (t := (.array .byte)) (t' := .byte) (by decide) (by decide)))
  have Zp7 := Nat.le_trans Zp3 (Keep.of_wr W6).1
  have FC := FC.same W6
  have N8 := Fr.snoc X6 N4 ge_a1
  have OO := OO.wr W6 ge_a1
  have K9 := K5.wr W6 (Or.inl (List.mem_of_getElem? (i := 0) rfl))
  show Goes p ee below s _ _ _ (T6.setTop (mkF m 14 #[.val (.ref a1), .val (.ref a2), .val (.int (own_cd u))] []))
  refine Goes.retV X6 hx Bd.notSynchronized Bd.returns (hb hby d_jdk_42_method_151_code_14) (by decide) (by decide) ?_
  rw [e6]
  exact ⟨rfl, N8, K9, E, FV, FC⟩
theorem ef_cmp5b (m : MethodId) (x0 : Addr) (x1 : Int32) (x2 : Addr) (x3 : Int32) (x4 : Int32) : entryFrame m #[(.ref x0), (.int x1), (.ref x2), (.int x3), (.int x4)] 7 = mkF m 0 #[.val (.ref x0), .val (.int x1), .val (.ref x2), .val (.int x3), .val (.int x4), .unset, .unset] [] := by first | (simp [entryFrame, mkF, argsToLocals, Value.category]; done) | rfl
theorem d_jdk_52_method_22_code_0 : decode jdk_52_method_22_code 0 = .ok (.iload_n 1, 1) := by decide +kernel
theorem d_jdk_52_method_22_code_1 : decode jdk_52_method_22_code 1 = .ok (.iload 4, 2) := by decide +kernel
theorem d_jdk_52_method_22_code_3 : decode jdk_52_method_22_code 3 = .ok (.aload_n 0, 1) := by decide +kernel
theorem pd_18 : parseMethodDescriptor "(II[B)V" = some ⟨[.int, .int, (.array .byte)], none⟩ := by decide +kernel
theorem d_jdk_52_method_22_code_4 : decode jdk_52_method_22_code 4 = .ok (.invokestatic 173, 3) := by decide +kernel
theorem d_jdk_52_method_22_code_7 : decode jdk_52_method_22_code 7 = .ok (.iconst 0, 1) := by decide +kernel
theorem d_jdk_52_method_22_code_8 : decode jdk_52_method_22_code 8 = .ok (.istore 5, 2) := by decide +kernel
theorem d_jdk_52_method_22_code_10 : decode jdk_52_method_22_code 10 = .ok (.iload 5, 2) := by decide +kernel
theorem d_jdk_52_method_22_code_12 : decode jdk_52_method_22_code 12 = .ok (.iload 4, 2) := by decide +kernel
theorem d_jdk_52_method_22_code_14 : decode jdk_52_method_22_code 14 = .ok (.if_icmp .ge 39, 3) := by decide +kernel
theorem d_jdk_52_method_22_code_17 : decode jdk_52_method_22_code 17 = .ok (.aload_n 0, 1) := by decide +kernel
theorem d_jdk_52_method_22_code_18 : decode jdk_52_method_22_code 18 = .ok (.iload_n 1, 1) := by decide +kernel
theorem d_jdk_52_method_22_code_19 : decode jdk_52_method_22_code 19 = .ok (.invokestatic 71, 3) := by decide +kernel
theorem d_jdk_52_method_22_code_22 : decode jdk_52_method_22_code 22 = .ok (.istore 6, 2) := by decide +kernel
theorem d_jdk_52_method_22_code_24 : decode jdk_52_method_22_code 24 = .ok (.iload 6, 2) := by decide +kernel
theorem d_jdk_52_method_22_code_26 : decode jdk_52_method_22_code 26 = .ok (.sipush 255, 3) := by decide +kernel
theorem d_jdk_52_method_22_code_29 : decode jdk_52_method_22_code 29 = .ok (.if_icmp .le 6, 3) := by decide +kernel
theorem d_jdk_52_method_22_code_32 : decode jdk_52_method_22_code 32 = .ok (.iload 5, 2) := by decide +kernel
theorem d_jdk_52_method_22_code_34 : decode jdk_52_method_22_code 34 = .ok (.ireturn, 1) := by decide +kernel
theorem d_jdk_52_method_22_code_35 : decode jdk_52_method_22_code 35 = .ok (.aload_n 2, 1) := by decide +kernel
theorem d_jdk_52_method_22_code_36 : decode jdk_52_method_22_code 36 = .ok (.iload_n 3, 1) := by decide +kernel
theorem d_jdk_52_method_22_code_37 : decode jdk_52_method_22_code 37 = .ok (.iload 6, 2) := by decide +kernel
theorem d_jdk_52_method_22_code_39 : decode jdk_52_method_22_code 39 = .ok (.i2b, 1) := by decide +kernel
theorem d_jdk_52_method_22_code_40 : decode jdk_52_method_22_code 40 = .ok (.bastore, 1) := by decide +kernel
theorem d_jdk_52_method_22_code_41 : decode jdk_52_method_22_code 41 = .ok (.iinc 1 1, 3) := by decide +kernel
theorem d_jdk_52_method_22_code_44 : decode jdk_52_method_22_code 44 = .ok (.iinc 3 1, 3) := by decide +kernel
theorem d_jdk_52_method_22_code_47 : decode jdk_52_method_22_code 47 = .ok (.iinc 5 1, 3) := by decide +kernel
theorem d_jdk_52_method_22_code_50 : decode jdk_52_method_22_code 50 = .ok (.goto (-40), 3) := by decide +kernel
theorem d_jdk_52_method_22_code_53 : decode jdk_52_method_22_code 53 = .ok (.iload 4, 2) := by decide +kernel
theorem d_jdk_52_method_22_code_55 : decode jdk_52_method_22_code 55 = .ok (.ireturn, 1) := by decide +kernel
def Q_cmp5b (Z : State) (cs : Int32) (fm : Value) (a1 a2 : Addr) (i k n : Nat) (c : Nat → Nat) (f : Nat → Value) (h0 : Heap) (n0 : Nat) (v : Option Value) (h : Heap) (L : List Loc) : Prop := Fr n0 L ∧ Keep h0 h [a2] ∧ ((v = some (.int (Int32.ofNat k)) ∧ (∀ t, t < k → c (i + t) < 256) ∧ OA Z h a2 .byte k (own_by false (fun t => c (i + t)))) ∨ ∃ t, t < k ∧ v = some (.int (Int32.ofNat t)) ∧ 255 < c (i + t))
set_option maxRecDepth 65536 in
set_option maxHeartbeats 40000000 in
theorem rm_cmp5b (l : Launch) (Z : State) (a0 : Array Value) (hw : ∀ d ∈ tables_1, d.before a0 Z = true) (ws : List Jvm.Cond) (cs : Int32) (fm : Value) (a1 a2 : Addr) (i k n : Nat) (c : Nat → Nat) (f : Nat → Value) (h0 : Heap) (n0 : Nat) (Z0 : n0 ≤ h0.size) (ST : own_ST Z cs fm) (OO : Old Z n0 h0) (hik : i + k ≤ n) (hn : n ≤ 4) (hc : ∀ j, j < n → c j < 65536) (ne12 : a1 ≠ a2) (ge_a2 : n0 ≤ a2) (A : OA Z h0 a1 .byte (2 * n) (own_by true c)) (B : OA Z h0 a2 .byte k f) :
    MetFree l (⟨"java/lang/StringUTF16", "compress", "([BI[BII)I"⟩ : MethodName) (head1 (Jvm.Cond.code (⟨"java/lang/StringUTF16", "compress", "([BI[BII)I"⟩ : MethodName) jdk_52_method_22_code 7 (some .int) :: ws) ({ frames := 3, cells := 0, slots := 0, locals := 43 } : Room)) (fun a U => a = #[(.ref a1), (.int (Int32.ofNat i)), (.ref a2), (.int (0 : Int32)), (.int (Int32.ofNat k))] ∧ Z.Warmed39 U.vm ∧ U.heap = h0) (fun _ _ _ _ _ => True) (fun _ U o U' => ∃ v L, o = .returned v ∧ Q_cmp5b Z cs fm a1 a2 i k n c f h0 n0 v U'.heap L ∧ FrameEnd U o U' L ({ frames := 3, cells := 0, slots := 0, locals := 43 } : Room).cells ({ frames := 3, cells := 0, slots := 0, locals := 43 } : Room).slots) := by
  refine MetFree.of_bodySF (plainFor_of_name pn_java_lang_StringUTF16) hisR ?_
  intro p ee s m args below meth cc s₁ Bd hml0 hP hK
  obtain ⟨rfl, hZ, hh⟩ := hP
  have hx := Bd.exec
  have hby := Bd.bytes
  have hml : cc.maxLocals = 7 := hml0
  have hown : s.vm.findClass "java/lang/StringUTF16" = some m.cls := findClass_of_methodNamed Bd.named
  have hnm := (name_of_methodNamed Bd.named Bd.method).1
  have X0 : Stand p l ee ({ frames := 3, cells := 0, slots := 0, locals := 43 } : Room) s m #[(.ref a1), (.int (Int32.ofNat i)), (.ref a2), (.int (0 : Int32)), (.int (Int32.ofNat k))] below meth cc s₁ [] 0 0 := Stand.of_body Bd
  have e0 : s₁.heap = h0 := by rw [← hh, Bd.state]; rfl
  have N0 := Fr.nil n0
  show Goes p ee below s ({ frames := 3, cells := 0, slots := 0, locals := 43 } : Room).cells ({ frames := 3, cells := 0, slots := 0, locals := 43 } : Room).slots (Q_cmp5b Z cs fm a1 a2 i k n c f h0 n0) (s₁.setTop (entryFrame m #[(.ref a1), (.int (Int32.ofNat i)), (.ref a2), (.int (0 : Int32)), (.int (Int32.ofNat k))] 7))
  refine Goes.step (fun _ hr_ => castTop (ef_cmp5b m a1 (Int32.ofNat i) a2 (0 : Int32) (Int32.ofNat k)) hr_) ?_
  show Goes p ee below s _ _ _ (s₁.setTop (mkF m 0 #[.val (.ref a1), .val (.int (Int32.ofNat i)), .val (.ref a2), .val (.int (0 : Int32)), .val (.int (Int32.ofNat k)), .unset, .unset] []))
  have K0 := Keep.refl h0 ([a2] : List Addr)
  refine Goes.step (fun _ hr_ => XS.iloadN X0.here hx rfl (hb hby d_jdk_52_method_22_code_0) rfl  hr_) ?_
  show Goes p ee below s _ _ _ (s₁.setTop (mkF m 1 #[.val (.ref a1), .val (.int (Int32.ofNat i)), .val (.ref a2), .val (.int (0 : Int32)), .val (.int (Int32.ofNat k)), .unset, .unset] [(.int (Int32.ofNat i))]))
  refine Goes.step (fun _ hr_ => XS.iload X0.here hx rfl (hb hby d_jdk_52_method_22_code_1) rfl  hr_) ?_
  show Goes p ee below s _ _ _ (s₁.setTop (mkF m 3 #[.val (.ref a1), .val (.int (Int32.ofNat i)), .val (.ref a2), .val (.int (0 : Int32)), .val (.int (Int32.ofNat k)), .unset, .unset] [(.int (Int32.ofNat k)), (.int (Int32.ofNat i))]))
  refine Goes.step (fun _ hr_ => XS.aloadN X0.here hx rfl (hb hby d_jdk_52_method_22_code_3) rfl rfl hr_) ?_
  show Goes p ee below s _ _ _ (s₁.setTop (mkF m 4 #[.val (.ref a1), .val (.int (Int32.ofNat i)), .val (.ref a2), .val (.int (0 : Int32)), .val (.int (Int32.ofNat k)), .unset, .unset] [(.ref a1), (.int (Int32.ofNat k)), (.int (Int32.ofNat i))]))
  have lt_a1 := A.lt
  have lt_a2 := B.lt
  obtain ⟨v1, T1, L1, X1, hQ1, st1⟩ := own_callS X0 hx hZ (y := (⟨"java/lang/StringUTF16", "checkBoundsOffCount", "(II[B)V"⟩ : MethodName)) hown (hw _ (List.mem_of_getElem? (i := 151) rfl)) (hw _ (List.mem_of_getElem? (i := 152) rfl)) (hw _ (List.mem_of_getElem? (i := 23) rfl)) (hw _ (List.mem_of_getElem? (i := 153) rfl)) (by decide) (argsL := [(.int (Int32.ofNat i)), (.int (Int32.ofNat k)), (.ref a1)]) (rm_uoc l Z a0 hw [] cs fm i k a1 n _ h0 n0 Z0 ST OO hik (by omega) A) e0 (W := 0) (by decide) (by decide) (by decide) (by decide) (g := (mkF m 4 #[.val (.ref a1), .val (.int (Int32.ofNat i)), .val (.ref a2), .val (.int (0 : Int32)), .val (.int (Int32.ofNat k)), .unset, .unset] [(.ref a1), (.int (Int32.ofNat k)), (.int (Int32.ofNat i))])) rfl (by rw [hml]; rfl) (rest := []) (lenOf pd_18 rfl) rfl (by show 2 * 0 + _ ≤ _; exact Nat.le_of_eq rfl) (hb hby d_jdk_52_method_22_code_4)
  refine Goes.step st1 ?_
  obtain ⟨rfl, N1, e1⟩ := hQ1
  have N2 := Fr.app N0 N1
  show Goes p ee below s _ _ _ (T1.setTop (mkF m 7 #[.val (.ref a1), .val (.int (Int32.ofNat i)), .val (.ref a2), .val (.int (0 : Int32)), .val (.int (Int32.ofNat k)), .unset, .unset] []))
  refine Goes.step (fun _ hr_ => XS.iconst X1.here hx rfl (hb hby d_jdk_52_method_22_code_7) hr_) ?_
  show Goes p ee below s _ _ _ (T1.setTop (mkF m 8 #[.val (.ref a1), .val (.int (Int32.ofNat i)), .val (.ref a2), .val (.int (0 : Int32)), .val (.int (Int32.ofNat k)), .unset, .unset] [(.int (0 : Int32))]))
  refine Goes.step (fun _ hr_ => XS.istore X1.here hx rfl (hb hby d_jdk_52_method_22_code_8) rfl  (l' := #[.val (.ref a1), .val (.int (Int32.ofNat i)), .val (.ref a2), .val (.int (0 : Int32)), .val (.int (Int32.ofNat k)), .val (.int (0 : Int32)), .unset]) rfl hr_) ?_
  show Goes p ee below s _ _ _ (T1.setTop (mkF m 10 #[.val (.ref a1), .val (.int (Int32.ofNat i)), .val (.ref a2), .val (.int (0 : Int32)), .val (.int (Int32.ofNat k)), .val (.int (0 : Int32)), .unset] []))
  have loop : ∀ (d t : Nat) (s6 : Slot) (T : State) (locs : List Loc) (hh : Heap), One s6 → Stand p l ee ({ frames := 3, cells := 0, slots := 0, locals := 43 } : Room) s m #[(.ref a1), (.int (Int32.ofNat i)), (.ref a2), (.int (0 : Int32)), (.int (Int32.ofNat k))] below meth cc T locs 0 0 → T.heap = hh → Fr n0 locs → n0 ≤ hh.size → Keep h0 hh [a2] → Old Z n0 hh → OA Z hh a1 .byte (2 * n) (own_by true c) → OA Z hh a2 .byte k (fun j => if j < t then own_by false (fun t => c (i + t)) j else f j) → (∀ j, j < t → c (i + j) < 256) → 0 < d → k < t + d → t ≤ k → Goes p ee below s ({ frames := 3, cells := 0, slots := 0, locals := 43 } : Room).cells ({ frames := 3, cells := 0, slots := 0, locals := 43 } : Room).slots (Q_cmp5b Z cs fm a1 a2 i k n c f h0 n0) (T.setTop (mkF m 10 #[.val (.ref a1), .val (.int (Int32.ofNat (i + t))), .val (.ref a2), .val (.int (Int32.ofNat t)), .val (.int (Int32.ofNat k)), .val (.int (Int32.ofNat t)), s6] [])) := by
    intro d
    induction d with
    | zero => intro t s6 T locs hh o6 X eT N Zp K OO A B hall q1; omega
    | succ d ih =>
      intro t s6 T locs hh o6 X eT N Zp K OO A B hall q1 q2 q3
      show Goes p ee below s _ _ _ (T.setTop (mkF m 10 #[.val (.ref a1), .val (.int (Int32.ofNat (i + t))), .val (.ref a2), .val (.int (Int32.ofNat t)), .val (.int (Int32.ofNat k)), .val (.int (Int32.ofNat t)), s6] []))
      refine Goes.step (fun _ hr_ => XS.iload X.here hx rfl (hb hby d_jdk_52_method_22_code_10) rfl  hr_) ?_
      show Goes p ee below s _ _ _ (T.setTop (mkF m 12 #[.val (.ref a1), .val (.int (Int32.ofNat (i + t))), .val (.ref a2), .val (.int (Int32.ofNat t)), .val (.int (Int32.ofNat k)), .val (.int (Int32.ofNat t)), s6] [(.int (Int32.ofNat t))]))
      refine Goes.step (fun _ hr_ => XS.iload X.here hx rfl (hb hby d_jdk_52_method_22_code_12) rfl  hr_) ?_
      show Goes p ee below s _ _ _ (T.setTop (mkF m 14 #[.val (.ref a1), .val (.int (Int32.ofNat (i + t))), .val (.ref a2), .val (.int (Int32.ofNat t)), .val (.int (Int32.ofNat k)), .val (.int (Int32.ofNat t)), s6] [(.int (Int32.ofNat k)), (.int (Int32.ofNat t))]))
      by_cases hn14_3 : t < k
      · refine Goes.step (fun _ hr_ => XS.icmpNo X.here hx rfl (hb hby d_jdk_52_method_22_code_14) rfl (tlt ((own_ltN t k (by omega) (by omega)).mpr hn14_3)).2.1 hr_) ?_
        show Goes p ee below s _ _ _ (T.setTop (mkF m 17 #[.val (.ref a1), .val (.int (Int32.ofNat (i + t))), .val (.ref a2), .val (.int (Int32.ofNat t)), .val (.int (Int32.ofNat k)), .val (.int (Int32.ofNat t)), s6] []))
        refine Goes.step (fun _ hr_ => XS.aloadN X.here hx rfl (hb hby d_jdk_52_method_22_code_17) rfl rfl hr_) ?_
        show Goes p ee below s _ _ _ (T.setTop (mkF m 18 #[.val (.ref a1), .val (.int (Int32.ofNat (i + t))), .val (.ref a2), .val (.int (Int32.ofNat t)), .val (.int (Int32.ofNat k)), .val (.int (Int32.ofNat t)), s6] [(.ref a1)]))
        refine Goes.step (fun _ hr_ => XS.iloadN X.here hx rfl (hb hby d_jdk_52_method_22_code_18) rfl  hr_) ?_
        show Goes p ee below s _ _ _ (T.setTop (mkF m 19 #[.val (.ref a1), .val (.int (Int32.ofNat (i + t))), .val (.ref a2), .val (.int (Int32.ofNat t)), .val (.int (Int32.ofNat k)), .val (.int (Int32.ofNat t)), s6] [(.int (Int32.ofNat (i + t))), (.ref a1)]))
        have lt_a1 := A.lt
        have lt_a2 := B.lt
        obtain ⟨v4, T4, L4, X4, hQ4, st4⟩ := own_callS X hx hZ (y := (⟨"java/lang/StringUTF16", "getChar", "([BI)C"⟩ : MethodName)) hown (hw _ (List.mem_of_getElem? (i := 127) rfl)) (hw _ (List.mem_of_getElem? (i := 128) rfl)) (hw _ (List.mem_of_getElem? (i := 23) rfl)) (hw _ (List.mem_of_getElem? (i := 129) rfl)) (by decide) (argsL := [(.ref a1), (.int (Int32.ofNat (i + t)))]) (rm_getc l Z a0 hw [] cs fm a1 (i + t) n c hh n0 Zp ST OO (by omega) (by omega) (hc _ (by omega)) A) eT (W := 0) (by decide) (by decide) (by decide) (by decide) (g := (mkF m 19 #[.val (.ref a1), .val (.int (Int32.ofNat (i + t))), .val (.ref a2), .val (.int (Int32.ofNat t)), .val (.int (Int32.ofNat k)), .val (.int (Int32.ofNat t)), s6] [(.int (Int32.ofNat (i + t))), (.ref a1)])) rfl (by rw [hml]; rfl) (rest := []) (lenOf pd_4 rfl) rfl (by show 2 * 0 + _ ≤ _; exact Nat.le_of_eq rfl) (hb hby d_jdk_52_method_22_code_19)
        refine Goes.step st4 ?_
        obtain ⟨rfl, N4, e4⟩ := hQ4
        have N5 := Fr.app N N4
        show Goes p ee below s _ _ _ (T4.setTop (mkF m 22 #[.val (.ref a1), .val (.int (Int32.ofNat (i + t))), .val (.ref a2), .val (.int (Int32.ofNat t)), .val (.int (Int32.ofNat k)), .val (.int (Int32.ofNat t)), s6] [(.int (Int32.ofNat (c (i + t))))]))
        refine Goes.step (fun _ hr_ => XS.istore X4.here hx rfl (hb hby d_jdk_52_method_22_code_22) rfl  (l' := #[.val (.ref a1), .val (.int (Int32.ofNat (i + t))), .val (.ref a2), .val (.int (Int32.ofNat t)), .val (.int (Int32.ofNat k)), .val (.int (Int32.ofNat t)), .val (.int (Int32.ofNat (c (i + t))))]) (own_os6 o6) hr_) ?_
        show Goes p ee below s _ _ _ (T4.setTop (mkF m 24 #[.val (.ref a1), .val (.int (Int32.ofNat (i + t))), .val (.ref a2), .val (.int (Int32.ofNat t)), .val (.int (Int32.ofNat k)), .val (.int (Int32.ofNat t)), .val (.int (Int32.ofNat (c (i + t))))] []))
        refine Goes.step (fun _ hr_ => XS.iload X4.here hx rfl (hb hby d_jdk_52_method_22_code_24) rfl  hr_) ?_
        show Goes p ee below s _ _ _ (T4.setTop (mkF m 26 #[.val (.ref a1), .val (.int (Int32.ofNat (i + t))), .val (.ref a2), .val (.int (Int32.ofNat t)), .val (.int (Int32.ofNat k)), .val (.int (Int32.ofNat t)), .val (.int (Int32.ofNat (c (i + t))))] [(.int (Int32.ofNat (c (i + t))))]))
        refine Goes.step (fun _ hr_ => XS.sipush X4.here hx rfl (hb hby d_jdk_52_method_22_code_26) hr_) ?_
        show Goes p ee below s _ _ _ (T4.setTop (mkF m 29 #[.val (.ref a1), .val (.int (Int32.ofNat (i + t))), .val (.ref a2), .val (.int (Int32.ofNat t)), .val (.int (Int32.ofNat k)), .val (.int (Int32.ofNat t)), .val (.int (Int32.ofNat (c (i + t))))] [(.int (255 : Int32)), (.int (Int32.ofNat (c (i + t))))]))
        by_cases hn29_6 : 255 < c (i + t)
        · refine Goes.step (fun _ hr_ => XS.icmpNo X4.here hx rfl (hb hby d_jdk_52_method_22_code_29) rfl (tlt ((own_ltN 255 (c (i + t)) (by decide) (Nat.lt_trans (hc (i + t) (by omega)) (by decide))).mpr hn29_6)).2.2.2 hr_) ?_
          show Goes p ee below s _ _ _ (T4.setTop (mkF m 32 #[.val (.ref a1), .val (.int (Int32.ofNat (i + t))), .val (.ref a2), .val (.int (Int32.ofNat t)), .val (.int (Int32.ofNat k)), .val (.int (Int32.ofNat t)), .val (.int (Int32.ofNat (c (i + t))))] []))
          refine Goes.step (fun _ hr_ => XS.iload X4.here hx rfl (hb hby d_jdk_52_method_22_code_32) rfl  hr_) ?_
          show Goes p ee below s _ _ _ (T4.setTop (mkF m 34 #[.val (.ref a1), .val (.int (Int32.ofNat (i + t))), .val (.ref a2), .val (.int (Int32.ofNat t)), .val (.int (Int32.ofNat k)), .val (.int (Int32.ofNat t)), .val (.int (Int32.ofNat (c (i + t))))] [(.int (Int32.ofNat t))]))
          refine Goes.retI X4 hx Bd.notSynchronized Bd.returns (hb hby d_jdk_52_method_22_code_34) (by decide) (by decide) ?_
          rw [e4]
          exact ⟨N5, K, Or.inr ⟨t, hn14_3, rfl, hn29_6⟩⟩
        · refine Goes.step (fun _ hr_ => XS.icmpYes X4.here hx rfl (pc0 := 29) (pc' := 35) rfl (hb hby d_jdk_52_method_22_code_29) rfl (flt (fun z => hn29_6 ((own_ltN 255 (c (i + t)) (by decide) (Nat.lt_trans (hc (i + t) (by omega)) (by decide))).mp z))).2.2.2 (by decide) (by decide) hr_) ?_
          show Goes p ee below s _ _ _ (T4.setTop (mkF m 35 #[.val (.ref a1), .val (.int (Int32.ofNat (i + t))), .val (.ref a2), .val (.int (Int32.ofNat t)), .val (.int (Int32.ofNat k)), .val (.int (Int32.ofNat t)), .val (.int (Int32.ofNat (c (i + t))))] []))
          refine Goes.step (fun _ hr_ => XS.aloadN X4.here hx rfl (hb hby d_jdk_52_method_22_code_35) rfl rfl hr_) ?_
          show Goes p ee below s _ _ _ (T4.setTop (mkF m 36 #[.val (.ref a1), .val (.int (Int32.ofNat (i + t))), .val (.ref a2), .val (.int (Int32.ofNat t)), .val (.int (Int32.ofNat k)), .val (.int (Int32.ofNat t)), .val (.int (Int32.ofNat (c (i + t))))] [(.ref a2)]))
          refine Goes.step (fun _ hr_ => XS.iloadN X4.here hx rfl (hb hby d_jdk_52_method_22_code_36) rfl  hr_) ?_
          show Goes p ee below s _ _ _ (T4.setTop (mkF m 37 #[.val (.ref a1), .val (.int (Int32.ofNat (i + t))), .val (.ref a2), .val (.int (Int32.ofNat t)), .val (.int (Int32.ofNat k)), .val (.int (Int32.ofNat t)), .val (.int (Int32.ofNat (c (i + t))))] [(.int (Int32.ofNat t)), (.ref a2)]))
          refine Goes.step (fun _ hr_ => XS.iload X4.here hx rfl (hb hby d_jdk_52_method_22_code_37) rfl  hr_) ?_
          show Goes p ee below s _ _ _ (T4.setTop (mkF m 39 #[.val (.ref a1), .val (.int (Int32.ofNat (i + t))), .val (.ref a2), .val (.int (Int32.ofNat t)), .val (.int (Int32.ofNat k)), .val (.int (Int32.ofNat t)), .val (.int (Int32.ofNat (c (i + t))))] [(.int (Int32.ofNat (c (i + t)))), (.int (Int32.ofNat t)), (.ref a2)]))
          refine Goes.step (fun _ hr_ => XT.i2b X4.here hx rfl (hb hby d_jdk_52_method_22_code_39) rfl hr_) ?_
          show Goes p ee below s _ _ _ (T4.setTop (mkF m 40 #[.val (.ref a1), .val (.int (Int32.ofNat (i + t))), .val (.ref a2), .val (.int (Int32.ofNat t)), .val (.int (Int32.ofNat k)), .val (.int (Int32.ofNat t)), .val (.int (Int32.ofNat (c (i + t))))] [(.int (Int32.ofNat (c (i + t))).toInt8.toInt32), (.int (Int32.ofNat t)), (.ref a2)]))
          obtain ⟨T7, h7, X7, e7, W7, A7, st7⟩ := own_stB X4 hx hZ e4 B (x := (Int32.ofNat (c (i + t))).toInt8.toInt32) (j := (Int32.ofNat t)) (own_nneg t (by omega)) (k := t) (own_clamp t (by omega)) hn14_3 (g := (mkF m 40 #[.val (.ref a1), .val (.int (Int32.ofNat (i + t))), .val (.ref a2), .val (.int (Int32.ofNat t)), .val (.int (Int32.ofNat k)), .val (.int (Int32.ofNat t)), .val (.int (Int32.ofNat (c (i + t))))] [(.int (Int32.ofNat (c (i + t))).toInt8.toInt32), (.int (Int32.ofNat t)), (.ref a2)])) rfl rfl (hb hby d_jdk_52_method_22_code_40)
          refine Goes.step st7 ?_
          have A := A.other W7 ne12
          have Zp8 := Nat.le_trans Zp (Keep.of_wr W7).1
          have N9 := Fr.snoc X7 N5 ge_a2
          have OO := OO.wr W7 ge_a2
          have K10 := K.wr W7 (Or.inl (List.mem_of_getElem? (i := 0) rfl))
          have B : OA Z h7 a2 .byte k (fun j => if j = t then .int (own_bt ((fun t => c (i + t)) t)) else if j < t then own_by false (fun t => c (i + t)) j else f j) := A7.congr (fun j hj => by rw [own_bt_nar]; rfl)
          show Goes p ee below s _ _ _ (T7.setTop (mkF m 41 #[.val (.ref a1), .val (.int (Int32.ofNat (i + t))), .val (.ref a2), .val (.int (Int32.ofNat t)), .val (.int (Int32.ofNat k)), .val (.int (Int32.ofNat t)), .val (.int (Int32.ofNat (c (i + t))))] []))
          refine Goes.step (fun _ hr_ => XS.iinc X7.here hx rfl (hb hby d_jdk_52_method_22_code_41) rfl (l' := #[.val (.ref a1), .val (.int ((Int32.ofNat (i + t)) + (1 : Int32))), .val (.ref a2), .val (.int (Int32.ofNat t)), .val (.int (Int32.ofNat k)), .val (.int (Int32.ofNat t)), .val (.int (Int32.ofNat (c (i + t))))]) rfl hr_) ?_
          show Goes p ee below s _ _ _ (T7.setTop (mkF m 44 #[.val (.ref a1), .val (.int ((Int32.ofNat (i + t)) + (1 : Int32))), .val (.ref a2), .val (.int (Int32.ofNat t)), .val (.int (Int32.ofNat k)), .val (.int (Int32.ofNat t)), .val (.int (Int32.ofNat (c (i + t))))] []))
          refine Goes.step (fun _ hr_ => XS.iinc X7.here hx rfl (hb hby d_jdk_52_method_22_code_44) rfl (l' := #[.val (.ref a1), .val (.int ((Int32.ofNat (i + t)) + (1 : Int32))), .val (.ref a2), .val (.int ((Int32.ofNat t) + (1 : Int32))), .val (.int (Int32.ofNat k)), .val (.int (Int32.ofNat t)), .val (.int (Int32.ofNat (c (i + t))))]) rfl hr_) ?_
          show Goes p ee below s _ _ _ (T7.setTop (mkF m 47 #[.val (.ref a1), .val (.int ((Int32.ofNat (i + t)) + (1 : Int32))), .val (.ref a2), .val (.int ((Int32.ofNat t) + (1 : Int32))), .val (.int (Int32.ofNat k)), .val (.int (Int32.ofNat t)), .val (.int (Int32.ofNat (c (i + t))))] []))
          refine Goes.step (fun _ hr_ => XS.iinc X7.here hx rfl (hb hby d_jdk_52_method_22_code_47) rfl (l' := #[.val (.ref a1), .val (.int ((Int32.ofNat (i + t)) + (1 : Int32))), .val (.ref a2), .val (.int ((Int32.ofNat t) + (1 : Int32))), .val (.int (Int32.ofNat k)), .val (.int ((Int32.ofNat t) + (1 : Int32))), .val (.int (Int32.ofNat (c (i + t))))]) rfl hr_) ?_
          show Goes p ee below s _ _ _ (T7.setTop (mkF m 50 #[.val (.ref a1), .val (.int ((Int32.ofNat (i + t)) + (1 : Int32))), .val (.ref a2), .val (.int ((Int32.ofNat t) + (1 : Int32))), .val (.int (Int32.ofNat k)), .val (.int ((Int32.ofNat t) + (1 : Int32))), .val (.int (Int32.ofNat (c (i + t))))] []))
          rw [show Int32.ofNat (i + t) + (1 : Int32) = Int32.ofNat (i + (t + 1)) from own_addN (i + t) 1, show Int32.ofNat t + (1 : Int32) = Int32.ofNat (t + 1) from own_addN t 1]
          show Goes p ee below s _ _ _ (T7.setTop (mkF m 50 #[.val (.ref a1), .val (.int (Int32.ofNat (i + (t + 1)))), .val (.ref a2), .val (.int (Int32.ofNat (t + 1))), .val (.int (Int32.ofNat k)), .val (.int (Int32.ofNat (t + 1))), .val (.int (Int32.ofNat (c (i + t))))] []))
          refine Goes.step (fun _ hr_ => XS.goto X7.here hx rfl (pc0 := 50) (pc' := 10) rfl (hb hby d_jdk_52_method_22_code_50) (by decide) (by decide) hr_) ?_
          show Goes p ee below s _ _ _ (T7.setTop (mkF m 10 #[.val (.ref a1), .val (.int (Int32.ofNat (i + (t + 1)))), .val (.ref a2), .val (.int (Int32.ofNat (t + 1))), .val (.int (Int32.ofNat k)), .val (.int (Int32.ofNat (t + 1))), .val (.int (Int32.ofNat (c (i + t))))] []))
          exact ih (t + 1) _ _ _ _ (One.val rfl) X7 e7 N9 Zp8 K10 OO A (own_lat_next B) (fun j hj => by
            by_cases q : j = t
            · rw [q]; omega
            · exact hall j (by omega)) (by omega) (by omega) (by omega)
      · refine Goes.step (fun _ hr_ => XS.icmpYes X.here hx rfl (pc0 := 14) (pc' := 53) rfl (hb hby d_jdk_52_method_22_code_14) rfl (flt (fun z => hn14_3 ((own_ltN t k (by omega) (by omega)).mp z))).2.1 (by decide) (by decide) hr_) ?_
        show Goes p ee below s _ _ _ (T.setTop (mkF m 53 #[.val (.ref a1), .val (.int (Int32.ofNat (i + t))), .val (.ref a2), .val (.int (Int32.ofNat t)), .val (.int (Int32.ofNat k)), .val (.int (Int32.ofNat t)), s6] []))
        refine Goes.step (fun _ hr_ => XS.iload X.here hx rfl (hb hby d_jdk_52_method_22_code_53) rfl  hr_) ?_
        show Goes p ee below s _ _ _ (T.setTop (mkF m 55 #[.val (.ref a1), .val (.int (Int32.ofNat (i + t))), .val (.ref a2), .val (.int (Int32.ofNat t)), .val (.int (Int32.ofNat k)), .val (.int (Int32.ofNat t)), s6] [(.int (Int32.ofNat k))]))
        refine Goes.retI X hx Bd.notSynchronized Bd.returns (hb hby d_jdk_52_method_22_code_55) (by decide) (by decide) ?_
        rw [eT]
        exact ⟨N, K, Or.inl ⟨rfl, fun j hj => hall j (by omega), B.congr (fun j hj => if_pos (by omega))⟩⟩
  exact loop (k + 1) 0 _ _ _ _ One.u X1 e1 N2 Z0 K0 OO A (B.congr (fun j hj => (if_neg (by omega)).symm)) (fun j hj => by omega) (by omega) (by omega) (by omega)
theorem ef_cmp3b (m : MethodId) (x0 : Addr) (x1 : Int32) (x2 : Int32) : entryFrame m #[(.ref x0), (.int x1), (.int x2)] 6 = mkF m 0 #[.val (.ref x0), .val (.int x1), .val (.int x2), .unset, .unset, .unset] [] := by first | (simp [entryFrame, mkF, argsToLocals, Value.category]; done) | rfl
theorem d_jdk_52_method_17_code_0 : decode jdk_52_method_17_code 0 = .ok (.iload_n 2, 1) := by decide +kernel
theorem d_jdk_52_method_17_code_1 : decode jdk_52_method_17_code 1 = .ok (.newarray .byte, 2) := by decide +kernel
theorem d_jdk_52_method_17_code_3 : decode jdk_52_method_17_code 3 = .ok (.astore_n 3, 1) := by decide +kernel
theorem d_jdk_52_method_17_code_4 : decode jdk_52_method_17_code 4 = .ok (.aload_n 0, 1) := by decide +kernel
theorem d_jdk_52_method_17_code_5 : decode jdk_52_method_17_code 5 = .ok (.iload_n 1, 1) := by decide +kernel
theorem d_jdk_52_method_17_code_6 : decode jdk_52_method_17_code 6 = .ok (.aload_n 3, 1) := by decide +kernel
theorem d_jdk_52_method_17_code_7 : decode jdk_52_method_17_code 7 = .ok (.iconst 0, 1) := by decide +kernel
theorem d_jdk_52_method_17_code_8 : decode jdk_52_method_17_code 8 = .ok (.iload_n 2, 1) := by decide +kernel
theorem pd_19 : parseMethodDescriptor "([BI[BII)I" = some ⟨[(.array .byte), .int, (.array .byte), .int, .int], some .int⟩ := by decide +kernel
theorem d_jdk_52_method_17_code_9 : decode jdk_52_method_17_code 9 = .ok (.invokestatic 123, 3) := by decide +kernel
theorem d_jdk_52_method_17_code_12 : decode jdk_52_method_17_code 12 = .ok (.istore 4, 2) := by decide +kernel
theorem d_jdk_52_method_17_code_14 : decode jdk_52_method_17_code 14 = .ok (.iload 4, 2) := by decide +kernel
theorem d_jdk_52_method_17_code_16 : decode jdk_52_method_17_code 16 = .ok (.iload_n 2, 1) := by decide +kernel
theorem d_jdk_52_method_17_code_17 : decode jdk_52_method_17_code 17 = .ok (.if_icmp .eq 47, 3) := by decide +kernel
theorem d_jdk_52_method_17_code_64 : decode jdk_52_method_17_code 64 = .ok (.aload_n 3, 1) := by decide +kernel
theorem d_jdk_52_method_17_code_65 : decode jdk_52_method_17_code 65 = .ok (.areturn, 1) := by decide +kernel
theorem d_jdk_52_method_17_code_20 : decode jdk_52_method_17_code 20 = .ok (.aload_n 0, 1) := by decide +kernel
theorem d_jdk_52_method_17_code_21 : decode jdk_52_method_17_code 21 = .ok (.iload_n 1, 1) := by decide +kernel
theorem d_jdk_52_method_17_code_22 : decode jdk_52_method_17_code 22 = .ok (.iconst 1, 1) := by decide +kernel
theorem d_jdk_52_method_17_code_23 : decode jdk_52_method_17_code 23 = .ok (.ishl, 1) := by decide +kernel
theorem d_jdk_52_method_17_code_24 : decode jdk_52_method_17_code 24 = .ok (.iload_n 1, 1) := by decide +kernel
theorem d_jdk_52_method_17_code_25 : decode jdk_52_method_17_code 25 = .ok (.iload_n 2, 1) := by decide +kernel
theorem d_jdk_52_method_17_code_26 : decode jdk_52_method_17_code 26 = .ok (.iadd, 1) := by decide +kernel
theorem d_jdk_52_method_17_code_27 : decode jdk_52_method_17_code 27 = .ok (.invokestatic 11, 3) := by decide +kernel
theorem d_jdk_52_method_17_code_30 : decode jdk_52_method_17_code 30 = .ok (.invokestatic 126, 3) := by decide +kernel
theorem d_jdk_52_method_17_code_33 : decode jdk_52_method_17_code 33 = .ok (.astore 5, 2) := by decide +kernel
theorem d_jdk_52_method_17_code_35 : decode jdk_52_method_17_code 35 = .ok (.aload 5, 2) := by decide +kernel
theorem d_jdk_52_method_17_code_37 : decode jdk_52_method_17_code 37 = .ok (.iload 4, 2) := by decide +kernel
theorem d_jdk_52_method_17_code_39 : decode jdk_52_method_17_code 39 = .ok (.invokestatic 71, 3) := by decide +kernel
theorem d_jdk_52_method_17_code_42 : decode jdk_52_method_17_code 42 = .ok (.sipush 255, 3) := by decide +kernel
theorem d_jdk_52_method_17_code_45 : decode jdk_52_method_17_code 45 = .ok (.if_icmp .gt 16, 3) := by decide +kernel
theorem d_jdk_52_method_17_code_61 : decode jdk_52_method_17_code 61 = .ok (.aload 5, 2) := by decide +kernel
theorem d_jdk_52_method_17_code_63 : decode jdk_52_method_17_code 63 = .ok (.areturn, 1) := by decide +kernel
def Q_cmp3b (Z : State) (cs : Int32) (fm : Value) (a1 : Addr) (i k n : Nat) (c : Nat → Nat) (h0 : Heap) (n0 : Nat) (v : Option Value) (h : Heap) (L : List Loc) : Prop := ∃ (b : Addr) (u : Bool), v = some (.ref b) ∧ Fr n0 L ∧ h0.size ≤ b ∧ Keep h0 h [] ∧ OA Z h b .byte (own_len u k) (own_by u (fun t => c (i + t))) ∧ (u = false → ∀ t, t < k → c (i + t) < 256)
set_option maxRecDepth 65536 in
set_option maxHeartbeats 40000000 in
theorem rm_cmp3b (l : Launch) (Z : State) (a0 : Array Value) (hw : ∀ d ∈ tables_1, d.before a0 Z = true) (ws : List Jvm.Cond) (cs : Int32) (fm : Value) (a1 : Addr) (i k n : Nat) (c : Nat → Nat) (h0 : Heap) (n0 : Nat) (Z0 : n0 ≤ h0.size) (ST : own_ST Z cs fm) (OO : Old Z n0 h0) (hk0 : 0 < k) (hik : i + k ≤ n) (hn : n ≤ 4) (hne : ¬ (i = 0 ∧ k = n)) (hc : ∀ j, j < n → c j < 65536) (A : OA Z h0 a1 .byte (2 * n) (own_by true c)) :
    MetFree l (⟨"java/lang/StringUTF16", "compress", "([BII)[B"⟩ : MethodName) (head1 (Jvm.Cond.code (⟨"java/lang/StringUTF16", "compress", "([BII)[B"⟩ : MethodName) jdk_52_method_17_code 6 (some (.array .byte)) :: ws) ({ frames := 4, cells := 2, slots := 12, locals := 61 } : Room)) (fun a U => a = #[(.ref a1), (.int (Int32.ofNat i)), (.int (Int32.ofNat k))] ∧ Z.Warmed39 U.vm ∧ U.heap = h0) (fun _ _ _ _ _ => True) (fun _ U o U' => ∃ v L, o = .returned v ∧ Q_cmp3b Z cs fm a1 i k n c h0 n0 v U'.heap L ∧ FrameEnd U o U' L ({ frames := 4, cells := 2, slots := 12, locals := 61 } : Room).cells ({ frames := 4, cells := 2, slots := 12, locals := 61 } : Room).slots) := by
  refine MetFree.of_bodySF (plainFor_of_name pn_java_lang_StringUTF16) hisR ?_
  intro p ee s m args below meth cc s₁ Bd hml0 hP hK
  obtain ⟨rfl, hZ, hh⟩ := hP
  have hx := Bd.exec
  have hby := Bd.bytes
  have hml : cc.maxLocals = 6 := hml0
  have hown : s.vm.findClass "java/lang/StringUTF16" = some m.cls := findClass_of_methodNamed Bd.named
  have hnm := (name_of_methodNamed Bd.named Bd.method).1
  have X0 : Stand p l ee ({ frames := 4, cells := 2, slots := 12, locals := 61 } : Room) s m #[(.ref a1), (.int (Int32.ofNat i)), (.int (Int32.ofNat k))] below meth cc s₁ [] 0 0 := Stand.of_body Bd
  have e0 : s₁.heap = h0 := by rw [← hh, Bd.state]; rfl
  have N0 := Fr.nil n0
  show Goes p ee below s ({ frames := 4, cells := 2, slots := 12, locals := 61 } : Room).cells ({ frames := 4, cells := 2, slots := 12, locals := 61 } : Room).slots (Q_cmp3b Z cs fm a1 i k n c h0 n0) (s₁.setTop (entryFrame m #[(.ref a1), (.int (Int32.ofNat i)), (.int (Int32.ofNat k))] 6))
  refine Goes.step (fun _ hr_ => castTop (ef_cmp3b m a1 (Int32.ofNat i) (Int32.ofNat k)) hr_) ?_
  show Goes p ee below s _ _ _ (s₁.setTop (mkF m 0 #[.val (.ref a1), .val (.int (Int32.ofNat i)), .val (.int (Int32.ofNat k)), .unset, .unset, .unset] []))
  have K0 := Keep.refl h0 ([] : List Addr)
  refine Goes.step (fun _ hr_ => XS.iloadN X0.here hx rfl (hb hby d_jdk_52_method_17_code_0) rfl  hr_) ?_
  show Goes p ee below s _ _ _ (s₁.setTop (mkF m 1 #[.val (.ref a1), .val (.int (Int32.ofNat i)), .val (.int (Int32.ofNat k)), .unset, .unset, .unset] [(.int (Int32.ofNat k))]))
  obtain ⟨T1, h1, X1, e1, E1, A1, st1⟩ := own_newP X0 hx hZ (aty := .byte) (hw _ (List.mem_of_getElem? (i := 25) rfl)) e0 (z := (Int32.ofNat k)) (own_nneg k (by omega)) (n := k) (own_clamp k (by omega)) (cap := 4) (by omega) (by decide) (by decide) (by decide) (g := (mkF m 1 #[.val (.ref a1), .val (.int (Int32.ofNat i)), .val (.int (Int32.ofNat k)), .unset, .unset, .unset] [(.int (Int32.ofNat k))])) rfl rfl (hb hby d_jdk_52_method_17_code_1)
  obtain ⟨b1, g_b1⟩ : ∃ z, z = h0.size := ⟨_, rfl⟩
  have ne_a1_b1 : a1 ≠ b1 := Nat.ne_of_lt (Nat.lt_of_lt_of_le A.lt (Nat.le_of_eq g_b1.symm))
  have ge_b1 : n0 ≤ b1 := Nat.le_trans Z0 (Nat.le_of_eq g_b1.symm)
  have sz_b1 : h0.size ≤ b1 := Nat.le_trans K0.1 (Nat.le_of_eq g_b1.symm)
  rw [← g_b1] at A1 st1
  have A := A.ext E1
  have Zp2 := Nat.le_trans Z0 E1.1
  have OO := OO.ext E1
  have K3 := K0.ext E1
  refine Goes.step st1 ?_
  have A_b1 : OA Z h1 b1 .byte k (fun _ => (.int 0)) := A1
  show Goes p ee below s _ _ _ (T1.setTop (mkF m 3 #[.val (.ref a1), .val (.int (Int32.ofNat i)), .val (.int (Int32.ofNat k)), .unset, .unset, .unset] [(.ref b1)]))
  refine Goes.step (fun _ hr_ => XS.astoreN X1.here hx rfl (hb hby d_jdk_52_method_17_code_3) rfl rfl (l' := #[.val (.ref a1), .val (.int (Int32.ofNat i)), .val (.int (Int32.ofNat k)), .val (.ref b1), .unset, .unset]) rfl hr_) ?_
  show Goes p ee below s _ _ _ (T1.setTop (mkF m 4 #[.val (.ref a1), .val (.int (Int32.ofNat i)), .val (.int (Int32.ofNat k)), .val (.ref b1), .unset, .unset] []))
  refine Goes.step (fun _ hr_ => XS.aloadN X1.here hx rfl (hb hby d_jdk_52_method_17_code_4) rfl rfl hr_) ?_
  show Goes p ee below s _ _ _ (T1.setTop (mkF m 5 #[.val (.ref a1), .val (.int (Int32.ofNat i)), .val (.int (Int32.ofNat k)), .val (.ref b1), .unset, .unset] [(.ref a1)]))
  refine Goes.step (fun _ hr_ => XS.iloadN X1.here hx rfl (hb hby d_jdk_52_method_17_code_5) rfl  hr_) ?_
  show Goes p ee below s _ _ _ (T1.setTop (mkF m 6 #[.val (.ref a1), .val (.int (Int32.ofNat i)), .val (.int (Int32.ofNat k)), .val (.ref b1), .unset, .unset] [(.int (Int32.ofNat i)), (.ref a1)]))
  refine Goes.step (fun _ hr_ => XS.aloadN X1.here hx rfl (hb hby d_jdk_52_method_17_code_6) rfl rfl hr_) ?_
  show Goes p ee below s _ _ _ (T1.setTop (mkF m 7 #[.val (.ref a1), .val (.int (Int32.ofNat i)), .val (.int (Int32.ofNat k)), .val (.ref b1), .unset, .unset] [(.ref b1), (.int (Int32.ofNat i)), (.ref a1)]))
  refine Goes.step (fun _ hr_ => XS.iconst X1.here hx rfl (hb hby d_jdk_52_method_17_code_7) hr_) ?_
  show Goes p ee below s _ _ _ (T1.setTop (mkF m 8 #[.val (.ref a1), .val (.int (Int32.ofNat i)), .val (.int (Int32.ofNat k)), .val (.ref b1), .unset, .unset] [(.int (0 : Int32)), (.ref b1), (.int (Int32.ofNat i)), (.ref a1)]))
  refine Goes.step (fun _ hr_ => XS.iloadN X1.here hx rfl (hb hby d_jdk_52_method_17_code_8) rfl  hr_) ?_
  show Goes p ee below s _ _ _ (T1.setTop (mkF m 9 #[.val (.ref a1), .val (.int (Int32.ofNat i)), .val (.int (Int32.ofNat k)), .val (.ref b1), .unset, .unset] [(.int (Int32.ofNat k)), (.int (0 : Int32)), (.ref b1), (.int (Int32.ofNat i)), (.ref a1)]))
  have lt_a1 := A.lt
  have lt_b1 := A_b1.lt
  obtain ⟨v4, T4, L4, X4, hQ4, st4⟩ := own_callS X1 hx hZ (y := (⟨"java/lang/StringUTF16", "compress", "([BI[BII)I"⟩ : MethodName)) hown (hw _ (List.mem_of_getElem? (i := 148) rfl)) (hw _ (List.mem_of_getElem? (i := 149) rfl)) (hw _ (List.mem_of_getElem? (i := 23) rfl)) (hw _ (List.mem_of_getElem? (i := 150) rfl)) (by decide) (argsL := [(.ref a1), (.int (Int32.ofNat i)), (.ref b1), (.int (0 : Int32)), (.int (Int32.ofNat k))]) (rm_cmp5b l Z a0 hw [] cs fm a1 b1 i k n c _ h1 n0 Zp2 ST OO hik hn hc ne_a1_b1 ge_b1 A A_b1) e1 (W := 0) (by decide) (by decide) (by decide) (by decide) (g := (mkF m 9 #[.val (.ref a1), .val (.int (Int32.ofNat i)), .val (.int (Int32.ofNat k)), .val (.ref b1), .unset, .unset] [(.int (Int32.ofNat k)), (.int (0 : Int32)), (.ref b1), (.int (Int32.ofNat i)), (.ref a1)])) rfl (by rw [hml]; rfl) (rest := []) (lenOf pd_19 rfl) rfl (by show 2 * 0 + _ ≤ _; exact Nat.le_of_eq rfl) (hb hby d_jdk_52_method_17_code_9)
  refine Goes.step st4 ?_
  obtain ⟨N4, Kc4, hv4⟩ := hQ4
  have N5 := Fr.app N0 N4
  obtain ⟨h4, e4⟩ : ∃ h', T4.heap = h' := ⟨_, rfl⟩
  rw [e4] at Kc4 hv4
  have A := A.keep Kc4 (ninS ne_a1_b1 nin0)
  have OO := OO.keep Kc4 (allS ge_b1 all0)
  have K6 := K3.trans Kc4 (allS (Or.inr sz_b1) all0)
  have Zp7 := Nat.le_trans Zp2 Kc4.1
  rcases hv4 with ⟨rfl, hall, A_b1⟩ | ⟨kk, hkk, rfl, hk255⟩
  · show Goes p ee below s _ _ _ (T4.setTop (mkF m 12 #[.val (.ref a1), .val (.int (Int32.ofNat i)), .val (.int (Int32.ofNat k)), .val (.ref b1), .unset, .unset] [(.int (Int32.ofNat k))]))
    refine Goes.step (fun _ hr_ => XS.istore X4.here hx rfl (hb hby d_jdk_52_method_17_code_12) rfl  (l' := #[.val (.ref a1), .val (.int (Int32.ofNat i)), .val (.int (Int32.ofNat k)), .val (.ref b1), .val (.int (Int32.ofNat k)), .unset]) rfl hr_) ?_
    show Goes p ee below s _ _ _ (T4.setTop (mkF m 14 #[.val (.ref a1), .val (.int (Int32.ofNat i)), .val (.int (Int32.ofNat k)), .val (.ref b1), .val (.int (Int32.ofNat k)), .unset] []))
    refine Goes.step (fun _ hr_ => XS.iload X4.here hx rfl (hb hby d_jdk_52_method_17_code_14) rfl  hr_) ?_
    show Goes p ee below s _ _ _ (T4.setTop (mkF m 16 #[.val (.ref a1), .val (.int (Int32.ofNat i)), .val (.int (Int32.ofNat k)), .val (.ref b1), .val (.int (Int32.ofNat k)), .unset] [(.int (Int32.ofNat k))]))
    refine Goes.step (fun _ hr_ => XS.iloadN X4.here hx rfl (hb hby d_jdk_52_method_17_code_16) rfl  hr_) ?_
    show Goes p ee below s _ _ _ (T4.setTop (mkF m 17 #[.val (.ref a1), .val (.int (Int32.ofNat i)), .val (.int (Int32.ofNat k)), .val (.ref b1), .val (.int (Int32.ofNat k)), .unset] [(.int (Int32.ofNat k)), (.int (Int32.ofNat k))]))
    refine Goes.step (fun _ hr_ => XS.icmpYes X4.here hx rfl (pc0 := 17) (pc' := 64) rfl (hb hby d_jdk_52_method_17_code_17) rfl (teq rfl).1 (by decide) (by decide) hr_) ?_
    show Goes p ee below s _ _ _ (T4.setTop (mkF m 64 #[.val (.ref a1), .val (.int (Int32.ofNat i)), .val (.int (Int32.ofNat k)), .val (.ref b1), .val (.int (Int32.ofNat k)), .unset] []))
    refine Goes.step (fun _ hr_ => XS.aloadN X4.here hx rfl (hb hby d_jdk_52_method_17_code_64) rfl rfl hr_) ?_
    show Goes p ee below s _ _ _ (T4.setTop (mkF m 65 #[.val (.ref a1), .val (.int (Int32.ofNat i)), .val (.int (Int32.ofNat k)), .val (.ref b1), .val (.int (Int32.ofNat k)), .unset] [(.ref b1)]))
    refine Goes.retA X4 hx Bd.notSynchronized Bd.returns rfl rfl (hb hby d_jdk_52_method_17_code_65) (by decide) (by decide) ?_
    rw [e4]
    exact ⟨_, false, rfl, N5, sz_b1, K6, A_b1, fun _ => hall⟩
  · show Goes p ee below s _ _ _ (T4.setTop (mkF m 12 #[.val (.ref a1), .val (.int (Int32.ofNat i)), .val (.int (Int32.ofNat k)), .val (.ref b1), .unset, .unset] [(.int (Int32.ofNat kk))]))
    refine Goes.step (fun _ hr_ => XS.istore X4.here hx rfl (hb hby d_jdk_52_method_17_code_12) rfl  (l' := #[.val (.ref a1), .val (.int (Int32.ofNat i)), .val (.int (Int32.ofNat k)), .val (.ref b1), .val (.int (Int32.ofNat kk)), .unset]) rfl hr_) ?_
    show Goes p ee below s _ _ _ (T4.setTop (mkF m 14 #[.val (.ref a1), .val (.int (Int32.ofNat i)), .val (.int (Int32.ofNat k)), .val (.ref b1), .val (.int (Int32.ofNat kk)), .unset] []))
    refine Goes.step (fun _ hr_ => XS.iload X4.here hx rfl (hb hby d_jdk_52_method_17_code_14) rfl  hr_) ?_
    show Goes p ee below s _ _ _ (T4.setTop (mkF m 16 #[.val (.ref a1), .val (.int (Int32.ofNat i)), .val (.int (Int32.ofNat k)), .val (.ref b1), .val (.int (Int32.ofNat kk)), .unset] [(.int (Int32.ofNat kk))]))
    refine Goes.step (fun _ hr_ => XS.iloadN X4.here hx rfl (hb hby d_jdk_52_method_17_code_16) rfl  hr_) ?_
    show Goes p ee below s _ _ _ (T4.setTop (mkF m 17 #[.val (.ref a1), .val (.int (Int32.ofNat i)), .val (.int (Int32.ofNat k)), .val (.ref b1), .val (.int (Int32.ofNat kk)), .unset] [(.int (Int32.ofNat k)), (.int (Int32.ofNat kk))]))
    refine Goes.step (fun _ hr_ => XS.icmpNo X4.here hx rfl (hb hby d_jdk_52_method_17_code_17) rfl (feq (fun z => absurd ((own_eqN kk k (by omega) (by omega)).mp z) (by omega))).1 hr_) ?_
    show Goes p ee below s _ _ _ (T4.setTop (mkF m 20 #[.val (.ref a1), .val (.int (Int32.ofNat i)), .val (.int (Int32.ofNat k)), .val (.ref b1), .val (.int (Int32.ofNat kk)), .unset] []))
    refine Goes.step (fun _ hr_ => XS.aloadN X4.here hx rfl (hb hby d_jdk_52_method_17_code_20) rfl rfl hr_) ?_
    show Goes p ee below s _ _ _ (T4.setTop (mkF m 21 #[.val (.ref a1), .val (.int (Int32.ofNat i)), .val (.int (Int32.ofNat k)), .val (.ref b1), .val (.int (Int32.ofNat kk)), .unset] [(.ref a1)]))
    refine Goes.step (fun _ hr_ => XS.iloadN X4.here hx rfl (hb hby d_jdk_52_method_17_code_21) rfl  hr_) ?_
    show Goes p ee below s _ _ _ (T4.setTop (mkF m 22 #[.val (.ref a1), .val (.int (Int32.ofNat i)), .val (.int (Int32.ofNat k)), .val (.ref b1), .val (.int (Int32.ofNat kk)), .unset] [(.int (Int32.ofNat i)), (.ref a1)]))
    refine Goes.step (fun _ hr_ => XS.iconst X4.here hx rfl (hb hby d_jdk_52_method_17_code_22) hr_) ?_
    show Goes p ee below s _ _ _ (T4.setTop (mkF m 23 #[.val (.ref a1), .val (.int (Int32.ofNat i)), .val (.int (Int32.ofNat k)), .val (.ref b1), .val (.int (Int32.ofNat kk)), .unset] [(.int (1 : Int32)), (.int (Int32.ofNat i)), (.ref a1)]))
    refine Goes.step (fun _ hr_ => XT.ishl X4.here hx rfl (hb hby d_jdk_52_method_17_code_23) rfl hr_) ?_
    show Goes p ee below s _ _ _ (T4.setTop (mkF m 24 #[.val (.ref a1), .val (.int (Int32.ofNat i)), .val (.int (Int32.ofNat k)), .val (.ref b1), .val (.int (Int32.ofNat kk)), .unset] [(.int ((Int32.ofNat i) <<< ((1 : Int32) &&& 31))), (.ref a1)]))
    rw [own_shl1 i (by omega)]
    show Goes p ee below s _ _ _ (T4.setTop (mkF m 24 #[.val (.ref a1), .val (.int (Int32.ofNat i)), .val (.int (Int32.ofNat k)), .val (.ref b1), .val (.int (Int32.ofNat kk)), .unset] [(.int (Int32.ofNat (2 * i))), (.ref a1)]))
    refine Goes.step (fun _ hr_ => XS.iloadN X4.here hx rfl (hb hby d_jdk_52_method_17_code_24) rfl  hr_) ?_
    show Goes p ee below s _ _ _ (T4.setTop (mkF m 25 #[.val (.ref a1), .val (.int (Int32.ofNat i)), .val (.int (Int32.ofNat k)), .val (.ref b1), .val (.int (Int32.ofNat kk)), .unset] [(.int (Int32.ofNat i)), (.int (Int32.ofNat (2 * i))), (.ref a1)]))
    refine Goes.step (fun _ hr_ => XS.iloadN X4.here hx rfl (hb hby d_jdk_52_method_17_code_25) rfl  hr_) ?_
    show Goes p ee below s _ _ _ (T4.setTop (mkF m 26 #[.val (.ref a1), .val (.int (Int32.ofNat i)), .val (.int (Int32.ofNat k)), .val (.ref b1), .val (.int (Int32.ofNat kk)), .unset] [(.int (Int32.ofNat k)), (.int (Int32.ofNat i)), (.int (Int32.ofNat (2 * i))), (.ref a1)]))
    refine Goes.step (fun _ hr_ => XS.iadd X4.here hx rfl (hb hby d_jdk_52_method_17_code_26) rfl hr_) ?_
    show Goes p ee below s _ _ _ (T4.setTop (mkF m 27 #[.val (.ref a1), .val (.int (Int32.ofNat i)), .val (.int (Int32.ofNat k)), .val (.ref b1), .val (.int (Int32.ofNat kk)), .unset] [(.int ((Int32.ofNat i) + (Int32.ofNat k))), (.int (Int32.ofNat (2 * i))), (.ref a1)]))
    rw [own_addN i k]
    show Goes p ee below s _ _ _ (T4.setTop (mkF m 27 #[.val (.ref a1), .val (.int (Int32.ofNat i)), .val (.int (Int32.ofNat k)), .val (.ref b1), .val (.int (Int32.ofNat kk)), .unset] [(.int (Int32.ofNat (i + k))), (.int (Int32.ofNat (2 * i))), (.ref a1)]))
    have lt_a1 := A.lt
    obtain ⟨v8, T8, L8, X8, hQ8, st8⟩ := own_callS X4 hx hZ (y := (⟨"java/lang/StringUTF16", "newBytesLength", "(I)I"⟩ : MethodName)) hown (hw _ (List.mem_of_getElem? (i := 117) rfl)) (hw _ (List.mem_of_getElem? (i := 118) rfl)) (hw _ (List.mem_of_getElem? (i := 23) rfl)) (hw _ (List.mem_of_getElem? (i := 119) rfl)) (by decide) (argsL := [(.int (Int32.ofNat (i + k)))]) (rm_nbl l Z a0 hw [] cs fm (i + k) h4 n0 Zp7 ST OO (by omega)) e4 (W := 2) (by decide) (by decide) (by decide) (by decide) (g := (mkF m 27 #[.val (.ref a1), .val (.int (Int32.ofNat i)), .val (.int (Int32.ofNat k)), .val (.ref b1), .val (.int (Int32.ofNat kk)), .unset] [(.int (Int32.ofNat (i + k))), (.int (Int32.ofNat (2 * i))), (.ref a1)])) rfl (by rw [hml]; rfl) (rest := [(.int (Int32.ofNat (2 * i))), (.ref a1)]) (lenOf pd_7 rfl) rfl (by show 2 * 0 + _ ≤ _; exact Nat.le_of_eq rfl) (hb hby d_jdk_52_method_17_code_27)
    refine Goes.step st8 ?_
    obtain ⟨rfl, N8, e8⟩ := hQ8
    have N9 := Fr.app N5 N8
    show Goes p ee below s _ _ _ (T8.setTop (mkF m 30 #[.val (.ref a1), .val (.int (Int32.ofNat i)), .val (.int (Int32.ofNat k)), .val (.ref b1), .val (.int (Int32.ofNat kk)), .unset] [(.int (Int32.ofNat (2 * (i + k)))), (.int (Int32.ofNat (2 * i))), (.ref a1)]))
    have lt_a1 := A.lt
    obtain ⟨v10, T10, L10, X10, hQ10, st10⟩ := own_callS X8 hx hZ (y := (⟨"java/util/Arrays", "copyOfRange", "([BII)[B"⟩ : MethodName)) hown (hw _ (List.mem_of_getElem? (i := 160) rfl)) (hw _ (List.mem_of_getElem? (i := 161) rfl)) (hw _ (List.mem_of_getElem? (i := 162) rfl)) (hw _ (List.mem_of_getElem? (i := 163) rfl)) (by decide) (argsL := [(.ref a1), (.int (Int32.ofNat (2 * i))), (.int (Int32.ofNat (2 * (i + k))))]) (rm_cor l Z a0 hw [] cs fm a1 (2 * i) (2 * (i + k)) _ _ h4 n0 Zp7 ST OO (by omega) (by omega) (by omega) (by omega) A) e8 (W := 0) (by decide) (by decide) (by decide) (by decide) (g := (mkF m 30 #[.val (.ref a1), .val (.int (Int32.ofNat i)), .val (.int (Int32.ofNat k)), .val (.ref b1), .val (.int (Int32.ofNat kk)), .unset] [(.int (Int32.ofNat (2 * (i + k)))), (.int (Int32.ofNat (2 * i))), (.ref a1)])) rfl (by rw [hml]; rfl) (rest := []) (lenOf pd_15 rfl) rfl (by show 2 * 0 + _ ≤ _; exact Nat.le_of_eq rfl) (hb hby d_jdk_52_method_17_code_30)
    refine Goes.step st10 ?_
    obtain ⟨b10, rfl, N10, sz10, Kc10, A_b10⟩ := hQ10
    have N11 := Fr.app N9 N10
    obtain ⟨h10, e10⟩ : ∃ h', T10.heap = h' := ⟨_, rfl⟩
    rw [e10] at Kc10 A_b10
    have A := A.keep Kc10 nin0
    have OO := OO.keep Kc10 all0
    have K12 := K6.trans Kc10 all0
    have Zp13 := Nat.le_trans Zp7 Kc10.1
    have ge_b10 : n0 ≤ b10 := Nat.le_trans Zp7 sz10
    have sz_b10 : h0.size ≤ b10 := Nat.le_trans K6.1 sz10
    have ne_a1_b10 : a1 ≠ b10 := Nat.ne_of_lt (Nat.lt_of_lt_of_le lt_a1 sz10)
    have A_b10 : OA Z h10 b10 .byte (2 * k) (own_by true (fun t => c (i + t))) := (by rw [show 2 * k = 2 * (i + k) - 2 * i by omega]; exact A_b10.congr (fun t ht => own_by_shift c i t))
    show Goes p ee below s _ _ _ (T10.setTop (mkF m 33 #[.val (.ref a1), .val (.int (Int32.ofNat i)), .val (.int (Int32.ofNat k)), .val (.ref b1), .val (.int (Int32.ofNat kk)), .unset] [(.ref b10)]))
    refine Goes.step (fun _ hr_ => XS.astore X10.here hx rfl (hb hby d_jdk_52_method_17_code_33) rfl rfl (l' := #[.val (.ref a1), .val (.int (Int32.ofNat i)), .val (.int (Int32.ofNat k)), .val (.ref b1), .val (.int (Int32.ofNat kk)), .val (.ref b10)]) rfl hr_) ?_
    show Goes p ee below s _ _ _ (T10.setTop (mkF m 35 #[.val (.ref a1), .val (.int (Int32.ofNat i)), .val (.int (Int32.ofNat k)), .val (.ref b1), .val (.int (Int32.ofNat kk)), .val (.ref b10)] []))
    refine Goes.step (fun _ hr_ => XS.aload X10.here hx rfl (hb hby d_jdk_52_method_17_code_35) rfl rfl hr_) ?_
    show Goes p ee below s _ _ _ (T10.setTop (mkF m 37 #[.val (.ref a1), .val (.int (Int32.ofNat i)), .val (.int (Int32.ofNat k)), .val (.ref b1), .val (.int (Int32.ofNat kk)), .val (.ref b10)] [(.ref b10)]))
    refine Goes.step (fun _ hr_ => XS.iload X10.here hx rfl (hb hby d_jdk_52_method_17_code_37) rfl  hr_) ?_
    show Goes p ee below s _ _ _ (T10.setTop (mkF m 39 #[.val (.ref a1), .val (.int (Int32.ofNat i)), .val (.int (Int32.ofNat k)), .val (.ref b1), .val (.int (Int32.ofNat kk)), .val (.ref b10)] [(.int (Int32.ofNat kk)), (.ref b10)]))
    have lt_a1 := A.lt
    have lt_b10 := A_b10.lt
    obtain ⟨v14, T14, L14, X14, hQ14, st14⟩ := own_callS X10 hx hZ (y := (⟨"java/lang/StringUTF16", "getChar", "([BI)C"⟩ : MethodName)) hown (hw _ (List.mem_of_getElem? (i := 127) rfl)) (hw _ (List.mem_of_getElem? (i := 128) rfl)) (hw _ (List.mem_of_getElem? (i := 23) rfl)) (hw _ (List.mem_of_getElem? (i := 129) rfl)) (by decide) (argsL := [(.ref b10), (.int (Int32.ofNat kk))]) (rm_getc l Z a0 hw [] cs fm b10 kk k (fun t => c (i + t)) h10 n0 Zp13 ST OO hkk (by omega) (hc _ (by omega)) A_b10) e10 (W := 0) (by decide) (by decide) (by decide) (by decide) (g := (mkF m 39 #[.val (.ref a1), .val (.int (Int32.ofNat i)), .val (.int (Int32.ofNat k)), .val (.ref b1), .val (.int (Int32.ofNat kk)), .val (.ref b10)] [(.int (Int32.ofNat kk)), (.ref b10)])) rfl (by rw [hml]; rfl) (rest := []) (lenOf pd_4 rfl) rfl (by show 2 * 0 + _ ≤ _; exact Nat.le_of_eq rfl) (hb hby d_jdk_52_method_17_code_39)
    refine Goes.step st14 ?_
    obtain ⟨rfl, N14, e14⟩ := hQ14
    have N15 := Fr.app N11 N14
    show Goes p ee below s _ _ _ (T14.setTop (mkF m 42 #[.val (.ref a1), .val (.int (Int32.ofNat i)), .val (.int (Int32.ofNat k)), .val (.ref b1), .val (.int (Int32.ofNat kk)), .val (.ref b10)] [(.int (Int32.ofNat (c (i + kk))))]))
    refine Goes.step (fun _ hr_ => XS.sipush X14.here hx rfl (hb hby d_jdk_52_method_17_code_42) hr_) ?_
    show Goes p ee below s _ _ _ (T14.setTop (mkF m 45 #[.val (.ref a1), .val (.int (Int32.ofNat i)), .val (.int (Int32.ofNat k)), .val (.ref b1), .val (.int (Int32.ofNat kk)), .val (.ref b10)] [(.int (255 : Int32)), (.int (Int32.ofNat (c (i + kk))))]))
    refine Goes.step (fun _ hr_ => XS.icmpYes X14.here hx rfl (pc0 := 45) (pc' := 61) rfl (hb hby d_jdk_52_method_17_code_45) rfl (tlt ((own_ltN 255 (c (i + kk)) (by decide) (Nat.lt_trans (hc _ (by omega)) (by decide))).mpr hk255)).2.2.1 (by decide) (by decide) hr_) ?_
    show Goes p ee below s _ _ _ (T14.setTop (mkF m 61 #[.val (.ref a1), .val (.int (Int32.ofNat i)), .val (.int (Int32.ofNat k)), .val (.ref b1), .val (.int (Int32.ofNat kk)), .val (.ref b10)] []))
    refine Goes.step (fun _ hr_ => XS.aload X14.here hx rfl (hb hby d_jdk_52_method_17_code_61) rfl rfl hr_) ?_
    show Goes p ee below s _ _ _ (T14.setTop (mkF m 63 #[.val (.ref a1), .val (.int (Int32.ofNat i)), .val (.int (Int32.ofNat k)), .val (.ref b1), .val (.int (Int32.ofNat kk)), .val (.ref b10)] [(.ref b10)]))
    refine Goes.retA X14 hx Bd.notSynchronized Bd.returns rfl rfl (hb hby d_jdk_52_method_17_code_63) (by decide) (by decide) ?_
    rw [e14]
    exact ⟨_, true, rfl, N15, sz_b10, K12, A_b10, nofun⟩
theorem ef_l1ns (m : MethodId) (x0 : Addr) (x1 : Int32) (x2 : Int32) : entryFrame m #[(.ref x0), (.int x1), (.int x2)] 3 = mkF m 0 #[.val (.ref x0), .val (.int x1), .val (.int x2)] [] := by first | (simp [entryFrame, mkF, argsToLocals, Value.category]; done) | rfl
theorem d_jdk_43_method_47_code_0 : decode jdk_43_method_47_code 0 = .ok (.iload_n 2, 1) := by decide +kernel
theorem d_jdk_43_method_47_code_1 : decode jdk_43_method_47_code 1 = .ok (.ifCond .ne 6, 3) := by decide +kernel
theorem d_jdk_43_method_47_code_4 : decode jdk_43_method_47_code 4 = .ok (.ldc 151, 2) := by decide +kernel
theorem d_jdk_43_method_47_code_6 : decode jdk_43_method_47_code 6 = .ok (.areturn, 1) := by decide +kernel
theorem d_jdk_43_method_47_code_7 : decode jdk_43_method_47_code 7 = .ok (.new 1, 3) := by decide +kernel
theorem d_jdk_43_method_47_code_10 : decode jdk_43_method_47_code 10 = .ok (.dup, 1) := by decide +kernel
theorem d_jdk_43_method_47_code_11 : decode jdk_43_method_47_code 11 = .ok (.aload_n 0, 1) := by decide +kernel
theorem d_jdk_43_method_47_code_12 : decode jdk_43_method_47_code 12 = .ok (.iload_n 1, 1) := by decide +kernel
theorem d_jdk_43_method_47_code_13 : decode jdk_43_method_47_code 13 = .ok (.iload_n 1, 1) := by decide +kernel
theorem d_jdk_43_method_47_code_14 : decode jdk_43_method_47_code 14 = .ok (.iload_n 2, 1) := by decide +kernel
theorem d_jdk_43_method_47_code_15 : decode jdk_43_method_47_code 15 = .ok (.iadd, 1) := by decide +kernel
theorem d_jdk_43_method_47_code_16 : decode jdk_43_method_47_code 16 = .ok (.invokestatic 232, 3) := by decide +kernel
theorem d_jdk_43_method_47_code_19 : decode jdk_43_method_47_code 19 = .ok (.iconst 0, 1) := by decide +kernel
theorem pd_20 : parseMethodDescriptor "([BB)V" = some ⟨[(.array .byte), .byte], none⟩ := by decide +kernel
theorem d_jdk_43_method_47_code_20 : decode jdk_43_method_47_code 20 = .ok (.invokespecial 112, 3) := by decide +kernel
theorem d_jdk_43_method_47_code_23 : decode jdk_43_method_47_code 23 = .ok (.areturn, 1) := by decide +kernel
def Q_l1ns (Z : State) (cs : Int32) (fm : Value) (a1 : Addr) (i k n : Nat) (c : Nat → Nat) (h0 : Heap) (n0 : Nat) (v : Option Value) (h : Heap) (L : List Loc) : Prop := ∃ (o b : Addr) (u' : Bool), v = some (.ref o) ∧ Fr n0 L ∧ Keep h0 h [] ∧ Exa Z h o "java/lang/String" ∧ Fld Z h o "java/lang/String" "value" "[B" (.ref b) ∧ Fld Z h o "java/lang/String" "coder" "B" (.int (own_cd u')) ∧ OA Z h b .byte (own_len u' k) (own_by u' (fun t => c (i + t))) ∧ (u' = false → ∀ t, t < k → c (i + t) < 256)
set_option maxRecDepth 65536 in
set_option maxHeartbeats 40000000 in
theorem rm_l1ns (l : Launch) (Z : State) (a0 : Array Value) (hw : ∀ d ∈ tables_1, d.before a0 Z = true) (ws : List Jvm.Cond) (cs : Int32) (fm : Value) (a1 : Addr) (i k n : Nat) (c : Nat → Nat) (h0 : Heap) (n0 : Nat) (Z0 : n0 ≤ h0.size) (ST : own_ST Z cs fm) (OO : Old Z n0 h0) (hik : i + k ≤ n) (hn : n ≤ 4) (hne : ¬ (i = 0 ∧ k = n)) (hl : ∀ j, j < n → c j < 256) (A : OA Z h0 a1 .byte n (own_by false c)) :
    MetFree l (⟨"java/lang/StringLatin1", "newString", "([BII)Ljava/lang/String;"⟩ : MethodName) (head1 (Jvm.Cond.code (⟨"java/lang/StringLatin1", "newString", "([BII)Ljava/lang/String;"⟩ : MethodName) jdk_43_method_47_code 3 (some (.object "java/lang/String")) :: ws) ({ frames := 3, cells := 2, slots := 12, locals := 50 } : Room)) (fun a U => a = #[(.ref a1), (.int (Int32.ofNat i)), (.int (Int32.ofNat k))] ∧ Z.Warmed39 U.vm ∧ U.heap = h0 ∧ CHv Z consts_1 U.vm h0 ∧ ∀ x ∈ ([] : List Addr), Safe Z consts_1 U.vm h0 x) (fun _ _ _ _ _ => True) (fun _ U o U' => ∃ v L, o = .returned v ∧ Q_l1ns Z cs fm a1 i k n c h0 n0 v U'.heap L ∧ CHr Z consts_1 U.vm U.heap U'.vm U'.heap ∧ ReturnedEndW U o U' L ({ frames := 3, cells := 2, slots := 12, locals := 50 } : Room).cells ({ frames := 3, cells := 2, slots := 12, locals := 50 } : Room).slots) := by
  refine MetFree.of_bodySF (plainFor_of_name pn_java_lang_StringLatin1) hisR ?_
  intro p ee s m args below meth cc s₁ Bd hml0 hP hK
  obtain ⟨rfl, hZ, hh, H, hsf⟩ := hP
  have hx := Bd.exec
  have hby := Bd.bytes
  have hml : cc.maxLocals = 3 := hml0
  have hown : (s.setVm s.vm).vm.findClass "java/lang/StringLatin1" = some m.cls := findClass_of_methodNamed Bd.named
  have hnm := (name_of_methodNamed Bd.named Bd.method).1
  have X0 : Stand p l ee ({ frames := 3, cells := 2, slots := 12, locals := 50 } : Room) (s.setVm s.vm) m #[(.ref a1), (.int (Int32.ofNat i)), (.int (Int32.ofNat k))] below meth cc s₁ [] 0 0 := Stand.of_body Bd
  have e0 : s₁.heap = h0 := by rw [← hh, Bd.state]; rfl
  have N0 := Fr.nil n0
  have hEL := own_EW hw
  have hZ : Z.Warmed39 (s.setVm s.vm).vm := hZ
  have C : Cold Z consts_1 s s.vm h0 := by rw [← hh]; exact Cold.start (by rw [hh]; exact H)
  show GoesW p ee below s ({ frames := 3, cells := 2, slots := 12, locals := 50 } : Room).cells ({ frames := 3, cells := 2, slots := 12, locals := 50 } : Room).slots Z consts_1 (Q_l1ns Z cs fm a1 i k n c h0 n0) (s₁.setTop (entryFrame m #[(.ref a1), (.int (Int32.ofNat i)), (.int (Int32.ofNat k))] 3))
  refine GoesW.step (fun _ hr_ => castTop (ef_l1ns m a1 (Int32.ofNat i) (Int32.ofNat k)) hr_) ?_
  show GoesW p ee below s _ _ _ _ _ (s₁.setTop (mkF m 0 #[.val (.ref a1), .val (.int (Int32.ofNat i)), .val (.int (Int32.ofNat k))] []))
  have K0 := Keep.refl h0 ([] : List Addr)
  refine GoesW.step (fun _ hr_ => XS.iloadN X0.here hx rfl (hb hby d_jdk_43_method_47_code_0) rfl  hr_) ?_
  show GoesW p ee below s _ _ _ _ _ (s₁.setTop (mkF m 1 #[.val (.ref a1), .val (.int (Int32.ofNat i)), .val (.int (Int32.ofNat k))] [(.int (Int32.ofNat k))]))
  by_cases hn1_1 : k = 0
  · refine GoesW.step (fun _ hr_ => XS.ifNo X0.here hx rfl (hb hby d_jdk_43_method_47_code_1) rfl ((if0 _ _).trans (teq ((own_eqN k 0 (by omega) (by decide)).mpr hn1_1)).2) hr_) ?_
    show GoesW p ee below s _ _ _ _ _ (s₁.setTop (mkF m 4 #[.val (.ref a1), .val (.int (Int32.ofNat i)), .val (.int (Int32.ofNat k))] []))
    have lt_a1 := A.lt
    obtain ⟨la2, lb2, vm2, T2, h2, ⟨X2, Cn2, hZ, hown, hsaf2⟩, e2, E2, Ei2, Fv2, Fc2, A_lb2, Lit2, hlit2, st2⟩ := own_ldcW X0 hx hZ hEL C hown (hw _ (List.mem_of_getElem? (i := 89) rfl)) (own_wS hw) e0 (List.mem_of_getElem? (i := 1) rfl) (vs := []) (k := 0) ⟨by decide, by decide⟩ rfl (by decide) (g := (mkF m 4 #[.val (.ref a1), .val (.int (Int32.ofNat i)), .val (.int (Int32.ofNat k))] [])) rfl (hb hby d_jdk_43_method_47_code_4) (n := 0) (by decide) (by decide) (by decide) (by decide)
    refine GoesW.step st2 ?_
    rw [e2] at Cn2 hsaf2
    have C := Cn2
    have A := A.ext E2
    have Zp3 := Nat.le_trans Z0 E2.1
    have OO := OO.ext E2
    have K4 := K0.ext E2
    show GoesW p ee below s _ _ _ _ _ (T2.setTop (mkF m 6 #[.val (.ref a1), .val (.int (Int32.ofNat i)), .val (.int (Int32.ofNat k))] [(.ref la2)]))
    refine GoesW.retA X2 hx hZ hEL C e2 Bd.notSynchronized Bd.returns rfl rfl (hb hby d_jdk_43_method_47_code_6) (by decide) (by decide) ?_
    rw [e2]
    exact ⟨la2, lb2, false, rfl, N0, K4, Ei2, Fv2, Fc2, by rw [hn1_1]; exact A_lb2.congr (fun j hj => absurd hj (Nat.not_lt_zero j)), fun _ t ht => by omega⟩
  · refine GoesW.step (fun _ hr_ => XS.ifYes X0.here hx rfl (pc0 := 1) (pc' := 7) rfl (hb hby d_jdk_43_method_47_code_1) rfl ((if0 _ _).trans (feq (fun z => hn1_1 ((own_eqN k 0 (by omega) (by decide)).mp z))).2) (by decide) (by decide) hr_) ?_
    show GoesW p ee below s _ _ _ _ _ (s₁.setTop (mkF m 7 #[.val (.ref a1), .val (.int (Int32.ofNat i)), .val (.int (Int32.ofNat k))] []))
    obtain ⟨T5, h5, X5, e5, E5, A5, D5, -, st5⟩ := newO X0 hx hZ hown (hw _ (List.mem_of_getElem? (i := 183) rfl)) (hw _ (List.mem_of_getElem? (i := 7) rfl)) (hw _ (List.mem_of_getElem? (i := 8) rfl)) e0 (g := (mkF m 7 #[.val (.ref a1), .val (.int (Int32.ofNat i)), .val (.int (Int32.ofNat k))] [])) rfl (hb hby d_jdk_43_method_47_code_7) (by decide) (by decide)
    obtain ⟨b5, g_b5⟩ : ∃ z, z = h0.size := ⟨_, rfl⟩
    have ne_a1_b5 : a1 ≠ b5 := Nat.ne_of_lt (Nat.lt_of_lt_of_le A.lt (Nat.le_of_eq g_b5.symm))
    have ge_b5 : n0 ≤ b5 := Nat.le_trans Z0 (Nat.le_of_eq g_b5.symm)
    have sz_b5 : h0.size ≤ b5 := Nat.le_trans K0.1 (Nat.le_of_eq g_b5.symm)
    rw [← g_b5] at A5 D5 st5
    have A := A.ext E5
    have Zp6 := Nat.le_trans Z0 E5.1
    have sf_b5 := Safe.ext E5 C.chv (Safe.new (Nat.le_of_eq g_b5.symm))
    have C := C.ext E5
    have OO := OO.ext E5
    have K7 := K0.ext E5
    refine GoesW.step st5 ?_
    have E_b5 := A5
    have F_coder_b5 : Fld Z h5 b5 "java/lang/String" "coder" "B" (.int (0 : Int32)) := D5 (Or.inr (hw _ (List.mem_of_getElem? (i := 33) rfl))) (ty := .byte) (by decide)
    have F_value_b5 : Fld Z h5 b5 "java/lang/String" "value" "[B" .null := D5 (Or.inr (hw _ (List.mem_of_getElem? (i := 35) rfl))) (ty := (.array .byte)) (by decide)
    show GoesW p ee below s _ _ _ _ _ (T5.setTop (mkF m 10 #[.val (.ref a1), .val (.int (Int32.ofNat i)), .val (.int (Int32.ofNat k))] [(.ref b5)]))
    refine GoesW.step (fun _ hr_ => XS.dup X5.here hx rfl (hb hby d_jdk_43_method_47_code_10) rfl rfl hr_) ?_
    show GoesW p ee below s _ _ _ _ _ (T5.setTop (mkF m 11 #[.val (.ref a1), .val (.int (Int32.ofNat i)), .val (.int (Int32.ofNat k))] [(.ref b5), (.ref b5)]))
    refine GoesW.step (fun _ hr_ => XS.aloadN X5.here hx rfl (hb hby d_jdk_43_method_47_code_11) rfl rfl hr_) ?_
    show GoesW p ee below s _ _ _ _ _ (T5.setTop (mkF m 12 #[.val (.ref a1), .val (.int (Int32.ofNat i)), .val (.int (Int32.ofNat k))] [(.ref a1), (.ref b5), (.ref b5)]))
    refine GoesW.step (fun _ hr_ => XS.iloadN X5.here hx rfl (hb hby d_jdk_43_method_47_code_12) rfl  hr_) ?_
    show GoesW p ee below s _ _ _ _ _ (T5.setTop (mkF m 13 #[.val (.ref a1), .val (.int (Int32.ofNat i)), .val (.int (Int32.ofNat k))] [(.int (Int32.ofNat i)), (.ref a1), (.ref b5), (.ref b5)]))
    refine GoesW.step (fun _ hr_ => XS.iloadN X5.here hx rfl (hb hby d_jdk_43_method_47_code_13) rfl  hr_) ?_
    show GoesW p ee below s _ _ _ _ _ (T5.setTop (mkF m 14 #[.val (.ref a1), .val (.int (Int32.ofNat i)), .val (.int (Int32.ofNat k))] [(.int (Int32.ofNat i)), (.int (Int32.ofNat i)), (.ref a1), (.ref b5), (.ref b5)]))
    refine GoesW.step (fun _ hr_ => XS.iloadN X5.here hx rfl (hb hby d_jdk_43_method_47_code_14) rfl  hr_) ?_
    show GoesW p ee below s _ _ _ _ _ (T5.setTop (mkF m 15 #[.val (.ref a1), .val (.int (Int32.ofNat i)), .val (.int (Int32.ofNat k))] [(.int (Int32.ofNat k)), (.int (Int32.ofNat i)), (.int (Int32.ofNat i)), (.ref a1), (.ref b5), (.ref b5)]))
    refine GoesW.step (fun _ hr_ => XS.iadd X5.here hx rfl (hb hby d_jdk_43_method_47_code_15) rfl hr_) ?_
    show GoesW p ee below s _ _ _ _ _ (T5.setTop (mkF m 16 #[.val (.ref a1), .val (.int (Int32.ofNat i)), .val (.int (Int32.ofNat k))] [(.int ((Int32.ofNat i) + (Int32.ofNat k))), (.int (Int32.ofNat i)), (.ref a1), (.ref b5), (.ref b5)]))
    rw [own_addN i k]
    show GoesW p ee below s _ _ _ _ _ (T5.setTop (mkF m 16 #[.val (.ref a1), .val (.int (Int32.ofNat i)), .val (.int (Int32.ofNat k))] [(.int (Int32.ofNat (i + k))), (.int (Int32.ofNat i)), (.ref a1), (.ref b5), (.ref b5)]))
    have lt_a1 := A.lt
    have lt_b5 := E_b5.lt
    obtain ⟨v8, T8, L8, X8, hQ8, st8⟩ := own_callS X5 hx hZ (y := (⟨"java/util/Arrays", "copyOfRange", "([BII)[B"⟩ : MethodName)) hown (hw _ (List.mem_of_getElem? (i := 184) rfl)) (hw _ (List.mem_of_getElem? (i := 161) rfl)) (hw _ (List.mem_of_getElem? (i := 162) rfl)) (hw _ (List.mem_of_getElem? (i := 163) rfl)) (by decide) (argsL := [(.ref a1), (.int (Int32.ofNat i)), (.int (Int32.ofNat (i + k)))]) (rm_cor l Z a0 hw [] cs fm a1 i (i + k) _ _ h5 n0 Zp6 ST OO (by omega) (by omega) (by omega) (by omega) A) e5 (W := 2) (by decide) (by decide) (by decide) (by decide) (g := (mkF m 16 #[.val (.ref a1), .val (.int (Int32.ofNat i)), .val (.int (Int32.ofNat k))] [(.int (Int32.ofNat (i + k))), (.int (Int32.ofNat i)), (.ref a1), (.ref b5), (.ref b5)])) rfl (by rw [hml]; rfl) (rest := [(.ref b5), (.ref b5)]) (lenOf pd_15 rfl) rfl (by show 2 * 0 + _ ≤ _; exact Nat.le_of_eq rfl) (hb hby d_jdk_43_method_47_code_16)
    refine GoesW.step st8 ?_
    obtain ⟨b8, rfl, N8, sz8, Kc8, A_b8⟩ := hQ8
    have N9 := Fr.app N0 N8
    obtain ⟨h8, e8⟩ : ∃ h', T8.heap = h' := ⟨_, rfl⟩
    rw [e8] at Kc8 A_b8
    have A := A.keep Kc8 nin0
    have E_b5 := E_b5.keep Kc8
    have F_coder_b5 := F_coder_b5.keep Kc8 nin0
    have F_value_b5 := F_value_b5.keep Kc8 nin0
    have sf_b5 := Safe.keep Kc8 sf0 C.chv sf_b5
    have C := C.keep Kc8 sf0
    have OO := OO.keep Kc8 all0
    have K10 := K7.trans Kc8 all0
    have Zp11 := Nat.le_trans Zp6 Kc8.1
    have ge_b8 : n0 ≤ b8 := Nat.le_trans Zp6 sz8
    have sz_b8 : h0.size ≤ b8 := Nat.le_trans K7.1 sz8
    have ne_a1_b8 : a1 ≠ b8 := Nat.ne_of_lt (Nat.lt_of_lt_of_le lt_a1 sz8)
    have ne_b5_b8 : b5 ≠ b8 := Nat.ne_of_lt (Nat.lt_of_lt_of_le lt_b5 sz8)
    have A_b8 : OA Z h8 b8 .byte (own_len false k) (own_by false (fun t => c (i + t))) := (by show OA Z h8 _ .byte k _; rw [show k = i + k - i by omega]; exact A_b8.congr (fun t ht => own_by_shift0 c i t))
    show GoesW p ee below s _ _ _ _ _ (T8.setTop (mkF m 19 #[.val (.ref a1), .val (.int (Int32.ofNat i)), .val (.int (Int32.ofNat k))] [(.ref b8), (.ref b5), (.ref b5)]))
    refine GoesW.step (fun _ hr_ => XS.iconst X8.here hx rfl (hb hby d_jdk_43_method_47_code_19) hr_) ?_
    show GoesW p ee below s _ _ _ _ _ (T8.setTop (mkF m 20 #[.val (.ref a1), .val (.int (Int32.ofNat i)), .val (.int (Int32.ofNat k))] [(.int (0 : Int32)), (.ref b8), (.ref b5), (.ref b5)]))
    have lt_a1 := A.lt
    have lt_b5 := E_b5.lt
    have lt_b8 := A_b8.lt
    obtain ⟨v12, T12, L12, X12, hQ12, st12⟩ := own_callN X8 hx hZ (y := (⟨"java/lang/String", "<init>", "([BB)V"⟩ : MethodName)) rfl hown (hw _ (List.mem_of_getElem? (i := 185) rfl)) (hw _ (List.mem_of_getElem? (i := 181) rfl)) (hw _ (List.mem_of_getElem? (i := 8) rfl)) (hw _ (List.mem_of_getElem? (i := 182) rfl)) (by decide) (a := b5) (argsL := [(.ref b8), (.int (0 : Int32))]) (rm_sbb l Z a0 hw [] cs fm b5 b8 false _ _ h8 n0 Zp11 ST OO ge_b5 E_b5 F_value_b5 F_coder_b5) e8 (W := 1) (by decide) (by decide) (by decide) (by decide) (g := (mkF m 20 #[.val (.ref a1), .val (.int (Int32.ofNat i)), .val (.int (Int32.ofNat k))] [(.int (0 : Int32)), (.ref b8), (.ref b5), (.ref b5)])) rfl (by rw [hml]; rfl) (rest := [(.ref b5)]) (lenOf pd_20 rfl) rfl (by show 2 * 0 + _ ≤ _; exact Nat.le_of_eq rfl) (hb hby d_jdk_43_method_47_code_20)
    refine GoesW.step st12 ?_
    obtain ⟨rfl, N12, Kc12, Ei12, Fv12, Fc12⟩ := hQ12
    have N13 := Fr.app N9 N12
    obtain ⟨h12, e12⟩ : ∃ h', T12.heap = h' := ⟨_, rfl⟩
    rw [e12] at Kc12 Ei12 Fv12 Fc12
    have A := A.keep Kc12 (ninS ne_a1_b5 nin0)
    have A_b8 := A_b8.keep Kc12 (ninS (Ne.symm ne_b5_b8) nin0)
    have hsk := (sfS sf_b5 sf0)
    have sf_b5 := Safe.keep Kc12 hsk C.chv sf_b5
    have C := C.keep Kc12 hsk
    have OO := OO.keep Kc12 (allS ge_b5 all0)
    have K14 := K10.trans Kc12 (allS (Or.inr sz_b5) all0)
    have Zp15 := Nat.le_trans Zp11 Kc12.1
    show GoesW p ee below s _ _ _ _ _ (T12.setTop (mkF m 23 #[.val (.ref a1), .val (.int (Int32.ofNat i)), .val (.int (Int32.ofNat k))] [(.ref b5)]))
    refine GoesW.retA X12 hx hZ hEL C e12 Bd.notSynchronized Bd.returns rfl rfl (hb hby d_jdk_43_method_47_code_23) (by decide) (by decide) ?_
    rw [e12]
    exact ⟨b5, b8, false, rfl, N13, K14, Ei12, Fv12, Fc12, A_b8, fun _ t ht => hl _ (by omega)⟩
theorem ef_u16ns (m : MethodId) (x0 : Addr) (x1 : Int32) (x2 : Int32) : entryFrame m #[(.ref x0), (.int x1), (.int x2)] 5 = mkF m 0 #[.val (.ref x0), .val (.int x1), .val (.int x2), .unset, .unset] [] := by first | (simp [entryFrame, mkF, argsToLocals, Value.category]; done) | rfl
theorem d_jdk_52_method_69_code_0 : decode jdk_52_method_69_code 0 = .ok (.iload_n 2, 1) := by decide +kernel
theorem d_jdk_52_method_69_code_1 : decode jdk_52_method_69_code 1 = .ok (.ifCond .ne 7, 3) := by decide +kernel
theorem d_jdk_52_method_69_code_4 : decode jdk_52_method_69_code 4 = .ok (.ldc_w 295, 3) := by decide +kernel
theorem d_jdk_52_method_69_code_7 : decode jdk_52_method_69_code 7 = .ok (.areturn, 1) := by decide +kernel
theorem d_jdk_52_method_69_code_8 : decode jdk_52_method_69_code 8 = .ok (.getstatic 251, 3) := by decide +kernel
theorem d_jdk_52_method_69_code_11 : decode jdk_52_method_69_code 11 = .ok (.ifCond .eq 28, 3) := by decide +kernel
theorem d_jdk_52_method_69_code_14 : decode jdk_52_method_69_code 14 = .ok (.aload_n 0, 1) := by decide +kernel
theorem d_jdk_52_method_69_code_15 : decode jdk_52_method_69_code 15 = .ok (.iload_n 1, 1) := by decide +kernel
theorem d_jdk_52_method_69_code_16 : decode jdk_52_method_69_code 16 = .ok (.iload_n 2, 1) := by decide +kernel
theorem d_jdk_52_method_69_code_17 : decode jdk_52_method_69_code 17 = .ok (.invokestatic 257, 3) := by decide +kernel
theorem d_jdk_52_method_69_code_20 : decode jdk_52_method_69_code 20 = .ok (.astore_n 3, 1) := by decide +kernel
theorem d_jdk_52_method_69_code_21 : decode jdk_52_method_69_code 21 = .ok (.aload_n 3, 1) := by decide +kernel
theorem d_jdk_52_method_69_code_22 : decode jdk_52_method_69_code 22 = .ok (.iload_n 2, 1) := by decide +kernel
theorem d_jdk_52_method_69_code_23 : decode jdk_52_method_69_code 23 = .ok (.invokestatic 259, 3) := by decide +kernel
theorem d_jdk_52_method_69_code_26 : decode jdk_52_method_69_code 26 = .ok (.istore 4, 2) := by decide +kernel
theorem d_jdk_52_method_69_code_28 : decode jdk_52_method_69_code 28 = .ok (.new 3, 3) := by decide +kernel
theorem d_jdk_52_method_69_code_31 : decode jdk_52_method_69_code 31 = .ok (.dup, 1) := by decide +kernel
theorem d_jdk_52_method_69_code_32 : decode jdk_52_method_69_code 32 = .ok (.aload_n 3, 1) := by decide +kernel
theorem d_jdk_52_method_69_code_33 : decode jdk_52_method_69_code 33 = .ok (.iload 4, 2) := by decide +kernel
theorem d_jdk_52_method_69_code_35 : decode jdk_52_method_69_code 35 = .ok (.invokespecial 263, 3) := by decide +kernel
theorem d_jdk_52_method_69_code_38 : decode jdk_52_method_69_code 38 = .ok (.areturn, 1) := by decide +kernel
def Q_u16ns (Z : State) (cs : Int32) (fm : Value) (a1 : Addr) (i k n : Nat) (c : Nat → Nat) (h0 : Heap) (n0 : Nat) (v : Option Value) (h : Heap) (L : List Loc) : Prop := ∃ (o b : Addr) (u' : Bool), v = some (.ref o) ∧ Fr n0 L ∧ Keep h0 h [] ∧ Exa Z h o "java/lang/String" ∧ Fld Z h o "java/lang/String" "value" "[B" (.ref b) ∧ Fld Z h o "java/lang/String" "coder" "B" (.int (own_cd u')) ∧ OA Z h b .byte (own_len u' k) (own_by u' (fun t => c (i + t))) ∧ (u' = false → ∀ t, t < k → c (i + t) < 256)
set_option maxRecDepth 65536 in
set_option maxHeartbeats 40000000 in
theorem rm_u16ns (l : Launch) (Z : State) (a0 : Array Value) (hw : ∀ d ∈ tables_1, d.before a0 Z = true) (ws : List Jvm.Cond) (cs : Int32) (fm : Value) (a1 : Addr) (i k n : Nat) (c : Nat → Nat) (h0 : Heap) (n0 : Nat) (Z0 : n0 ≤ h0.size) (ST : own_ST Z cs fm) (OO : Old Z n0 h0) (hik : i + k ≤ n) (hn : n ≤ 4) (hne : ¬ (i = 0 ∧ k = n)) (hc : ∀ j, j < n → c j < 65536) (A : OA Z h0 a1 .byte (2 * n) (own_by true c)) :
    MetFree l (⟨"java/lang/StringUTF16", "newString", "([BII)Ljava/lang/String;"⟩ : MethodName) (head1 (Jvm.Cond.code (⟨"java/lang/StringUTF16", "newString", "([BII)Ljava/lang/String;"⟩ : MethodName) jdk_52_method_69_code 5 (some (.object "java/lang/String")) :: ws) ({ frames := 5, cells := 3, slots := 16, locals := 78 } : Room)) (fun a U => a = #[(.ref a1), (.int (Int32.ofNat i)), (.int (Int32.ofNat k))] ∧ Z.Warmed39 U.vm ∧ U.heap = h0 ∧ CHv Z consts_1 U.vm h0 ∧ ∀ x ∈ ([] : List Addr), Safe Z consts_1 U.vm h0 x) (fun _ _ _ _ _ => True) (fun _ U o U' => ∃ v L, o = .returned v ∧ Q_u16ns Z cs fm a1 i k n c h0 n0 v U'.heap L ∧ CHr Z consts_1 U.vm U.heap U'.vm U'.heap ∧ ReturnedEndW U o U' L ({ frames := 5, cells := 3, slots := 16, locals := 78 } : Room).cells ({ frames := 5, cells := 3, slots := 16, locals := 78 } : Room).slots) := by
  refine MetFree.of_bodySF (plainFor_of_name pn_java_lang_StringUTF16) hisR ?_
  intro p ee s m args below meth cc s₁ Bd hml0 hP hK
  obtain ⟨rfl, hZ, hh, H, hsf⟩ := hP
  have hx := Bd.exec
  have hby := Bd.bytes
  have hml : cc.maxLocals = 5 := hml0
  have hown : (s.setVm s.vm).vm.findClass "java/lang/StringUTF16" = some m.cls := findClass_of_methodNamed Bd.named
  have hnm := (name_of_methodNamed Bd.named Bd.method).1
  have X0 : Stand p l ee ({ frames := 5, cells := 3, slots := 16, locals := 78 } : Room) (s.setVm s.vm) m #[(.ref a1), (.int (Int32.ofNat i)), (.int (Int32.ofNat k))] below meth cc s₁ [] 0 0 := Stand.of_body Bd
  have e0 : s₁.heap = h0 := by rw [← hh, Bd.state]; rfl
  have N0 := Fr.nil n0
  have hEL := own_EW hw
  have hZ : Z.Warmed39 (s.setVm s.vm).vm := hZ
  have C : Cold Z consts_1 s s.vm h0 := by rw [← hh]; exact Cold.start (by rw [hh]; exact H)
  show GoesW p ee below s ({ frames := 5, cells := 3, slots := 16, locals := 78 } : Room).cells ({ frames := 5, cells := 3, slots := 16, locals := 78 } : Room).slots Z consts_1 (Q_u16ns Z cs fm a1 i k n c h0 n0) (s₁.setTop (entryFrame m #[(.ref a1), (.int (Int32.ofNat i)), (.int (Int32.ofNat k))] 5))
  refine GoesW.step (fun _ hr_ => castTop (ef_u16ns m a1 (Int32.ofNat i) (Int32.ofNat k)) hr_) ?_
  show GoesW p ee below s _ _ _ _ _ (s₁.setTop (mkF m 0 #[.val (.ref a1), .val (.int (Int32.ofNat i)), .val (.int (Int32.ofNat k)), .unset, .unset] []))
  have K0 := Keep.refl h0 ([] : List Addr)
  refine GoesW.step (fun _ hr_ => XS.iloadN X0.here hx rfl (hb hby d_jdk_52_method_69_code_0) rfl  hr_) ?_
  show GoesW p ee below s _ _ _ _ _ (s₁.setTop (mkF m 1 #[.val (.ref a1), .val (.int (Int32.ofNat i)), .val (.int (Int32.ofNat k)), .unset, .unset] [(.int (Int32.ofNat k))]))
  by_cases hn1_1 : k = 0
  · refine GoesW.step (fun _ hr_ => XS.ifNo X0.here hx rfl (hb hby d_jdk_52_method_69_code_1) rfl ((if0 _ _).trans (teq ((own_eqN k 0 (by omega) (by decide)).mpr hn1_1)).2) hr_) ?_
    show GoesW p ee below s _ _ _ _ _ (s₁.setTop (mkF m 4 #[.val (.ref a1), .val (.int (Int32.ofNat i)), .val (.int (Int32.ofNat k)), .unset, .unset] []))
    have lt_a1 := A.lt
    obtain ⟨la2, lb2, vm2, T2, h2, ⟨X2, Cn2, hZ, hown, hsaf2⟩, e2, E2, Ei2, Fv2, Fc2, A_lb2, Lit2, hlit2, st2⟩ := own_ldcwW X0 hx hZ hEL C hown (hw _ (List.mem_of_getElem? (i := 133) rfl)) (own_wS hw) e0 (List.mem_of_getElem? (i := 2) rfl) (vs := []) (k := 0) ⟨by decide, by decide⟩ rfl (by decide) (g := (mkF m 4 #[.val (.ref a1), .val (.int (Int32.ofNat i)), .val (.int (Int32.ofNat k)), .unset, .unset] [])) rfl (hb hby d_jdk_52_method_69_code_4) (n := 0) (by decide) (by decide) (by decide) (by decide)
    refine GoesW.step st2 ?_
    rw [e2] at Cn2 hsaf2
    have C := Cn2
    have A := A.ext E2
    have Zp3 := Nat.le_trans Z0 E2.1
    have OO := OO.ext E2
    have K4 := K0.ext E2
    show GoesW p ee below s _ _ _ _ _ (T2.setTop (mkF m 7 #[.val (.ref a1), .val (.int (Int32.ofNat i)), .val (.int (Int32.ofNat k)), .unset, .unset] [(.ref la2)]))
    refine GoesW.retA X2 hx hZ hEL C e2 Bd.notSynchronized Bd.returns rfl rfl (hb hby d_jdk_52_method_69_code_7) (by decide) (by decide) ?_
    rw [e2]
    exact ⟨la2, lb2, false, rfl, N0, K4, Ei2, Fv2, Fc2, by rw [hn1_1]; exact A_lb2.congr (fun j hj => absurd hj (Nat.not_lt_zero j)), fun _ t ht => by omega⟩
  · refine GoesW.step (fun _ hr_ => XS.ifYes X0.here hx rfl (pc0 := 1) (pc' := 8) rfl (hb hby d_jdk_52_method_69_code_1) rfl ((if0 _ _).trans (feq (fun z => hn1_1 ((own_eqN k 0 (by omega) (by decide)).mp z))).2) (by decide) (by decide) hr_) ?_
    show GoesW p ee below s _ _ _ _ _ (s₁.setTop (mkF m 8 #[.val (.ref a1), .val (.int (Int32.ofNat i)), .val (.int (Int32.ofNat k)), .unset, .unset] []))
    obtain ⟨T5, X5, e5, st5⟩ := getS X0 hx hZ (host := "") hown (hw _ (List.mem_of_getElem? (i := 144) rfl)) Via.refl e0 ((ST.1).ext OO.2) (g := (mkF m 8 #[.val (.ref a1), .val (.int (Int32.ofNat i)), .val (.int (Int32.ofNat k)), .unset, .unset] [])) rfl (hb hby d_jdk_52_method_69_code_8)
    refine GoesW.step st5 ?_
    show GoesW p ee below s _ _ _ _ _ (T5.setTop (mkF m 11 #[.val (.ref a1), .val (.int (Int32.ofNat i)), .val (.int (Int32.ofNat k)), .unset, .unset] [(.int cs)]))
    refine GoesW.step (fun _ hr_ => XS.ifNo X5.here hx rfl (hb hby d_jdk_52_method_69_code_11) rfl ((if0 _ _).trans (feq (ST.2.1)).1) hr_) ?_
    show GoesW p ee below s _ _ _ _ _ (T5.setTop (mkF m 14 #[.val (.ref a1), .val (.int (Int32.ofNat i)), .val (.int (Int32.ofNat k)), .unset, .unset] []))
    refine GoesW.step (fun _ hr_ => XS.aloadN X5.here hx rfl (hb hby d_jdk_52_method_69_code_14) rfl rfl hr_) ?_
    show GoesW p ee below s _ _ _ _ _ (T5.setTop (mkF m 15 #[.val (.ref a1), .val (.int (Int32.ofNat i)), .val (.int (Int32.ofNat k)), .unset, .unset] [(.ref a1)]))
    refine GoesW.step (fun _ hr_ => XS.iloadN X5.here hx rfl (hb hby d_jdk_52_method_69_code_15) rfl  hr_) ?_
    show GoesW p ee below s _ _ _ _ _ (T5.setTop (mkF m 16 #[.val (.ref a1), .val (.int (Int32.ofNat i)), .val (.int (Int32.ofNat k)), .unset, .unset] [(.int (Int32.ofNat i)), (.ref a1)]))
    refine GoesW.step (fun _ hr_ => XS.iloadN X5.here hx rfl (hb hby d_jdk_52_method_69_code_16) rfl  hr_) ?_
    show GoesW p ee below s _ _ _ _ _ (T5.setTop (mkF m 17 #[.val (.ref a1), .val (.int (Int32.ofNat i)), .val (.int (Int32.ofNat k)), .unset, .unset] [(.int (Int32.ofNat k)), (.int (Int32.ofNat i)), (.ref a1)]))
    have lt_a1 := A.lt
    obtain ⟨v6, T6, L6, X6, hQ6, st6⟩ := own_callS X5 hx hZ (y := (⟨"java/lang/StringUTF16", "compress", "([BII)[B"⟩ : MethodName)) hown (hw _ (List.mem_of_getElem? (i := 145) rfl)) (hw _ (List.mem_of_getElem? (i := 146) rfl)) (hw _ (List.mem_of_getElem? (i := 23) rfl)) (hw _ (List.mem_of_getElem? (i := 147) rfl)) (by decide) (argsL := [(.ref a1), (.int (Int32.ofNat i)), (.int (Int32.ofNat k))]) (rm_cmp3b l Z a0 hw [] cs fm a1 i k n c h0 n0 Z0 ST OO (by omega) hik hn hne hc A) e5 (W := 0) (by decide) (by decide) (by decide) (by decide) (g := (mkF m 17 #[.val (.ref a1), .val (.int (Int32.ofNat i)), .val (.int (Int32.ofNat k)), .unset, .unset] [(.int (Int32.ofNat k)), (.int (Int32.ofNat i)), (.ref a1)])) rfl (by rw [hml]; rfl) (rest := []) (lenOf pd_15 rfl) rfl (by show 2 * 0 + _ ≤ _; exact Nat.le_of_eq rfl) (hb hby d_jdk_52_method_69_code_17)
    refine GoesW.step st6 ?_
    obtain ⟨b6, u, rfl, N6, sz6, Kc6, A_b6, hlu⟩ := hQ6
    have N7 := Fr.app N0 N6
    obtain ⟨h6, e6⟩ : ∃ h', T6.heap = h' := ⟨_, rfl⟩
    rw [e6] at Kc6 A_b6
    have A := A.keep Kc6 nin0
    have C := C.keep Kc6 sf0
    have OO := OO.keep Kc6 all0
    have K8 := K0.trans Kc6 all0
    have Zp9 := Nat.le_trans Z0 Kc6.1
    have ge_b6 : n0 ≤ b6 := Nat.le_trans Z0 sz6
    have sz_b6 : h0.size ≤ b6 := Nat.le_trans K0.1 sz6
    have ne_a1_b6 : a1 ≠ b6 := Nat.ne_of_lt (Nat.lt_of_lt_of_le lt_a1 sz6)
    show GoesW p ee below s _ _ _ _ _ (T6.setTop (mkF m 20 #[.val (.ref a1), .val (.int (Int32.ofNat i)), .val (.int (Int32.ofNat k)), .unset, .unset] [(.ref b6)]))
    refine GoesW.step (fun _ hr_ => XS.astoreN X6.here hx rfl (hb hby d_jdk_52_method_69_code_20) rfl rfl (l' := #[.val (.ref a1), .val (.int (Int32.ofNat i)), .val (.int (Int32.ofNat k)), .val (.ref b6), .unset]) rfl hr_) ?_
    show GoesW p ee below s _ _ _ _ _ (T6.setTop (mkF m 21 #[.val (.ref a1), .val (.int (Int32.ofNat i)), .val (.int (Int32.ofNat k)), .val (.ref b6), .unset] []))
    refine GoesW.step (fun _ hr_ => XS.aloadN X6.here hx rfl (hb hby d_jdk_52_method_69_code_21) rfl rfl hr_) ?_
    show GoesW p ee below s _ _ _ _ _ (T6.setTop (mkF m 22 #[.val (.ref a1), .val (.int (Int32.ofNat i)), .val (.int (Int32.ofNat k)), .val (.ref b6), .unset] [(.ref b6)]))
    refine GoesW.step (fun _ hr_ => XS.iloadN X6.here hx rfl (hb hby d_jdk_52_method_69_code_22) rfl  hr_) ?_
    show GoesW p ee below s _ _ _ _ _ (T6.setTop (mkF m 23 #[.val (.ref a1), .val (.int (Int32.ofNat i)), .val (.int (Int32.ofNat k)), .val (.ref b6), .unset] [(.int (Int32.ofNat k)), (.ref b6)]))
    have lt_a1 := A.lt
    have lt_b6 := A_b6.lt
    obtain ⟨v10, T10, L10, X10, hQ10, st10⟩ := own_callS X6 hx hZ (y := (⟨"java/lang/StringUTF16", "coderFromArrayLen", "([BI)B"⟩ : MethodName)) hown (hw _ (List.mem_of_getElem? (i := 178) rfl)) (hw _ (List.mem_of_getElem? (i := 30) rfl)) (hw _ (List.mem_of_getElem? (i := 23) rfl)) (hw _ (List.mem_of_getElem? (i := 31) rfl)) (by decide) (argsL := [(.ref b6), (.int (Int32.ofNat k))]) (rm_cfa l Z a0 hw [] cs fm b6 k u _ h6 n0 Zp9 ST OO (by omega) (by omega) A_b6) e6 (W := 0) (by decide) (by decide) (by decide) (by decide) (g := (mkF m 23 #[.val (.ref a1), .val (.int (Int32.ofNat i)), .val (.int (Int32.ofNat k)), .val (.ref b6), .unset] [(.int (Int32.ofNat k)), (.ref b6)])) rfl (by rw [hml]; rfl) (rest := []) (lenOf pd_12 rfl) rfl (by show 2 * 0 + _ ≤ _; exact Nat.le_of_eq rfl) (hb hby d_jdk_52_method_69_code_23)
    refine GoesW.step st10 ?_
    obtain ⟨rfl, N10, e10⟩ := hQ10
    have N11 := Fr.app N7 N10
    show GoesW p ee below s _ _ _ _ _ (T10.setTop (mkF m 26 #[.val (.ref a1), .val (.int (Int32.ofNat i)), .val (.int (Int32.ofNat k)), .val (.ref b6), .unset] [(.int (own_cd u))]))
    refine GoesW.step (fun _ hr_ => XS.istore X10.here hx rfl (hb hby d_jdk_52_method_69_code_26) rfl  (l' := #[.val (.ref a1), .val (.int (Int32.ofNat i)), .val (.int (Int32.ofNat k)), .val (.ref b6), .val (.int (own_cd u))]) rfl hr_) ?_
    show GoesW p ee below s _ _ _ _ _ (T10.setTop (mkF m 28 #[.val (.ref a1), .val (.int (Int32.ofNat i)), .val (.int (Int32.ofNat k)), .val (.ref b6), .val (.int (own_cd u))] []))
    obtain ⟨T12, h12, X12, e12, E12, A12, D12, -, st12⟩ := newO X10 hx hZ hown (hw _ (List.mem_of_getElem? (i := 179) rfl)) (hw _ (List.mem_of_getElem? (i := 7) rfl)) (hw _ (List.mem_of_getElem? (i := 8) rfl)) e10 (g := (mkF m 28 #[.val (.ref a1), .val (.int (Int32.ofNat i)), .val (.int (Int32.ofNat k)), .val (.ref b6), .val (.int (own_cd u))] [])) rfl (hb hby d_jdk_52_method_69_code_28) (by decide) (by decide)
    obtain ⟨b12, g_b12⟩ : ∃ z, z = h6.size := ⟨_, rfl⟩
    have ne_a1_b12 : a1 ≠ b12 := Nat.ne_of_lt (Nat.lt_of_lt_of_le A.lt (Nat.le_of_eq g_b12.symm))
    have ne_b6_b12 : b6 ≠ b12 := Nat.ne_of_lt (Nat.lt_of_lt_of_le A_b6.lt (Nat.le_of_eq g_b12.symm))
    have ge_b12 : n0 ≤ b12 := Nat.le_trans Zp9 (Nat.le_of_eq g_b12.symm)
    have sz_b12 : h0.size ≤ b12 := Nat.le_trans K8.1 (Nat.le_of_eq g_b12.symm)
    rw [← g_b12] at A12 D12 st12
    have A := A.ext E12
    have A_b6 := A_b6.ext E12
    have Zp13 := Nat.le_trans Zp9 E12.1
    have sf_b12 := Safe.ext E12 C.chv (Safe.new (Nat.le_of_eq g_b12.symm))
    have C := C.ext E12
    have OO := OO.ext E12
    have K14 := K8.ext E12
    refine GoesW.step st12 ?_
    have E_b12 := A12
    have F_coder_b12 : Fld Z h12 b12 "java/lang/String" "coder" "B" (.int (0 : Int32)) := D12 (Or.inr (hw _ (List.mem_of_getElem? (i := 33) rfl))) (ty := .byte) (by decide)
    have F_value_b12 : Fld Z h12 b12 "java/lang/String" "value" "[B" .null := D12 (Or.inr (hw _ (List.mem_of_getElem? (i := 35) rfl))) (ty := (.array .byte)) (by decide)
    show GoesW p ee below s _ _ _ _ _ (T12.setTop (mkF m 31 #[.val (.ref a1), .val (.int (Int32.ofNat i)), .val (.int (Int32.ofNat k)), .val (.ref b6), .val (.int (own_cd u))] [(.ref b12)]))
    refine GoesW.step (fun _ hr_ => XS.dup X12.here hx rfl (hb hby d_jdk_52_method_69_code_31) rfl rfl hr_) ?_
    show GoesW p ee below s _ _ _ _ _ (T12.setTop (mkF m 32 #[.val (.ref a1), .val (.int (Int32.ofNat i)), .val (.int (Int32.ofNat k)), .val (.ref b6), .val (.int (own_cd u))] [(.ref b12), (.ref b12)]))
    refine GoesW.step (fun _ hr_ => XS.aloadN X12.here hx rfl (hb hby d_jdk_52_method_69_code_32) rfl rfl hr_) ?_
    show GoesW p ee below s _ _ _ _ _ (T12.setTop (mkF m 33 #[.val (.ref a1), .val (.int (Int32.ofNat i)), .val (.int (Int32.ofNat k)), .val (.ref b6), .val (.int (own_cd u))] [(.ref b6), (.ref b12), (.ref b12)]))
    refine GoesW.step (fun _ hr_ => XS.iload X12.here hx rfl (hb hby d_jdk_52_method_69_code_33) rfl  hr_) ?_
    show GoesW p ee below s _ _ _ _ _ (T12.setTop (mkF m 35 #[.val (.ref a1), .val (.int (Int32.ofNat i)), .val (.int (Int32.ofNat k)), .val (.ref b6), .val (.int (own_cd u))] [(.int (own_cd u)), (.ref b6), (.ref b12), (.ref b12)]))
    have lt_a1 := A.lt
    have lt_b6 := A_b6.lt
    have lt_b12 := E_b12.lt
    obtain ⟨v15, T15, L15, X15, hQ15, st15⟩ := own_callN X12 hx hZ (y := (⟨"java/lang/String", "<init>", "([BB)V"⟩ : MethodName)) rfl hown (hw _ (List.mem_of_getElem? (i := 180) rfl)) (hw _ (List.mem_of_getElem? (i := 181) rfl)) (hw _ (List.mem_of_getElem? (i := 8) rfl)) (hw _ (List.mem_of_getElem? (i := 182) rfl)) (by decide) (a := b12) (argsL := [(.ref b6), (.int (own_cd u))]) (rm_sbb l Z a0 hw [] cs fm b12 b6 u _ _ h12 n0 Zp13 ST OO ge_b12 E_b12 F_value_b12 F_coder_b12) e12 (W := 1) (by decide) (by decide) (by decide) (by decide) (g := (mkF m 35 #[.val (.ref a1), .val (.int (Int32.ofNat i)), .val (.int (Int32.ofNat k)), .val (.ref b6), .val (.int (own_cd u))] [(.int (own_cd u)), (.ref b6), (.ref b12), (.ref b12)])) rfl (by rw [hml]; rfl) (rest := [(.ref b12)]) (lenOf pd_20 rfl) rfl (by show 2 * 0 + _ ≤ _; exact Nat.le_of_eq rfl) (hb hby d_jdk_52_method_69_code_35)
    refine GoesW.step st15 ?_
    obtain ⟨rfl, N15, Kc15, Ei15, Fv15, Fc15⟩ := hQ15
    have N16 := Fr.app N11 N15
    obtain ⟨h15, e15⟩ : ∃ h', T15.heap = h' := ⟨_, rfl⟩
    rw [e15] at Kc15 Ei15 Fv15 Fc15
    have A := A.keep Kc15 (ninS ne_a1_b12 nin0)
    have A_b6 := A_b6.keep Kc15 (ninS ne_b6_b12 nin0)
    have hsk := (sfS sf_b12 sf0)
    have sf_b12 := Safe.keep Kc15 hsk C.chv sf_b12
    have C := C.keep Kc15 hsk
    have OO := OO.keep Kc15 (allS ge_b12 all0)
    have K17 := K14.trans Kc15 (allS (Or.inr sz_b12) all0)
    have Zp18 := Nat.le_trans Zp13 Kc15.1
    show GoesW p ee below s _ _ _ _ _ (T15.setTop (mkF m 38 #[.val (.ref a1), .val (.int (Int32.ofNat i)), .val (.int (Int32.ofNat k)), .val (.ref b6), .val (.int (own_cd u))] [(.ref b12)]))
    refine GoesW.retA X15 hx hZ hEL C e15 Bd.notSynchronized Bd.returns rfl rfl (hb hby d_jdk_52_method_69_code_38) (by decide) (by decide) ?_
    rw [e15]
    exact ⟨b12, b6, u, rfl, N16, K17, Ei15, Fv15, Fc15, A_b6, hlu⟩
theorem ef_sub (m : MethodId) (x0 : Addr) (x1 : Int32) (x2 : Int32) : entryFrame m #[(.ref x0), (.int x1), (.int x2)] 5 = mkF m 0 #[.val (.ref x0), .val (.int x1), .val (.int x2), .unset, .unset] [] := by first | (simp [entryFrame, mkF, argsToLocals, Value.category]; done) | rfl
theorem d_jdk_42_method_92_code_0 : decode jdk_42_method_92_code 0 = .ok (.aload_n 0, 1) := by decide +kernel
theorem pd_21 : parseMethodDescriptor "()I" = some ⟨[], some .int⟩ := by decide +kernel
theorem d_jdk_42_method_92_code_1 : decode jdk_42_method_92_code 1 = .ok (.invokevirtual 505, 3) := by decide +kernel
theorem d_jdk_42_method_92_code_4 : decode jdk_42_method_92_code 4 = .ok (.istore_n 3, 1) := by decide +kernel
theorem d_jdk_42_method_92_code_5 : decode jdk_42_method_92_code 5 = .ok (.iload_n 1, 1) := by decide +kernel
theorem d_jdk_42_method_92_code_6 : decode jdk_42_method_92_code 6 = .ok (.iload_n 2, 1) := by decide +kernel
theorem d_jdk_42_method_92_code_7 : decode jdk_42_method_92_code 7 = .ok (.iload_n 3, 1) := by decide +kernel
theorem pd_22 : parseMethodDescriptor "(III)V" = some ⟨[.int, .int, .int], none⟩ := by decide +kernel
theorem d_jdk_42_method_92_code_8 : decode jdk_42_method_92_code 8 = .ok (.invokestatic 521, 3) := by decide +kernel
theorem d_jdk_42_method_92_code_11 : decode jdk_42_method_92_code 11 = .ok (.iload_n 1, 1) := by decide +kernel
theorem d_jdk_42_method_92_code_12 : decode jdk_42_method_92_code 12 = .ok (.ifCond .ne 10, 3) := by decide +kernel
theorem d_jdk_42_method_92_code_15 : decode jdk_42_method_92_code 15 = .ok (.iload_n 2, 1) := by decide +kernel
theorem d_jdk_42_method_92_code_16 : decode jdk_42_method_92_code 16 = .ok (.iload_n 3, 1) := by decide +kernel
theorem d_jdk_42_method_92_code_17 : decode jdk_42_method_92_code 17 = .ok (.if_icmp .ne 5, 3) := by decide +kernel
theorem d_jdk_42_method_92_code_20 : decode jdk_42_method_92_code 20 = .ok (.aload_n 0, 1) := by decide +kernel
theorem d_jdk_42_method_92_code_21 : decode jdk_42_method_92_code 21 = .ok (.areturn, 1) := by decide +kernel
theorem d_jdk_42_method_92_code_22 : decode jdk_42_method_92_code 22 = .ok (.iload_n 2, 1) := by decide +kernel
theorem d_jdk_42_method_92_code_23 : decode jdk_42_method_92_code 23 = .ok (.iload_n 1, 1) := by decide +kernel
theorem d_jdk_42_method_92_code_24 : decode jdk_42_method_92_code 24 = .ok (.isub, 1) := by decide +kernel
theorem d_jdk_42_method_92_code_25 : decode jdk_42_method_92_code 25 = .ok (.istore 4, 2) := by decide +kernel
theorem d_jdk_42_method_92_code_27 : decode jdk_42_method_92_code 27 = .ok (.aload_n 0, 1) := by decide +kernel
theorem d_jdk_42_method_92_code_28 : decode jdk_42_method_92_code 28 = .ok (.invokevirtual 492, 3) := by decide +kernel
theorem d_jdk_42_method_92_code_31 : decode jdk_42_method_92_code 31 = .ok (.ifCond .eq 16, 3) := by decide +kernel
theorem d_jdk_42_method_92_code_34 : decode jdk_42_method_92_code 34 = .ok (.aload_n 0, 1) := by decide +kernel
theorem d_jdk_42_method_92_code_35 : decode jdk_42_method_92_code 35 = .ok (.getfield 9, 3) := by decide +kernel
theorem d_jdk_42_method_92_code_38 : decode jdk_42_method_92_code 38 = .ok (.iload_n 1, 1) := by decide +kernel
theorem d_jdk_42_method_92_code_39 : decode jdk_42_method_92_code 39 = .ok (.iload 4, 2) := by decide +kernel
theorem pd_23 : parseMethodDescriptor "([BII)Ljava/lang/String;" = some ⟨[(.array .byte), .int, .int], some (.object "java/lang/String")⟩ := by decide +kernel
theorem d_jdk_42_method_92_code_41 : decode jdk_42_method_92_code 41 = .ok (.invokestatic 685, 3) := by decide +kernel
theorem d_jdk_42_method_92_code_44 : decode jdk_42_method_92_code 44 = .ok (.goto 13, 3) := by decide +kernel
theorem d_jdk_42_method_92_code_57 : decode jdk_42_method_92_code 57 = .ok (.areturn, 1) := by decide +kernel
theorem d_jdk_42_method_92_code_47 : decode jdk_42_method_92_code 47 = .ok (.aload_n 0, 1) := by decide +kernel
theorem d_jdk_42_method_92_code_48 : decode jdk_42_method_92_code 48 = .ok (.getfield 9, 3) := by decide +kernel
theorem d_jdk_42_method_92_code_51 : decode jdk_42_method_92_code 51 = .ok (.iload_n 1, 1) := by decide +kernel
theorem d_jdk_42_method_92_code_52 : decode jdk_42_method_92_code 52 = .ok (.iload 4, 2) := by decide +kernel
theorem d_jdk_42_method_92_code_54 : decode jdk_42_method_92_code 54 = .ok (.invokestatic 689, 3) := by decide +kernel
def Q_sub (Z : State) (cs : Int32) (fm : Value) (a1 b : Addr) (u : Bool) (n : Nat) (c : Nat → Nat) (i j : Nat) (h0 : Heap) (n0 : Nat) (v : Option Value) (h : Heap) (L : List Loc) : Prop := ∃ (o b : Addr) (u' : Bool), v = some (.ref o) ∧ Fr n0 L ∧ Keep h0 h [] ∧ Exa Z h o "java/lang/String" ∧ Fld Z h o "java/lang/String" "value" "[B" (.ref b) ∧ Fld Z h o "java/lang/String" "coder" "B" (.int (own_cd u')) ∧ OA Z h b .byte (own_len u' (j - i)) (own_by u' (fun t => c (i + t))) ∧ (u' = false → ∀ t, t < (j - i) → c (i + t) < 256)
set_option maxRecDepth 65536 in
set_option maxHeartbeats 40000000 in
theorem rm_sub (l : Launch) (Z : State) (a0 : Array Value) (hw : ∀ d ∈ tables_1, d.before a0 Z = true) (ws : List Jvm.Cond) (cs : Int32) (fm : Value) (a1 b : Addr) (u : Bool) (n : Nat) (c : Nat → Nat) (i j : Nat) (h0 : Heap) (n0 : Nat) (Z0 : n0 ≤ h0.size) (ST : own_ST Z cs fm) (OO : Old Z n0 h0) (hn : n ≤ 4) (E : Exa Z h0 a1 "java/lang/String") (FV : Fld Z h0 a1 "java/lang/String" "value" "[B" (.ref b)) (FC : Fld Z h0 a1 "java/lang/String" "coder" "B" (.int (own_cd u))) (A : OA Z h0 b .byte (own_len u n) (own_by u c)) (hc : ∀ j, j < n → c j < 65536) (hl : u = false → ∀ j, j < n → c j < 256) (hij : i ≤ j) (hjn : j ≤ n) :
    MetFree l (⟨"java/lang/String", "substring", "(II)Ljava/lang/String;"⟩ : MethodName) (head1 (Jvm.Cond.code (⟨"java/lang/String", "substring", "(II)Ljava/lang/String;"⟩ : MethodName) jdk_42_method_92_code 5 (some (.object "java/lang/String")) :: ws) ({ frames := 6, cells := 3, slots := 16, locals := 94 } : Room)) (fun a U => a = #[(.ref a1), (.int (Int32.ofNat i)), (.int (Int32.ofNat j))] ∧ Z.Warmed39 U.vm ∧ U.heap = h0 ∧ CHv Z consts_1 U.vm h0 ∧ ∀ x ∈ ([] : List Addr), Safe Z consts_1 U.vm h0 x) (fun _ _ _ _ _ => True) (fun _ U o U' => ∃ v L, o = .returned v ∧ Q_sub Z cs fm a1 b u n c i j h0 n0 v U'.heap L ∧ CHr Z consts_1 U.vm U.heap U'.vm U'.heap ∧ ReturnedEndW U o U' L ({ frames := 6, cells := 3, slots := 16, locals := 94 } : Room).cells ({ frames := 6, cells := 3, slots := 16, locals := 94 } : Room).slots) := by
  refine MetFree.of_bodySF (plainFor_of_name pn_java_lang_String) hisR ?_
  intro p ee s m args below meth cc s₁ Bd hml0 hP hK
  obtain ⟨rfl, hZ, hh, H, hsf⟩ := hP
  have hx := Bd.exec
  have hby := Bd.bytes
  have hml : cc.maxLocals = 5 := hml0
  have hown : (s.setVm s.vm).vm.findClass "java/lang/String" = some m.cls := findClass_of_methodNamed Bd.named
  have hnm := (name_of_methodNamed Bd.named Bd.method).1
  have X0 : Stand p l ee ({ frames := 6, cells := 3, slots := 16, locals := 94 } : Room) (s.setVm s.vm) m #[(.ref a1), (.int (Int32.ofNat i)), (.int (Int32.ofNat j))] below meth cc s₁ [] 0 0 := Stand.of_body Bd
  have e0 : s₁.heap = h0 := by rw [← hh, Bd.state]; rfl
  have N0 := Fr.nil n0
  have hEL := own_EW hw
  have hZ : Z.Warmed39 (s.setVm s.vm).vm := hZ
  have C : Cold Z consts_1 s s.vm h0 := by rw [← hh]; exact Cold.start (by rw [hh]; exact H)
  show GoesW p ee below s ({ frames := 6, cells := 3, slots := 16, locals := 94 } : Room).cells ({ frames := 6, cells := 3, slots := 16, locals := 94 } : Room).slots Z consts_1 (Q_sub Z cs fm a1 b u n c i j h0 n0) (s₁.setTop (entryFrame m #[(.ref a1), (.int (Int32.ofNat i)), (.int (Int32.ofNat j))] 5))
  refine GoesW.step (fun _ hr_ => castTop (ef_sub m a1 (Int32.ofNat i) (Int32.ofNat j)) hr_) ?_
  show GoesW p ee below s _ _ _ _ _ (s₁.setTop (mkF m 0 #[.val (.ref a1), .val (.int (Int32.ofNat i)), .val (.int (Int32.ofNat j)), .unset, .unset] []))
  have K0 := Keep.refl h0 ([] : List Addr)
  cases u
  · have FC : Fld Z h0 a1 "java/lang/String" "coder" "B" (.int 0) := FC
    have A : OA Z h0 b .byte n (own_by false c) := A
    show GoesW p ee below s _ _ _ _ _ (s₁.setTop (mkF m 0 #[.val (.ref a1), .val (.int (Int32.ofNat i)), .val (.int (Int32.ofNat j)), .unset, .unset] []))
    refine GoesW.step (fun _ hr_ => XS.aloadN X0.here hx rfl (hb hby d_jdk_42_method_92_code_0) rfl rfl hr_) ?_
    show GoesW p ee below s _ _ _ _ _ (s₁.setTop (mkF m 1 #[.val (.ref a1), .val (.int (Int32.ofNat i)), .val (.int (Int32.ofNat j)), .unset, .unset] [(.ref a1)]))
    have lt_a1 := E.lt
    have lt_b := A.lt
    obtain ⟨v1, T1, L1, X1, hQ1, st1⟩ := own_callV X0 hx hZ (y := (⟨"java/lang/String", "length", "()I"⟩ : MethodName)) hown (hw _ (List.mem_of_getElem? (i := 62) rfl)) (hw _ (List.mem_of_getElem? (i := 63) rfl)) (hw _ (List.mem_of_getElem? (i := 65) rfl)) (hw _ (List.mem_of_getElem? (i := 64) rfl)) (hw _ (List.mem_of_getElem? (i := 8) rfl)) (hw _ (List.mem_of_getElem? (i := 66) rfl)) (by decide) (a := a1) (argsL := []) (rm_slen l Z a0 hw [] cs fm a1 b false n c h0 n0 Z0 ST OO (by omega) E FV FC A) e0 E (W := 0) (by decide) (by decide) (by decide) (by decide) (g := (mkF m 1 #[.val (.ref a1), .val (.int (Int32.ofNat i)), .val (.int (Int32.ofNat j)), .unset, .unset] [(.ref a1)])) rfl (by rw [hml]; rfl) (rest := []) (lenOf pd_21 rfl) rfl (by show 2 * 0 + _ ≤ _; exact Nat.le_of_eq rfl) (hb hby d_jdk_42_method_92_code_1)
    refine GoesW.step st1 ?_
    obtain ⟨rfl, N1, e1⟩ := hQ1
    have N2 := Fr.app N0 N1
    show GoesW p ee below s _ _ _ _ _ (T1.setTop (mkF m 4 #[.val (.ref a1), .val (.int (Int32.ofNat i)), .val (.int (Int32.ofNat j)), .unset, .unset] [(.int (Int32.ofNat n))]))
    refine GoesW.step (fun _ hr_ => XS.istoreN X1.here hx rfl (hb hby d_jdk_42_method_92_code_4) rfl  (l' := #[.val (.ref a1), .val (.int (Int32.ofNat i)), .val (.int (Int32.ofNat j)), .val (.int (Int32.ofNat n)), .unset]) rfl hr_) ?_
    show GoesW p ee below s _ _ _ _ _ (T1.setTop (mkF m 5 #[.val (.ref a1), .val (.int (Int32.ofNat i)), .val (.int (Int32.ofNat j)), .val (.int (Int32.ofNat n)), .unset] []))
    refine GoesW.step (fun _ hr_ => XS.iloadN X1.here hx rfl (hb hby d_jdk_42_method_92_code_5) rfl  hr_) ?_
    show GoesW p ee below s _ _ _ _ _ (T1.setTop (mkF m 6 #[.val (.ref a1), .val (.int (Int32.ofNat i)), .val (.int (Int32.ofNat j)), .val (.int (Int32.ofNat n)), .unset] [(.int (Int32.ofNat i))]))
    refine GoesW.step (fun _ hr_ => XS.iloadN X1.here hx rfl (hb hby d_jdk_42_method_92_code_6) rfl  hr_) ?_
    show GoesW p ee below s _ _ _ _ _ (T1.setTop (mkF m 7 #[.val (.ref a1), .val (.int (Int32.ofNat i)), .val (.int (Int32.ofNat j)), .val (.int (Int32.ofNat n)), .unset] [(.int (Int32.ofNat j)), (.int (Int32.ofNat i))]))
    refine GoesW.step (fun _ hr_ => XS.iloadN X1.here hx rfl (hb hby d_jdk_42_method_92_code_7) rfl  hr_) ?_
    show GoesW p ee below s _ _ _ _ _ (T1.setTop (mkF m 8 #[.val (.ref a1), .val (.int (Int32.ofNat i)), .val (.int (Int32.ofNat j)), .val (.int (Int32.ofNat n)), .unset] [(.int (Int32.ofNat n)), (.int (Int32.ofNat j)), (.int (Int32.ofNat i))]))
    have lt_a1 := E.lt
    have lt_b := A.lt
    obtain ⟨v3, T3, L3, X3, hQ3, st3⟩ := own_callS X1 hx hZ (y := (⟨"java/lang/String", "checkBoundsBeginEnd", "(III)V"⟩ : MethodName)) hown (hw _ (List.mem_of_getElem? (i := 72) rfl)) (hw _ (List.mem_of_getElem? (i := 73) rfl)) (hw _ (List.mem_of_getElem? (i := 8) rfl)) (hw _ (List.mem_of_getElem? (i := 74) rfl)) (by decide) (argsL := [(.int (Int32.ofNat i)), (.int (Int32.ofNat j)), (.int (Int32.ofNat n))]) (rm_sbe l Z a0 hw [] cs fm i j n h0 n0 Z0 ST OO hij hjn (by omega)) e1 (W := 0) (by decide) (by decide) (by decide) (by decide) (g := (mkF m 8 #[.val (.ref a1), .val (.int (Int32.ofNat i)), .val (.int (Int32.ofNat j)), .val (.int (Int32.ofNat n)), .unset] [(.int (Int32.ofNat n)), (.int (Int32.ofNat j)), (.int (Int32.ofNat i))])) rfl (by rw [hml]; rfl) (rest := []) (lenOf pd_22 rfl) rfl (by show 2 * 0 + _ ≤ _; exact Nat.le_of_eq rfl) (hb hby d_jdk_42_method_92_code_8)
    refine GoesW.step st3 ?_
    obtain ⟨rfl, N3, e3⟩ := hQ3
    have N4 := Fr.app N2 N3
    show GoesW p ee below s _ _ _ _ _ (T3.setTop (mkF m 11 #[.val (.ref a1), .val (.int (Int32.ofNat i)), .val (.int (Int32.ofNat j)), .val (.int (Int32.ofNat n)), .unset] []))
    refine GoesW.step (fun _ hr_ => XS.iloadN X3.here hx rfl (hb hby d_jdk_42_method_92_code_11) rfl  hr_) ?_
    show GoesW p ee below s _ _ _ _ _ (T3.setTop (mkF m 12 #[.val (.ref a1), .val (.int (Int32.ofNat i)), .val (.int (Int32.ofNat j)), .val (.int (Int32.ofNat n)), .unset] [(.int (Int32.ofNat i))]))
    by_cases hn12_5 : i = 0
    · refine GoesW.step (fun _ hr_ => XS.ifNo X3.here hx rfl (hb hby d_jdk_42_method_92_code_12) rfl ((if0 _ _).trans (teq ((own_eqN i 0 (by omega) (by decide)).mpr hn12_5)).2) hr_) ?_
      show GoesW p ee below s _ _ _ _ _ (T3.setTop (mkF m 15 #[.val (.ref a1), .val (.int (Int32.ofNat i)), .val (.int (Int32.ofNat j)), .val (.int (Int32.ofNat n)), .unset] []))
      refine GoesW.step (fun _ hr_ => XS.iloadN X3.here hx rfl (hb hby d_jdk_42_method_92_code_15) rfl  hr_) ?_
      show GoesW p ee below s _ _ _ _ _ (T3.setTop (mkF m 16 #[.val (.ref a1), .val (.int (Int32.ofNat i)), .val (.int (Int32.ofNat j)), .val (.int (Int32.ofNat n)), .unset] [(.int (Int32.ofNat j))]))
      refine GoesW.step (fun _ hr_ => XS.iloadN X3.here hx rfl (hb hby d_jdk_42_method_92_code_16) rfl  hr_) ?_
      show GoesW p ee below s _ _ _ _ _ (T3.setTop (mkF m 17 #[.val (.ref a1), .val (.int (Int32.ofNat i)), .val (.int (Int32.ofNat j)), .val (.int (Int32.ofNat n)), .unset] [(.int (Int32.ofNat n)), (.int (Int32.ofNat j))]))
      by_cases hn17_6 : j = n
      · refine GoesW.step (fun _ hr_ => XS.icmpNo X3.here hx rfl (hb hby d_jdk_42_method_92_code_17) rfl (teq ((own_eqN j n (by omega) (by omega)).mpr hn17_6)).2 hr_) ?_
        show GoesW p ee below s _ _ _ _ _ (T3.setTop (mkF m 20 #[.val (.ref a1), .val (.int (Int32.ofNat i)), .val (.int (Int32.ofNat j)), .val (.int (Int32.ofNat n)), .unset] []))
        refine GoesW.step (fun _ hr_ => XS.aloadN X3.here hx rfl (hb hby d_jdk_42_method_92_code_20) rfl rfl hr_) ?_
        show GoesW p ee below s _ _ _ _ _ (T3.setTop (mkF m 21 #[.val (.ref a1), .val (.int (Int32.ofNat i)), .val (.int (Int32.ofNat j)), .val (.int (Int32.ofNat n)), .unset] [(.ref a1)]))
        refine GoesW.retA X3 hx hZ hEL C e3 Bd.notSynchronized Bd.returns rfl rfl (hb hby d_jdk_42_method_92_code_21) (by decide) (by decide) ?_
        rw [e3]
        exact ⟨a1, b, false, rfl, N4, K0, E, FV, FC, own_OAzero hn12_5 hn17_6 A, fun q t ht => hl q _ (by omega)⟩
      · refine GoesW.step (fun _ hr_ => XS.icmpYes X3.here hx rfl (pc0 := 17) (pc' := 22) rfl (hb hby d_jdk_42_method_92_code_17) rfl (feq (fun z => hn17_6 ((own_eqN j n (by omega) (by omega)).mp z))).2 (by decide) (by decide) hr_) ?_
        show GoesW p ee below s _ _ _ _ _ (T3.setTop (mkF m 22 #[.val (.ref a1), .val (.int (Int32.ofNat i)), .val (.int (Int32.ofNat j)), .val (.int (Int32.ofNat n)), .unset] []))
        refine GoesW.step (fun _ hr_ => XS.iloadN X3.here hx rfl (hb hby d_jdk_42_method_92_code_22) rfl  hr_) ?_
        show GoesW p ee below s _ _ _ _ _ (T3.setTop (mkF m 23 #[.val (.ref a1), .val (.int (Int32.ofNat i)), .val (.int (Int32.ofNat j)), .val (.int (Int32.ofNat n)), .unset] [(.int (Int32.ofNat j))]))
        refine GoesW.step (fun _ hr_ => XS.iloadN X3.here hx rfl (hb hby d_jdk_42_method_92_code_23) rfl  hr_) ?_
        show GoesW p ee below s _ _ _ _ _ (T3.setTop (mkF m 24 #[.val (.ref a1), .val (.int (Int32.ofNat i)), .val (.int (Int32.ofNat j)), .val (.int (Int32.ofNat n)), .unset] [(.int (Int32.ofNat i)), (.int (Int32.ofNat j))]))
        refine GoesW.step (fun _ hr_ => XS.isub X3.here hx rfl (hb hby d_jdk_42_method_92_code_24) rfl hr_) ?_
        show GoesW p ee below s _ _ _ _ _ (T3.setTop (mkF m 25 #[.val (.ref a1), .val (.int (Int32.ofNat i)), .val (.int (Int32.ofNat j)), .val (.int (Int32.ofNat n)), .unset] [(.int ((Int32.ofNat j) - (Int32.ofNat i)))]))
        rw [own_subN j i (by omega) hij]
        show GoesW p ee below s _ _ _ _ _ (T3.setTop (mkF m 25 #[.val (.ref a1), .val (.int (Int32.ofNat i)), .val (.int (Int32.ofNat j)), .val (.int (Int32.ofNat n)), .unset] [(.int (Int32.ofNat (j - i)))]))
        refine GoesW.step (fun _ hr_ => XS.istore X3.here hx rfl (hb hby d_jdk_42_method_92_code_25) rfl  (l' := #[.val (.ref a1), .val (.int (Int32.ofNat i)), .val (.int (Int32.ofNat j)), .val (.int (Int32.ofNat n)), .val (.int (Int32.ofNat (j - i)))]) rfl hr_) ?_
        show GoesW p ee below s _ _ _ _ _ (T3.setTop (mkF m 27 #[.val (.ref a1), .val (.int (Int32.ofNat i)), .val (.int (Int32.ofNat j)), .val (.int (Int32.ofNat n)), .val (.int (Int32.ofNat (j - i)))] []))
        refine GoesW.step (fun _ hr_ => XS.aloadN X3.here hx rfl (hb hby d_jdk_42_method_92_code_27) rfl rfl hr_) ?_
        show GoesW p ee below s _ _ _ _ _ (T3.setTop (mkF m 28 #[.val (.ref a1), .val (.int (Int32.ofNat i)), .val (.int (Int32.ofNat j)), .val (.int (Int32.ofNat n)), .val (.int (Int32.ofNat (j - i)))] [(.ref a1)]))
        have lt_a1 := E.lt
        have lt_b := A.lt
        obtain ⟨v7, T7, L7, X7, hQ7, st7⟩ := own_callV X3 hx hZ (y := (⟨"java/lang/String", "isLatin1", "()Z"⟩ : MethodName)) hown (hw _ (List.mem_of_getElem? (i := 80) rfl)) (hw _ (List.mem_of_getElem? (i := 81) rfl)) (hw _ (List.mem_of_getElem? (i := 83) rfl)) (hw _ (List.mem_of_getElem? (i := 82) rfl)) (hw _ (List.mem_of_getElem? (i := 8) rfl)) (hw _ (List.mem_of_getElem? (i := 84) rfl)) (by decide) (a := a1) (argsL := []) (rm_isL l Z a0 hw [] cs fm a1 false h0 n0 Z0 ST OO FC) e3 E (W := 0) (by decide) (by decide) (by decide) (by decide) (g := (mkF m 28 #[.val (.ref a1), .val (.int (Int32.ofNat i)), .val (.int (Int32.ofNat j)), .val (.int (Int32.ofNat n)), .val (.int (Int32.ofNat (j - i)))] [(.ref a1)])) rfl (by rw [hml]; rfl) (rest := []) (lenOf pd_6 rfl) rfl (by show 2 * 0 + _ ≤ _; exact Nat.le_of_eq rfl) (hb hby d_jdk_42_method_92_code_28)
        refine GoesW.step st7 ?_
        obtain ⟨rfl, N7, e7⟩ := hQ7
        have N8 := Fr.app N4 N7
        show GoesW p ee below s _ _ _ _ _ (T7.setTop (mkF m 31 #[.val (.ref a1), .val (.int (Int32.ofNat i)), .val (.int (Int32.ofNat j)), .val (.int (Int32.ofNat n)), .val (.int (Int32.ofNat (j - i)))] [(.int (1 : Int32))]))
        refine GoesW.step (fun _ hr_ => XS.ifNo X7.here hx rfl (hb hby d_jdk_42_method_92_code_31) rfl ((if0 _ _).trans (feq (by decide)).1) hr_) ?_
        show GoesW p ee below s _ _ _ _ _ (T7.setTop (mkF m 34 #[.val (.ref a1), .val (.int (Int32.ofNat i)), .val (.int (Int32.ofNat j)), .val (.int (Int32.ofNat n)), .val (.int (Int32.ofNat (j - i)))] []))
        refine GoesW.step (fun _ hr_ => XS.aloadN X7.here hx rfl (hb hby d_jdk_42_method_92_code_34) rfl rfl hr_) ?_
        show GoesW p ee below s _ _ _ _ _ (T7.setTop (mkF m 35 #[.val (.ref a1), .val (.int (Int32.ofNat i)), .val (.int (Int32.ofNat j)), .val (.int (Int32.ofNat n)), .val (.int (Int32.ofNat (j - i)))] [(.ref a1)]))
        obtain ⟨T9, X9, e9, st9⟩ := getF X7 hx hZ hown (host := "") (Or.inl (hw _ (List.mem_of_getElem? (i := 34) rfl))) Via.refl e7 FV (g := (mkF m 35 #[.val (.ref a1), .val (.int (Int32.ofNat i)), .val (.int (Int32.ofNat j)), .val (.int (Int32.ofNat n)), .val (.int (Int32.ofNat (j - i)))] [(.ref a1)])) rfl rfl (hb hby d_jdk_42_method_92_code_35)
        refine GoesW.step st9 ?_
        show GoesW p ee below s _ _ _ _ _ (T9.setTop (mkF m 38 #[.val (.ref a1), .val (.int (Int32.ofNat i)), .val (.int (Int32.ofNat j)), .val (.int (Int32.ofNat n)), .val (.int (Int32.ofNat (j - i)))] [(.ref b)]))
        refine GoesW.step (fun _ hr_ => XS.iloadN X9.here hx rfl (hb hby d_jdk_42_method_92_code_38) rfl  hr_) ?_
        show GoesW p ee below s _ _ _ _ _ (T9.setTop (mkF m 39 #[.val (.ref a1), .val (.int (Int32.ofNat i)), .val (.int (Int32.ofNat j)), .val (.int (Int32.ofNat n)), .val (.int (Int32.ofNat (j - i)))] [(.int (Int32.ofNat i)), (.ref b)]))
        refine GoesW.step (fun _ hr_ => XS.iload X9.here hx rfl (hb hby d_jdk_42_method_92_code_39) rfl  hr_) ?_
        show GoesW p ee below s _ _ _ _ _ (T9.setTop (mkF m 41 #[.val (.ref a1), .val (.int (Int32.ofNat i)), .val (.int (Int32.ofNat j)), .val (.int (Int32.ofNat n)), .val (.int (Int32.ofNat (j - i)))] [(.int (Int32.ofNat (j - i))), (.int (Int32.ofNat i)), (.ref b)]))
        have lt_a1 := E.lt
        have lt_b := A.lt
        obtain ⟨v10, vm10, T10, L10, ⟨X10, Cn10, hZ, hown, hsaf10⟩, hQ10, st10⟩ := own_callSW X9 hx hZ hEL C (y := (⟨"java/lang/StringLatin1", "newString", "([BII)Ljava/lang/String;"⟩ : MethodName)) hown (hw _ (List.mem_of_getElem? (i := 85) rfl)) (hw _ (List.mem_of_getElem? (i := 86) rfl)) (hw _ (List.mem_of_getElem? (i := 87) rfl)) (hw _ (List.mem_of_getElem? (i := 88) rfl)) (by decide) (argsL := [(.ref b), (.int (Int32.ofNat i)), (.int (Int32.ofNat (j - i)))]) (ws := []) (fun _ q => nomatch q) (rm_l1ns l Z a0 hw [] cs fm b i (j - i) n c h0 n0 Z0 ST OO (by omega) hn (by omega) (hl rfl) A) e9 (W := 0) (by decide) (by decide) (by decide) (by decide) (g := (mkF m 41 #[.val (.ref a1), .val (.int (Int32.ofNat i)), .val (.int (Int32.ofNat j)), .val (.int (Int32.ofNat n)), .val (.int (Int32.ofNat (j - i)))] [(.int (Int32.ofNat (j - i))), (.int (Int32.ofNat i)), (.ref b)])) rfl (by rw [hml]; rfl) (rest := []) (lenOf pd_23 rfl) rfl (by show 2 * 0 + _ ≤ _; exact Nat.le_of_eq rfl) (hb hby d_jdk_42_method_92_code_41)
        refine GoesW.step st10 ?_
        obtain ⟨o10, b10, u10, rfl, N10, Kc10, Ei10, Fv10, Fc10, A_b10, hlu10⟩ := hQ10
        have N11 := Fr.app N8 N10
        obtain ⟨h10, e10⟩ : ∃ h', T10.heap = h' := ⟨_, rfl⟩
        rw [e10] at Kc10 Cn10 hsaf10 Ei10 Fv10 Fc10 A_b10
        have C := Cn10
        have E := E.keep Kc10
        have FV := FV.keep Kc10 nin0
        have FC := FC.keep Kc10 nin0
        have A := A.keep Kc10 nin0
        have OO := OO.keep Kc10 all0
        have K12 := K0.trans Kc10 all0
        have Zp13 := Nat.le_trans Z0 Kc10.1
        show GoesW p ee below s _ _ _ _ _ (T10.setTop (mkF m 44 #[.val (.ref a1), .val (.int (Int32.ofNat i)), .val (.int (Int32.ofNat j)), .val (.int (Int32.ofNat n)), .val (.int (Int32.ofNat (j - i)))] [(.ref o10)]))
        refine GoesW.step (fun _ hr_ => XS.goto X10.here hx rfl (pc0 := 44) (pc' := 57) rfl (hb hby d_jdk_42_method_92_code_44) (by decide) (by decide) hr_) ?_
        show GoesW p ee below s _ _ _ _ _ (T10.setTop (mkF m 57 #[.val (.ref a1), .val (.int (Int32.ofNat i)), .val (.int (Int32.ofNat j)), .val (.int (Int32.ofNat n)), .val (.int (Int32.ofNat (j - i)))] [(.ref o10)]))
        refine GoesW.retA X10 hx hZ hEL C e10 Bd.notSynchronized Bd.returns rfl rfl (hb hby d_jdk_42_method_92_code_57) (by decide) (by decide) ?_
        rw [e10]
        exact ⟨o10, b10, u10, rfl, N11, K12, Ei10, Fv10, Fc10, A_b10, hlu10⟩
    · refine GoesW.step (fun _ hr_ => XS.ifYes X3.here hx rfl (pc0 := 12) (pc' := 22) rfl (hb hby d_jdk_42_method_92_code_12) rfl ((if0 _ _).trans (feq (fun z => hn12_5 ((own_eqN i 0 (by omega) (by decide)).mp z))).2) (by decide) (by decide) hr_) ?_
      show GoesW p ee below s _ _ _ _ _ (T3.setTop (mkF m 22 #[.val (.ref a1), .val (.int (Int32.ofNat i)), .val (.int (Int32.ofNat j)), .val (.int (Int32.ofNat n)), .unset] []))
      refine GoesW.step (fun _ hr_ => XS.iloadN X3.here hx rfl (hb hby d_jdk_42_method_92_code_22) rfl  hr_) ?_
      show GoesW p ee below s _ _ _ _ _ (T3.setTop (mkF m 23 #[.val (.ref a1), .val (.int (Int32.ofNat i)), .val (.int (Int32.ofNat j)), .val (.int (Int32.ofNat n)), .unset] [(.int (Int32.ofNat j))]))
      refine GoesW.step (fun _ hr_ => XS.iloadN X3.here hx rfl (hb hby d_jdk_42_method_92_code_23) rfl  hr_) ?_
      show GoesW p ee below s _ _ _ _ _ (T3.setTop (mkF m 24 #[.val (.ref a1), .val (.int (Int32.ofNat i)), .val (.int (Int32.ofNat j)), .val (.int (Int32.ofNat n)), .unset] [(.int (Int32.ofNat i)), (.int (Int32.ofNat j))]))
      refine GoesW.step (fun _ hr_ => XS.isub X3.here hx rfl (hb hby d_jdk_42_method_92_code_24) rfl hr_) ?_
      show GoesW p ee below s _ _ _ _ _ (T3.setTop (mkF m 25 #[.val (.ref a1), .val (.int (Int32.ofNat i)), .val (.int (Int32.ofNat j)), .val (.int (Int32.ofNat n)), .unset] [(.int ((Int32.ofNat j) - (Int32.ofNat i)))]))
      rw [own_subN j i (by omega) hij]
      show GoesW p ee below s _ _ _ _ _ (T3.setTop (mkF m 25 #[.val (.ref a1), .val (.int (Int32.ofNat i)), .val (.int (Int32.ofNat j)), .val (.int (Int32.ofNat n)), .unset] [(.int (Int32.ofNat (j - i)))]))
      refine GoesW.step (fun _ hr_ => XS.istore X3.here hx rfl (hb hby d_jdk_42_method_92_code_25) rfl  (l' := #[.val (.ref a1), .val (.int (Int32.ofNat i)), .val (.int (Int32.ofNat j)), .val (.int (Int32.ofNat n)), .val (.int (Int32.ofNat (j - i)))]) rfl hr_) ?_
      show GoesW p ee below s _ _ _ _ _ (T3.setTop (mkF m 27 #[.val (.ref a1), .val (.int (Int32.ofNat i)), .val (.int (Int32.ofNat j)), .val (.int (Int32.ofNat n)), .val (.int (Int32.ofNat (j - i)))] []))
      refine GoesW.step (fun _ hr_ => XS.aloadN X3.here hx rfl (hb hby d_jdk_42_method_92_code_27) rfl rfl hr_) ?_
      show GoesW p ee below s _ _ _ _ _ (T3.setTop (mkF m 28 #[.val (.ref a1), .val (.int (Int32.ofNat i)), .val (.int (Int32.ofNat j)), .val (.int (Int32.ofNat n)), .val (.int (Int32.ofNat (j - i)))] [(.ref a1)]))
      have lt_a1 := E.lt
      have lt_b := A.lt
      obtain ⟨v14, T14, L14, X14, hQ14, st14⟩ := own_callV X3 hx hZ (y := (⟨"java/lang/String", "isLatin1", "()Z"⟩ : MethodName)) hown (hw _ (List.mem_of_getElem? (i := 80) rfl)) (hw _ (List.mem_of_getElem? (i := 81) rfl)) (hw _ (List.mem_of_getElem? (i := 83) rfl)) (hw _ (List.mem_of_getElem? (i := 82) rfl)) (hw _ (List.mem_of_getElem? (i := 8) rfl)) (hw _ (List.mem_of_getElem? (i := 84) rfl)) (by decide) (a := a1) (argsL := []) (rm_isL l Z a0 hw [] cs fm a1 false h0 n0 Z0 ST OO FC) e3 E (W := 0) (by decide) (by decide) (by decide) (by decide) (g := (mkF m 28 #[.val (.ref a1), .val (.int (Int32.ofNat i)), .val (.int (Int32.ofNat j)), .val (.int (Int32.ofNat n)), .val (.int (Int32.ofNat (j - i)))] [(.ref a1)])) rfl (by rw [hml]; rfl) (rest := []) (lenOf pd_6 rfl) rfl (by show 2 * 0 + _ ≤ _; exact Nat.le_of_eq rfl) (hb hby d_jdk_42_method_92_code_28)
      refine GoesW.step st14 ?_
      obtain ⟨rfl, N14, e14⟩ := hQ14
      have N15 := Fr.app N4 N14
      show GoesW p ee below s _ _ _ _ _ (T14.setTop (mkF m 31 #[.val (.ref a1), .val (.int (Int32.ofNat i)), .val (.int (Int32.ofNat j)), .val (.int (Int32.ofNat n)), .val (.int (Int32.ofNat (j - i)))] [(.int (1 : Int32))]))
      refine GoesW.step (fun _ hr_ => XS.ifNo X14.here hx rfl (hb hby d_jdk_42_method_92_code_31) rfl ((if0 _ _).trans (feq (by decide)).1) hr_) ?_
      show GoesW p ee below s _ _ _ _ _ (T14.setTop (mkF m 34 #[.val (.ref a1), .val (.int (Int32.ofNat i)), .val (.int (Int32.ofNat j)), .val (.int (Int32.ofNat n)), .val (.int (Int32.ofNat (j - i)))] []))
      refine GoesW.step (fun _ hr_ => XS.aloadN X14.here hx rfl (hb hby d_jdk_42_method_92_code_34) rfl rfl hr_) ?_
      show GoesW p ee below s _ _ _ _ _ (T14.setTop (mkF m 35 #[.val (.ref a1), .val (.int (Int32.ofNat i)), .val (.int (Int32.ofNat j)), .val (.int (Int32.ofNat n)), .val (.int (Int32.ofNat (j - i)))] [(.ref a1)]))
      obtain ⟨T16, X16, e16, st16⟩ := getF X14 hx hZ hown (host := "") (Or.inl (hw _ (List.mem_of_getElem? (i := 34) rfl))) Via.refl e14 FV (g := (mkF m 35 #[.val (.ref a1), .val (.int (Int32.ofNat i)), .val (.int (Int32.ofNat j)), .val (.int (Int32.ofNat n)), .val (.int (Int32.ofNat (j - i)))] [(.ref a1)])) rfl rfl (hb hby d_jdk_42_method_92_code_35)
      refine GoesW.step st16 ?_
      show GoesW p ee below s _ _ _ _ _ (T16.setTop (mkF m 38 #[.val (.ref a1), .val (.int (Int32.ofNat i)), .val (.int (Int32.ofNat j)), .val (.int (Int32.ofNat n)), .val (.int (Int32.ofNat (j - i)))] [(.ref b)]))
      refine GoesW.step (fun _ hr_ => XS.iloadN X16.here hx rfl (hb hby d_jdk_42_method_92_code_38) rfl  hr_) ?_
      show GoesW p ee below s _ _ _ _ _ (T16.setTop (mkF m 39 #[.val (.ref a1), .val (.int (Int32.ofNat i)), .val (.int (Int32.ofNat j)), .val (.int (Int32.ofNat n)), .val (.int (Int32.ofNat (j - i)))] [(.int (Int32.ofNat i)), (.ref b)]))
      refine GoesW.step (fun _ hr_ => XS.iload X16.here hx rfl (hb hby d_jdk_42_method_92_code_39) rfl  hr_) ?_
      show GoesW p ee below s _ _ _ _ _ (T16.setTop (mkF m 41 #[.val (.ref a1), .val (.int (Int32.ofNat i)), .val (.int (Int32.ofNat j)), .val (.int (Int32.ofNat n)), .val (.int (Int32.ofNat (j - i)))] [(.int (Int32.ofNat (j - i))), (.int (Int32.ofNat i)), (.ref b)]))
      have lt_a1 := E.lt
      have lt_b := A.lt
      obtain ⟨v17, vm17, T17, L17, ⟨X17, Cn17, hZ, hown, hsaf17⟩, hQ17, st17⟩ := own_callSW X16 hx hZ hEL C (y := (⟨"java/lang/StringLatin1", "newString", "([BII)Ljava/lang/String;"⟩ : MethodName)) hown (hw _ (List.mem_of_getElem? (i := 85) rfl)) (hw _ (List.mem_of_getElem? (i := 86) rfl)) (hw _ (List.mem_of_getElem? (i := 87) rfl)) (hw _ (List.mem_of_getElem? (i := 88) rfl)) (by decide) (argsL := [(.ref b), (.int (Int32.ofNat i)), (.int (Int32.ofNat (j - i)))]) (ws := []) (fun _ q => nomatch q) (rm_l1ns l Z a0 hw [] cs fm b i (j - i) n c h0 n0 Z0 ST OO (by omega) hn (by omega) (hl rfl) A) e16 (W := 0) (by decide) (by decide) (by decide) (by decide) (g := (mkF m 41 #[.val (.ref a1), .val (.int (Int32.ofNat i)), .val (.int (Int32.ofNat j)), .val (.int (Int32.ofNat n)), .val (.int (Int32.ofNat (j - i)))] [(.int (Int32.ofNat (j - i))), (.int (Int32.ofNat i)), (.ref b)])) rfl (by rw [hml]; rfl) (rest := []) (lenOf pd_23 rfl) rfl (by show 2 * 0 + _ ≤ _; exact Nat.le_of_eq rfl) (hb hby d_jdk_42_method_92_code_41)
      refine GoesW.step st17 ?_
      obtain ⟨o17, b17, u17, rfl, N17, Kc17, Ei17, Fv17, Fc17, A_b17, hlu17⟩ := hQ17
      have N18 := Fr.app N15 N17
      obtain ⟨h17, e17⟩ : ∃ h', T17.heap = h' := ⟨_, rfl⟩
      rw [e17] at Kc17 Cn17 hsaf17 Ei17 Fv17 Fc17 A_b17
      have C := Cn17
      have E := E.keep Kc17
      have FV := FV.keep Kc17 nin0
      have FC := FC.keep Kc17 nin0
      have A := A.keep Kc17 nin0
      have OO := OO.keep Kc17 all0
      have K19 := K0.trans Kc17 all0
      have Zp20 := Nat.le_trans Z0 Kc17.1
      show GoesW p ee below s _ _ _ _ _ (T17.setTop (mkF m 44 #[.val (.ref a1), .val (.int (Int32.ofNat i)), .val (.int (Int32.ofNat j)), .val (.int (Int32.ofNat n)), .val (.int (Int32.ofNat (j - i)))] [(.ref o17)]))
      refine GoesW.step (fun _ hr_ => XS.goto X17.here hx rfl (pc0 := 44) (pc' := 57) rfl (hb hby d_jdk_42_method_92_code_44) (by decide) (by decide) hr_) ?_
      show GoesW p ee below s _ _ _ _ _ (T17.setTop (mkF m 57 #[.val (.ref a1), .val (.int (Int32.ofNat i)), .val (.int (Int32.ofNat j)), .val (.int (Int32.ofNat n)), .val (.int (Int32.ofNat (j - i)))] [(.ref o17)]))
      refine GoesW.retA X17 hx hZ hEL C e17 Bd.notSynchronized Bd.returns rfl rfl (hb hby d_jdk_42_method_92_code_57) (by decide) (by decide) ?_
      rw [e17]
      exact ⟨o17, b17, u17, rfl, N18, K19, Ei17, Fv17, Fc17, A_b17, hlu17⟩
  · have FC : Fld Z h0 a1 "java/lang/String" "coder" "B" (.int 1) := FC
    have A : OA Z h0 b .byte (2 * n) (own_by true c) := A
    show GoesW p ee below s _ _ _ _ _ (s₁.setTop (mkF m 0 #[.val (.ref a1), .val (.int (Int32.ofNat i)), .val (.int (Int32.ofNat j)), .unset, .unset] []))
    refine GoesW.step (fun _ hr_ => XS.aloadN X0.here hx rfl (hb hby d_jdk_42_method_92_code_0) rfl rfl hr_) ?_
    show GoesW p ee below s _ _ _ _ _ (s₁.setTop (mkF m 1 #[.val (.ref a1), .val (.int (Int32.ofNat i)), .val (.int (Int32.ofNat j)), .unset, .unset] [(.ref a1)]))
    have lt_a1 := E.lt
    have lt_b := A.lt
    obtain ⟨v21, T21, L21, X21, hQ21, st21⟩ := own_callV X0 hx hZ (y := (⟨"java/lang/String", "length", "()I"⟩ : MethodName)) hown (hw _ (List.mem_of_getElem? (i := 62) rfl)) (hw _ (List.mem_of_getElem? (i := 63) rfl)) (hw _ (List.mem_of_getElem? (i := 65) rfl)) (hw _ (List.mem_of_getElem? (i := 64) rfl)) (hw _ (List.mem_of_getElem? (i := 8) rfl)) (hw _ (List.mem_of_getElem? (i := 66) rfl)) (by decide) (a := a1) (argsL := []) (rm_slen l Z a0 hw [] cs fm a1 b true n c h0 n0 Z0 ST OO (by omega) E FV FC A) e0 E (W := 0) (by decide) (by decide) (by decide) (by decide) (g := (mkF m 1 #[.val (.ref a1), .val (.int (Int32.ofNat i)), .val (.int (Int32.ofNat j)), .unset, .unset] [(.ref a1)])) rfl (by rw [hml]; rfl) (rest := []) (lenOf pd_21 rfl) rfl (by show 2 * 0 + _ ≤ _; exact Nat.le_of_eq rfl) (hb hby d_jdk_42_method_92_code_1)
    refine GoesW.step st21 ?_
    obtain ⟨rfl, N21, e21⟩ := hQ21
    have N22 := Fr.app N0 N21
    show GoesW p ee below s _ _ _ _ _ (T21.setTop (mkF m 4 #[.val (.ref a1), .val (.int (Int32.ofNat i)), .val (.int (Int32.ofNat j)), .unset, .unset] [(.int (Int32.ofNat n))]))
    refine GoesW.step (fun _ hr_ => XS.istoreN X21.here hx rfl (hb hby d_jdk_42_method_92_code_4) rfl  (l' := #[.val (.ref a1), .val (.int (Int32.ofNat i)), .val (.int (Int32.ofNat j)), .val (.int (Int32.ofNat n)), .unset]) rfl hr_) ?_
    show GoesW p ee below s _ _ _ _ _ (T21.setTop (mkF m 5 #[.val (.ref a1), .val (.int (Int32.ofNat i)), .val (.int (Int32.ofNat j)), .val (.int (Int32.ofNat n)), .unset] []))
    refine GoesW.step (fun _ hr_ => XS.iloadN X21.here hx rfl (hb hby d_jdk_42_method_92_code_5) rfl  hr_) ?_
    show GoesW p ee below s _ _ _ _ _ (T21.setTop (mkF m 6 #[.val (.ref a1), .val (.int (Int32.ofNat i)), .val (.int (Int32.ofNat j)), .val (.int (Int32.ofNat n)), .unset] [(.int (Int32.ofNat i))]))
    refine GoesW.step (fun _ hr_ => XS.iloadN X21.here hx rfl (hb hby d_jdk_42_method_92_code_6) rfl  hr_) ?_
    show GoesW p ee below s _ _ _ _ _ (T21.setTop (mkF m 7 #[.val (.ref a1), .val (.int (Int32.ofNat i)), .val (.int (Int32.ofNat j)), .val (.int (Int32.ofNat n)), .unset] [(.int (Int32.ofNat j)), (.int (Int32.ofNat i))]))
    refine GoesW.step (fun _ hr_ => XS.iloadN X21.here hx rfl (hb hby d_jdk_42_method_92_code_7) rfl  hr_) ?_
    show GoesW p ee below s _ _ _ _ _ (T21.setTop (mkF m 8 #[.val (.ref a1), .val (.int (Int32.ofNat i)), .val (.int (Int32.ofNat j)), .val (.int (Int32.ofNat n)), .unset] [(.int (Int32.ofNat n)), (.int (Int32.ofNat j)), (.int (Int32.ofNat i))]))
    have lt_a1 := E.lt
    have lt_b := A.lt
    obtain ⟨v23, T23, L23, X23, hQ23, st23⟩ := own_callS X21 hx hZ (y := (⟨"java/lang/String", "checkBoundsBeginEnd", "(III)V"⟩ : MethodName)) hown (hw _ (List.mem_of_getElem? (i := 72) rfl)) (hw _ (List.mem_of_getElem? (i := 73) rfl)) (hw _ (List.mem_of_getElem? (i := 8) rfl)) (hw _ (List.mem_of_getElem? (i := 74) rfl)) (by decide) (argsL := [(.int (Int32.ofNat i)), (.int (Int32.ofNat j)), (.int (Int32.ofNat n))]) (rm_sbe l Z a0 hw [] cs fm i j n h0 n0 Z0 ST OO hij hjn (by omega)) e21 (W := 0) (by decide) (by decide) (by decide) (by decide) (g := (mkF m 8 #[.val (.ref a1), .val (.int (Int32.ofNat i)), .val (.int (Int32.ofNat j)), .val (.int (Int32.ofNat n)), .unset] [(.int (Int32.ofNat n)), (.int (Int32.ofNat j)), (.int (Int32.ofNat i))])) rfl (by rw [hml]; rfl) (rest := []) (lenOf pd_22 rfl) rfl (by show 2 * 0 + _ ≤ _; exact Nat.le_of_eq rfl) (hb hby d_jdk_42_method_92_code_8)
    refine GoesW.step st23 ?_
    obtain ⟨rfl, N23, e23⟩ := hQ23
    have N24 := Fr.app N22 N23
    show GoesW p ee below s _ _ _ _ _ (T23.setTop (mkF m 11 #[.val (.ref a1), .val (.int (Int32.ofNat i)), .val (.int (Int32.ofNat j)), .val (.int (Int32.ofNat n)), .unset] []))
    refine GoesW.step (fun _ hr_ => XS.iloadN X23.here hx rfl (hb hby d_jdk_42_method_92_code_11) rfl  hr_) ?_
    show GoesW p ee below s _ _ _ _ _ (T23.setTop (mkF m 12 #[.val (.ref a1), .val (.int (Int32.ofNat i)), .val (.int (Int32.ofNat j)), .val (.int (Int32.ofNat n)), .unset] [(.int (Int32.ofNat i))]))
    by_cases hn12_25 : i = 0
    · refine GoesW.step (fun _ hr_ => XS.ifNo X23.here hx rfl (hb hby d_jdk_42_method_92_code_12) rfl ((if0 _ _).trans (teq ((own_eqN i 0 (by omega) (by decide)).mpr hn12_25)).2) hr_) ?_
      show GoesW p ee below s _ _ _ _ _ (T23.setTop (mkF m 15 #[.val (.ref a1), .val (.int (Int32.ofNat i)), .val (.int (Int32.ofNat j)), .val (.int (Int32.ofNat n)), .unset] []))
      refine GoesW.step (fun _ hr_ => XS.iloadN X23.here hx rfl (hb hby d_jdk_42_method_92_code_15) rfl  hr_) ?_
      show GoesW p ee below s _ _ _ _ _ (T23.setTop (mkF m 16 #[.val (.ref a1), .val (.int (Int32.ofNat i)), .val (.int (Int32.ofNat j)), .val (.int (Int32.ofNat n)), .unset] [(.int (Int32.ofNat j))]))
      refine GoesW.step (fun _ hr_ => XS.iloadN X23.here hx rfl (hb hby d_jdk_42_method_92_code_16) rfl  hr_) ?_
      show GoesW p ee below s _ _ _ _ _ (T23.setTop (mkF m 17 #[.val (.ref a1), .val (.int (Int32.ofNat i)), .val (.int (Int32.ofNat j)), .val (.int (Int32.ofNat n)), .unset] [(.int (Int32.ofNat n)), (.int (Int32.ofNat j))]))
      by_cases hn17_26 : j = n
      · refine GoesW.step (fun _ hr_ => XS.icmpNo X23.here hx rfl (hb hby d_jdk_42_method_92_code_17) rfl (teq ((own_eqN j n (by omega) (by omega)).mpr hn17_26)).2 hr_) ?_
        show GoesW p ee below s _ _ _ _ _ (T23.setTop (mkF m 20 #[.val (.ref a1), .val (.int (Int32.ofNat i)), .val (.int (Int32.ofNat j)), .val (.int (Int32.ofNat n)), .unset] []))
        refine GoesW.step (fun _ hr_ => XS.aloadN X23.here hx rfl (hb hby d_jdk_42_method_92_code_20) rfl rfl hr_) ?_
        show GoesW p ee below s _ _ _ _ _ (T23.setTop (mkF m 21 #[.val (.ref a1), .val (.int (Int32.ofNat i)), .val (.int (Int32.ofNat j)), .val (.int (Int32.ofNat n)), .unset] [(.ref a1)]))
        refine GoesW.retA X23 hx hZ hEL C e23 Bd.notSynchronized Bd.returns rfl rfl (hb hby d_jdk_42_method_92_code_21) (by decide) (by decide) ?_
        rw [e23]
        exact ⟨a1, b, true, rfl, N24, K0, E, FV, FC, own_OAzero hn12_25 hn17_26 A, fun q t ht => hl q _ (by omega)⟩
      · refine GoesW.step (fun _ hr_ => XS.icmpYes X23.here hx rfl (pc0 := 17) (pc' := 22) rfl (hb hby d_jdk_42_method_92_code_17) rfl (feq (fun z => hn17_26 ((own_eqN j n (by omega) (by omega)).mp z))).2 (by decide) (by decide) hr_) ?_
        show GoesW p ee below s _ _ _ _ _ (T23.setTop (mkF m 22 #[.val (.ref a1), .val (.int (Int32.ofNat i)), .val (.int (Int32.ofNat j)), .val (.int (Int32.ofNat n)), .unset] []))
        refine GoesW.step (fun _ hr_ => XS.iloadN X23.here hx rfl (hb hby d_jdk_42_method_92_code_22) rfl  hr_) ?_
        show GoesW p ee below s _ _ _ _ _ (T23.setTop (mkF m 23 #[.val (.ref a1), .val (.int (Int32.ofNat i)), .val (.int (Int32.ofNat j)), .val (.int (Int32.ofNat n)), .unset] [(.int (Int32.ofNat j))]))
        refine GoesW.step (fun _ hr_ => XS.iloadN X23.here hx rfl (hb hby d_jdk_42_method_92_code_23) rfl  hr_) ?_
        show GoesW p ee below s _ _ _ _ _ (T23.setTop (mkF m 24 #[.val (.ref a1), .val (.int (Int32.ofNat i)), .val (.int (Int32.ofNat j)), .val (.int (Int32.ofNat n)), .unset] [(.int (Int32.ofNat i)), (.int (Int32.ofNat j))]))
        refine GoesW.step (fun _ hr_ => XS.isub X23.here hx rfl (hb hby d_jdk_42_method_92_code_24) rfl hr_) ?_
        show GoesW p ee below s _ _ _ _ _ (T23.setTop (mkF m 25 #[.val (.ref a1), .val (.int (Int32.ofNat i)), .val (.int (Int32.ofNat j)), .val (.int (Int32.ofNat n)), .unset] [(.int ((Int32.ofNat j) - (Int32.ofNat i)))]))
        rw [own_subN j i (by omega) hij]
        show GoesW p ee below s _ _ _ _ _ (T23.setTop (mkF m 25 #[.val (.ref a1), .val (.int (Int32.ofNat i)), .val (.int (Int32.ofNat j)), .val (.int (Int32.ofNat n)), .unset] [(.int (Int32.ofNat (j - i)))]))
        refine GoesW.step (fun _ hr_ => XS.istore X23.here hx rfl (hb hby d_jdk_42_method_92_code_25) rfl  (l' := #[.val (.ref a1), .val (.int (Int32.ofNat i)), .val (.int (Int32.ofNat j)), .val (.int (Int32.ofNat n)), .val (.int (Int32.ofNat (j - i)))]) rfl hr_) ?_
        show GoesW p ee below s _ _ _ _ _ (T23.setTop (mkF m 27 #[.val (.ref a1), .val (.int (Int32.ofNat i)), .val (.int (Int32.ofNat j)), .val (.int (Int32.ofNat n)), .val (.int (Int32.ofNat (j - i)))] []))
        refine GoesW.step (fun _ hr_ => XS.aloadN X23.here hx rfl (hb hby d_jdk_42_method_92_code_27) rfl rfl hr_) ?_
        show GoesW p ee below s _ _ _ _ _ (T23.setTop (mkF m 28 #[.val (.ref a1), .val (.int (Int32.ofNat i)), .val (.int (Int32.ofNat j)), .val (.int (Int32.ofNat n)), .val (.int (Int32.ofNat (j - i)))] [(.ref a1)]))
        have lt_a1 := E.lt
        have lt_b := A.lt
        obtain ⟨v27, T27, L27, X27, hQ27, st27⟩ := own_callV X23 hx hZ (y := (⟨"java/lang/String", "isLatin1", "()Z"⟩ : MethodName)) hown (hw _ (List.mem_of_getElem? (i := 80) rfl)) (hw _ (List.mem_of_getElem? (i := 81) rfl)) (hw _ (List.mem_of_getElem? (i := 83) rfl)) (hw _ (List.mem_of_getElem? (i := 82) rfl)) (hw _ (List.mem_of_getElem? (i := 8) rfl)) (hw _ (List.mem_of_getElem? (i := 84) rfl)) (by decide) (a := a1) (argsL := []) (rm_isL l Z a0 hw [] cs fm a1 true h0 n0 Z0 ST OO FC) e23 E (W := 0) (by decide) (by decide) (by decide) (by decide) (g := (mkF m 28 #[.val (.ref a1), .val (.int (Int32.ofNat i)), .val (.int (Int32.ofNat j)), .val (.int (Int32.ofNat n)), .val (.int (Int32.ofNat (j - i)))] [(.ref a1)])) rfl (by rw [hml]; rfl) (rest := []) (lenOf pd_6 rfl) rfl (by show 2 * 0 + _ ≤ _; exact Nat.le_of_eq rfl) (hb hby d_jdk_42_method_92_code_28)
        refine GoesW.step st27 ?_
        obtain ⟨rfl, N27, e27⟩ := hQ27
        have N28 := Fr.app N24 N27
        show GoesW p ee below s _ _ _ _ _ (T27.setTop (mkF m 31 #[.val (.ref a1), .val (.int (Int32.ofNat i)), .val (.int (Int32.ofNat j)), .val (.int (Int32.ofNat n)), .val (.int (Int32.ofNat (j - i)))] [(.int (0 : Int32))]))
        refine GoesW.step (fun _ hr_ => XS.ifYes X27.here hx rfl (pc0 := 31) (pc' := 47) rfl (hb hby d_jdk_42_method_92_code_31) rfl ((if0 _ _).trans (teq rfl).1) (by decide) (by decide) hr_) ?_
        show GoesW p ee below s _ _ _ _ _ (T27.setTop (mkF m 47 #[.val (.ref a1), .val (.int (Int32.ofNat i)), .val (.int (Int32.ofNat j)), .val (.int (Int32.ofNat n)), .val (.int (Int32.ofNat (j - i)))] []))
        refine GoesW.step (fun _ hr_ => XS.aloadN X27.here hx rfl (hb hby d_jdk_42_method_92_code_47) rfl rfl hr_) ?_
        show GoesW p ee below s _ _ _ _ _ (T27.setTop (mkF m 48 #[.val (.ref a1), .val (.int (Int32.ofNat i)), .val (.int (Int32.ofNat j)), .val (.int (Int32.ofNat n)), .val (.int (Int32.ofNat (j - i)))] [(.ref a1)]))
        obtain ⟨T29, X29, e29, st29⟩ := getF X27 hx hZ hown (host := "") (Or.inl (hw _ (List.mem_of_getElem? (i := 34) rfl))) Via.refl e27 FV (g := (mkF m 48 #[.val (.ref a1), .val (.int (Int32.ofNat i)), .val (.int (Int32.ofNat j)), .val (.int (Int32.ofNat n)), .val (.int (Int32.ofNat (j - i)))] [(.ref a1)])) rfl rfl (hb hby d_jdk_42_method_92_code_48)
        refine GoesW.step st29 ?_
        show GoesW p ee below s _ _ _ _ _ (T29.setTop (mkF m 51 #[.val (.ref a1), .val (.int (Int32.ofNat i)), .val (.int (Int32.ofNat j)), .val (.int (Int32.ofNat n)), .val (.int (Int32.ofNat (j - i)))] [(.ref b)]))
        refine GoesW.step (fun _ hr_ => XS.iloadN X29.here hx rfl (hb hby d_jdk_42_method_92_code_51) rfl  hr_) ?_
        show GoesW p ee below s _ _ _ _ _ (T29.setTop (mkF m 52 #[.val (.ref a1), .val (.int (Int32.ofNat i)), .val (.int (Int32.ofNat j)), .val (.int (Int32.ofNat n)), .val (.int (Int32.ofNat (j - i)))] [(.int (Int32.ofNat i)), (.ref b)]))
        refine GoesW.step (fun _ hr_ => XS.iload X29.here hx rfl (hb hby d_jdk_42_method_92_code_52) rfl  hr_) ?_
        show GoesW p ee below s _ _ _ _ _ (T29.setTop (mkF m 54 #[.val (.ref a1), .val (.int (Int32.ofNat i)), .val (.int (Int32.ofNat j)), .val (.int (Int32.ofNat n)), .val (.int (Int32.ofNat (j - i)))] [(.int (Int32.ofNat (j - i))), (.int (Int32.ofNat i)), (.ref b)]))
        have lt_a1 := E.lt
        have lt_b := A.lt
        obtain ⟨v30, vm30, T30, L30, ⟨X30, Cn30, hZ, hown, hsaf30⟩, hQ30, st30⟩ := own_callSW X29 hx hZ hEL C (y := (⟨"java/lang/StringUTF16", "newString", "([BII)Ljava/lang/String;"⟩ : MethodName)) hown (hw _ (List.mem_of_getElem? (i := 130) rfl)) (hw _ (List.mem_of_getElem? (i := 131) rfl)) (hw _ (List.mem_of_getElem? (i := 23) rfl)) (hw _ (List.mem_of_getElem? (i := 132) rfl)) (by decide) (argsL := [(.ref b), (.int (Int32.ofNat i)), (.int (Int32.ofNat (j - i)))]) (ws := []) (fun _ q => nomatch q) (rm_u16ns l Z a0 hw [] cs fm b i (j - i) n c h0 n0 Z0 ST OO (by omega) hn (by omega) hc A) e29 (W := 0) (by decide) (by decide) (by decide) (by decide) (g := (mkF m 54 #[.val (.ref a1), .val (.int (Int32.ofNat i)), .val (.int (Int32.ofNat j)), .val (.int (Int32.ofNat n)), .val (.int (Int32.ofNat (j - i)))] [(.int (Int32.ofNat (j - i))), (.int (Int32.ofNat i)), (.ref b)])) rfl (by rw [hml]; rfl) (rest := []) (lenOf pd_23 rfl) rfl (by show 2 * 0 + _ ≤ _; exact Nat.le_of_eq rfl) (hb hby d_jdk_42_method_92_code_54)
        refine GoesW.step st30 ?_
        obtain ⟨o30, b30, u30, rfl, N30, Kc30, Ei30, Fv30, Fc30, A_b30, hlu30⟩ := hQ30
        have N31 := Fr.app N28 N30
        obtain ⟨h30, e30⟩ : ∃ h', T30.heap = h' := ⟨_, rfl⟩
        rw [e30] at Kc30 Cn30 hsaf30 Ei30 Fv30 Fc30 A_b30
        have C := Cn30
        have E := E.keep Kc30
        have FV := FV.keep Kc30 nin0
        have FC := FC.keep Kc30 nin0
        have A := A.keep Kc30 nin0
        have OO := OO.keep Kc30 all0
        have K32 := K0.trans Kc30 all0
        have Zp33 := Nat.le_trans Z0 Kc30.1
        show GoesW p ee below s _ _ _ _ _ (T30.setTop (mkF m 57 #[.val (.ref a1), .val (.int (Int32.ofNat i)), .val (.int (Int32.ofNat j)), .val (.int (Int32.ofNat n)), .val (.int (Int32.ofNat (j - i)))] [(.ref o30)]))
        refine GoesW.retA X30 hx hZ hEL C e30 Bd.notSynchronized Bd.returns rfl rfl (hb hby d_jdk_42_method_92_code_57) (by decide) (by decide) ?_
        rw [e30]
        exact ⟨o30, b30, u30, rfl, N31, K32, Ei30, Fv30, Fc30, A_b30, hlu30⟩
    · refine GoesW.step (fun _ hr_ => XS.ifYes X23.here hx rfl (pc0 := 12) (pc' := 22) rfl (hb hby d_jdk_42_method_92_code_12) rfl ((if0 _ _).trans (feq (fun z => hn12_25 ((own_eqN i 0 (by omega) (by decide)).mp z))).2) (by decide) (by decide) hr_) ?_
      show GoesW p ee below s _ _ _ _ _ (T23.setTop (mkF m 22 #[.val (.ref a1), .val (.int (Int32.ofNat i)), .val (.int (Int32.ofNat j)), .val (.int (Int32.ofNat n)), .unset] []))
      refine GoesW.step (fun _ hr_ => XS.iloadN X23.here hx rfl (hb hby d_jdk_42_method_92_code_22) rfl  hr_) ?_
      show GoesW p ee below s _ _ _ _ _ (T23.setTop (mkF m 23 #[.val (.ref a1), .val (.int (Int32.ofNat i)), .val (.int (Int32.ofNat j)), .val (.int (Int32.ofNat n)), .unset] [(.int (Int32.ofNat j))]))
      refine GoesW.step (fun _ hr_ => XS.iloadN X23.here hx rfl (hb hby d_jdk_42_method_92_code_23) rfl  hr_) ?_
      show GoesW p ee below s _ _ _ _ _ (T23.setTop (mkF m 24 #[.val (.ref a1), .val (.int (Int32.ofNat i)), .val (.int (Int32.ofNat j)), .val (.int (Int32.ofNat n)), .unset] [(.int (Int32.ofNat i)), (.int (Int32.ofNat j))]))
      refine GoesW.step (fun _ hr_ => XS.isub X23.here hx rfl (hb hby d_jdk_42_method_92_code_24) rfl hr_) ?_
      show GoesW p ee below s _ _ _ _ _ (T23.setTop (mkF m 25 #[.val (.ref a1), .val (.int (Int32.ofNat i)), .val (.int (Int32.ofNat j)), .val (.int (Int32.ofNat n)), .unset] [(.int ((Int32.ofNat j) - (Int32.ofNat i)))]))
      rw [own_subN j i (by omega) hij]
      show GoesW p ee below s _ _ _ _ _ (T23.setTop (mkF m 25 #[.val (.ref a1), .val (.int (Int32.ofNat i)), .val (.int (Int32.ofNat j)), .val (.int (Int32.ofNat n)), .unset] [(.int (Int32.ofNat (j - i)))]))
      refine GoesW.step (fun _ hr_ => XS.istore X23.here hx rfl (hb hby d_jdk_42_method_92_code_25) rfl  (l' := #[.val (.ref a1), .val (.int (Int32.ofNat i)), .val (.int (Int32.ofNat j)), .val (.int (Int32.ofNat n)), .val (.int (Int32.ofNat (j - i)))]) rfl hr_) ?_
      show GoesW p ee below s _ _ _ _ _ (T23.setTop (mkF m 27 #[.val (.ref a1), .val (.int (Int32.ofNat i)), .val (.int (Int32.ofNat j)), .val (.int (Int32.ofNat n)), .val (.int (Int32.ofNat (j - i)))] []))
      refine GoesW.step (fun _ hr_ => XS.aloadN X23.here hx rfl (hb hby d_jdk_42_method_92_code_27) rfl rfl hr_) ?_
      show GoesW p ee below s _ _ _ _ _ (T23.setTop (mkF m 28 #[.val (.ref a1), .val (.int (Int32.ofNat i)), .val (.int (Int32.ofNat j)), .val (.int (Int32.ofNat n)), .val (.int (Int32.ofNat (j - i)))] [(.ref a1)]))
      have lt_a1 := E.lt
      have lt_b := A.lt
      obtain ⟨v34, T34, L34, X34, hQ34, st34⟩ := own_callV X23 hx hZ (y := (⟨"java/lang/String", "isLatin1", "()Z"⟩ : MethodName)) hown (hw _ (List.mem_of_getElem? (i := 80) rfl)) (hw _ (List.mem_of_getElem? (i := 81) rfl)) (hw _ (List.mem_of_getElem? (i := 83) rfl)) (hw _ (List.mem_of_getElem? (i := 82) rfl)) (hw _ (List.mem_of_getElem? (i := 8) rfl)) (hw _ (List.mem_of_getElem? (i := 84) rfl)) (by decide) (a := a1) (argsL := []) (rm_isL l Z a0 hw [] cs fm a1 true h0 n0 Z0 ST OO FC) e23 E (W := 0) (by decide) (by decide) (by decide) (by decide) (g := (mkF m 28 #[.val (.ref a1), .val (.int (Int32.ofNat i)), .val (.int (Int32.ofNat j)), .val (.int (Int32.ofNat n)), .val (.int (Int32.ofNat (j - i)))] [(.ref a1)])) rfl (by rw [hml]; rfl) (rest := []) (lenOf pd_6 rfl) rfl (by show 2 * 0 + _ ≤ _; exact Nat.le_of_eq rfl) (hb hby d_jdk_42_method_92_code_28)
      refine GoesW.step st34 ?_
      obtain ⟨rfl, N34, e34⟩ := hQ34
      have N35 := Fr.app N24 N34
      show GoesW p ee below s _ _ _ _ _ (T34.setTop (mkF m 31 #[.val (.ref a1), .val (.int (Int32.ofNat i)), .val (.int (Int32.ofNat j)), .val (.int (Int32.ofNat n)), .val (.int (Int32.ofNat (j - i)))] [(.int (0 : Int32))]))
      refine GoesW.step (fun _ hr_ => XS.ifYes X34.here hx rfl (pc0 := 31) (pc' := 47) rfl (hb hby d_jdk_42_method_92_code_31) rfl ((if0 _ _).trans (teq rfl).1) (by decide) (by decide) hr_) ?_
      show GoesW p ee below s _ _ _ _ _ (T34.setTop (mkF m 47 #[.val (.ref a1), .val (.int (Int32.ofNat i)), .val (.int (Int32.ofNat j)), .val (.int (Int32.ofNat n)), .val (.int (Int32.ofNat (j - i)))] []))
      refine GoesW.step (fun _ hr_ => XS.aloadN X34.here hx rfl (hb hby d_jdk_42_method_92_code_47) rfl rfl hr_) ?_
      show GoesW p ee below s _ _ _ _ _ (T34.setTop (mkF m 48 #[.val (.ref a1), .val (.int (Int32.ofNat i)), .val (.int (Int32.ofNat j)), .val (.int (Int32.ofNat n)), .val (.int (Int32.ofNat (j - i)))] [(.ref a1)]))
      obtain ⟨T36, X36, e36, st36⟩ := getF X34 hx hZ hown (host := "") (Or.inl (hw _ (List.mem_of_getElem? (i := 34) rfl))) Via.refl e34 FV (g := (mkF m 48 #[.val (.ref a1), .val (.int (Int32.ofNat i)), .val (.int (Int32.ofNat j)), .val (.int (Int32.ofNat n)), .val (.int (Int32.ofNat (j - i)))] [(.ref a1)])) rfl rfl (hb hby d_jdk_42_method_92_code_48)
      refine GoesW.step st36 ?_
      show GoesW p ee below s _ _ _ _ _ (T36.setTop (mkF m 51 #[.val (.ref a1), .val (.int (Int32.ofNat i)), .val (.int (Int32.ofNat j)), .val (.int (Int32.ofNat n)), .val (.int (Int32.ofNat (j - i)))] [(.ref b)]))
      refine GoesW.step (fun _ hr_ => XS.iloadN X36.here hx rfl (hb hby d_jdk_42_method_92_code_51) rfl  hr_) ?_
      show GoesW p ee below s _ _ _ _ _ (T36.setTop (mkF m 52 #[.val (.ref a1), .val (.int (Int32.ofNat i)), .val (.int (Int32.ofNat j)), .val (.int (Int32.ofNat n)), .val (.int (Int32.ofNat (j - i)))] [(.int (Int32.ofNat i)), (.ref b)]))
      refine GoesW.step (fun _ hr_ => XS.iload X36.here hx rfl (hb hby d_jdk_42_method_92_code_52) rfl  hr_) ?_
      show GoesW p ee below s _ _ _ _ _ (T36.setTop (mkF m 54 #[.val (.ref a1), .val (.int (Int32.ofNat i)), .val (.int (Int32.ofNat j)), .val (.int (Int32.ofNat n)), .val (.int (Int32.ofNat (j - i)))] [(.int (Int32.ofNat (j - i))), (.int (Int32.ofNat i)), (.ref b)]))
      have lt_a1 := E.lt
      have lt_b := A.lt
      obtain ⟨v37, vm37, T37, L37, ⟨X37, Cn37, hZ, hown, hsaf37⟩, hQ37, st37⟩ := own_callSW X36 hx hZ hEL C (y := (⟨"java/lang/StringUTF16", "newString", "([BII)Ljava/lang/String;"⟩ : MethodName)) hown (hw _ (List.mem_of_getElem? (i := 130) rfl)) (hw _ (List.mem_of_getElem? (i := 131) rfl)) (hw _ (List.mem_of_getElem? (i := 23) rfl)) (hw _ (List.mem_of_getElem? (i := 132) rfl)) (by decide) (argsL := [(.ref b), (.int (Int32.ofNat i)), (.int (Int32.ofNat (j - i)))]) (ws := []) (fun _ q => nomatch q) (rm_u16ns l Z a0 hw [] cs fm b i (j - i) n c h0 n0 Z0 ST OO (by omega) hn (by omega) hc A) e36 (W := 0) (by decide) (by decide) (by decide) (by decide) (g := (mkF m 54 #[.val (.ref a1), .val (.int (Int32.ofNat i)), .val (.int (Int32.ofNat j)), .val (.int (Int32.ofNat n)), .val (.int (Int32.ofNat (j - i)))] [(.int (Int32.ofNat (j - i))), (.int (Int32.ofNat i)), (.ref b)])) rfl (by rw [hml]; rfl) (rest := []) (lenOf pd_23 rfl) rfl (by show 2 * 0 + _ ≤ _; exact Nat.le_of_eq rfl) (hb hby d_jdk_42_method_92_code_54)
      refine GoesW.step st37 ?_
      obtain ⟨o37, b37, u37, rfl, N37, Kc37, Ei37, Fv37, Fc37, A_b37, hlu37⟩ := hQ37
      have N38 := Fr.app N35 N37
      obtain ⟨h37, e37⟩ : ∃ h', T37.heap = h' := ⟨_, rfl⟩
      rw [e37] at Kc37 Cn37 hsaf37 Ei37 Fv37 Fc37 A_b37
      have C := Cn37
      have E := E.keep Kc37
      have FV := FV.keep Kc37 nin0
      have FC := FC.keep Kc37 nin0
      have A := A.keep Kc37 nin0
      have OO := OO.keep Kc37 all0
      have K39 := K0.trans Kc37 all0
      have Zp40 := Nat.le_trans Z0 Kc37.1
      show GoesW p ee below s _ _ _ _ _ (T37.setTop (mkF m 57 #[.val (.ref a1), .val (.int (Int32.ofNat i)), .val (.int (Int32.ofNat j)), .val (.int (Int32.ofNat n)), .val (.int (Int32.ofNat (j - i)))] [(.ref o37)]))
      refine GoesW.retA X37 hx hZ hEL C e37 Bd.notSynchronized Bd.returns rfl rfl (hb hby d_jdk_42_method_92_code_57) (by decide) (by decide) ?_
      rw [e37]
      exact ⟨o37, b37, u37, rfl, N38, K39, Ei37, Fv37, Fc37, A_b37, hlu37⟩
theorem ef_rec (m : MethodId) (x0 : Addr) : entryFrame m #[(.ref x0)] 1 = mkF m 0 #[.val (.ref x0)] [] := by first | (simp [entryFrame, mkF, argsToLocals, Value.category]; done) | rfl
theorem pn_java_lang_Record : plainName "java/lang/Record" = true := by first | (simp [plainName, overriddenIn]; done) | decide +kernel
theorem d_jdk_30_method_1_code_0 : decode jdk_30_method_1_code 0 = .ok (.aload_n 0, 1) := by decide +kernel
theorem d_jdk_30_method_1_code_1 : decode jdk_30_method_1_code 1 = .ok (.invokespecial 1, 3) := by decide +kernel
theorem d_jdk_30_method_1_code_4 : decode jdk_30_method_1_code 4 = .ok (.return_, 1) := by decide +kernel
def Q_rec (Z : State) (a1 : Addr) (h0 : Heap) (n0 : Nat) (v : Option Value) (h : Heap) (L : List Loc) : Prop := v = none ∧ Fr n0 L ∧ h = h0
set_option maxRecDepth 65536 in
set_option maxHeartbeats 40000000 in
theorem rm_rec (l : Launch) (Z : State) (a0 : Array Value) (hw : ∀ d ∈ tables_1, d.before a0 Z = true) (ws : List Jvm.Cond) (a1 : Addr) (h0 : Heap) (n0 : Nat) (Z0 : n0 ≤ h0.size)  :
    MetFree l (⟨"java/lang/Record", "<init>", "()V"⟩ : MethodName) (head1 (Jvm.Cond.code (⟨"java/lang/Record", "<init>", "()V"⟩ : MethodName) jdk_30_method_1_code 1 none :: ws) ({ frames := 1, cells := 0, slots := 0, locals := 12 } : Room)) (fun a U => a = #[(.ref a1)] ∧ Z.Warmed39 U.vm ∧ U.heap = h0) (fun _ _ _ _ _ => True) (fun _ U o U' => ∃ v L, o = .returned v ∧ Q_rec Z a1 h0 n0 v U'.heap L ∧ FrameEnd U o U' L ({ frames := 1, cells := 0, slots := 0, locals := 12 } : Room).cells ({ frames := 1, cells := 0, slots := 0, locals := 12 } : Room).slots) := by
  refine MetFree.of_bodySF (plainFor_of_name pn_java_lang_Record) hisR ?_
  intro p ee s m args below meth cc s₁ Bd hml0 hP hK
  obtain ⟨rfl, hZ, hh⟩ := hP
  have hx := Bd.exec
  have hby := Bd.bytes
  have hml : cc.maxLocals = 1 := hml0
  have hown : s.vm.findClass "java/lang/Record" = some m.cls := findClass_of_methodNamed Bd.named
  have hnm := (name_of_methodNamed Bd.named Bd.method).1
  have X0 : Stand p l ee ({ frames := 1, cells := 0, slots := 0, locals := 12 } : Room) s m #[(.ref a1)] below meth cc s₁ [] 0 0 := Stand.of_body Bd
  have e0 : s₁.heap = h0 := by rw [← hh, Bd.state]; rfl
  have N0 := Fr.nil n0
  show Goes p ee below s ({ frames := 1, cells := 0, slots := 0, locals := 12 } : Room).cells ({ frames := 1, cells := 0, slots := 0, locals := 12 } : Room).slots (Q_rec Z a1 h0 n0) (s₁.setTop (entryFrame m #[(.ref a1)] 1))
  refine Goes.step (fun _ hr_ => castTop (ef_rec m a1) hr_) ?_
  show Goes p ee below s _ _ _ (s₁.setTop (mkF m 0 #[.val (.ref a1)] []))
  refine Goes.step (fun _ hr_ => XS.aloadN X0.here hx rfl (hb hby d_jdk_30_method_1_code_0) rfl rfl hr_) ?_
  show Goes p ee below s _ _ _ (s₁.setTop (mkF m 1 #[.val (.ref a1)] [(.ref a1)]))
  obtain ⟨T1, X1, e1, st1⟩ := initO X0 hx hZ hown (hw _ (List.mem_of_getElem? (i := 47) rfl)) (hw _ (List.mem_of_getElem? (i := 18) rfl)) (hw _ (List.mem_of_getElem? (i := 19) rfl)) e0 (g := (mkF m 1 #[.val (.ref a1)] [(.ref a1)])) rfl (by rw [hml]; rfl) rfl (hb hby d_jdk_30_method_1_code_1) (by decide) (W := 0) (by show 2 * 0 + _ ≤ _; exact Nat.le_of_eq rfl) (by decide)
  refine Goes.step st1 ?_
  show Goes p ee below s _ _ _ (T1.setTop (mkF m 4 #[.val (.ref a1)] []))
  refine Goes.retV X1 hx Bd.notSynchronized Bd.returns (hb hby d_jdk_30_method_1_code_4) (by decide) (by decide) ?_
  exact ⟨rfl, N0, e1⟩
theorem ef_spi (m : MethodId) (x0 : Addr) (x1 : Int32) (x2 : Int32) : entryFrame m #[(.ref x0), (.int x1), (.int x2)] 3 = mkF m 0 #[.val (.ref x0), .val (.int x1), .val (.int x2)] [] := by first | (simp [entryFrame, mkF, argsToLocals, Value.category]; done) | rfl
theorem pn_com_example_hansou_hansou_Span : plainName "com/example/hansou/hansou/Span" = true := by first | (simp [plainName, overriddenIn]; done) | decide +kernel
theorem d_prog_13_method_1_code_0 : decode prog_13_method_1_code 0 = .ok (.aload_n 0, 1) := by decide +kernel
theorem pd_24 : parseMethodDescriptor "()V" = some ⟨[], none⟩ := by decide +kernel
theorem d_prog_13_method_1_code_1 : decode prog_13_method_1_code 1 = .ok (.invokespecial 1, 3) := by decide +kernel
theorem d_prog_13_method_1_code_4 : decode prog_13_method_1_code 4 = .ok (.aload_n 0, 1) := by decide +kernel
theorem d_prog_13_method_1_code_5 : decode prog_13_method_1_code 5 = .ok (.iload_n 1, 1) := by decide +kernel
theorem d_prog_13_method_1_code_6 : decode prog_13_method_1_code 6 = .ok (.putfield 7, 3) := by decide +kernel
theorem d_prog_13_method_1_code_9 : decode prog_13_method_1_code 9 = .ok (.aload_n 0, 1) := by decide +kernel
theorem d_prog_13_method_1_code_10 : decode prog_13_method_1_code 10 = .ok (.iload_n 2, 1) := by decide +kernel
theorem d_prog_13_method_1_code_11 : decode prog_13_method_1_code 11 = .ok (.putfield 13, 3) := by decide +kernel
theorem d_prog_13_method_1_code_14 : decode prog_13_method_1_code 14 = .ok (.return_, 1) := by decide +kernel
def Q_spi (Z : State) (cs : Int32) (fm : Value) (a1 : Addr) (p1 p2 : Int32) (v1 v2 : Value) (h0 : Heap) (n0 : Nat) (v : Option Value) (h : Heap) (L : List Loc) : Prop := v = none ∧ Fr n0 L ∧ Keep h0 h [a1] ∧ Exa Z h a1 "com/example/hansou/hansou/Span" ∧ Fld Z h a1 "com/example/hansou/hansou/Span" "start" "I" (.int p1) ∧ Fld Z h a1 "com/example/hansou/hansou/Span" "end" "I" (.int p2)
set_option maxRecDepth 65536 in
set_option maxHeartbeats 40000000 in
theorem rm_spi (l : Launch) (Z : State) (a0 : Array Value) (hw : ∀ d ∈ tables_1, d.before a0 Z = true) (ws : List Jvm.Cond) (cs : Int32) (fm : Value) (a1 : Addr) (p1 p2 : Int32) (v1 v2 : Value) (h0 : Heap) (n0 : Nat) (Z0 : n0 ≤ h0.size) (ST : own_ST Z cs fm) (OO : Old Z n0 h0) (ge_a1 : n0 ≤ a1) (E : Exa Z h0 a1 "com/example/hansou/hansou/Span") (F1 : Fld Z h0 a1 "com/example/hansou/hansou/Span" "start" "I" v1) (F2 : Fld Z h0 a1 "com/example/hansou/hansou/Span" "end" "I" v2) :
    MetFree l (⟨"com/example/hansou/hansou/Span", "<init>", "(II)V"⟩ : MethodName) (head1 (Jvm.Cond.code (⟨"com/example/hansou/hansou/Span", "<init>", "(II)V"⟩ : MethodName) prog_13_method_1_code 3 none :: ws) ({ frames := 2, cells := 0, slots := 0, locals := 24 } : Room)) (fun a U => a = #[(.ref a1), (.int p1), (.int p2)] ∧ Z.Warmed39 U.vm ∧ U.heap = h0) (fun _ _ _ _ _ => True) (fun _ U o U' => ∃ v L, o = .returned v ∧ Q_spi Z cs fm a1 p1 p2 v1 v2 h0 n0 v U'.heap L ∧ FrameEnd U o U' L ({ frames := 2, cells := 0, slots := 0, locals := 24 } : Room).cells ({ frames := 2, cells := 0, slots := 0, locals := 24 } : Room).slots) := by
  refine MetFree.of_bodySF (plainFor_of_name pn_com_example_hansou_hansou_Span) hisR ?_
  intro p ee s m args below meth cc s₁ Bd hml0 hP hK
  obtain ⟨rfl, hZ, hh⟩ := hP
  have hx := Bd.exec
  have hby := Bd.bytes
  have hml : cc.maxLocals = 3 := hml0
  have hown : s.vm.findClass "com/example/hansou/hansou/Span" = some m.cls := findClass_of_methodNamed Bd.named
  have hnm := (name_of_methodNamed Bd.named Bd.method).1
  have X0 : Stand p l ee ({ frames := 2, cells := 0, slots := 0, locals := 24 } : Room) s m #[(.ref a1), (.int p1), (.int p2)] below meth cc s₁ [] 0 0 := Stand.of_body Bd
  have e0 : s₁.heap = h0 := by rw [← hh, Bd.state]; rfl
  have N0 := Fr.nil n0
  show Goes p ee below s ({ frames := 2, cells := 0, slots := 0, locals := 24 } : Room).cells ({ frames := 2, cells := 0, slots := 0, locals := 24 } : Room).slots (Q_spi Z cs fm a1 p1 p2 v1 v2 h0 n0) (s₁.setTop (entryFrame m #[(.ref a1), (.int p1), (.int p2)] 3))
  refine Goes.step (fun _ hr_ => castTop (ef_spi m a1 p1 p2) hr_) ?_
  show Goes p ee below s _ _ _ (s₁.setTop (mkF m 0 #[.val (.ref a1), .val (.int p1), .val (.int p2)] []))
  have K0 := Keep.refl h0 ([a1] : List Addr)
  refine Goes.step (fun _ hr_ => XS.aloadN X0.here hx rfl (hb hby d_prog_13_method_1_code_0) rfl rfl hr_) ?_
  show Goes p ee below s _ _ _ (s₁.setTop (mkF m 1 #[.val (.ref a1), .val (.int p1), .val (.int p2)] [(.ref a1)]))
  have lt_a1 := E.lt
  obtain ⟨v1, T1, L1, X1, hQ1, st1⟩ := own_callN X0 hx hZ (y := (⟨"java/lang/Record", "<init>", "()V"⟩ : MethodName)) rfl hown (hw _ (List.mem_of_getElem? (i := 42) rfl)) (hw _ (List.mem_of_getElem? (i := 43) rfl)) (hw _ (List.mem_of_getElem? (i := 45) rfl)) (hw _ (List.mem_of_getElem? (i := 46) rfl)) (by decide) (a := a1) (argsL := []) (rm_rec l Z a0 hw [] a1 h0 n0 Z0 ) e0 (W := 0) (by decide) (by decide) (by decide) (by decide) (g := (mkF m 1 #[.val (.ref a1), .val (.int p1), .val (.int p2)] [(.ref a1)])) rfl (by rw [hml]; rfl) (rest := []) (lenOf pd_24 rfl) rfl (by show 2 * 0 + _ ≤ _; exact Nat.le_of_eq rfl) (hb hby d_prog_13_method_1_code_1)
  refine Goes.step st1 ?_
  obtain ⟨rfl, N1, e1⟩ := hQ1
  have N2 := Fr.app N0 N1
  show Goes p ee below s _ _ _ (T1.setTop (mkF m 4 #[.val (.ref a1), .val (.int p1), .val (.int p2)] []))
  refine Goes.step (fun _ hr_ => XS.aloadN X1.here hx rfl (hb hby d_prog_13_method_1_code_4) rfl rfl hr_) ?_
  show Goes p ee below s _ _ _ (T1.setTop (mkF m 5 #[.val (.ref a1), .val (.int p1), .val (.int p2)] [(.ref a1)]))
  refine Goes.step (fun _ hr_ => XS.iloadN X1.here hx rfl (hb hby d_prog_13_method_1_code_5) rfl  hr_) ?_
  show Goes p ee below s _ _ _ (T1.setTop (mkF m 6 #[.val (.ref a1), .val (.int p1), .val (.int p2)] [(.int p1), (.ref a1)]))
  obtain ⟨T3, h3, X3, e3, W3, st3⟩ := putF X1 hx hZ hown (host := "") (Or.inl (hw _ (List.mem_of_getElem? (i := 48) rfl))) Via.refl e1 F1 E (Or.inr ⟨(hw _ (List.mem_of_getElem? (i := 49) rfl)), rfl, hnm⟩) (hw _ (List.mem_of_getElem? (i := 37) rfl)) (ty := .int) (by decide) rfl rfl (g := (mkF m 6 #[.val (.ref a1), .val (.int p1), .val (.int p2)] [(.int p1), (.ref a1)])) rfl rfl (hb hby d_prog_13_method_1_code_6)
  refine Goes.step st3 ?_
  have E := E.wr W3
  have F2 := F2.other W3 (Or.inr (slot_ne (Or.inr (hw _ (List.mem_of_getElem? (i := 51) rfl))) (Or.inr (hw _ (List.mem_of_getElem? (i := 49) rfl))) (by decide) (t := .int) (t' := .int) (by decide) (by decide)))
  have Zp4 := Nat.le_trans Z0 (Keep.of_wr W3).1
  have F1 := F1.same W3
  have N5 := Fr.snoc X3 N2 ge_a1
  have OO := OO.wr W3 ge_a1
  have K6 := K0.wr W3 (Or.inl (List.mem_of_getElem? (i := 0) rfl))
  show Goes p ee below s _ _ _ (T3.setTop (mkF m 9 #[.val (.ref a1), .val (.int p1), .val (.int p2)] []))
  refine Goes.step (fun _ hr_ => XS.aloadN X3.here hx rfl (hb hby d_prog_13_method_1_code_9) rfl rfl hr_) ?_
  show Goes p ee below s _ _ _ (T3.setTop (mkF m 10 #[.val (.ref a1), .val (.int p1), .val (.int p2)] [(.ref a1)]))
  refine Goes.step (fun _ hr_ => XS.iloadN X3.here hx rfl (hb hby d_prog_13_method_1_code_10) rfl  hr_) ?_
  show Goes p ee below s _ _ _ (T3.setTop (mkF m 11 #[.val (.ref a1), .val (.int p1), .val (.int p2)] [(.int p2), (.ref a1)]))
  obtain ⟨T7, h7, X7, e7, W7, st7⟩ := putF X3 hx hZ hown (host := "") (Or.inl (hw _ (List.mem_of_getElem? (i := 50) rfl))) Via.refl e3 F2 E (Or.inr ⟨(hw _ (List.mem_of_getElem? (i := 51) rfl)), rfl, hnm⟩) (hw _ (List.mem_of_getElem? (i := 37) rfl)) (ty := .int) (by decide) rfl rfl (g := (mkF m 11 #[.val (.ref a1), .val (.int p1), .val (.int p2)] [(.int p2), (.ref a1)])) rfl rfl (hb hby d_prog_13_method_1_code_11)
  refine Goes.step st7 ?_
  have E := E.wr W7
  have F1 := F1.other W7 (Or.inr (slot_ne (Or.inr (hw _ (List.mem_of_getElem? (i := 49) rfl))) (Or.inr (hw _ (List.mem_of_getElem? (i := 51) rfl))) (by decide) (t := .int) (t' := .int) (by decide) (by decide)))
  have Zp8 := Nat.le_trans Zp4 (Keep.of_wr W7).1
  have F2 := F2.same W7
  have N9 := Fr.snoc X7 N5 ge_a1
  have OO := OO.wr W7 ge_a1
  have K10 := K6.wr W7 (Or.inl (List.mem_of_getElem? (i := 0) rfl))
  show Goes p ee below s _ _ _ (T7.setTop (mkF m 14 #[.val (.ref a1), .val (.int p1), .val (.int p2)] []))
  refine Goes.retV X7 hx Bd.notSynchronized Bd.returns (hb hby d_prog_13_method_1_code_14) (by decide) (by decide) ?_
  rw [e7]
  exact ⟨rfl, N9, K10, E, F1, F2⟩
theorem ef_spof (m : MethodId) (x0 : Addr) (x1 : Addr) : entryFrame m #[(.ref x0), (.ref x1)] 2 = mkF m 0 #[.val (.ref x0), .val (.ref x1)] [] := by first | (simp [entryFrame, mkF, argsToLocals, Value.category]; done) | rfl
theorem d_prog_13_method_2_code_0 : decode prog_13_method_2_code 0 = .ok (.aload_n 1, 1) := by decide +kernel
theorem d_prog_13_method_2_code_1 : decode prog_13_method_2_code 1 = .ok (.aload_n 0, 1) := by decide +kernel
theorem d_prog_13_method_2_code_2 : decode prog_13_method_2_code 2 = .ok (.getfield 7, 3) := by decide +kernel
theorem d_prog_13_method_2_code_5 : decode prog_13_method_2_code 5 = .ok (.aload_n 0, 1) := by decide +kernel
theorem d_prog_13_method_2_code_6 : decode prog_13_method_2_code 6 = .ok (.getfield 13, 3) := by decide +kernel
theorem pd_25 : parseMethodDescriptor "(II)Ljava/lang/String;" = some ⟨[.int, .int], some (.object "java/lang/String")⟩ := by decide +kernel
theorem d_prog_13_method_2_code_9 : decode prog_13_method_2_code 9 = .ok (.invokevirtual 16, 3) := by decide +kernel
theorem d_prog_13_method_2_code_12 : decode prog_13_method_2_code 12 = .ok (.areturn, 1) := by decide +kernel
def Q_spof (Z : State) (cs : Int32) (fm : Value) (a1 a2 b : Addr) (u : Bool) (n : Nat) (c : Nat → Nat) (i j : Nat) (h0 : Heap) (n0 : Nat) (v : Option Value) (h : Heap) (L : List Loc) : Prop := ∃ (o b : Addr) (u' : Bool), v = some (.ref o) ∧ Fr n0 L ∧ Keep h0 h [] ∧ Exa Z h o "java/lang/String" ∧ Fld Z h o "java/lang/String" "value" "[B" (.ref b) ∧ Fld Z h o "java/lang/String" "coder" "B" (.int (own_cd u')) ∧ OA Z h b .byte (own_len u' (j - i)) (own_by u' (fun t => c (i + t))) ∧ (u' = false → ∀ t, t < (j - i) → c (i + t) < 256)
set_option maxRecDepth 65536 in
set_option maxHeartbeats 40000000 in
theorem rm_spof (l : Launch) (Z : State) (a0 : Array Value) (hw : ∀ d ∈ tables_1, d.before a0 Z = true) (ws : List Jvm.Cond) (cs : Int32) (fm : Value) (a1 a2 b : Addr) (u : Bool) (n : Nat) (c : Nat → Nat) (i j : Nat) (h0 : Heap) (n0 : Nat) (Z0 : n0 ≤ h0.size) (ST : own_ST Z cs fm) (OO : Old Z n0 h0) (hn4 : n ≤ 4) (E : Exa Z h0 a2 "java/lang/String") (FV : Fld Z h0 a2 "java/lang/String" "value" "[B" (.ref b)) (FC : Fld Z h0 a2 "java/lang/String" "coder" "B" (.int (own_cd u))) (A : OA Z h0 b .byte (own_len u n) (own_by u c)) (hc : ∀ j, j < n → c j < 65536) (hl : u = false → ∀ j, j < n → c j < 256) (hij : i ≤ j) (hjn : j ≤ n) (F1 : Fld Z h0 a1 "com/example/hansou/hansou/Span" "start" "I" (.int (Int32.ofNat i))) (F2 : Fld Z h0 a1 "com/example/hansou/hansou/Span" "end" "I" (.int (Int32.ofNat j))) :
    MetFree l (⟨"com/example/hansou/hansou/Span", "of", "(Ljava/lang/String;)Ljava/lang/String;"⟩ : MethodName) (head1 (Jvm.Cond.code (⟨"com/example/hansou/hansou/Span", "of", "(Ljava/lang/String;)Ljava/lang/String;"⟩ : MethodName) prog_13_method_2_code 2 (some (.object "java/lang/String")) :: ws) ({ frames := 7, cells := 3, slots := 16, locals := 110 } : Room)) (fun a U => a = #[(.ref a1), (.ref a2)] ∧ Z.Warmed39 U.vm ∧ U.heap = h0 ∧ CHv Z consts_1 U.vm h0 ∧ ∀ x ∈ ([] : List Addr), Safe Z consts_1 U.vm h0 x) (fun _ _ _ _ _ => True) (fun _ U o U' => ∃ v L, o = .returned v ∧ Q_spof Z cs fm a1 a2 b u n c i j h0 n0 v U'.heap L ∧ CHr Z consts_1 U.vm U.heap U'.vm U'.heap ∧ ReturnedEndW U o U' L ({ frames := 7, cells := 3, slots := 16, locals := 110 } : Room).cells ({ frames := 7, cells := 3, slots := 16, locals := 110 } : Room).slots) := by
  refine MetFree.of_bodySF (plainFor_of_name pn_com_example_hansou_hansou_Span) hisR ?_
  intro p ee s m args below meth cc s₁ Bd hml0 hP hK
  obtain ⟨rfl, hZ, hh, H, hsf⟩ := hP
  have hx := Bd.exec
  have hby := Bd.bytes
  have hml : cc.maxLocals = 2 := hml0
  have hown : (s.setVm s.vm).vm.findClass "com/example/hansou/hansou/Span" = some m.cls := findClass_of_methodNamed Bd.named
  have hnm := (name_of_methodNamed Bd.named Bd.method).1
  have X0 : Stand p l ee ({ frames := 7, cells := 3, slots := 16, locals := 110 } : Room) (s.setVm s.vm) m #[(.ref a1), (.ref a2)] below meth cc s₁ [] 0 0 := Stand.of_body Bd
  have e0 : s₁.heap = h0 := by rw [← hh, Bd.state]; rfl
  have N0 := Fr.nil n0
  have hEL := own_EW hw
  have hZ : Z.Warmed39 (s.setVm s.vm).vm := hZ
  have C : Cold Z consts_1 s s.vm h0 := by rw [← hh]; exact Cold.start (by rw [hh]; exact H)
  show GoesW p ee below s ({ frames := 7, cells := 3, slots := 16, locals := 110 } : Room).cells ({ frames := 7, cells := 3, slots := 16, locals := 110 } : Room).slots Z consts_1 (Q_spof Z cs fm a1 a2 b u n c i j h0 n0) (s₁.setTop (entryFrame m #[(.ref a1), (.ref a2)] 2))
  refine GoesW.step (fun _ hr_ => castTop (ef_spof m a1 a2) hr_) ?_
  show GoesW p ee below s _ _ _ _ _ (s₁.setTop (mkF m 0 #[.val (.ref a1), .val (.ref a2)] []))
  have K0 := Keep.refl h0 ([] : List Addr)
  refine GoesW.step (fun _ hr_ => XS.aloadN X0.here hx rfl (hb hby d_prog_13_method_2_code_0) rfl rfl hr_) ?_
  show GoesW p ee below s _ _ _ _ _ (s₁.setTop (mkF m 1 #[.val (.ref a1), .val (.ref a2)] [(.ref a2)]))
  refine GoesW.step (fun _ hr_ => XS.aloadN X0.here hx rfl (hb hby d_prog_13_method_2_code_1) rfl rfl hr_) ?_
  show GoesW p ee below s _ _ _ _ _ (s₁.setTop (mkF m 2 #[.val (.ref a1), .val (.ref a2)] [(.ref a1), (.ref a2)]))
  obtain ⟨T1, X1, e1, st1⟩ := getF X0 hx hZ hown (host := "") (Or.inl (hw _ (List.mem_of_getElem? (i := 48) rfl))) Via.refl e0 F1 (g := (mkF m 2 #[.val (.ref a1), .val (.ref a2)] [(.ref a1), (.ref a2)])) rfl rfl (hb hby d_prog_13_method_2_code_2)
  refine GoesW.step st1 ?_
  show GoesW p ee below s _ _ _ _ _ (T1.setTop (mkF m 5 #[.val (.ref a1), .val (.ref a2)] [(.int (Int32.ofNat i)), (.ref a2)]))
  refine GoesW.step (fun _ hr_ => XS.aloadN X1.here hx rfl (hb hby d_prog_13_method_2_code_5) rfl rfl hr_) ?_
  show GoesW p ee below s _ _ _ _ _ (T1.setTop (mkF m 6 #[.val (.ref a1), .val (.ref a2)] [(.ref a1), (.int (Int32.ofNat i)), (.ref a2)]))
  obtain ⟨T2, X2, e2, st2⟩ := getF X1 hx hZ hown (host := "") (Or.inl (hw _ (List.mem_of_getElem? (i := 50) rfl))) Via.refl e1 F2 (g := (mkF m 6 #[.val (.ref a1), .val (.ref a2)] [(.ref a1), (.int (Int32.ofNat i)), (.ref a2)])) rfl rfl (hb hby d_prog_13_method_2_code_6)
  refine GoesW.step st2 ?_
  show GoesW p ee below s _ _ _ _ _ (T2.setTop (mkF m 9 #[.val (.ref a1), .val (.ref a2)] [(.int (Int32.ofNat j)), (.int (Int32.ofNat i)), (.ref a2)]))
  have lt_a2 := E.lt
  have lt_b := A.lt
  have lt_a1 := F1.lt
  obtain ⟨v3, vm3, T3, L3, ⟨X3, Cn3, hZ, hown, hsaf3⟩, hQ3, st3⟩ := own_callVW X2 hx hZ hEL C (y := (⟨"java/lang/String", "substring", "(II)Ljava/lang/String;"⟩ : MethodName)) hown (hw _ (List.mem_of_getElem? (i := 57) rfl)) (hw _ (List.mem_of_getElem? (i := 58) rfl)) (hw _ (List.mem_of_getElem? (i := 60) rfl)) (hw _ (List.mem_of_getElem? (i := 59) rfl)) (hw _ (List.mem_of_getElem? (i := 8) rfl)) (hw _ (List.mem_of_getElem? (i := 61) rfl)) (by decide) (a := a2) (argsL := [(.int (Int32.ofNat i)), (.int (Int32.ofNat j))]) (ws := []) (fun _ q => nomatch q) (rm_sub l Z a0 hw [] cs fm a2 b u n c i j h0 n0 Z0 ST OO hn4 E FV FC A hc hl hij hjn) e2 E (W := 0) (by decide) (by decide) (by decide) (by decide) (g := (mkF m 9 #[.val (.ref a1), .val (.ref a2)] [(.int (Int32.ofNat j)), (.int (Int32.ofNat i)), (.ref a2)])) rfl (by rw [hml]; rfl) (rest := []) (lenOf pd_25 rfl) rfl (by show 2 * 0 + _ ≤ _; exact Nat.le_of_eq rfl) (hb hby d_prog_13_method_2_code_9)
  refine GoesW.step st3 ?_
  obtain ⟨o3, b3, u3, rfl, N3, Kc3, Ei3, Fv3, Fc3, A_b3, hlu3⟩ := hQ3
  have N4 := Fr.app N0 N3
  obtain ⟨h3, e3⟩ : ∃ h', T3.heap = h' := ⟨_, rfl⟩
  rw [e3] at Kc3 Cn3 hsaf3 Ei3 Fv3 Fc3 A_b3
  have C := Cn3
  have E := E.keep Kc3
  have FV := FV.keep Kc3 nin0
  have FC := FC.keep Kc3 nin0
  have A := A.keep Kc3 nin0
  have F1 := F1.keep Kc3 nin0
  have F2 := F2.keep Kc3 nin0
  have OO := OO.keep Kc3 all0
  have K5 := K0.trans Kc3 all0
  have Zp6 := Nat.le_trans Z0 Kc3.1
  show GoesW p ee below s _ _ _ _ _ (T3.setTop (mkF m 12 #[.val (.ref a1), .val (.ref a2)] [(.ref o3)]))
  refine GoesW.retA X3 hx hZ hEL C e3 Bd.notSynchronized Bd.returns rfl rfl (hb hby d_prog_13_method_2_code_12) (by decide) (by decide) ?_
  rw [e3]
  exact ⟨o3, b3, u3, rfl, N4, K5, Ei3, Fv3, Fc3, A_b3, hlu3⟩
theorem ef_pick (m : MethodId) (x0 : Int32) (x1 : Int32) (x2 : Int32) (x3 : Int32) (x4 : Int32) : entryFrame m #[(.int x0), (.int x1), (.int x2), (.int x3), (.int x4)] 5 = mkF m 0 #[.val (.int x0), .val (.int x1), .val (.int x2), .val (.int x3), .val (.int x4)] [] := by first | (simp [entryFrame, mkF, argsToLocals, Value.category]; done) | rfl
theorem pn_com_example_hansou_hansou_SpanOfPinLaw : plainName "com/example/hansou/hansou/SpanOfPinLaw" = true := by first | (simp [plainName, overriddenIn]; done) | decide +kernel
theorem d_method_3_code_0 : decode method_3_code 0 = .ok (.iload_n 0, 1) := by decide +kernel
theorem d_method_3_code_1 : decode method_3_code 1 = .ok (.ifCond .ne 5, 3) := by decide +kernel
theorem d_method_3_code_4 : decode method_3_code 4 = .ok (.iload_n 1, 1) := by decide +kernel
theorem d_method_3_code_5 : decode method_3_code 5 = .ok (.ireturn, 1) := by decide +kernel
theorem d_method_3_code_6 : decode method_3_code 6 = .ok (.iload_n 0, 1) := by decide +kernel
theorem d_method_3_code_7 : decode method_3_code 7 = .ok (.iconst 1, 1) := by decide +kernel
theorem d_method_3_code_8 : decode method_3_code 8 = .ok (.if_icmp .ne 5, 3) := by decide +kernel
theorem d_method_3_code_11 : decode method_3_code 11 = .ok (.iload_n 2, 1) := by decide +kernel
theorem d_method_3_code_12 : decode method_3_code 12 = .ok (.ireturn, 1) := by decide +kernel
theorem d_method_3_code_13 : decode method_3_code 13 = .ok (.iload_n 0, 1) := by decide +kernel
theorem d_method_3_code_14 : decode method_3_code 14 = .ok (.iconst 2, 1) := by decide +kernel
theorem d_method_3_code_15 : decode method_3_code 15 = .ok (.if_icmp .ne 5, 3) := by decide +kernel
theorem d_method_3_code_18 : decode method_3_code 18 = .ok (.iload_n 3, 1) := by decide +kernel
theorem d_method_3_code_19 : decode method_3_code 19 = .ok (.ireturn, 1) := by decide +kernel
theorem d_method_3_code_20 : decode method_3_code 20 = .ok (.iload 4, 2) := by decide +kernel
theorem d_method_3_code_22 : decode method_3_code 22 = .ok (.ireturn, 1) := by decide +kernel
def Q_pick (Z : State) (i k0 k1 k2 k3 : Nat) (h0 : Heap) (n0 : Nat) (v : Option Value) (h : Heap) (L : List Loc) : Prop := v = some (.int (Int32.ofNat ([k0, k1, k2, k3].getD i 0))) ∧ Fr n0 L ∧ h = h0
set_option maxRecDepth 65536 in
set_option maxHeartbeats 40000000 in
theorem rm_pick (l : Launch) (Z : State) (a0 : Array Value) (hw : ∀ d ∈ tables_1, d.before a0 Z = true) (ws : List Jvm.Cond) (i k0 k1 k2 k3 : Nat) (h0 : Heap) (n0 : Nat) (Z0 : n0 ≤ h0.size) (hi : i < 4) (hk : ∀ j, j < 4 → [k0, k1, k2, k3].getD j 0 < 65536) :
    MetFree l (⟨"com/example/hansou/hansou/SpanOfPinLaw", "pick", "(ICCCC)C"⟩ : MethodName) (head1 (Jvm.Cond.code (⟨"com/example/hansou/hansou/SpanOfPinLaw", "pick", "(ICCCC)C"⟩ : MethodName) method_3_code 5 (some .char) :: ws) ({ frames := 0, cells := 0, slots := 0, locals := 0 } : Room)) (fun a U => a = #[(.int (Int32.ofNat i)), (.int (Int32.ofNat k0)), (.int (Int32.ofNat k1)), (.int (Int32.ofNat k2)), (.int (Int32.ofNat k3))] ∧ Z.Warmed39 U.vm ∧ U.heap = h0) (fun _ _ _ _ _ => True) (fun _ U o U' => ∃ v L, o = .returned v ∧ Q_pick Z i k0 k1 k2 k3 h0 n0 v U'.heap L ∧ FrameEnd U o U' L ({ frames := 0, cells := 0, slots := 0, locals := 0 } : Room).cells ({ frames := 0, cells := 0, slots := 0, locals := 0 } : Room).slots) := by
  refine MetFree.of_bodySF (plainFor_of_name pn_com_example_hansou_hansou_SpanOfPinLaw) hisR ?_
  intro p ee s m args below meth cc s₁ Bd hml0 hP hK
  obtain ⟨rfl, hZ, hh⟩ := hP
  have hx := Bd.exec
  have hby := Bd.bytes
  have hml : cc.maxLocals = 5 := hml0
  have hown : s.vm.findClass "com/example/hansou/hansou/SpanOfPinLaw" = some m.cls := findClass_of_methodNamed Bd.named
  have hnm := (name_of_methodNamed Bd.named Bd.method).1
  have X0 : Stand p l ee ({ frames := 0, cells := 0, slots := 0, locals := 0 } : Room) s m #[(.int (Int32.ofNat i)), (.int (Int32.ofNat k0)), (.int (Int32.ofNat k1)), (.int (Int32.ofNat k2)), (.int (Int32.ofNat k3))] below meth cc s₁ [] 0 0 := Stand.of_body Bd
  have e0 : s₁.heap = h0 := by rw [← hh, Bd.state]; rfl
  have N0 := Fr.nil n0
  show Goes p ee below s ({ frames := 0, cells := 0, slots := 0, locals := 0 } : Room).cells ({ frames := 0, cells := 0, slots := 0, locals := 0 } : Room).slots (Q_pick Z i k0 k1 k2 k3 h0 n0) (s₁.setTop (entryFrame m #[(.int (Int32.ofNat i)), (.int (Int32.ofNat k0)), (.int (Int32.ofNat k1)), (.int (Int32.ofNat k2)), (.int (Int32.ofNat k3))] 5))
  refine Goes.step (fun _ hr_ => castTop (ef_pick m (Int32.ofNat i) (Int32.ofNat k0) (Int32.ofNat k1) (Int32.ofNat k2) (Int32.ofNat k3)) hr_) ?_
  show Goes p ee below s _ _ _ (s₁.setTop (mkF m 0 #[.val (.int (Int32.ofNat i)), .val (.int (Int32.ofNat k0)), .val (.int (Int32.ofNat k1)), .val (.int (Int32.ofNat k2)), .val (.int (Int32.ofNat k3))] []))
  have hcases : i = 0 ∨ i = 1 ∨ i = 2 ∨ i = 3 := by omega
  rcases hcases with rfl | rfl | rfl | rfl
  · show Goes p ee below s _ _ _ (s₁.setTop (mkF m 0 #[.val (.int (0 : Int32)), .val (.int (Int32.ofNat k0)), .val (.int (Int32.ofNat k1)), .val (.int (Int32.ofNat k2)), .val (.int (Int32.ofNat k3))] []))
    refine Goes.step (fun _ hr_ => XS.iloadN X0.here hx rfl (hb hby d_method_3_code_0) rfl  hr_) ?_
    show Goes p ee below s _ _ _ (s₁.setTop (mkF m 1 #[.val (.int (0 : Int32)), .val (.int (Int32.ofNat k0)), .val (.int (Int32.ofNat k1)), .val (.int (Int32.ofNat k2)), .val (.int (Int32.ofNat k3))] [(.int (0 : Int32))]))
    refine Goes.step (fun _ hr_ => XS.ifNo X0.here hx rfl (hb hby d_method_3_code_1) rfl ((if0 _ _).trans (teq (by decide)).2) hr_) ?_
    show Goes p ee below s _ _ _ (s₁.setTop (mkF m 4 #[.val (.int (0 : Int32)), .val (.int (Int32.ofNat k0)), .val (.int (Int32.ofNat k1)), .val (.int (Int32.ofNat k2)), .val (.int (Int32.ofNat k3))] []))
    refine Goes.step (fun _ hr_ => XS.iloadN X0.here hx rfl (hb hby d_method_3_code_4) rfl  hr_) ?_
    show Goes p ee below s _ _ _ (s₁.setTop (mkF m 5 #[.val (.int (0 : Int32)), .val (.int (Int32.ofNat k0)), .val (.int (Int32.ofNat k1)), .val (.int (Int32.ofNat k2)), .val (.int (Int32.ofNat k3))] [(.int (Int32.ofNat k0))]))
    refine Goes.retZ X0 hx Bd.notSynchronized Bd.returns (by simp) (own_nchar k0 (hk 0 (by decide))) (hb hby d_method_3_code_5) (by decide) (by decide) ?_
    exact ⟨rfl, N0, e0⟩
  · show Goes p ee below s _ _ _ (s₁.setTop (mkF m 0 #[.val (.int (1 : Int32)), .val (.int (Int32.ofNat k0)), .val (.int (Int32.ofNat k1)), .val (.int (Int32.ofNat k2)), .val (.int (Int32.ofNat k3))] []))
    refine Goes.step (fun _ hr_ => XS.iloadN X0.here hx rfl (hb hby d_method_3_code_0) rfl  hr_) ?_
    show Goes p ee below s _ _ _ (s₁.setTop (mkF m 1 #[.val (.int (1 : Int32)), .val (.int (Int32.ofNat k0)), .val (.int (Int32.ofNat k1)), .val (.int (Int32.ofNat k2)), .val (.int (Int32.ofNat k3))] [(.int (1 : Int32))]))
    refine Goes.step (fun _ hr_ => XS.ifYes X0.here hx rfl (pc0 := 1) (pc' := 6) rfl (hb hby d_method_3_code_1) rfl ((if0 _ _).trans (feq (by decide)).2) (by decide) (by decide) hr_) ?_
    show Goes p ee below s _ _ _ (s₁.setTop (mkF m 6 #[.val (.int (1 : Int32)), .val (.int (Int32.ofNat k0)), .val (.int (Int32.ofNat k1)), .val (.int (Int32.ofNat k2)), .val (.int (Int32.ofNat k3))] []))
    refine Goes.step (fun _ hr_ => XS.iloadN X0.here hx rfl (hb hby d_method_3_code_6) rfl  hr_) ?_
    show Goes p ee below s _ _ _ (s₁.setTop (mkF m 7 #[.val (.int (1 : Int32)), .val (.int (Int32.ofNat k0)), .val (.int (Int32.ofNat k1)), .val (.int (Int32.ofNat k2)), .val (.int (Int32.ofNat k3))] [(.int (1 : Int32))]))
    refine Goes.step (fun _ hr_ => XS.iconst X0.here hx rfl (hb hby d_method_3_code_7) hr_) ?_
    show Goes p ee below s _ _ _ (s₁.setTop (mkF m 8 #[.val (.int (1 : Int32)), .val (.int (Int32.ofNat k0)), .val (.int (Int32.ofNat k1)), .val (.int (Int32.ofNat k2)), .val (.int (Int32.ofNat k3))] [(.int (1 : Int32)), (.int (1 : Int32))]))
    refine Goes.step (fun _ hr_ => XS.icmpNo X0.here hx rfl (hb hby d_method_3_code_8) rfl (teq (by decide)).2 hr_) ?_
    show Goes p ee below s _ _ _ (s₁.setTop (mkF m 11 #[.val (.int (1 : Int32)), .val (.int (Int32.ofNat k0)), .val (.int (Int32.ofNat k1)), .val (.int (Int32.ofNat k2)), .val (.int (Int32.ofNat k3))] []))
    refine Goes.step (fun _ hr_ => XS.iloadN X0.here hx rfl (hb hby d_method_3_code_11) rfl  hr_) ?_
    show Goes p ee below s _ _ _ (s₁.setTop (mkF m 12 #[.val (.int (1 : Int32)), .val (.int (Int32.ofNat k0)), .val (.int (Int32.ofNat k1)), .val (.int (Int32.ofNat k2)), .val (.int (Int32.ofNat k3))] [(.int (Int32.ofNat k1))]))
    refine Goes.retZ X0 hx Bd.notSynchronized Bd.returns (by simp) (own_nchar k1 (hk 1 (by decide))) (hb hby d_method_3_code_12) (by decide) (by decide) ?_
    exact ⟨rfl, N0, e0⟩
  · show Goes p ee below s _ _ _ (s₁.setTop (mkF m 0 #[.val (.int (2 : Int32)), .val (.int (Int32.ofNat k0)), .val (.int (Int32.ofNat k1)), .val (.int (Int32.ofNat k2)), .val (.int (Int32.ofNat k3))] []))
    refine Goes.step (fun _ hr_ => XS.iloadN X0.here hx rfl (hb hby d_method_3_code_0) rfl  hr_) ?_
    show Goes p ee below s _ _ _ (s₁.setTop (mkF m 1 #[.val (.int (2 : Int32)), .val (.int (Int32.ofNat k0)), .val (.int (Int32.ofNat k1)), .val (.int (Int32.ofNat k2)), .val (.int (Int32.ofNat k3))] [(.int (2 : Int32))]))
    refine Goes.step (fun _ hr_ => XS.ifYes X0.here hx rfl (pc0 := 1) (pc' := 6) rfl (hb hby d_method_3_code_1) rfl ((if0 _ _).trans (feq (by decide)).2) (by decide) (by decide) hr_) ?_
    show Goes p ee below s _ _ _ (s₁.setTop (mkF m 6 #[.val (.int (2 : Int32)), .val (.int (Int32.ofNat k0)), .val (.int (Int32.ofNat k1)), .val (.int (Int32.ofNat k2)), .val (.int (Int32.ofNat k3))] []))
    refine Goes.step (fun _ hr_ => XS.iloadN X0.here hx rfl (hb hby d_method_3_code_6) rfl  hr_) ?_
    show Goes p ee below s _ _ _ (s₁.setTop (mkF m 7 #[.val (.int (2 : Int32)), .val (.int (Int32.ofNat k0)), .val (.int (Int32.ofNat k1)), .val (.int (Int32.ofNat k2)), .val (.int (Int32.ofNat k3))] [(.int (2 : Int32))]))
    refine Goes.step (fun _ hr_ => XS.iconst X0.here hx rfl (hb hby d_method_3_code_7) hr_) ?_
    show Goes p ee below s _ _ _ (s₁.setTop (mkF m 8 #[.val (.int (2 : Int32)), .val (.int (Int32.ofNat k0)), .val (.int (Int32.ofNat k1)), .val (.int (Int32.ofNat k2)), .val (.int (Int32.ofNat k3))] [(.int (1 : Int32)), (.int (2 : Int32))]))
    refine Goes.step (fun _ hr_ => XS.icmpYes X0.here hx rfl (pc0 := 8) (pc' := 13) rfl (hb hby d_method_3_code_8) rfl (feq (by decide)).2 (by decide) (by decide) hr_) ?_
    show Goes p ee below s _ _ _ (s₁.setTop (mkF m 13 #[.val (.int (2 : Int32)), .val (.int (Int32.ofNat k0)), .val (.int (Int32.ofNat k1)), .val (.int (Int32.ofNat k2)), .val (.int (Int32.ofNat k3))] []))
    refine Goes.step (fun _ hr_ => XS.iloadN X0.here hx rfl (hb hby d_method_3_code_13) rfl  hr_) ?_
    show Goes p ee below s _ _ _ (s₁.setTop (mkF m 14 #[.val (.int (2 : Int32)), .val (.int (Int32.ofNat k0)), .val (.int (Int32.ofNat k1)), .val (.int (Int32.ofNat k2)), .val (.int (Int32.ofNat k3))] [(.int (2 : Int32))]))
    refine Goes.step (fun _ hr_ => XS.iconst X0.here hx rfl (hb hby d_method_3_code_14) hr_) ?_
    show Goes p ee below s _ _ _ (s₁.setTop (mkF m 15 #[.val (.int (2 : Int32)), .val (.int (Int32.ofNat k0)), .val (.int (Int32.ofNat k1)), .val (.int (Int32.ofNat k2)), .val (.int (Int32.ofNat k3))] [(.int (2 : Int32)), (.int (2 : Int32))]))
    refine Goes.step (fun _ hr_ => XS.icmpNo X0.here hx rfl (hb hby d_method_3_code_15) rfl (teq (by decide)).2 hr_) ?_
    show Goes p ee below s _ _ _ (s₁.setTop (mkF m 18 #[.val (.int (2 : Int32)), .val (.int (Int32.ofNat k0)), .val (.int (Int32.ofNat k1)), .val (.int (Int32.ofNat k2)), .val (.int (Int32.ofNat k3))] []))
    refine Goes.step (fun _ hr_ => XS.iloadN X0.here hx rfl (hb hby d_method_3_code_18) rfl  hr_) ?_
    show Goes p ee below s _ _ _ (s₁.setTop (mkF m 19 #[.val (.int (2 : Int32)), .val (.int (Int32.ofNat k0)), .val (.int (Int32.ofNat k1)), .val (.int (Int32.ofNat k2)), .val (.int (Int32.ofNat k3))] [(.int (Int32.ofNat k2))]))
    refine Goes.retZ X0 hx Bd.notSynchronized Bd.returns (by simp) (own_nchar k2 (hk 2 (by decide))) (hb hby d_method_3_code_19) (by decide) (by decide) ?_
    exact ⟨rfl, N0, e0⟩
  · show Goes p ee below s _ _ _ (s₁.setTop (mkF m 0 #[.val (.int (3 : Int32)), .val (.int (Int32.ofNat k0)), .val (.int (Int32.ofNat k1)), .val (.int (Int32.ofNat k2)), .val (.int (Int32.ofNat k3))] []))
    refine Goes.step (fun _ hr_ => XS.iloadN X0.here hx rfl (hb hby d_method_3_code_0) rfl  hr_) ?_
    show Goes p ee below s _ _ _ (s₁.setTop (mkF m 1 #[.val (.int (3 : Int32)), .val (.int (Int32.ofNat k0)), .val (.int (Int32.ofNat k1)), .val (.int (Int32.ofNat k2)), .val (.int (Int32.ofNat k3))] [(.int (3 : Int32))]))
    refine Goes.step (fun _ hr_ => XS.ifYes X0.here hx rfl (pc0 := 1) (pc' := 6) rfl (hb hby d_method_3_code_1) rfl ((if0 _ _).trans (feq (by decide)).2) (by decide) (by decide) hr_) ?_
    show Goes p ee below s _ _ _ (s₁.setTop (mkF m 6 #[.val (.int (3 : Int32)), .val (.int (Int32.ofNat k0)), .val (.int (Int32.ofNat k1)), .val (.int (Int32.ofNat k2)), .val (.int (Int32.ofNat k3))] []))
    refine Goes.step (fun _ hr_ => XS.iloadN X0.here hx rfl (hb hby d_method_3_code_6) rfl  hr_) ?_
    show Goes p ee below s _ _ _ (s₁.setTop (mkF m 7 #[.val (.int (3 : Int32)), .val (.int (Int32.ofNat k0)), .val (.int (Int32.ofNat k1)), .val (.int (Int32.ofNat k2)), .val (.int (Int32.ofNat k3))] [(.int (3 : Int32))]))
    refine Goes.step (fun _ hr_ => XS.iconst X0.here hx rfl (hb hby d_method_3_code_7) hr_) ?_
    show Goes p ee below s _ _ _ (s₁.setTop (mkF m 8 #[.val (.int (3 : Int32)), .val (.int (Int32.ofNat k0)), .val (.int (Int32.ofNat k1)), .val (.int (Int32.ofNat k2)), .val (.int (Int32.ofNat k3))] [(.int (1 : Int32)), (.int (3 : Int32))]))
    refine Goes.step (fun _ hr_ => XS.icmpYes X0.here hx rfl (pc0 := 8) (pc' := 13) rfl (hb hby d_method_3_code_8) rfl (feq (by decide)).2 (by decide) (by decide) hr_) ?_
    show Goes p ee below s _ _ _ (s₁.setTop (mkF m 13 #[.val (.int (3 : Int32)), .val (.int (Int32.ofNat k0)), .val (.int (Int32.ofNat k1)), .val (.int (Int32.ofNat k2)), .val (.int (Int32.ofNat k3))] []))
    refine Goes.step (fun _ hr_ => XS.iloadN X0.here hx rfl (hb hby d_method_3_code_13) rfl  hr_) ?_
    show Goes p ee below s _ _ _ (s₁.setTop (mkF m 14 #[.val (.int (3 : Int32)), .val (.int (Int32.ofNat k0)), .val (.int (Int32.ofNat k1)), .val (.int (Int32.ofNat k2)), .val (.int (Int32.ofNat k3))] [(.int (3 : Int32))]))
    refine Goes.step (fun _ hr_ => XS.iconst X0.here hx rfl (hb hby d_method_3_code_14) hr_) ?_
    show Goes p ee below s _ _ _ (s₁.setTop (mkF m 15 #[.val (.int (3 : Int32)), .val (.int (Int32.ofNat k0)), .val (.int (Int32.ofNat k1)), .val (.int (Int32.ofNat k2)), .val (.int (Int32.ofNat k3))] [(.int (2 : Int32)), (.int (3 : Int32))]))
    refine Goes.step (fun _ hr_ => XS.icmpYes X0.here hx rfl (pc0 := 15) (pc' := 20) rfl (hb hby d_method_3_code_15) rfl (feq (by decide)).2 (by decide) (by decide) hr_) ?_
    show Goes p ee below s _ _ _ (s₁.setTop (mkF m 20 #[.val (.int (3 : Int32)), .val (.int (Int32.ofNat k0)), .val (.int (Int32.ofNat k1)), .val (.int (Int32.ofNat k2)), .val (.int (Int32.ofNat k3))] []))
    refine Goes.step (fun _ hr_ => XS.iload X0.here hx rfl (hb hby d_method_3_code_20) rfl  hr_) ?_
    show Goes p ee below s _ _ _ (s₁.setTop (mkF m 22 #[.val (.int (3 : Int32)), .val (.int (Int32.ofNat k0)), .val (.int (Int32.ofNat k1)), .val (.int (Int32.ofNat k2)), .val (.int (Int32.ofNat k3))] [(.int (Int32.ofNat k3))]))
    refine Goes.retZ X0 hx Bd.notSynchronized Bd.returns (by simp) (own_nchar k3 (hk 3 (by decide))) (hb hby d_method_3_code_22) (by decide) (by decide) ?_
    exact ⟨rfl, N0, e0⟩
theorem ef_mk (m : MethodId) (x0 : Int32) (x1 : Int32) (x2 : Int32) (x3 : Int32) (x4 : Int32) : entryFrame m #[(.int x0), (.int x1), (.int x2), (.int x3), (.int x4)] 5 = mkF m 0 #[.val (.int x0), .val (.int x1), .val (.int x2), .val (.int x3), .val (.int x4)] [] := by first | (simp [entryFrame, mkF, argsToLocals, Value.category]; done) | rfl
theorem d_method_4_code_0 : decode method_4_code 0 = .ok (.iload_n 0, 1) := by decide +kernel
theorem d_method_4_code_1 : decode method_4_code 1 = .ok (.ifCond .ne 14, 3) := by decide +kernel
theorem d_method_4_code_4 : decode method_4_code 4 = .ok (.new 25, 3) := by decide +kernel
theorem d_method_4_code_7 : decode method_4_code 7 = .ok (.dup, 1) := by decide +kernel
theorem d_method_4_code_8 : decode method_4_code 8 = .ok (.iconst 0, 1) := by decide +kernel
theorem d_method_4_code_9 : decode method_4_code 9 = .ok (.newarray .char, 2) := by decide +kernel
theorem pd_26 : parseMethodDescriptor "([C)V" = some ⟨[(.array .char)], none⟩ := by decide +kernel
theorem d_method_4_code_11 : decode method_4_code 11 = .ok (.invokespecial 38, 3) := by decide +kernel
theorem d_method_4_code_14 : decode method_4_code 14 = .ok (.areturn, 1) := by decide +kernel
theorem d_method_4_code_15 : decode method_4_code 15 = .ok (.iload_n 0, 1) := by decide +kernel
theorem d_method_4_code_16 : decode method_4_code 16 = .ok (.iconst 1, 1) := by decide +kernel
theorem d_method_4_code_17 : decode method_4_code 17 = .ok (.if_icmp .ne 18, 3) := by decide +kernel
theorem d_method_4_code_20 : decode method_4_code 20 = .ok (.new 25, 3) := by decide +kernel
theorem d_method_4_code_23 : decode method_4_code 23 = .ok (.dup, 1) := by decide +kernel
theorem d_method_4_code_24 : decode method_4_code 24 = .ok (.iconst 1, 1) := by decide +kernel
theorem d_method_4_code_25 : decode method_4_code 25 = .ok (.newarray .char, 2) := by decide +kernel
theorem d_method_4_code_27 : decode method_4_code 27 = .ok (.dup, 1) := by decide +kernel
theorem d_method_4_code_28 : decode method_4_code 28 = .ok (.iconst 0, 1) := by decide +kernel
theorem d_method_4_code_29 : decode method_4_code 29 = .ok (.iload_n 1, 1) := by decide +kernel
theorem d_method_4_code_30 : decode method_4_code 30 = .ok (.castore, 1) := by decide +kernel
theorem d_method_4_code_31 : decode method_4_code 31 = .ok (.invokespecial 38, 3) := by decide +kernel
theorem d_method_4_code_34 : decode method_4_code 34 = .ok (.areturn, 1) := by decide +kernel
theorem d_method_4_code_35 : decode method_4_code 35 = .ok (.iload_n 0, 1) := by decide +kernel
theorem d_method_4_code_36 : decode method_4_code 36 = .ok (.iconst 2, 1) := by decide +kernel
theorem d_method_4_code_37 : decode method_4_code 37 = .ok (.if_icmp .ne 22, 3) := by decide +kernel
theorem d_method_4_code_40 : decode method_4_code 40 = .ok (.new 25, 3) := by decide +kernel
theorem d_method_4_code_43 : decode method_4_code 43 = .ok (.dup, 1) := by decide +kernel
theorem d_method_4_code_44 : decode method_4_code 44 = .ok (.iconst 2, 1) := by decide +kernel
theorem d_method_4_code_45 : decode method_4_code 45 = .ok (.newarray .char, 2) := by decide +kernel
theorem d_method_4_code_47 : decode method_4_code 47 = .ok (.dup, 1) := by decide +kernel
theorem d_method_4_code_48 : decode method_4_code 48 = .ok (.iconst 0, 1) := by decide +kernel
theorem d_method_4_code_49 : decode method_4_code 49 = .ok (.iload_n 1, 1) := by decide +kernel
theorem d_method_4_code_50 : decode method_4_code 50 = .ok (.castore, 1) := by decide +kernel
theorem d_method_4_code_51 : decode method_4_code 51 = .ok (.dup, 1) := by decide +kernel
theorem d_method_4_code_52 : decode method_4_code 52 = .ok (.iconst 1, 1) := by decide +kernel
theorem d_method_4_code_53 : decode method_4_code 53 = .ok (.iload_n 2, 1) := by decide +kernel
theorem d_method_4_code_54 : decode method_4_code 54 = .ok (.castore, 1) := by decide +kernel
theorem d_method_4_code_55 : decode method_4_code 55 = .ok (.invokespecial 38, 3) := by decide +kernel
theorem d_method_4_code_58 : decode method_4_code 58 = .ok (.areturn, 1) := by decide +kernel
theorem d_method_4_code_59 : decode method_4_code 59 = .ok (.iload_n 0, 1) := by decide +kernel
theorem d_method_4_code_60 : decode method_4_code 60 = .ok (.iconst 3, 1) := by decide +kernel
theorem d_method_4_code_61 : decode method_4_code 61 = .ok (.if_icmp .ne 26, 3) := by decide +kernel
theorem d_method_4_code_64 : decode method_4_code 64 = .ok (.new 25, 3) := by decide +kernel
theorem d_method_4_code_67 : decode method_4_code 67 = .ok (.dup, 1) := by decide +kernel
theorem d_method_4_code_68 : decode method_4_code 68 = .ok (.iconst 3, 1) := by decide +kernel
theorem d_method_4_code_69 : decode method_4_code 69 = .ok (.newarray .char, 2) := by decide +kernel
theorem d_method_4_code_71 : decode method_4_code 71 = .ok (.dup, 1) := by decide +kernel
theorem d_method_4_code_72 : decode method_4_code 72 = .ok (.iconst 0, 1) := by decide +kernel
theorem d_method_4_code_73 : decode method_4_code 73 = .ok (.iload_n 1, 1) := by decide +kernel
theorem d_method_4_code_74 : decode method_4_code 74 = .ok (.castore, 1) := by decide +kernel
theorem d_method_4_code_75 : decode method_4_code 75 = .ok (.dup, 1) := by decide +kernel
theorem d_method_4_code_76 : decode method_4_code 76 = .ok (.iconst 1, 1) := by decide +kernel
theorem d_method_4_code_77 : decode method_4_code 77 = .ok (.iload_n 2, 1) := by decide +kernel
theorem d_method_4_code_78 : decode method_4_code 78 = .ok (.castore, 1) := by decide +kernel
theorem d_method_4_code_79 : decode method_4_code 79 = .ok (.dup, 1) := by decide +kernel
theorem d_method_4_code_80 : decode method_4_code 80 = .ok (.iconst 2, 1) := by decide +kernel
theorem d_method_4_code_81 : decode method_4_code 81 = .ok (.iload_n 3, 1) := by decide +kernel
theorem d_method_4_code_82 : decode method_4_code 82 = .ok (.castore, 1) := by decide +kernel
theorem d_method_4_code_83 : decode method_4_code 83 = .ok (.invokespecial 38, 3) := by decide +kernel
theorem d_method_4_code_86 : decode method_4_code 86 = .ok (.areturn, 1) := by decide +kernel
theorem d_method_4_code_87 : decode method_4_code 87 = .ok (.new 25, 3) := by decide +kernel
theorem d_method_4_code_90 : decode method_4_code 90 = .ok (.dup, 1) := by decide +kernel
theorem d_method_4_code_91 : decode method_4_code 91 = .ok (.iconst 4, 1) := by decide +kernel
theorem d_method_4_code_92 : decode method_4_code 92 = .ok (.newarray .char, 2) := by decide +kernel
theorem d_method_4_code_94 : decode method_4_code 94 = .ok (.dup, 1) := by decide +kernel
theorem d_method_4_code_95 : decode method_4_code 95 = .ok (.iconst 0, 1) := by decide +kernel
theorem d_method_4_code_96 : decode method_4_code 96 = .ok (.iload_n 1, 1) := by decide +kernel
theorem d_method_4_code_97 : decode method_4_code 97 = .ok (.castore, 1) := by decide +kernel
theorem d_method_4_code_98 : decode method_4_code 98 = .ok (.dup, 1) := by decide +kernel
theorem d_method_4_code_99 : decode method_4_code 99 = .ok (.iconst 1, 1) := by decide +kernel
theorem d_method_4_code_100 : decode method_4_code 100 = .ok (.iload_n 2, 1) := by decide +kernel
theorem d_method_4_code_101 : decode method_4_code 101 = .ok (.castore, 1) := by decide +kernel
theorem d_method_4_code_102 : decode method_4_code 102 = .ok (.dup, 1) := by decide +kernel
theorem d_method_4_code_103 : decode method_4_code 103 = .ok (.iconst 2, 1) := by decide +kernel
theorem d_method_4_code_104 : decode method_4_code 104 = .ok (.iload_n 3, 1) := by decide +kernel
theorem d_method_4_code_105 : decode method_4_code 105 = .ok (.castore, 1) := by decide +kernel
theorem d_method_4_code_106 : decode method_4_code 106 = .ok (.dup, 1) := by decide +kernel
theorem d_method_4_code_107 : decode method_4_code 107 = .ok (.iconst 3, 1) := by decide +kernel
theorem d_method_4_code_108 : decode method_4_code 108 = .ok (.iload 4, 2) := by decide +kernel
theorem d_method_4_code_110 : decode method_4_code 110 = .ok (.castore, 1) := by decide +kernel
theorem d_method_4_code_111 : decode method_4_code 111 = .ok (.invokespecial 38, 3) := by decide +kernel
theorem d_method_4_code_114 : decode method_4_code 114 = .ok (.areturn, 1) := by decide +kernel
def Q_mk (Z : State) (cs : Int32) (fm : Value) (n k0 k1 k2 k3 : Nat) (h0 : Heap) (n0 : Nat) (v : Option Value) (h : Heap) (L : List Loc) : Prop := ∃ (a b : Addr) (u : Bool), v = some (.ref a) ∧ Fr n0 L ∧ Keep h0 h [] ∧ Exa Z h a "java/lang/String" ∧ Fld Z h a "java/lang/String" "value" "[B" (.ref b) ∧ Fld Z h a "java/lang/String" "coder" "B" (.int (own_cd u)) ∧ OA Z h b .byte (own_len u n) (own_by u (fun j => [k0, k1, k2, k3].getD j 0)) ∧ (u = false → ∀ j, j < n → (fun j => [k0, k1, k2, k3].getD j 0) j < 256)
set_option maxRecDepth 65536 in
set_option maxHeartbeats 40000000 in
theorem rm_mk (l : Launch) (Z : State) (a0 : Array Value) (hw : ∀ d ∈ tables_1, d.before a0 Z = true) (ws : List Jvm.Cond) (cs : Int32) (fm : Value) (n k0 k1 k2 k3 : Nat) (h0 : Heap) (n0 : Nat) (Z0 : n0 ≤ h0.size) (ST : own_ST Z cs fm) (OO : Old Z n0 h0) (hn : n ≤ 4) (hck : ∀ j, j < 4 → [k0, k1, k2, k3].getD j 0 < 65536) :
    MetFree l (⟨"com/example/hansou/hansou/SpanOfPinLaw", "make", "(ICCCC)Ljava/lang/String;"⟩ : MethodName) (head1 (Jvm.Cond.code (⟨"com/example/hansou/hansou/SpanOfPinLaw", "make", "(ICCCC)Ljava/lang/String;"⟩ : MethodName) method_4_code 5 (some (.object "java/lang/String")) :: ws) ({ frames := 6, cells := 4, slots := 20, locals := 88 } : Room)) (fun a U => a = #[(.int (Int32.ofNat n)), (.int (Int32.ofNat k0)), (.int (Int32.ofNat k1)), (.int (Int32.ofNat k2)), (.int (Int32.ofNat k3))] ∧ Z.Warmed39 U.vm ∧ U.heap = h0 ∧ CHv Z consts_1 U.vm h0 ∧ ∀ x ∈ ([] : List Addr), Safe Z consts_1 U.vm h0 x) (fun _ _ _ _ _ => True) (fun _ U o U' => ∃ v L, o = .returned v ∧ Q_mk Z cs fm n k0 k1 k2 k3 h0 n0 v U'.heap L ∧ CHr Z consts_1 U.vm U.heap U'.vm U'.heap ∧ ReturnedEndW U o U' L ({ frames := 6, cells := 4, slots := 20, locals := 88 } : Room).cells ({ frames := 6, cells := 4, slots := 20, locals := 88 } : Room).slots) := by
  refine MetFree.of_bodySF (plainFor_of_name pn_com_example_hansou_hansou_SpanOfPinLaw) hisR ?_
  intro p ee s m args below meth cc s₁ Bd hml0 hP hK
  obtain ⟨rfl, hZ, hh, H, hsf⟩ := hP
  have hx := Bd.exec
  have hby := Bd.bytes
  have hml : cc.maxLocals = 5 := hml0
  have hown : (s.setVm s.vm).vm.findClass "com/example/hansou/hansou/SpanOfPinLaw" = some m.cls := findClass_of_methodNamed Bd.named
  have hnm := (name_of_methodNamed Bd.named Bd.method).1
  have X0 : Stand p l ee ({ frames := 6, cells := 4, slots := 20, locals := 88 } : Room) (s.setVm s.vm) m #[(.int (Int32.ofNat n)), (.int (Int32.ofNat k0)), (.int (Int32.ofNat k1)), (.int (Int32.ofNat k2)), (.int (Int32.ofNat k3))] below meth cc s₁ [] 0 0 := Stand.of_body Bd
  have e0 : s₁.heap = h0 := by rw [← hh, Bd.state]; rfl
  have N0 := Fr.nil n0
  have hEL := own_EW hw
  have hZ : Z.Warmed39 (s.setVm s.vm).vm := hZ
  have C : Cold Z consts_1 s s.vm h0 := by rw [← hh]; exact Cold.start (by rw [hh]; exact H)
  show GoesW p ee below s ({ frames := 6, cells := 4, slots := 20, locals := 88 } : Room).cells ({ frames := 6, cells := 4, slots := 20, locals := 88 } : Room).slots Z consts_1 (Q_mk Z cs fm n k0 k1 k2 k3 h0 n0) (s₁.setTop (entryFrame m #[(.int (Int32.ofNat n)), (.int (Int32.ofNat k0)), (.int (Int32.ofNat k1)), (.int (Int32.ofNat k2)), (.int (Int32.ofNat k3))] 5))
  refine GoesW.step (fun _ hr_ => castTop (ef_mk m (Int32.ofNat n) (Int32.ofNat k0) (Int32.ofNat k1) (Int32.ofNat k2) (Int32.ofNat k3)) hr_) ?_
  show GoesW p ee below s _ _ _ _ _ (s₁.setTop (mkF m 0 #[.val (.int (Int32.ofNat n)), .val (.int (Int32.ofNat k0)), .val (.int (Int32.ofNat k1)), .val (.int (Int32.ofNat k2)), .val (.int (Int32.ofNat k3))] []))
  have K0 := Keep.refl h0 ([] : List Addr)
  have hcases : n = 0 ∨ n = 1 ∨ n = 2 ∨ n = 3 ∨ n = 4 := by omega
  rcases hcases with rfl | rfl | rfl | rfl | rfl
  · show GoesW p ee below s _ _ _ _ _ (s₁.setTop (mkF m 0 #[.val (.int (0 : Int32)), .val (.int (Int32.ofNat k0)), .val (.int (Int32.ofNat k1)), .val (.int (Int32.ofNat k2)), .val (.int (Int32.ofNat k3))] []))
    refine GoesW.step (fun _ hr_ => XS.iloadN X0.here hx rfl (hb hby d_method_4_code_0) rfl  hr_) ?_
    show GoesW p ee below s _ _ _ _ _ (s₁.setTop (mkF m 1 #[.val (.int (0 : Int32)), .val (.int (Int32.ofNat k0)), .val (.int (Int32.ofNat k1)), .val (.int (Int32.ofNat k2)), .val (.int (Int32.ofNat k3))] [(.int (0 : Int32))]))
    refine GoesW.step (fun _ hr_ => XS.ifNo X0.here hx rfl (hb hby d_method_4_code_1) rfl ((if0 _ _).trans (teq (by decide)).2) hr_) ?_
    show GoesW p ee below s _ _ _ _ _ (s₁.setTop (mkF m 4 #[.val (.int (0 : Int32)), .val (.int (Int32.ofNat k0)), .val (.int (Int32.ofNat k1)), .val (.int (Int32.ofNat k2)), .val (.int (Int32.ofNat k3))] []))
    obtain ⟨T1, h1, X1, e1, E1, A1, D1, -, st1⟩ := newO X0 hx hZ hown (hw _ (List.mem_of_getElem? (i := 6) rfl)) (hw _ (List.mem_of_getElem? (i := 7) rfl)) (hw _ (List.mem_of_getElem? (i := 8) rfl)) e0 (g := (mkF m 4 #[.val (.int (0 : Int32)), .val (.int (Int32.ofNat k0)), .val (.int (Int32.ofNat k1)), .val (.int (Int32.ofNat k2)), .val (.int (Int32.ofNat k3))] [])) rfl (hb hby d_method_4_code_4) (by decide) (by decide)
    obtain ⟨b1, g_b1⟩ : ∃ z, z = h0.size := ⟨_, rfl⟩
    have ge_b1 : n0 ≤ b1 := Nat.le_trans Z0 (Nat.le_of_eq g_b1.symm)
    have sz_b1 : h0.size ≤ b1 := Nat.le_trans K0.1 (Nat.le_of_eq g_b1.symm)
    rw [← g_b1] at A1 D1 st1
    have Zp2 := Nat.le_trans Z0 E1.1
    have sf_b1 := Safe.ext E1 C.chv (Safe.new (Nat.le_of_eq g_b1.symm))
    have C := C.ext E1
    have OO := OO.ext E1
    have K3 := K0.ext E1
    refine GoesW.step st1 ?_
    have E_b1 := A1
    have F_coder_b1 : Fld Z h1 b1 "java/lang/String" "coder" "B" (.int (0 : Int32)) := D1 (Or.inr (hw _ (List.mem_of_getElem? (i := 33) rfl))) (ty := .byte) (by decide)
    have F_value_b1 : Fld Z h1 b1 "java/lang/String" "value" "[B" .null := D1 (Or.inr (hw _ (List.mem_of_getElem? (i := 35) rfl))) (ty := (.array .byte)) (by decide)
    show GoesW p ee below s _ _ _ _ _ (T1.setTop (mkF m 7 #[.val (.int (0 : Int32)), .val (.int (Int32.ofNat k0)), .val (.int (Int32.ofNat k1)), .val (.int (Int32.ofNat k2)), .val (.int (Int32.ofNat k3))] [(.ref b1)]))
    refine GoesW.step (fun _ hr_ => XS.dup X1.here hx rfl (hb hby d_method_4_code_7) rfl rfl hr_) ?_
    show GoesW p ee below s _ _ _ _ _ (T1.setTop (mkF m 8 #[.val (.int (0 : Int32)), .val (.int (Int32.ofNat k0)), .val (.int (Int32.ofNat k1)), .val (.int (Int32.ofNat k2)), .val (.int (Int32.ofNat k3))] [(.ref b1), (.ref b1)]))
    refine GoesW.step (fun _ hr_ => XS.iconst X1.here hx rfl (hb hby d_method_4_code_8) hr_) ?_
    show GoesW p ee below s _ _ _ _ _ (T1.setTop (mkF m 9 #[.val (.int (0 : Int32)), .val (.int (Int32.ofNat k0)), .val (.int (Int32.ofNat k1)), .val (.int (Int32.ofNat k2)), .val (.int (Int32.ofNat k3))] [(.int (0 : Int32)), (.ref b1), (.ref b1)]))
    obtain ⟨T4, h4, X4, e4, E4, A4, st4⟩ := own_newP X1 hx hZ (aty := .char) (hw _ (List.mem_of_getElem? (i := 9) rfl)) e1 (z := (0 : Int32)) (by decide) (n := 0) rfl (cap := 0) (Nat.le_refl _) (by decide) (by decide) (by decide) (g := (mkF m 9 #[.val (.int (0 : Int32)), .val (.int (Int32.ofNat k0)), .val (.int (Int32.ofNat k1)), .val (.int (Int32.ofNat k2)), .val (.int (Int32.ofNat k3))] [(.int (0 : Int32)), (.ref b1), (.ref b1)])) rfl rfl (hb hby d_method_4_code_9)
    obtain ⟨b4, g_b4⟩ : ∃ z, z = h1.size := ⟨_, rfl⟩
    have ne_b1_b4 : b1 ≠ b4 := Nat.ne_of_lt (Nat.lt_of_lt_of_le E_b1.lt (Nat.le_of_eq g_b4.symm))
    have ge_b4 : n0 ≤ b4 := Nat.le_trans Zp2 (Nat.le_of_eq g_b4.symm)
    have sz_b4 : h0.size ≤ b4 := Nat.le_trans K3.1 (Nat.le_of_eq g_b4.symm)
    rw [← g_b4] at A4 st4
    have E_b1 := E_b1.ext E4
    have F_coder_b1 := F_coder_b1.ext E4
    have F_value_b1 := F_value_b1.ext E4
    have Zp5 := Nat.le_trans Zp2 E4.1
    have sf_b1 := Safe.ext E4 C.chv sf_b1
    have sf_b4 := Safe.ext E4 C.chv (Safe.new (Nat.le_of_eq g_b4.symm))
    have C := C.ext E4
    have OO := OO.ext E4
    have K6 := K3.ext E4
    refine GoesW.step st4 ?_
    have A_b4 : OA Z h4 b4 .char 0 (fun _ => (.int 0)) := A4
    show GoesW p ee below s _ _ _ _ _ (T4.setTop (mkF m 11 #[.val (.int (0 : Int32)), .val (.int (Int32.ofNat k0)), .val (.int (Int32.ofNat k1)), .val (.int (Int32.ofNat k2)), .val (.int (Int32.ofNat k3))] [(.ref b4), (.ref b1), (.ref b1)]))
    have A_b4 : OA Z h4 b4 .char 0 (fun _ => .int 0) := A_b4
    have lt_b1 := E_b1.lt
    have lt_b4 := A_b4.lt
    obtain ⟨v7, vm7, T7, L7, ⟨X7, Cn7, hZ, hown, hsaf7⟩, hQ7, st7⟩ := own_callNW X4 hx hZ hEL C (y := (⟨"java/lang/String", "<init>", "([C)V"⟩ : MethodName)) rfl hown (hw _ (List.mem_of_getElem? (i := 10) rfl)) (hw _ (List.mem_of_getElem? (i := 11) rfl)) (hw _ (List.mem_of_getElem? (i := 8) rfl)) (hw _ (List.mem_of_getElem? (i := 12) rfl)) (by decide) (a := b1) (argsL := [(.ref b4)]) (ws := [b1]) (own_allS ⟨lt_b1, sf_b1⟩ (fun _ q => nomatch q)) (rm_sin1w l Z a0 hw [] cs fm b1 b4 _ _ _ h4 n0 Zp5 ST OO ge_b1 ne_b1_b4 E_b1 F_value_b1 F_coder_b1 A_b4) e4 (W := 1) (by decide) (by decide) (by decide) (by decide) (g := (mkF m 11 #[.val (.int (0 : Int32)), .val (.int (Int32.ofNat k0)), .val (.int (Int32.ofNat k1)), .val (.int (Int32.ofNat k2)), .val (.int (Int32.ofNat k3))] [(.ref b4), (.ref b1), (.ref b1)])) rfl (by rw [hml]; rfl) (rest := [(.ref b1)]) (lenOf pd_26 rfl) rfl (by show 2 * 0 + _ ≤ _; exact Nat.le_of_eq rfl) (hb hby d_method_4_code_11)
    refine GoesW.step st7 ?_
    obtain ⟨rfl, N7, Kc7, b7, Ei7, Fv7, Fc7, AE_b7⟩ := hQ7
    have N8 := Fr.app N0 N7
    obtain ⟨h7, e7⟩ : ∃ h', T7.heap = h' := ⟨_, rfl⟩
    rw [e7] at Kc7 Cn7 hsaf7 Ei7 Fv7 Fc7 AE_b7
    have sf_b1 := hsaf7 b1 lt_b1 sf_b1
    have sf_b4 := hsaf7 b4 lt_b4 sf_b4
    have C := Cn7
    have A_b4 := A_b4.keep Kc7 (ninS (Ne.symm ne_b1_b4) nin0)
    have OO := OO.keep Kc7 (allS ge_b1 all0)
    have K9 := K6.trans Kc7 (allS (Or.inr sz_b1) all0)
    have Zp10 := Nat.le_trans Zp5 Kc7.1
    have A_b7 := AE_b7 (fun j => [k0, k1, k2, k3].getD j 0)
    show GoesW p ee below s _ _ _ _ _ (T7.setTop (mkF m 14 #[.val (.int (0 : Int32)), .val (.int (Int32.ofNat k0)), .val (.int (Int32.ofNat k1)), .val (.int (Int32.ofNat k2)), .val (.int (Int32.ofNat k3))] [(.ref b1)]))
    refine GoesW.retA X7 hx hZ hEL C e7 Bd.notSynchronized Bd.returns rfl rfl (hb hby d_method_4_code_14) (by decide) (by decide) ?_
    rw [e7]
    exact ⟨b1, b7, false, rfl, N8, K9, Ei7, Fv7, Fc7, A_b7, (fun _ j hj => absurd hj (Nat.not_lt_zero j))⟩
  · show GoesW p ee below s _ _ _ _ _ (s₁.setTop (mkF m 0 #[.val (.int (1 : Int32)), .val (.int (Int32.ofNat k0)), .val (.int (Int32.ofNat k1)), .val (.int (Int32.ofNat k2)), .val (.int (Int32.ofNat k3))] []))
    refine GoesW.step (fun _ hr_ => XS.iloadN X0.here hx rfl (hb hby d_method_4_code_0) rfl  hr_) ?_
    show GoesW p ee below s _ _ _ _ _ (s₁.setTop (mkF m 1 #[.val (.int (1 : Int32)), .val (.int (Int32.ofNat k0)), .val (.int (Int32.ofNat k1)), .val (.int (Int32.ofNat k2)), .val (.int (Int32.ofNat k3))] [(.int (1 : Int32))]))
    refine GoesW.step (fun _ hr_ => XS.ifYes X0.here hx rfl (pc0 := 1) (pc' := 15) rfl (hb hby d_method_4_code_1) rfl ((if0 _ _).trans (feq (by decide)).2) (by decide) (by decide) hr_) ?_
    show GoesW p ee below s _ _ _ _ _ (s₁.setTop (mkF m 15 #[.val (.int (1 : Int32)), .val (.int (Int32.ofNat k0)), .val (.int (Int32.ofNat k1)), .val (.int (Int32.ofNat k2)), .val (.int (Int32.ofNat k3))] []))
    refine GoesW.step (fun _ hr_ => XS.iloadN X0.here hx rfl (hb hby d_method_4_code_15) rfl  hr_) ?_
    show GoesW p ee below s _ _ _ _ _ (s₁.setTop (mkF m 16 #[.val (.int (1 : Int32)), .val (.int (Int32.ofNat k0)), .val (.int (Int32.ofNat k1)), .val (.int (Int32.ofNat k2)), .val (.int (Int32.ofNat k3))] [(.int (1 : Int32))]))
    refine GoesW.step (fun _ hr_ => XS.iconst X0.here hx rfl (hb hby d_method_4_code_16) hr_) ?_
    show GoesW p ee below s _ _ _ _ _ (s₁.setTop (mkF m 17 #[.val (.int (1 : Int32)), .val (.int (Int32.ofNat k0)), .val (.int (Int32.ofNat k1)), .val (.int (Int32.ofNat k2)), .val (.int (Int32.ofNat k3))] [(.int (1 : Int32)), (.int (1 : Int32))]))
    refine GoesW.step (fun _ hr_ => XS.icmpNo X0.here hx rfl (hb hby d_method_4_code_17) rfl (teq (by decide)).2 hr_) ?_
    show GoesW p ee below s _ _ _ _ _ (s₁.setTop (mkF m 20 #[.val (.int (1 : Int32)), .val (.int (Int32.ofNat k0)), .val (.int (Int32.ofNat k1)), .val (.int (Int32.ofNat k2)), .val (.int (Int32.ofNat k3))] []))
    obtain ⟨T11, h11, X11, e11, E11, A11, D11, -, st11⟩ := newO X0 hx hZ hown (hw _ (List.mem_of_getElem? (i := 6) rfl)) (hw _ (List.mem_of_getElem? (i := 7) rfl)) (hw _ (List.mem_of_getElem? (i := 8) rfl)) e0 (g := (mkF m 20 #[.val (.int (1 : Int32)), .val (.int (Int32.ofNat k0)), .val (.int (Int32.ofNat k1)), .val (.int (Int32.ofNat k2)), .val (.int (Int32.ofNat k3))] [])) rfl (hb hby d_method_4_code_20) (by decide) (by decide)
    obtain ⟨b11, g_b11⟩ : ∃ z, z = h0.size := ⟨_, rfl⟩
    have ge_b11 : n0 ≤ b11 := Nat.le_trans Z0 (Nat.le_of_eq g_b11.symm)
    have sz_b11 : h0.size ≤ b11 := Nat.le_trans K0.1 (Nat.le_of_eq g_b11.symm)
    rw [← g_b11] at A11 D11 st11
    have Zp12 := Nat.le_trans Z0 E11.1
    have sf_b11 := Safe.ext E11 C.chv (Safe.new (Nat.le_of_eq g_b11.symm))
    have C := C.ext E11
    have OO := OO.ext E11
    have K13 := K0.ext E11
    refine GoesW.step st11 ?_
    have E_b11 := A11
    have F_coder_b11 : Fld Z h11 b11 "java/lang/String" "coder" "B" (.int (0 : Int32)) := D11 (Or.inr (hw _ (List.mem_of_getElem? (i := 33) rfl))) (ty := .byte) (by decide)
    have F_value_b11 : Fld Z h11 b11 "java/lang/String" "value" "[B" .null := D11 (Or.inr (hw _ (List.mem_of_getElem? (i := 35) rfl))) (ty := (.array .byte)) (by decide)
    show GoesW p ee below s _ _ _ _ _ (T11.setTop (mkF m 23 #[.val (.int (1 : Int32)), .val (.int (Int32.ofNat k0)), .val (.int (Int32.ofNat k1)), .val (.int (Int32.ofNat k2)), .val (.int (Int32.ofNat k3))] [(.ref b11)]))
    refine GoesW.step (fun _ hr_ => XS.dup X11.here hx rfl (hb hby d_method_4_code_23) rfl rfl hr_) ?_
    show GoesW p ee below s _ _ _ _ _ (T11.setTop (mkF m 24 #[.val (.int (1 : Int32)), .val (.int (Int32.ofNat k0)), .val (.int (Int32.ofNat k1)), .val (.int (Int32.ofNat k2)), .val (.int (Int32.ofNat k3))] [(.ref b11), (.ref b11)]))
    refine GoesW.step (fun _ hr_ => XS.iconst X11.here hx rfl (hb hby d_method_4_code_24) hr_) ?_
    show GoesW p ee below s _ _ _ _ _ (T11.setTop (mkF m 25 #[.val (.int (1 : Int32)), .val (.int (Int32.ofNat k0)), .val (.int (Int32.ofNat k1)), .val (.int (Int32.ofNat k2)), .val (.int (Int32.ofNat k3))] [(.int (1 : Int32)), (.ref b11), (.ref b11)]))
    obtain ⟨T14, h14, X14, e14, E14, A14, st14⟩ := own_newP X11 hx hZ (aty := .char) (hw _ (List.mem_of_getElem? (i := 9) rfl)) e11 (z := (1 : Int32)) (by decide) (n := 1) rfl (cap := 1) (Nat.le_refl _) (by decide) (by decide) (by decide) (g := (mkF m 25 #[.val (.int (1 : Int32)), .val (.int (Int32.ofNat k0)), .val (.int (Int32.ofNat k1)), .val (.int (Int32.ofNat k2)), .val (.int (Int32.ofNat k3))] [(.int (1 : Int32)), (.ref b11), (.ref b11)])) rfl rfl (hb hby d_method_4_code_25)
    obtain ⟨b14, g_b14⟩ : ∃ z, z = h11.size := ⟨_, rfl⟩
    have ne_b11_b14 : b11 ≠ b14 := Nat.ne_of_lt (Nat.lt_of_lt_of_le E_b11.lt (Nat.le_of_eq g_b14.symm))
    have ge_b14 : n0 ≤ b14 := Nat.le_trans Zp12 (Nat.le_of_eq g_b14.symm)
    have sz_b14 : h0.size ≤ b14 := Nat.le_trans K13.1 (Nat.le_of_eq g_b14.symm)
    rw [← g_b14] at A14 st14
    have E_b11 := E_b11.ext E14
    have F_coder_b11 := F_coder_b11.ext E14
    have F_value_b11 := F_value_b11.ext E14
    have Zp15 := Nat.le_trans Zp12 E14.1
    have sf_b11 := Safe.ext E14 C.chv sf_b11
    have sf_b14 := Safe.ext E14 C.chv (Safe.new (Nat.le_of_eq g_b14.symm))
    have C := C.ext E14
    have OO := OO.ext E14
    have K16 := K13.ext E14
    refine GoesW.step st14 ?_
    have A_b14 : OA Z h14 b14 .char 1 (fun _ => (.int 0)) := A14
    show GoesW p ee below s _ _ _ _ _ (T14.setTop (mkF m 27 #[.val (.int (1 : Int32)), .val (.int (Int32.ofNat k0)), .val (.int (Int32.ofNat k1)), .val (.int (Int32.ofNat k2)), .val (.int (Int32.ofNat k3))] [(.ref b14), (.ref b11), (.ref b11)]))
    refine GoesW.step (fun _ hr_ => XS.dup X14.here hx rfl (hb hby d_method_4_code_27) rfl rfl hr_) ?_
    show GoesW p ee below s _ _ _ _ _ (T14.setTop (mkF m 28 #[.val (.int (1 : Int32)), .val (.int (Int32.ofNat k0)), .val (.int (Int32.ofNat k1)), .val (.int (Int32.ofNat k2)), .val (.int (Int32.ofNat k3))] [(.ref b14), (.ref b14), (.ref b11), (.ref b11)]))
    refine GoesW.step (fun _ hr_ => XS.iconst X14.here hx rfl (hb hby d_method_4_code_28) hr_) ?_
    show GoesW p ee below s _ _ _ _ _ (T14.setTop (mkF m 29 #[.val (.int (1 : Int32)), .val (.int (Int32.ofNat k0)), .val (.int (Int32.ofNat k1)), .val (.int (Int32.ofNat k2)), .val (.int (Int32.ofNat k3))] [(.int (0 : Int32)), (.ref b14), (.ref b14), (.ref b11), (.ref b11)]))
    refine GoesW.step (fun _ hr_ => XS.iloadN X14.here hx rfl (hb hby d_method_4_code_29) rfl  hr_) ?_
    show GoesW p ee below s _ _ _ _ _ (T14.setTop (mkF m 30 #[.val (.int (1 : Int32)), .val (.int (Int32.ofNat k0)), .val (.int (Int32.ofNat k1)), .val (.int (Int32.ofNat k2)), .val (.int (Int32.ofNat k3))] [(.int (Int32.ofNat k0)), (.int (0 : Int32)), (.ref b14), (.ref b14), (.ref b11), (.ref b11)]))
    obtain ⟨T17, h17, X17, e17, W17, A17, st17⟩ := own_stC X14 hx hZ e14 A_b14 (x := (Int32.ofNat k0)) (j := (0 : Int32)) (by decide) (k := 0) rfl (by decide) (g := (mkF m 30 #[.val (.int (1 : Int32)), .val (.int (Int32.ofNat k0)), .val (.int (Int32.ofNat k1)), .val (.int (Int32.ofNat k2)), .val (.int (Int32.ofNat k3))] [(.int (Int32.ofNat k0)), (.int (0 : Int32)), (.ref b14), (.ref b14), (.ref b11), (.ref b11)])) rfl rfl (hb hby d_method_4_code_30)
    refine GoesW.step st17 ?_
    have E_b11 := E_b11.wr W17
    have F_coder_b11 := F_coder_b11.other W17 (Or.inl ne_b11_b14)
    have F_value_b11 := F_value_b11.other W17 (Or.inl ne_b11_b14)
    have Zp18 := Nat.le_trans Zp15 (Keep.of_wr W17).1
    have N19 := Fr.snoc X17 N0 ge_b14
    have sfw := sf_b14
    have sf_b11 := Safe.wr W17 sfw C.chv sf_b11
    have sf_b14 := Safe.wr W17 sfw C.chv sf_b14
    have C := C.wr W17 sfw
    have OO := OO.wr W17 ge_b14
    have K20 := K16.wr W17 (Or.inr sz_b14)
    have A_b14 : OA Z h17 b14 .char 1 (fun i => [(.int (nar .char (Int32.ofNat k0)))].getD i (.int 0)) := A17.congr (fun i hi => by match i, hi with | 0, _ => rfl | i + 1, hi => omega)
    show GoesW p ee below s _ _ _ _ _ (T17.setTop (mkF m 31 #[.val (.int (1 : Int32)), .val (.int (Int32.ofNat k0)), .val (.int (Int32.ofNat k1)), .val (.int (Int32.ofNat k2)), .val (.int (Int32.ofNat k3))] [(.ref b14), (.ref b11), (.ref b11)]))
    have A_b14 : OA Z h17 b14 .char 1 (fun i => .int (Int32.ofNat ((fun j => [k0, k1, k2, k3].getD j 0) i))) := A_b14.congr (fun i hi => by match i, hi with | 0, _ => exact congrArg Value.int (own_charnar k0 (hck 0 (by decide))) | i + 1, hi => omega)
    have lt_b11 := E_b11.lt
    have lt_b14 := A_b14.lt
    obtain ⟨v21, T21, L21, X21, hQ21, st21⟩ := own_callN X17 hx hZ (y := (⟨"java/lang/String", "<init>", "([C)V"⟩ : MethodName)) rfl hown (hw _ (List.mem_of_getElem? (i := 10) rfl)) (hw _ (List.mem_of_getElem? (i := 11) rfl)) (hw _ (List.mem_of_getElem? (i := 8) rfl)) (hw _ (List.mem_of_getElem? (i := 12) rfl)) (by decide) (a := b11) (argsL := [(.ref b14)]) (rm_sin1 l Z a0 hw [] cs fm b11 b14 1 (fun j => [k0, k1, k2, k3].getD j 0) _ _ h17 n0 Zp18 ST OO (by decide) (by decide) (fun j hj => hck j (by omega)) ge_b11 ne_b11_b14 E_b11 F_value_b11 F_coder_b11 A_b14) e17 (W := 1) (by decide) (by decide) (by decide) (by decide) (g := (mkF m 31 #[.val (.int (1 : Int32)), .val (.int (Int32.ofNat k0)), .val (.int (Int32.ofNat k1)), .val (.int (Int32.ofNat k2)), .val (.int (Int32.ofNat k3))] [(.ref b14), (.ref b11), (.ref b11)])) rfl (by rw [hml]; rfl) (rest := [(.ref b11)]) (lenOf pd_26 rfl) rfl (by show 2 * 0 + _ ≤ _; exact Nat.le_of_eq rfl) (hb hby d_method_4_code_31)
    refine GoesW.step st21 ?_
    obtain ⟨rfl, N21, Kc21, b21, u, sz21, Ei21, Fv21, Fc21, A_b21, hlu, hlu2⟩ := hQ21
    have N22 := Fr.app N19 N21
    obtain ⟨h21, e21⟩ : ∃ h', T21.heap = h' := ⟨_, rfl⟩
    rw [e21] at Kc21 Ei21 Fv21 Fc21 A_b21
    have A_b14 := A_b14.keep Kc21 (ninS (Ne.symm ne_b11_b14) nin0)
    have hsk := (sfS sf_b11 sf0)
    have sf_b11 := Safe.keep Kc21 hsk C.chv sf_b11
    have sf_b14 := Safe.keep Kc21 hsk C.chv sf_b14
    have C := C.keep Kc21 hsk
    have OO := OO.keep Kc21 (allS ge_b11 all0)
    have K23 := K20.trans Kc21 (allS (Or.inr sz_b11) all0)
    have Zp24 := Nat.le_trans Zp18 Kc21.1
    have ge_b21 : n0 ≤ b21 := Nat.le_trans Zp18 sz21
    have sz_b21 : h0.size ≤ b21 := Nat.le_trans K20.1 sz21
    have ne_b11_b21 : b11 ≠ b21 := Nat.ne_of_lt (Nat.lt_of_lt_of_le lt_b11 sz21)
    have ne_b14_b21 : b14 ≠ b21 := Nat.ne_of_lt (Nat.lt_of_lt_of_le lt_b14 sz21)
    show GoesW p ee below s _ _ _ _ _ (T21.setTop (mkF m 34 #[.val (.int (1 : Int32)), .val (.int (Int32.ofNat k0)), .val (.int (Int32.ofNat k1)), .val (.int (Int32.ofNat k2)), .val (.int (Int32.ofNat k3))] [(.ref b11)]))
    refine GoesW.retA X21 hx hZ hEL C e21 Bd.notSynchronized Bd.returns rfl rfl (hb hby d_method_4_code_34) (by decide) (by decide) ?_
    rw [e21]
    exact ⟨b11, b21, u, rfl, N22, K23, Ei21, Fv21, Fc21, A_b21, hlu⟩
  · show GoesW p ee below s _ _ _ _ _ (s₁.setTop (mkF m 0 #[.val (.int (2 : Int32)), .val (.int (Int32.ofNat k0)), .val (.int (Int32.ofNat k1)), .val (.int (Int32.ofNat k2)), .val (.int (Int32.ofNat k3))] []))
    refine GoesW.step (fun _ hr_ => XS.iloadN X0.here hx rfl (hb hby d_method_4_code_0) rfl  hr_) ?_
    show GoesW p ee below s _ _ _ _ _ (s₁.setTop (mkF m 1 #[.val (.int (2 : Int32)), .val (.int (Int32.ofNat k0)), .val (.int (Int32.ofNat k1)), .val (.int (Int32.ofNat k2)), .val (.int (Int32.ofNat k3))] [(.int (2 : Int32))]))
    refine GoesW.step (fun _ hr_ => XS.ifYes X0.here hx rfl (pc0 := 1) (pc' := 15) rfl (hb hby d_method_4_code_1) rfl ((if0 _ _).trans (feq (by decide)).2) (by decide) (by decide) hr_) ?_
    show GoesW p ee below s _ _ _ _ _ (s₁.setTop (mkF m 15 #[.val (.int (2 : Int32)), .val (.int (Int32.ofNat k0)), .val (.int (Int32.ofNat k1)), .val (.int (Int32.ofNat k2)), .val (.int (Int32.ofNat k3))] []))
    refine GoesW.step (fun _ hr_ => XS.iloadN X0.here hx rfl (hb hby d_method_4_code_15) rfl  hr_) ?_
    show GoesW p ee below s _ _ _ _ _ (s₁.setTop (mkF m 16 #[.val (.int (2 : Int32)), .val (.int (Int32.ofNat k0)), .val (.int (Int32.ofNat k1)), .val (.int (Int32.ofNat k2)), .val (.int (Int32.ofNat k3))] [(.int (2 : Int32))]))
    refine GoesW.step (fun _ hr_ => XS.iconst X0.here hx rfl (hb hby d_method_4_code_16) hr_) ?_
    show GoesW p ee below s _ _ _ _ _ (s₁.setTop (mkF m 17 #[.val (.int (2 : Int32)), .val (.int (Int32.ofNat k0)), .val (.int (Int32.ofNat k1)), .val (.int (Int32.ofNat k2)), .val (.int (Int32.ofNat k3))] [(.int (1 : Int32)), (.int (2 : Int32))]))
    refine GoesW.step (fun _ hr_ => XS.icmpYes X0.here hx rfl (pc0 := 17) (pc' := 35) rfl (hb hby d_method_4_code_17) rfl (feq (by decide)).2 (by decide) (by decide) hr_) ?_
    show GoesW p ee below s _ _ _ _ _ (s₁.setTop (mkF m 35 #[.val (.int (2 : Int32)), .val (.int (Int32.ofNat k0)), .val (.int (Int32.ofNat k1)), .val (.int (Int32.ofNat k2)), .val (.int (Int32.ofNat k3))] []))
    refine GoesW.step (fun _ hr_ => XS.iloadN X0.here hx rfl (hb hby d_method_4_code_35) rfl  hr_) ?_
    show GoesW p ee below s _ _ _ _ _ (s₁.setTop (mkF m 36 #[.val (.int (2 : Int32)), .val (.int (Int32.ofNat k0)), .val (.int (Int32.ofNat k1)), .val (.int (Int32.ofNat k2)), .val (.int (Int32.ofNat k3))] [(.int (2 : Int32))]))
    refine GoesW.step (fun _ hr_ => XS.iconst X0.here hx rfl (hb hby d_method_4_code_36) hr_) ?_
    show GoesW p ee below s _ _ _ _ _ (s₁.setTop (mkF m 37 #[.val (.int (2 : Int32)), .val (.int (Int32.ofNat k0)), .val (.int (Int32.ofNat k1)), .val (.int (Int32.ofNat k2)), .val (.int (Int32.ofNat k3))] [(.int (2 : Int32)), (.int (2 : Int32))]))
    refine GoesW.step (fun _ hr_ => XS.icmpNo X0.here hx rfl (hb hby d_method_4_code_37) rfl (teq (by decide)).2 hr_) ?_
    show GoesW p ee below s _ _ _ _ _ (s₁.setTop (mkF m 40 #[.val (.int (2 : Int32)), .val (.int (Int32.ofNat k0)), .val (.int (Int32.ofNat k1)), .val (.int (Int32.ofNat k2)), .val (.int (Int32.ofNat k3))] []))
    obtain ⟨T25, h25, X25, e25, E25, A25, D25, -, st25⟩ := newO X0 hx hZ hown (hw _ (List.mem_of_getElem? (i := 6) rfl)) (hw _ (List.mem_of_getElem? (i := 7) rfl)) (hw _ (List.mem_of_getElem? (i := 8) rfl)) e0 (g := (mkF m 40 #[.val (.int (2 : Int32)), .val (.int (Int32.ofNat k0)), .val (.int (Int32.ofNat k1)), .val (.int (Int32.ofNat k2)), .val (.int (Int32.ofNat k3))] [])) rfl (hb hby d_method_4_code_40) (by decide) (by decide)
    obtain ⟨b25, g_b25⟩ : ∃ z, z = h0.size := ⟨_, rfl⟩
    have ge_b25 : n0 ≤ b25 := Nat.le_trans Z0 (Nat.le_of_eq g_b25.symm)
    have sz_b25 : h0.size ≤ b25 := Nat.le_trans K0.1 (Nat.le_of_eq g_b25.symm)
    rw [← g_b25] at A25 D25 st25
    have Zp26 := Nat.le_trans Z0 E25.1
    have sf_b25 := Safe.ext E25 C.chv (Safe.new (Nat.le_of_eq g_b25.symm))
    have C := C.ext E25
    have OO := OO.ext E25
    have K27 := K0.ext E25
    refine GoesW.step st25 ?_
    have E_b25 := A25
    have F_coder_b25 : Fld Z h25 b25 "java/lang/String" "coder" "B" (.int (0 : Int32)) := D25 (Or.inr (hw _ (List.mem_of_getElem? (i := 33) rfl))) (ty := .byte) (by decide)
    have F_value_b25 : Fld Z h25 b25 "java/lang/String" "value" "[B" .null := D25 (Or.inr (hw _ (List.mem_of_getElem? (i := 35) rfl))) (ty := (.array .byte)) (by decide)
    show GoesW p ee below s _ _ _ _ _ (T25.setTop (mkF m 43 #[.val (.int (2 : Int32)), .val (.int (Int32.ofNat k0)), .val (.int (Int32.ofNat k1)), .val (.int (Int32.ofNat k2)), .val (.int (Int32.ofNat k3))] [(.ref b25)]))
    refine GoesW.step (fun _ hr_ => XS.dup X25.here hx rfl (hb hby d_method_4_code_43) rfl rfl hr_) ?_
    show GoesW p ee below s _ _ _ _ _ (T25.setTop (mkF m 44 #[.val (.int (2 : Int32)), .val (.int (Int32.ofNat k0)), .val (.int (Int32.ofNat k1)), .val (.int (Int32.ofNat k2)), .val (.int (Int32.ofNat k3))] [(.ref b25), (.ref b25)]))
    refine GoesW.step (fun _ hr_ => XS.iconst X25.here hx rfl (hb hby d_method_4_code_44) hr_) ?_
    show GoesW p ee below s _ _ _ _ _ (T25.setTop (mkF m 45 #[.val (.int (2 : Int32)), .val (.int (Int32.ofNat k0)), .val (.int (Int32.ofNat k1)), .val (.int (Int32.ofNat k2)), .val (.int (Int32.ofNat k3))] [(.int (2 : Int32)), (.ref b25), (.ref b25)]))
    obtain ⟨T28, h28, X28, e28, E28, A28, st28⟩ := own_newP X25 hx hZ (aty := .char) (hw _ (List.mem_of_getElem? (i := 9) rfl)) e25 (z := (2 : Int32)) (by decide) (n := 2) rfl (cap := 2) (Nat.le_refl _) (by decide) (by decide) (by decide) (g := (mkF m 45 #[.val (.int (2 : Int32)), .val (.int (Int32.ofNat k0)), .val (.int (Int32.ofNat k1)), .val (.int (Int32.ofNat k2)), .val (.int (Int32.ofNat k3))] [(.int (2 : Int32)), (.ref b25), (.ref b25)])) rfl rfl (hb hby d_method_4_code_45)
    obtain ⟨b28, g_b28⟩ : ∃ z, z = h25.size := ⟨_, rfl⟩
    have ne_b25_b28 : b25 ≠ b28 := Nat.ne_of_lt (Nat.lt_of_lt_of_le E_b25.lt (Nat.le_of_eq g_b28.symm))
    have ge_b28 : n0 ≤ b28 := Nat.le_trans Zp26 (Nat.le_of_eq g_b28.symm)
    have sz_b28 : h0.size ≤ b28 := Nat.le_trans K27.1 (Nat.le_of_eq g_b28.symm)
    rw [← g_b28] at A28 st28
    have E_b25 := E_b25.ext E28
    have F_coder_b25 := F_coder_b25.ext E28
    have F_value_b25 := F_value_b25.ext E28
    have Zp29 := Nat.le_trans Zp26 E28.1
    have sf_b25 := Safe.ext E28 C.chv sf_b25
    have sf_b28 := Safe.ext E28 C.chv (Safe.new (Nat.le_of_eq g_b28.symm))
    have C := C.ext E28
    have OO := OO.ext E28
    have K30 := K27.ext E28
    refine GoesW.step st28 ?_
    have A_b28 : OA Z h28 b28 .char 2 (fun _ => (.int 0)) := A28
    show GoesW p ee below s _ _ _ _ _ (T28.setTop (mkF m 47 #[.val (.int (2 : Int32)), .val (.int (Int32.ofNat k0)), .val (.int (Int32.ofNat k1)), .val (.int (Int32.ofNat k2)), .val (.int (Int32.ofNat k3))] [(.ref b28), (.ref b25), (.ref b25)]))
    refine GoesW.step (fun _ hr_ => XS.dup X28.here hx rfl (hb hby d_method_4_code_47) rfl rfl hr_) ?_
    show GoesW p ee below s _ _ _ _ _ (T28.setTop (mkF m 48 #[.val (.int (2 : Int32)), .val (.int (Int32.ofNat k0)), .val (.int (Int32.ofNat k1)), .val (.int (Int32.ofNat k2)), .val (.int (Int32.ofNat k3))] [(.ref b28), (.ref b28), (.ref b25), (.ref b25)]))
    refine GoesW.step (fun _ hr_ => XS.iconst X28.here hx rfl (hb hby d_method_4_code_48) hr_) ?_
    show GoesW p ee below s _ _ _ _ _ (T28.setTop (mkF m 49 #[.val (.int (2 : Int32)), .val (.int (Int32.ofNat k0)), .val (.int (Int32.ofNat k1)), .val (.int (Int32.ofNat k2)), .val (.int (Int32.ofNat k3))] [(.int (0 : Int32)), (.ref b28), (.ref b28), (.ref b25), (.ref b25)]))
    refine GoesW.step (fun _ hr_ => XS.iloadN X28.here hx rfl (hb hby d_method_4_code_49) rfl  hr_) ?_
    show GoesW p ee below s _ _ _ _ _ (T28.setTop (mkF m 50 #[.val (.int (2 : Int32)), .val (.int (Int32.ofNat k0)), .val (.int (Int32.ofNat k1)), .val (.int (Int32.ofNat k2)), .val (.int (Int32.ofNat k3))] [(.int (Int32.ofNat k0)), (.int (0 : Int32)), (.ref b28), (.ref b28), (.ref b25), (.ref b25)]))
    obtain ⟨T31, h31, X31, e31, W31, A31, st31⟩ := own_stC X28 hx hZ e28 A_b28 (x := (Int32.ofNat k0)) (j := (0 : Int32)) (by decide) (k := 0) rfl (by decide) (g := (mkF m 50 #[.val (.int (2 : Int32)), .val (.int (Int32.ofNat k0)), .val (.int (Int32.ofNat k1)), .val (.int (Int32.ofNat k2)), .val (.int (Int32.ofNat k3))] [(.int (Int32.ofNat k0)), (.int (0 : Int32)), (.ref b28), (.ref b28), (.ref b25), (.ref b25)])) rfl rfl (hb hby d_method_4_code_50)
    refine GoesW.step st31 ?_
    have E_b25 := E_b25.wr W31
    have F_coder_b25 := F_coder_b25.other W31 (Or.inl ne_b25_b28)
    have F_value_b25 := F_value_b25.other W31 (Or.inl ne_b25_b28)
    have Zp32 := Nat.le_trans Zp29 (Keep.of_wr W31).1
    have N33 := Fr.snoc X31 N0 ge_b28
    have sfw := sf_b28
    have sf_b25 := Safe.wr W31 sfw C.chv sf_b25
    have sf_b28 := Safe.wr W31 sfw C.chv sf_b28
    have C := C.wr W31 sfw
    have OO := OO.wr W31 ge_b28
    have K34 := K30.wr W31 (Or.inr sz_b28)
    have A_b28 : OA Z h31 b28 .char 2 (fun i => [(.int (nar .char (Int32.ofNat k0))), (.int 0)].getD i (.int 0)) := A31.congr (fun i hi => by match i, hi with | 0, _ => rfl | 1, _ => rfl | i + 2, hi => omega)
    show GoesW p ee below s _ _ _ _ _ (T31.setTop (mkF m 51 #[.val (.int (2 : Int32)), .val (.int (Int32.ofNat k0)), .val (.int (Int32.ofNat k1)), .val (.int (Int32.ofNat k2)), .val (.int (Int32.ofNat k3))] [(.ref b28), (.ref b25), (.ref b25)]))
    refine GoesW.step (fun _ hr_ => XS.dup X31.here hx rfl (hb hby d_method_4_code_51) rfl rfl hr_) ?_
    show GoesW p ee below s _ _ _ _ _ (T31.setTop (mkF m 52 #[.val (.int (2 : Int32)), .val (.int (Int32.ofNat k0)), .val (.int (Int32.ofNat k1)), .val (.int (Int32.ofNat k2)), .val (.int (Int32.ofNat k3))] [(.ref b28), (.ref b28), (.ref b25), (.ref b25)]))
    refine GoesW.step (fun _ hr_ => XS.iconst X31.here hx rfl (hb hby d_method_4_code_52) hr_) ?_
    show GoesW p ee below s _ _ _ _ _ (T31.setTop (mkF m 53 #[.val (.int (2 : Int32)), .val (.int (Int32.ofNat k0)), .val (.int (Int32.ofNat k1)), .val (.int (Int32.ofNat k2)), .val (.int (Int32.ofNat k3))] [(.int (1 : Int32)), (.ref b28), (.ref b28), (.ref b25), (.ref b25)]))
    refine GoesW.step (fun _ hr_ => XS.iloadN X31.here hx rfl (hb hby d_method_4_code_53) rfl  hr_) ?_
    show GoesW p ee below s _ _ _ _ _ (T31.setTop (mkF m 54 #[.val (.int (2 : Int32)), .val (.int (Int32.ofNat k0)), .val (.int (Int32.ofNat k1)), .val (.int (Int32.ofNat k2)), .val (.int (Int32.ofNat k3))] [(.int (Int32.ofNat k1)), (.int (1 : Int32)), (.ref b28), (.ref b28), (.ref b25), (.ref b25)]))
    obtain ⟨T35, h35, X35, e35, W35, A35, st35⟩ := own_stC X31 hx hZ e31 A_b28 (x := (Int32.ofNat k1)) (j := (1 : Int32)) (by decide) (k := 1) rfl (by decide) (g := (mkF m 54 #[.val (.int (2 : Int32)), .val (.int (Int32.ofNat k0)), .val (.int (Int32.ofNat k1)), .val (.int (Int32.ofNat k2)), .val (.int (Int32.ofNat k3))] [(.int (Int32.ofNat k1)), (.int (1 : Int32)), (.ref b28), (.ref b28), (.ref b25), (.ref b25)])) rfl rfl (hb hby d_method_4_code_54)
    refine GoesW.step st35 ?_
    have E_b25 := E_b25.wr W35
    have F_coder_b25 := F_coder_b25.other W35 (Or.inl ne_b25_b28)
    have F_value_b25 := F_value_b25.other W35 (Or.inl ne_b25_b28)
    have Zp36 := Nat.le_trans Zp32 (Keep.of_wr W35).1
    have N37 := Fr.snoc X35 N33 ge_b28
    have sfw := sf_b28
    have sf_b25 := Safe.wr W35 sfw C.chv sf_b25
    have sf_b28 := Safe.wr W35 sfw C.chv sf_b28
    have C := C.wr W35 sfw
    have OO := OO.wr W35 ge_b28
    have K38 := K34.wr W35 (Or.inr sz_b28)
    have A_b28 : OA Z h35 b28 .char 2 (fun i => [(.int (nar .char (Int32.ofNat k0))), (.int (nar .char (Int32.ofNat k1)))].getD i (.int 0)) := A35.congr (fun i hi => by match i, hi with | 0, _ => rfl | 1, _ => rfl | i + 2, hi => omega)
    show GoesW p ee below s _ _ _ _ _ (T35.setTop (mkF m 55 #[.val (.int (2 : Int32)), .val (.int (Int32.ofNat k0)), .val (.int (Int32.ofNat k1)), .val (.int (Int32.ofNat k2)), .val (.int (Int32.ofNat k3))] [(.ref b28), (.ref b25), (.ref b25)]))
    have A_b28 : OA Z h35 b28 .char 2 (fun i => .int (Int32.ofNat ((fun j => [k0, k1, k2, k3].getD j 0) i))) := A_b28.congr (fun i hi => by match i, hi with | 0, _ => exact congrArg Value.int (own_charnar k0 (hck 0 (by decide))) | 1, _ => exact congrArg Value.int (own_charnar k1 (hck 1 (by decide))) | i + 2, hi => omega)
    have lt_b25 := E_b25.lt
    have lt_b28 := A_b28.lt
    obtain ⟨v39, T39, L39, X39, hQ39, st39⟩ := own_callN X35 hx hZ (y := (⟨"java/lang/String", "<init>", "([C)V"⟩ : MethodName)) rfl hown (hw _ (List.mem_of_getElem? (i := 10) rfl)) (hw _ (List.mem_of_getElem? (i := 11) rfl)) (hw _ (List.mem_of_getElem? (i := 8) rfl)) (hw _ (List.mem_of_getElem? (i := 12) rfl)) (by decide) (a := b25) (argsL := [(.ref b28)]) (rm_sin1 l Z a0 hw [] cs fm b25 b28 2 (fun j => [k0, k1, k2, k3].getD j 0) _ _ h35 n0 Zp36 ST OO (by decide) (by decide) (fun j hj => hck j (by omega)) ge_b25 ne_b25_b28 E_b25 F_value_b25 F_coder_b25 A_b28) e35 (W := 1) (by decide) (by decide) (by decide) (by decide) (g := (mkF m 55 #[.val (.int (2 : Int32)), .val (.int (Int32.ofNat k0)), .val (.int (Int32.ofNat k1)), .val (.int (Int32.ofNat k2)), .val (.int (Int32.ofNat k3))] [(.ref b28), (.ref b25), (.ref b25)])) rfl (by rw [hml]; rfl) (rest := [(.ref b25)]) (lenOf pd_26 rfl) rfl (by show 2 * 0 + _ ≤ _; exact Nat.le_of_eq rfl) (hb hby d_method_4_code_55)
    refine GoesW.step st39 ?_
    obtain ⟨rfl, N39, Kc39, b39, u, sz39, Ei39, Fv39, Fc39, A_b39, hlu, hlu2⟩ := hQ39
    have N40 := Fr.app N37 N39
    obtain ⟨h39, e39⟩ : ∃ h', T39.heap = h' := ⟨_, rfl⟩
    rw [e39] at Kc39 Ei39 Fv39 Fc39 A_b39
    have A_b28 := A_b28.keep Kc39 (ninS (Ne.symm ne_b25_b28) nin0)
    have hsk := (sfS sf_b25 sf0)
    have sf_b25 := Safe.keep Kc39 hsk C.chv sf_b25
    have sf_b28 := Safe.keep Kc39 hsk C.chv sf_b28
    have C := C.keep Kc39 hsk
    have OO := OO.keep Kc39 (allS ge_b25 all0)
    have K41 := K38.trans Kc39 (allS (Or.inr sz_b25) all0)
    have Zp42 := Nat.le_trans Zp36 Kc39.1
    have ge_b39 : n0 ≤ b39 := Nat.le_trans Zp36 sz39
    have sz_b39 : h0.size ≤ b39 := Nat.le_trans K38.1 sz39
    have ne_b25_b39 : b25 ≠ b39 := Nat.ne_of_lt (Nat.lt_of_lt_of_le lt_b25 sz39)
    have ne_b28_b39 : b28 ≠ b39 := Nat.ne_of_lt (Nat.lt_of_lt_of_le lt_b28 sz39)
    show GoesW p ee below s _ _ _ _ _ (T39.setTop (mkF m 58 #[.val (.int (2 : Int32)), .val (.int (Int32.ofNat k0)), .val (.int (Int32.ofNat k1)), .val (.int (Int32.ofNat k2)), .val (.int (Int32.ofNat k3))] [(.ref b25)]))
    refine GoesW.retA X39 hx hZ hEL C e39 Bd.notSynchronized Bd.returns rfl rfl (hb hby d_method_4_code_58) (by decide) (by decide) ?_
    rw [e39]
    exact ⟨b25, b39, u, rfl, N40, K41, Ei39, Fv39, Fc39, A_b39, hlu⟩
  · show GoesW p ee below s _ _ _ _ _ (s₁.setTop (mkF m 0 #[.val (.int (3 : Int32)), .val (.int (Int32.ofNat k0)), .val (.int (Int32.ofNat k1)), .val (.int (Int32.ofNat k2)), .val (.int (Int32.ofNat k3))] []))
    refine GoesW.step (fun _ hr_ => XS.iloadN X0.here hx rfl (hb hby d_method_4_code_0) rfl  hr_) ?_
    show GoesW p ee below s _ _ _ _ _ (s₁.setTop (mkF m 1 #[.val (.int (3 : Int32)), .val (.int (Int32.ofNat k0)), .val (.int (Int32.ofNat k1)), .val (.int (Int32.ofNat k2)), .val (.int (Int32.ofNat k3))] [(.int (3 : Int32))]))
    refine GoesW.step (fun _ hr_ => XS.ifYes X0.here hx rfl (pc0 := 1) (pc' := 15) rfl (hb hby d_method_4_code_1) rfl ((if0 _ _).trans (feq (by decide)).2) (by decide) (by decide) hr_) ?_
    show GoesW p ee below s _ _ _ _ _ (s₁.setTop (mkF m 15 #[.val (.int (3 : Int32)), .val (.int (Int32.ofNat k0)), .val (.int (Int32.ofNat k1)), .val (.int (Int32.ofNat k2)), .val (.int (Int32.ofNat k3))] []))
    refine GoesW.step (fun _ hr_ => XS.iloadN X0.here hx rfl (hb hby d_method_4_code_15) rfl  hr_) ?_
    show GoesW p ee below s _ _ _ _ _ (s₁.setTop (mkF m 16 #[.val (.int (3 : Int32)), .val (.int (Int32.ofNat k0)), .val (.int (Int32.ofNat k1)), .val (.int (Int32.ofNat k2)), .val (.int (Int32.ofNat k3))] [(.int (3 : Int32))]))
    refine GoesW.step (fun _ hr_ => XS.iconst X0.here hx rfl (hb hby d_method_4_code_16) hr_) ?_
    show GoesW p ee below s _ _ _ _ _ (s₁.setTop (mkF m 17 #[.val (.int (3 : Int32)), .val (.int (Int32.ofNat k0)), .val (.int (Int32.ofNat k1)), .val (.int (Int32.ofNat k2)), .val (.int (Int32.ofNat k3))] [(.int (1 : Int32)), (.int (3 : Int32))]))
    refine GoesW.step (fun _ hr_ => XS.icmpYes X0.here hx rfl (pc0 := 17) (pc' := 35) rfl (hb hby d_method_4_code_17) rfl (feq (by decide)).2 (by decide) (by decide) hr_) ?_
    show GoesW p ee below s _ _ _ _ _ (s₁.setTop (mkF m 35 #[.val (.int (3 : Int32)), .val (.int (Int32.ofNat k0)), .val (.int (Int32.ofNat k1)), .val (.int (Int32.ofNat k2)), .val (.int (Int32.ofNat k3))] []))
    refine GoesW.step (fun _ hr_ => XS.iloadN X0.here hx rfl (hb hby d_method_4_code_35) rfl  hr_) ?_
    show GoesW p ee below s _ _ _ _ _ (s₁.setTop (mkF m 36 #[.val (.int (3 : Int32)), .val (.int (Int32.ofNat k0)), .val (.int (Int32.ofNat k1)), .val (.int (Int32.ofNat k2)), .val (.int (Int32.ofNat k3))] [(.int (3 : Int32))]))
    refine GoesW.step (fun _ hr_ => XS.iconst X0.here hx rfl (hb hby d_method_4_code_36) hr_) ?_
    show GoesW p ee below s _ _ _ _ _ (s₁.setTop (mkF m 37 #[.val (.int (3 : Int32)), .val (.int (Int32.ofNat k0)), .val (.int (Int32.ofNat k1)), .val (.int (Int32.ofNat k2)), .val (.int (Int32.ofNat k3))] [(.int (2 : Int32)), (.int (3 : Int32))]))
    refine GoesW.step (fun _ hr_ => XS.icmpYes X0.here hx rfl (pc0 := 37) (pc' := 59) rfl (hb hby d_method_4_code_37) rfl (feq (by decide)).2 (by decide) (by decide) hr_) ?_
    show GoesW p ee below s _ _ _ _ _ (s₁.setTop (mkF m 59 #[.val (.int (3 : Int32)), .val (.int (Int32.ofNat k0)), .val (.int (Int32.ofNat k1)), .val (.int (Int32.ofNat k2)), .val (.int (Int32.ofNat k3))] []))
    refine GoesW.step (fun _ hr_ => XS.iloadN X0.here hx rfl (hb hby d_method_4_code_59) rfl  hr_) ?_
    show GoesW p ee below s _ _ _ _ _ (s₁.setTop (mkF m 60 #[.val (.int (3 : Int32)), .val (.int (Int32.ofNat k0)), .val (.int (Int32.ofNat k1)), .val (.int (Int32.ofNat k2)), .val (.int (Int32.ofNat k3))] [(.int (3 : Int32))]))
    refine GoesW.step (fun _ hr_ => XS.iconst X0.here hx rfl (hb hby d_method_4_code_60) hr_) ?_
    show GoesW p ee below s _ _ _ _ _ (s₁.setTop (mkF m 61 #[.val (.int (3 : Int32)), .val (.int (Int32.ofNat k0)), .val (.int (Int32.ofNat k1)), .val (.int (Int32.ofNat k2)), .val (.int (Int32.ofNat k3))] [(.int (3 : Int32)), (.int (3 : Int32))]))
    refine GoesW.step (fun _ hr_ => XS.icmpNo X0.here hx rfl (hb hby d_method_4_code_61) rfl (teq (by decide)).2 hr_) ?_
    show GoesW p ee below s _ _ _ _ _ (s₁.setTop (mkF m 64 #[.val (.int (3 : Int32)), .val (.int (Int32.ofNat k0)), .val (.int (Int32.ofNat k1)), .val (.int (Int32.ofNat k2)), .val (.int (Int32.ofNat k3))] []))
    obtain ⟨T43, h43, X43, e43, E43, A43, D43, -, st43⟩ := newO X0 hx hZ hown (hw _ (List.mem_of_getElem? (i := 6) rfl)) (hw _ (List.mem_of_getElem? (i := 7) rfl)) (hw _ (List.mem_of_getElem? (i := 8) rfl)) e0 (g := (mkF m 64 #[.val (.int (3 : Int32)), .val (.int (Int32.ofNat k0)), .val (.int (Int32.ofNat k1)), .val (.int (Int32.ofNat k2)), .val (.int (Int32.ofNat k3))] [])) rfl (hb hby d_method_4_code_64) (by decide) (by decide)
    obtain ⟨b43, g_b43⟩ : ∃ z, z = h0.size := ⟨_, rfl⟩
    have ge_b43 : n0 ≤ b43 := Nat.le_trans Z0 (Nat.le_of_eq g_b43.symm)
    have sz_b43 : h0.size ≤ b43 := Nat.le_trans K0.1 (Nat.le_of_eq g_b43.symm)
    rw [← g_b43] at A43 D43 st43
    have Zp44 := Nat.le_trans Z0 E43.1
    have sf_b43 := Safe.ext E43 C.chv (Safe.new (Nat.le_of_eq g_b43.symm))
    have C := C.ext E43
    have OO := OO.ext E43
    have K45 := K0.ext E43
    refine GoesW.step st43 ?_
    have E_b43 := A43
    have F_coder_b43 : Fld Z h43 b43 "java/lang/String" "coder" "B" (.int (0 : Int32)) := D43 (Or.inr (hw _ (List.mem_of_getElem? (i := 33) rfl))) (ty := .byte) (by decide)
    have F_value_b43 : Fld Z h43 b43 "java/lang/String" "value" "[B" .null := D43 (Or.inr (hw _ (List.mem_of_getElem? (i := 35) rfl))) (ty := (.array .byte)) (by decide)
    show GoesW p ee below s _ _ _ _ _ (T43.setTop (mkF m 67 #[.val (.int (3 : Int32)), .val (.int (Int32.ofNat k0)), .val (.int (Int32.ofNat k1)), .val (.int (Int32.ofNat k2)), .val (.int (Int32.ofNat k3))] [(.ref b43)]))
    refine GoesW.step (fun _ hr_ => XS.dup X43.here hx rfl (hb hby d_method_4_code_67) rfl rfl hr_) ?_
    show GoesW p ee below s _ _ _ _ _ (T43.setTop (mkF m 68 #[.val (.int (3 : Int32)), .val (.int (Int32.ofNat k0)), .val (.int (Int32.ofNat k1)), .val (.int (Int32.ofNat k2)), .val (.int (Int32.ofNat k3))] [(.ref b43), (.ref b43)]))
    refine GoesW.step (fun _ hr_ => XS.iconst X43.here hx rfl (hb hby d_method_4_code_68) hr_) ?_
    show GoesW p ee below s _ _ _ _ _ (T43.setTop (mkF m 69 #[.val (.int (3 : Int32)), .val (.int (Int32.ofNat k0)), .val (.int (Int32.ofNat k1)), .val (.int (Int32.ofNat k2)), .val (.int (Int32.ofNat k3))] [(.int (3 : Int32)), (.ref b43), (.ref b43)]))
    obtain ⟨T46, h46, X46, e46, E46, A46, st46⟩ := own_newP X43 hx hZ (aty := .char) (hw _ (List.mem_of_getElem? (i := 9) rfl)) e43 (z := (3 : Int32)) (by decide) (n := 3) rfl (cap := 3) (Nat.le_refl _) (by decide) (by decide) (by decide) (g := (mkF m 69 #[.val (.int (3 : Int32)), .val (.int (Int32.ofNat k0)), .val (.int (Int32.ofNat k1)), .val (.int (Int32.ofNat k2)), .val (.int (Int32.ofNat k3))] [(.int (3 : Int32)), (.ref b43), (.ref b43)])) rfl rfl (hb hby d_method_4_code_69)
    obtain ⟨b46, g_b46⟩ : ∃ z, z = h43.size := ⟨_, rfl⟩
    have ne_b43_b46 : b43 ≠ b46 := Nat.ne_of_lt (Nat.lt_of_lt_of_le E_b43.lt (Nat.le_of_eq g_b46.symm))
    have ge_b46 : n0 ≤ b46 := Nat.le_trans Zp44 (Nat.le_of_eq g_b46.symm)
    have sz_b46 : h0.size ≤ b46 := Nat.le_trans K45.1 (Nat.le_of_eq g_b46.symm)
    rw [← g_b46] at A46 st46
    have E_b43 := E_b43.ext E46
    have F_coder_b43 := F_coder_b43.ext E46
    have F_value_b43 := F_value_b43.ext E46
    have Zp47 := Nat.le_trans Zp44 E46.1
    have sf_b43 := Safe.ext E46 C.chv sf_b43
    have sf_b46 := Safe.ext E46 C.chv (Safe.new (Nat.le_of_eq g_b46.symm))
    have C := C.ext E46
    have OO := OO.ext E46
    have K48 := K45.ext E46
    refine GoesW.step st46 ?_
    have A_b46 : OA Z h46 b46 .char 3 (fun _ => (.int 0)) := A46
    show GoesW p ee below s _ _ _ _ _ (T46.setTop (mkF m 71 #[.val (.int (3 : Int32)), .val (.int (Int32.ofNat k0)), .val (.int (Int32.ofNat k1)), .val (.int (Int32.ofNat k2)), .val (.int (Int32.ofNat k3))] [(.ref b46), (.ref b43), (.ref b43)]))
    refine GoesW.step (fun _ hr_ => XS.dup X46.here hx rfl (hb hby d_method_4_code_71) rfl rfl hr_) ?_
    show GoesW p ee below s _ _ _ _ _ (T46.setTop (mkF m 72 #[.val (.int (3 : Int32)), .val (.int (Int32.ofNat k0)), .val (.int (Int32.ofNat k1)), .val (.int (Int32.ofNat k2)), .val (.int (Int32.ofNat k3))] [(.ref b46), (.ref b46), (.ref b43), (.ref b43)]))
    refine GoesW.step (fun _ hr_ => XS.iconst X46.here hx rfl (hb hby d_method_4_code_72) hr_) ?_
    show GoesW p ee below s _ _ _ _ _ (T46.setTop (mkF m 73 #[.val (.int (3 : Int32)), .val (.int (Int32.ofNat k0)), .val (.int (Int32.ofNat k1)), .val (.int (Int32.ofNat k2)), .val (.int (Int32.ofNat k3))] [(.int (0 : Int32)), (.ref b46), (.ref b46), (.ref b43), (.ref b43)]))
    refine GoesW.step (fun _ hr_ => XS.iloadN X46.here hx rfl (hb hby d_method_4_code_73) rfl  hr_) ?_
    show GoesW p ee below s _ _ _ _ _ (T46.setTop (mkF m 74 #[.val (.int (3 : Int32)), .val (.int (Int32.ofNat k0)), .val (.int (Int32.ofNat k1)), .val (.int (Int32.ofNat k2)), .val (.int (Int32.ofNat k3))] [(.int (Int32.ofNat k0)), (.int (0 : Int32)), (.ref b46), (.ref b46), (.ref b43), (.ref b43)]))
    obtain ⟨T49, h49, X49, e49, W49, A49, st49⟩ := own_stC X46 hx hZ e46 A_b46 (x := (Int32.ofNat k0)) (j := (0 : Int32)) (by decide) (k := 0) rfl (by decide) (g := (mkF m 74 #[.val (.int (3 : Int32)), .val (.int (Int32.ofNat k0)), .val (.int (Int32.ofNat k1)), .val (.int (Int32.ofNat k2)), .val (.int (Int32.ofNat k3))] [(.int (Int32.ofNat k0)), (.int (0 : Int32)), (.ref b46), (.ref b46), (.ref b43), (.ref b43)])) rfl rfl (hb hby d_method_4_code_74)
    refine GoesW.step st49 ?_
    have E_b43 := E_b43.wr W49
    have F_coder_b43 := F_coder_b43.other W49 (Or.inl ne_b43_b46)
    have F_value_b43 := F_value_b43.other W49 (Or.inl ne_b43_b46)
    have Zp50 := Nat.le_trans Zp47 (Keep.of_wr W49).1
    have N51 := Fr.snoc X49 N0 ge_b46
    have sfw := sf_b46
    have sf_b43 := Safe.wr W49 sfw C.chv sf_b43
    have sf_b46 := Safe.wr W49 sfw C.chv sf_b46
    have C := C.wr W49 sfw
    have OO := OO.wr W49 ge_b46
    have K52 := K48.wr W49 (Or.inr sz_b46)
    have A_b46 : OA Z h49 b46 .char 3 (fun i => [(.int (nar .char (Int32.ofNat k0))), (.int 0), (.int 0)].getD i (.int 0)) := A49.congr (fun i hi => by match i, hi with | 0, _ => rfl | 1, _ => rfl | 2, _ => rfl | i + 3, hi => omega)
    show GoesW p ee below s _ _ _ _ _ (T49.setTop (mkF m 75 #[.val (.int (3 : Int32)), .val (.int (Int32.ofNat k0)), .val (.int (Int32.ofNat k1)), .val (.int (Int32.ofNat k2)), .val (.int (Int32.ofNat k3))] [(.ref b46), (.ref b43), (.ref b43)]))
    refine GoesW.step (fun _ hr_ => XS.dup X49.here hx rfl (hb hby d_method_4_code_75) rfl rfl hr_) ?_
    show GoesW p ee below s _ _ _ _ _ (T49.setTop (mkF m 76 #[.val (.int (3 : Int32)), .val (.int (Int32.ofNat k0)), .val (.int (Int32.ofNat k1)), .val (.int (Int32.ofNat k2)), .val (.int (Int32.ofNat k3))] [(.ref b46), (.ref b46), (.ref b43), (.ref b43)]))
    refine GoesW.step (fun _ hr_ => XS.iconst X49.here hx rfl (hb hby d_method_4_code_76) hr_) ?_
    show GoesW p ee below s _ _ _ _ _ (T49.setTop (mkF m 77 #[.val (.int (3 : Int32)), .val (.int (Int32.ofNat k0)), .val (.int (Int32.ofNat k1)), .val (.int (Int32.ofNat k2)), .val (.int (Int32.ofNat k3))] [(.int (1 : Int32)), (.ref b46), (.ref b46), (.ref b43), (.ref b43)]))
    refine GoesW.step (fun _ hr_ => XS.iloadN X49.here hx rfl (hb hby d_method_4_code_77) rfl  hr_) ?_
    show GoesW p ee below s _ _ _ _ _ (T49.setTop (mkF m 78 #[.val (.int (3 : Int32)), .val (.int (Int32.ofNat k0)), .val (.int (Int32.ofNat k1)), .val (.int (Int32.ofNat k2)), .val (.int (Int32.ofNat k3))] [(.int (Int32.ofNat k1)), (.int (1 : Int32)), (.ref b46), (.ref b46), (.ref b43), (.ref b43)]))
    obtain ⟨T53, h53, X53, e53, W53, A53, st53⟩ := own_stC X49 hx hZ e49 A_b46 (x := (Int32.ofNat k1)) (j := (1 : Int32)) (by decide) (k := 1) rfl (by decide) (g := (mkF m 78 #[.val (.int (3 : Int32)), .val (.int (Int32.ofNat k0)), .val (.int (Int32.ofNat k1)), .val (.int (Int32.ofNat k2)), .val (.int (Int32.ofNat k3))] [(.int (Int32.ofNat k1)), (.int (1 : Int32)), (.ref b46), (.ref b46), (.ref b43), (.ref b43)])) rfl rfl (hb hby d_method_4_code_78)
    refine GoesW.step st53 ?_
    have E_b43 := E_b43.wr W53
    have F_coder_b43 := F_coder_b43.other W53 (Or.inl ne_b43_b46)
    have F_value_b43 := F_value_b43.other W53 (Or.inl ne_b43_b46)
    have Zp54 := Nat.le_trans Zp50 (Keep.of_wr W53).1
    have N55 := Fr.snoc X53 N51 ge_b46
    have sfw := sf_b46
    have sf_b43 := Safe.wr W53 sfw C.chv sf_b43
    have sf_b46 := Safe.wr W53 sfw C.chv sf_b46
    have C := C.wr W53 sfw
    have OO := OO.wr W53 ge_b46
    have K56 := K52.wr W53 (Or.inr sz_b46)
    have A_b46 : OA Z h53 b46 .char 3 (fun i => [(.int (nar .char (Int32.ofNat k0))), (.int (nar .char (Int32.ofNat k1))), (.int 0)].getD i (.int 0)) := A53.congr (fun i hi => by match i, hi with | 0, _ => rfl | 1, _ => rfl | 2, _ => rfl | i + 3, hi => omega)
    show GoesW p ee below s _ _ _ _ _ (T53.setTop (mkF m 79 #[.val (.int (3 : Int32)), .val (.int (Int32.ofNat k0)), .val (.int (Int32.ofNat k1)), .val (.int (Int32.ofNat k2)), .val (.int (Int32.ofNat k3))] [(.ref b46), (.ref b43), (.ref b43)]))
    refine GoesW.step (fun _ hr_ => XS.dup X53.here hx rfl (hb hby d_method_4_code_79) rfl rfl hr_) ?_
    show GoesW p ee below s _ _ _ _ _ (T53.setTop (mkF m 80 #[.val (.int (3 : Int32)), .val (.int (Int32.ofNat k0)), .val (.int (Int32.ofNat k1)), .val (.int (Int32.ofNat k2)), .val (.int (Int32.ofNat k3))] [(.ref b46), (.ref b46), (.ref b43), (.ref b43)]))
    refine GoesW.step (fun _ hr_ => XS.iconst X53.here hx rfl (hb hby d_method_4_code_80) hr_) ?_
    show GoesW p ee below s _ _ _ _ _ (T53.setTop (mkF m 81 #[.val (.int (3 : Int32)), .val (.int (Int32.ofNat k0)), .val (.int (Int32.ofNat k1)), .val (.int (Int32.ofNat k2)), .val (.int (Int32.ofNat k3))] [(.int (2 : Int32)), (.ref b46), (.ref b46), (.ref b43), (.ref b43)]))
    refine GoesW.step (fun _ hr_ => XS.iloadN X53.here hx rfl (hb hby d_method_4_code_81) rfl  hr_) ?_
    show GoesW p ee below s _ _ _ _ _ (T53.setTop (mkF m 82 #[.val (.int (3 : Int32)), .val (.int (Int32.ofNat k0)), .val (.int (Int32.ofNat k1)), .val (.int (Int32.ofNat k2)), .val (.int (Int32.ofNat k3))] [(.int (Int32.ofNat k2)), (.int (2 : Int32)), (.ref b46), (.ref b46), (.ref b43), (.ref b43)]))
    obtain ⟨T57, h57, X57, e57, W57, A57, st57⟩ := own_stC X53 hx hZ e53 A_b46 (x := (Int32.ofNat k2)) (j := (2 : Int32)) (by decide) (k := 2) rfl (by decide) (g := (mkF m 82 #[.val (.int (3 : Int32)), .val (.int (Int32.ofNat k0)), .val (.int (Int32.ofNat k1)), .val (.int (Int32.ofNat k2)), .val (.int (Int32.ofNat k3))] [(.int (Int32.ofNat k2)), (.int (2 : Int32)), (.ref b46), (.ref b46), (.ref b43), (.ref b43)])) rfl rfl (hb hby d_method_4_code_82)
    refine GoesW.step st57 ?_
    have E_b43 := E_b43.wr W57
    have F_coder_b43 := F_coder_b43.other W57 (Or.inl ne_b43_b46)
    have F_value_b43 := F_value_b43.other W57 (Or.inl ne_b43_b46)
    have Zp58 := Nat.le_trans Zp54 (Keep.of_wr W57).1
    have N59 := Fr.snoc X57 N55 ge_b46
    have sfw := sf_b46
    have sf_b43 := Safe.wr W57 sfw C.chv sf_b43
    have sf_b46 := Safe.wr W57 sfw C.chv sf_b46
    have C := C.wr W57 sfw
    have OO := OO.wr W57 ge_b46
    have K60 := K56.wr W57 (Or.inr sz_b46)
    have A_b46 : OA Z h57 b46 .char 3 (fun i => [(.int (nar .char (Int32.ofNat k0))), (.int (nar .char (Int32.ofNat k1))), (.int (nar .char (Int32.ofNat k2)))].getD i (.int 0)) := A57.congr (fun i hi => by match i, hi with | 0, _ => rfl | 1, _ => rfl | 2, _ => rfl | i + 3, hi => omega)
    show GoesW p ee below s _ _ _ _ _ (T57.setTop (mkF m 83 #[.val (.int (3 : Int32)), .val (.int (Int32.ofNat k0)), .val (.int (Int32.ofNat k1)), .val (.int (Int32.ofNat k2)), .val (.int (Int32.ofNat k3))] [(.ref b46), (.ref b43), (.ref b43)]))
    have A_b46 : OA Z h57 b46 .char 3 (fun i => .int (Int32.ofNat ((fun j => [k0, k1, k2, k3].getD j 0) i))) := A_b46.congr (fun i hi => by match i, hi with | 0, _ => exact congrArg Value.int (own_charnar k0 (hck 0 (by decide))) | 1, _ => exact congrArg Value.int (own_charnar k1 (hck 1 (by decide))) | 2, _ => exact congrArg Value.int (own_charnar k2 (hck 2 (by decide))) | i + 3, hi => omega)
    have lt_b43 := E_b43.lt
    have lt_b46 := A_b46.lt
    obtain ⟨v61, T61, L61, X61, hQ61, st61⟩ := own_callN X57 hx hZ (y := (⟨"java/lang/String", "<init>", "([C)V"⟩ : MethodName)) rfl hown (hw _ (List.mem_of_getElem? (i := 10) rfl)) (hw _ (List.mem_of_getElem? (i := 11) rfl)) (hw _ (List.mem_of_getElem? (i := 8) rfl)) (hw _ (List.mem_of_getElem? (i := 12) rfl)) (by decide) (a := b43) (argsL := [(.ref b46)]) (rm_sin1 l Z a0 hw [] cs fm b43 b46 3 (fun j => [k0, k1, k2, k3].getD j 0) _ _ h57 n0 Zp58 ST OO (by decide) (by decide) (fun j hj => hck j (by omega)) ge_b43 ne_b43_b46 E_b43 F_value_b43 F_coder_b43 A_b46) e57 (W := 1) (by decide) (by decide) (by decide) (by decide) (g := (mkF m 83 #[.val (.int (3 : Int32)), .val (.int (Int32.ofNat k0)), .val (.int (Int32.ofNat k1)), .val (.int (Int32.ofNat k2)), .val (.int (Int32.ofNat k3))] [(.ref b46), (.ref b43), (.ref b43)])) rfl (by rw [hml]; rfl) (rest := [(.ref b43)]) (lenOf pd_26 rfl) rfl (by show 2 * 0 + _ ≤ _; exact Nat.le_of_eq rfl) (hb hby d_method_4_code_83)
    refine GoesW.step st61 ?_
    obtain ⟨rfl, N61, Kc61, b61, u, sz61, Ei61, Fv61, Fc61, A_b61, hlu, hlu2⟩ := hQ61
    have N62 := Fr.app N59 N61
    obtain ⟨h61, e61⟩ : ∃ h', T61.heap = h' := ⟨_, rfl⟩
    rw [e61] at Kc61 Ei61 Fv61 Fc61 A_b61
    have A_b46 := A_b46.keep Kc61 (ninS (Ne.symm ne_b43_b46) nin0)
    have hsk := (sfS sf_b43 sf0)
    have sf_b43 := Safe.keep Kc61 hsk C.chv sf_b43
    have sf_b46 := Safe.keep Kc61 hsk C.chv sf_b46
    have C := C.keep Kc61 hsk
    have OO := OO.keep Kc61 (allS ge_b43 all0)
    have K63 := K60.trans Kc61 (allS (Or.inr sz_b43) all0)
    have Zp64 := Nat.le_trans Zp58 Kc61.1
    have ge_b61 : n0 ≤ b61 := Nat.le_trans Zp58 sz61
    have sz_b61 : h0.size ≤ b61 := Nat.le_trans K60.1 sz61
    have ne_b43_b61 : b43 ≠ b61 := Nat.ne_of_lt (Nat.lt_of_lt_of_le lt_b43 sz61)
    have ne_b46_b61 : b46 ≠ b61 := Nat.ne_of_lt (Nat.lt_of_lt_of_le lt_b46 sz61)
    show GoesW p ee below s _ _ _ _ _ (T61.setTop (mkF m 86 #[.val (.int (3 : Int32)), .val (.int (Int32.ofNat k0)), .val (.int (Int32.ofNat k1)), .val (.int (Int32.ofNat k2)), .val (.int (Int32.ofNat k3))] [(.ref b43)]))
    refine GoesW.retA X61 hx hZ hEL C e61 Bd.notSynchronized Bd.returns rfl rfl (hb hby d_method_4_code_86) (by decide) (by decide) ?_
    rw [e61]
    exact ⟨b43, b61, u, rfl, N62, K63, Ei61, Fv61, Fc61, A_b61, hlu⟩
  · show GoesW p ee below s _ _ _ _ _ (s₁.setTop (mkF m 0 #[.val (.int (4 : Int32)), .val (.int (Int32.ofNat k0)), .val (.int (Int32.ofNat k1)), .val (.int (Int32.ofNat k2)), .val (.int (Int32.ofNat k3))] []))
    refine GoesW.step (fun _ hr_ => XS.iloadN X0.here hx rfl (hb hby d_method_4_code_0) rfl  hr_) ?_
    show GoesW p ee below s _ _ _ _ _ (s₁.setTop (mkF m 1 #[.val (.int (4 : Int32)), .val (.int (Int32.ofNat k0)), .val (.int (Int32.ofNat k1)), .val (.int (Int32.ofNat k2)), .val (.int (Int32.ofNat k3))] [(.int (4 : Int32))]))
    refine GoesW.step (fun _ hr_ => XS.ifYes X0.here hx rfl (pc0 := 1) (pc' := 15) rfl (hb hby d_method_4_code_1) rfl ((if0 _ _).trans (feq (by decide)).2) (by decide) (by decide) hr_) ?_
    show GoesW p ee below s _ _ _ _ _ (s₁.setTop (mkF m 15 #[.val (.int (4 : Int32)), .val (.int (Int32.ofNat k0)), .val (.int (Int32.ofNat k1)), .val (.int (Int32.ofNat k2)), .val (.int (Int32.ofNat k3))] []))
    refine GoesW.step (fun _ hr_ => XS.iloadN X0.here hx rfl (hb hby d_method_4_code_15) rfl  hr_) ?_
    show GoesW p ee below s _ _ _ _ _ (s₁.setTop (mkF m 16 #[.val (.int (4 : Int32)), .val (.int (Int32.ofNat k0)), .val (.int (Int32.ofNat k1)), .val (.int (Int32.ofNat k2)), .val (.int (Int32.ofNat k3))] [(.int (4 : Int32))]))
    refine GoesW.step (fun _ hr_ => XS.iconst X0.here hx rfl (hb hby d_method_4_code_16) hr_) ?_
    show GoesW p ee below s _ _ _ _ _ (s₁.setTop (mkF m 17 #[.val (.int (4 : Int32)), .val (.int (Int32.ofNat k0)), .val (.int (Int32.ofNat k1)), .val (.int (Int32.ofNat k2)), .val (.int (Int32.ofNat k3))] [(.int (1 : Int32)), (.int (4 : Int32))]))
    refine GoesW.step (fun _ hr_ => XS.icmpYes X0.here hx rfl (pc0 := 17) (pc' := 35) rfl (hb hby d_method_4_code_17) rfl (feq (by decide)).2 (by decide) (by decide) hr_) ?_
    show GoesW p ee below s _ _ _ _ _ (s₁.setTop (mkF m 35 #[.val (.int (4 : Int32)), .val (.int (Int32.ofNat k0)), .val (.int (Int32.ofNat k1)), .val (.int (Int32.ofNat k2)), .val (.int (Int32.ofNat k3))] []))
    refine GoesW.step (fun _ hr_ => XS.iloadN X0.here hx rfl (hb hby d_method_4_code_35) rfl  hr_) ?_
    show GoesW p ee below s _ _ _ _ _ (s₁.setTop (mkF m 36 #[.val (.int (4 : Int32)), .val (.int (Int32.ofNat k0)), .val (.int (Int32.ofNat k1)), .val (.int (Int32.ofNat k2)), .val (.int (Int32.ofNat k3))] [(.int (4 : Int32))]))
    refine GoesW.step (fun _ hr_ => XS.iconst X0.here hx rfl (hb hby d_method_4_code_36) hr_) ?_
    show GoesW p ee below s _ _ _ _ _ (s₁.setTop (mkF m 37 #[.val (.int (4 : Int32)), .val (.int (Int32.ofNat k0)), .val (.int (Int32.ofNat k1)), .val (.int (Int32.ofNat k2)), .val (.int (Int32.ofNat k3))] [(.int (2 : Int32)), (.int (4 : Int32))]))
    refine GoesW.step (fun _ hr_ => XS.icmpYes X0.here hx rfl (pc0 := 37) (pc' := 59) rfl (hb hby d_method_4_code_37) rfl (feq (by decide)).2 (by decide) (by decide) hr_) ?_
    show GoesW p ee below s _ _ _ _ _ (s₁.setTop (mkF m 59 #[.val (.int (4 : Int32)), .val (.int (Int32.ofNat k0)), .val (.int (Int32.ofNat k1)), .val (.int (Int32.ofNat k2)), .val (.int (Int32.ofNat k3))] []))
    refine GoesW.step (fun _ hr_ => XS.iloadN X0.here hx rfl (hb hby d_method_4_code_59) rfl  hr_) ?_
    show GoesW p ee below s _ _ _ _ _ (s₁.setTop (mkF m 60 #[.val (.int (4 : Int32)), .val (.int (Int32.ofNat k0)), .val (.int (Int32.ofNat k1)), .val (.int (Int32.ofNat k2)), .val (.int (Int32.ofNat k3))] [(.int (4 : Int32))]))
    refine GoesW.step (fun _ hr_ => XS.iconst X0.here hx rfl (hb hby d_method_4_code_60) hr_) ?_
    show GoesW p ee below s _ _ _ _ _ (s₁.setTop (mkF m 61 #[.val (.int (4 : Int32)), .val (.int (Int32.ofNat k0)), .val (.int (Int32.ofNat k1)), .val (.int (Int32.ofNat k2)), .val (.int (Int32.ofNat k3))] [(.int (3 : Int32)), (.int (4 : Int32))]))
    refine GoesW.step (fun _ hr_ => XS.icmpYes X0.here hx rfl (pc0 := 61) (pc' := 87) rfl (hb hby d_method_4_code_61) rfl (feq (by decide)).2 (by decide) (by decide) hr_) ?_
    show GoesW p ee below s _ _ _ _ _ (s₁.setTop (mkF m 87 #[.val (.int (4 : Int32)), .val (.int (Int32.ofNat k0)), .val (.int (Int32.ofNat k1)), .val (.int (Int32.ofNat k2)), .val (.int (Int32.ofNat k3))] []))
    obtain ⟨T65, h65, X65, e65, E65, A65, D65, -, st65⟩ := newO X0 hx hZ hown (hw _ (List.mem_of_getElem? (i := 6) rfl)) (hw _ (List.mem_of_getElem? (i := 7) rfl)) (hw _ (List.mem_of_getElem? (i := 8) rfl)) e0 (g := (mkF m 87 #[.val (.int (4 : Int32)), .val (.int (Int32.ofNat k0)), .val (.int (Int32.ofNat k1)), .val (.int (Int32.ofNat k2)), .val (.int (Int32.ofNat k3))] [])) rfl (hb hby d_method_4_code_87) (by decide) (by decide)
    obtain ⟨b65, g_b65⟩ : ∃ z, z = h0.size := ⟨_, rfl⟩
    have ge_b65 : n0 ≤ b65 := Nat.le_trans Z0 (Nat.le_of_eq g_b65.symm)
    have sz_b65 : h0.size ≤ b65 := Nat.le_trans K0.1 (Nat.le_of_eq g_b65.symm)
    rw [← g_b65] at A65 D65 st65
    have Zp66 := Nat.le_trans Z0 E65.1
    have sf_b65 := Safe.ext E65 C.chv (Safe.new (Nat.le_of_eq g_b65.symm))
    have C := C.ext E65
    have OO := OO.ext E65
    have K67 := K0.ext E65
    refine GoesW.step st65 ?_
    have E_b65 := A65
    have F_coder_b65 : Fld Z h65 b65 "java/lang/String" "coder" "B" (.int (0 : Int32)) := D65 (Or.inr (hw _ (List.mem_of_getElem? (i := 33) rfl))) (ty := .byte) (by decide)
    have F_value_b65 : Fld Z h65 b65 "java/lang/String" "value" "[B" .null := D65 (Or.inr (hw _ (List.mem_of_getElem? (i := 35) rfl))) (ty := (.array .byte)) (by decide)
    show GoesW p ee below s _ _ _ _ _ (T65.setTop (mkF m 90 #[.val (.int (4 : Int32)), .val (.int (Int32.ofNat k0)), .val (.int (Int32.ofNat k1)), .val (.int (Int32.ofNat k2)), .val (.int (Int32.ofNat k3))] [(.ref b65)]))
    refine GoesW.step (fun _ hr_ => XS.dup X65.here hx rfl (hb hby d_method_4_code_90) rfl rfl hr_) ?_
    show GoesW p ee below s _ _ _ _ _ (T65.setTop (mkF m 91 #[.val (.int (4 : Int32)), .val (.int (Int32.ofNat k0)), .val (.int (Int32.ofNat k1)), .val (.int (Int32.ofNat k2)), .val (.int (Int32.ofNat k3))] [(.ref b65), (.ref b65)]))
    refine GoesW.step (fun _ hr_ => XS.iconst X65.here hx rfl (hb hby d_method_4_code_91) hr_) ?_
    show GoesW p ee below s _ _ _ _ _ (T65.setTop (mkF m 92 #[.val (.int (4 : Int32)), .val (.int (Int32.ofNat k0)), .val (.int (Int32.ofNat k1)), .val (.int (Int32.ofNat k2)), .val (.int (Int32.ofNat k3))] [(.int (4 : Int32)), (.ref b65), (.ref b65)]))
    obtain ⟨T68, h68, X68, e68, E68, A68, st68⟩ := own_newP X65 hx hZ (aty := .char) (hw _ (List.mem_of_getElem? (i := 9) rfl)) e65 (z := (4 : Int32)) (by decide) (n := 4) rfl (cap := 4) (Nat.le_refl _) (by decide) (by decide) (by decide) (g := (mkF m 92 #[.val (.int (4 : Int32)), .val (.int (Int32.ofNat k0)), .val (.int (Int32.ofNat k1)), .val (.int (Int32.ofNat k2)), .val (.int (Int32.ofNat k3))] [(.int (4 : Int32)), (.ref b65), (.ref b65)])) rfl rfl (hb hby d_method_4_code_92)
    obtain ⟨b68, g_b68⟩ : ∃ z, z = h65.size := ⟨_, rfl⟩
    have ne_b65_b68 : b65 ≠ b68 := Nat.ne_of_lt (Nat.lt_of_lt_of_le E_b65.lt (Nat.le_of_eq g_b68.symm))
    have ge_b68 : n0 ≤ b68 := Nat.le_trans Zp66 (Nat.le_of_eq g_b68.symm)
    have sz_b68 : h0.size ≤ b68 := Nat.le_trans K67.1 (Nat.le_of_eq g_b68.symm)
    rw [← g_b68] at A68 st68
    have E_b65 := E_b65.ext E68
    have F_coder_b65 := F_coder_b65.ext E68
    have F_value_b65 := F_value_b65.ext E68
    have Zp69 := Nat.le_trans Zp66 E68.1
    have sf_b65 := Safe.ext E68 C.chv sf_b65
    have sf_b68 := Safe.ext E68 C.chv (Safe.new (Nat.le_of_eq g_b68.symm))
    have C := C.ext E68
    have OO := OO.ext E68
    have K70 := K67.ext E68
    refine GoesW.step st68 ?_
    have A_b68 : OA Z h68 b68 .char 4 (fun _ => (.int 0)) := A68
    show GoesW p ee below s _ _ _ _ _ (T68.setTop (mkF m 94 #[.val (.int (4 : Int32)), .val (.int (Int32.ofNat k0)), .val (.int (Int32.ofNat k1)), .val (.int (Int32.ofNat k2)), .val (.int (Int32.ofNat k3))] [(.ref b68), (.ref b65), (.ref b65)]))
    refine GoesW.step (fun _ hr_ => XS.dup X68.here hx rfl (hb hby d_method_4_code_94) rfl rfl hr_) ?_
    show GoesW p ee below s _ _ _ _ _ (T68.setTop (mkF m 95 #[.val (.int (4 : Int32)), .val (.int (Int32.ofNat k0)), .val (.int (Int32.ofNat k1)), .val (.int (Int32.ofNat k2)), .val (.int (Int32.ofNat k3))] [(.ref b68), (.ref b68), (.ref b65), (.ref b65)]))
    refine GoesW.step (fun _ hr_ => XS.iconst X68.here hx rfl (hb hby d_method_4_code_95) hr_) ?_
    show GoesW p ee below s _ _ _ _ _ (T68.setTop (mkF m 96 #[.val (.int (4 : Int32)), .val (.int (Int32.ofNat k0)), .val (.int (Int32.ofNat k1)), .val (.int (Int32.ofNat k2)), .val (.int (Int32.ofNat k3))] [(.int (0 : Int32)), (.ref b68), (.ref b68), (.ref b65), (.ref b65)]))
    refine GoesW.step (fun _ hr_ => XS.iloadN X68.here hx rfl (hb hby d_method_4_code_96) rfl  hr_) ?_
    show GoesW p ee below s _ _ _ _ _ (T68.setTop (mkF m 97 #[.val (.int (4 : Int32)), .val (.int (Int32.ofNat k0)), .val (.int (Int32.ofNat k1)), .val (.int (Int32.ofNat k2)), .val (.int (Int32.ofNat k3))] [(.int (Int32.ofNat k0)), (.int (0 : Int32)), (.ref b68), (.ref b68), (.ref b65), (.ref b65)]))
    obtain ⟨T71, h71, X71, e71, W71, A71, st71⟩ := own_stC X68 hx hZ e68 A_b68 (x := (Int32.ofNat k0)) (j := (0 : Int32)) (by decide) (k := 0) rfl (by decide) (g := (mkF m 97 #[.val (.int (4 : Int32)), .val (.int (Int32.ofNat k0)), .val (.int (Int32.ofNat k1)), .val (.int (Int32.ofNat k2)), .val (.int (Int32.ofNat k3))] [(.int (Int32.ofNat k0)), (.int (0 : Int32)), (.ref b68), (.ref b68), (.ref b65), (.ref b65)])) rfl rfl (hb hby d_method_4_code_97)
    refine GoesW.step st71 ?_
    have E_b65 := E_b65.wr W71
    have F_coder_b65 := F_coder_b65.other W71 (Or.inl ne_b65_b68)
    have F_value_b65 := F_value_b65.other W71 (Or.inl ne_b65_b68)
    have Zp72 := Nat.le_trans Zp69 (Keep.of_wr W71).1
    have N73 := Fr.snoc X71 N0 ge_b68
    have sfw := sf_b68
    have sf_b65 := Safe.wr W71 sfw C.chv sf_b65
    have sf_b68 := Safe.wr W71 sfw C.chv sf_b68
    have C := C.wr W71 sfw
    have OO := OO.wr W71 ge_b68
    have K74 := K70.wr W71 (Or.inr sz_b68)
    have A_b68 : OA Z h71 b68 .char 4 (fun i => [(.int (nar .char (Int32.ofNat k0))), (.int 0), (.int 0), (.int 0)].getD i (.int 0)) := A71.congr (fun i hi => by match i, hi with | 0, _ => rfl | 1, _ => rfl | 2, _ => rfl | 3, _ => rfl | i + 4, hi => omega)
    show GoesW p ee below s _ _ _ _ _ (T71.setTop (mkF m 98 #[.val (.int (4 : Int32)), .val (.int (Int32.ofNat k0)), .val (.int (Int32.ofNat k1)), .val (.int (Int32.ofNat k2)), .val (.int (Int32.ofNat k3))] [(.ref b68), (.ref b65), (.ref b65)]))
    refine GoesW.step (fun _ hr_ => XS.dup X71.here hx rfl (hb hby d_method_4_code_98) rfl rfl hr_) ?_
    show GoesW p ee below s _ _ _ _ _ (T71.setTop (mkF m 99 #[.val (.int (4 : Int32)), .val (.int (Int32.ofNat k0)), .val (.int (Int32.ofNat k1)), .val (.int (Int32.ofNat k2)), .val (.int (Int32.ofNat k3))] [(.ref b68), (.ref b68), (.ref b65), (.ref b65)]))
    refine GoesW.step (fun _ hr_ => XS.iconst X71.here hx rfl (hb hby d_method_4_code_99) hr_) ?_
    show GoesW p ee below s _ _ _ _ _ (T71.setTop (mkF m 100 #[.val (.int (4 : Int32)), .val (.int (Int32.ofNat k0)), .val (.int (Int32.ofNat k1)), .val (.int (Int32.ofNat k2)), .val (.int (Int32.ofNat k3))] [(.int (1 : Int32)), (.ref b68), (.ref b68), (.ref b65), (.ref b65)]))
    refine GoesW.step (fun _ hr_ => XS.iloadN X71.here hx rfl (hb hby d_method_4_code_100) rfl  hr_) ?_
    show GoesW p ee below s _ _ _ _ _ (T71.setTop (mkF m 101 #[.val (.int (4 : Int32)), .val (.int (Int32.ofNat k0)), .val (.int (Int32.ofNat k1)), .val (.int (Int32.ofNat k2)), .val (.int (Int32.ofNat k3))] [(.int (Int32.ofNat k1)), (.int (1 : Int32)), (.ref b68), (.ref b68), (.ref b65), (.ref b65)]))
    obtain ⟨T75, h75, X75, e75, W75, A75, st75⟩ := own_stC X71 hx hZ e71 A_b68 (x := (Int32.ofNat k1)) (j := (1 : Int32)) (by decide) (k := 1) rfl (by decide) (g := (mkF m 101 #[.val (.int (4 : Int32)), .val (.int (Int32.ofNat k0)), .val (.int (Int32.ofNat k1)), .val (.int (Int32.ofNat k2)), .val (.int (Int32.ofNat k3))] [(.int (Int32.ofNat k1)), (.int (1 : Int32)), (.ref b68), (.ref b68), (.ref b65), (.ref b65)])) rfl rfl (hb hby d_method_4_code_101)
    refine GoesW.step st75 ?_
    have E_b65 := E_b65.wr W75
    have F_coder_b65 := F_coder_b65.other W75 (Or.inl ne_b65_b68)
    have F_value_b65 := F_value_b65.other W75 (Or.inl ne_b65_b68)
    have Zp76 := Nat.le_trans Zp72 (Keep.of_wr W75).1
    have N77 := Fr.snoc X75 N73 ge_b68
    have sfw := sf_b68
    have sf_b65 := Safe.wr W75 sfw C.chv sf_b65
    have sf_b68 := Safe.wr W75 sfw C.chv sf_b68
    have C := C.wr W75 sfw
    have OO := OO.wr W75 ge_b68
    have K78 := K74.wr W75 (Or.inr sz_b68)
    have A_b68 : OA Z h75 b68 .char 4 (fun i => [(.int (nar .char (Int32.ofNat k0))), (.int (nar .char (Int32.ofNat k1))), (.int 0), (.int 0)].getD i (.int 0)) := A75.congr (fun i hi => by match i, hi with | 0, _ => rfl | 1, _ => rfl | 2, _ => rfl | 3, _ => rfl | i + 4, hi => omega)
    show GoesW p ee below s _ _ _ _ _ (T75.setTop (mkF m 102 #[.val (.int (4 : Int32)), .val (.int (Int32.ofNat k0)), .val (.int (Int32.ofNat k1)), .val (.int (Int32.ofNat k2)), .val (.int (Int32.ofNat k3))] [(.ref b68), (.ref b65), (.ref b65)]))
    refine GoesW.step (fun _ hr_ => XS.dup X75.here hx rfl (hb hby d_method_4_code_102) rfl rfl hr_) ?_
    show GoesW p ee below s _ _ _ _ _ (T75.setTop (mkF m 103 #[.val (.int (4 : Int32)), .val (.int (Int32.ofNat k0)), .val (.int (Int32.ofNat k1)), .val (.int (Int32.ofNat k2)), .val (.int (Int32.ofNat k3))] [(.ref b68), (.ref b68), (.ref b65), (.ref b65)]))
    refine GoesW.step (fun _ hr_ => XS.iconst X75.here hx rfl (hb hby d_method_4_code_103) hr_) ?_
    show GoesW p ee below s _ _ _ _ _ (T75.setTop (mkF m 104 #[.val (.int (4 : Int32)), .val (.int (Int32.ofNat k0)), .val (.int (Int32.ofNat k1)), .val (.int (Int32.ofNat k2)), .val (.int (Int32.ofNat k3))] [(.int (2 : Int32)), (.ref b68), (.ref b68), (.ref b65), (.ref b65)]))
    refine GoesW.step (fun _ hr_ => XS.iloadN X75.here hx rfl (hb hby d_method_4_code_104) rfl  hr_) ?_
    show GoesW p ee below s _ _ _ _ _ (T75.setTop (mkF m 105 #[.val (.int (4 : Int32)), .val (.int (Int32.ofNat k0)), .val (.int (Int32.ofNat k1)), .val (.int (Int32.ofNat k2)), .val (.int (Int32.ofNat k3))] [(.int (Int32.ofNat k2)), (.int (2 : Int32)), (.ref b68), (.ref b68), (.ref b65), (.ref b65)]))
    obtain ⟨T79, h79, X79, e79, W79, A79, st79⟩ := own_stC X75 hx hZ e75 A_b68 (x := (Int32.ofNat k2)) (j := (2 : Int32)) (by decide) (k := 2) rfl (by decide) (g := (mkF m 105 #[.val (.int (4 : Int32)), .val (.int (Int32.ofNat k0)), .val (.int (Int32.ofNat k1)), .val (.int (Int32.ofNat k2)), .val (.int (Int32.ofNat k3))] [(.int (Int32.ofNat k2)), (.int (2 : Int32)), (.ref b68), (.ref b68), (.ref b65), (.ref b65)])) rfl rfl (hb hby d_method_4_code_105)
    refine GoesW.step st79 ?_
    have E_b65 := E_b65.wr W79
    have F_coder_b65 := F_coder_b65.other W79 (Or.inl ne_b65_b68)
    have F_value_b65 := F_value_b65.other W79 (Or.inl ne_b65_b68)
    have Zp80 := Nat.le_trans Zp76 (Keep.of_wr W79).1
    have N81 := Fr.snoc X79 N77 ge_b68
    have sfw := sf_b68
    have sf_b65 := Safe.wr W79 sfw C.chv sf_b65
    have sf_b68 := Safe.wr W79 sfw C.chv sf_b68
    have C := C.wr W79 sfw
    have OO := OO.wr W79 ge_b68
    have K82 := K78.wr W79 (Or.inr sz_b68)
    have A_b68 : OA Z h79 b68 .char 4 (fun i => [(.int (nar .char (Int32.ofNat k0))), (.int (nar .char (Int32.ofNat k1))), (.int (nar .char (Int32.ofNat k2))), (.int 0)].getD i (.int 0)) := A79.congr (fun i hi => by match i, hi with | 0, _ => rfl | 1, _ => rfl | 2, _ => rfl | 3, _ => rfl | i + 4, hi => omega)
    show GoesW p ee below s _ _ _ _ _ (T79.setTop (mkF m 106 #[.val (.int (4 : Int32)), .val (.int (Int32.ofNat k0)), .val (.int (Int32.ofNat k1)), .val (.int (Int32.ofNat k2)), .val (.int (Int32.ofNat k3))] [(.ref b68), (.ref b65), (.ref b65)]))
    refine GoesW.step (fun _ hr_ => XS.dup X79.here hx rfl (hb hby d_method_4_code_106) rfl rfl hr_) ?_
    show GoesW p ee below s _ _ _ _ _ (T79.setTop (mkF m 107 #[.val (.int (4 : Int32)), .val (.int (Int32.ofNat k0)), .val (.int (Int32.ofNat k1)), .val (.int (Int32.ofNat k2)), .val (.int (Int32.ofNat k3))] [(.ref b68), (.ref b68), (.ref b65), (.ref b65)]))
    refine GoesW.step (fun _ hr_ => XS.iconst X79.here hx rfl (hb hby d_method_4_code_107) hr_) ?_
    show GoesW p ee below s _ _ _ _ _ (T79.setTop (mkF m 108 #[.val (.int (4 : Int32)), .val (.int (Int32.ofNat k0)), .val (.int (Int32.ofNat k1)), .val (.int (Int32.ofNat k2)), .val (.int (Int32.ofNat k3))] [(.int (3 : Int32)), (.ref b68), (.ref b68), (.ref b65), (.ref b65)]))
    refine GoesW.step (fun _ hr_ => XS.iload X79.here hx rfl (hb hby d_method_4_code_108) rfl  hr_) ?_
    show GoesW p ee below s _ _ _ _ _ (T79.setTop (mkF m 110 #[.val (.int (4 : Int32)), .val (.int (Int32.ofNat k0)), .val (.int (Int32.ofNat k1)), .val (.int (Int32.ofNat k2)), .val (.int (Int32.ofNat k3))] [(.int (Int32.ofNat k3)), (.int (3 : Int32)), (.ref b68), (.ref b68), (.ref b65), (.ref b65)]))
    obtain ⟨T83, h83, X83, e83, W83, A83, st83⟩ := own_stC X79 hx hZ e79 A_b68 (x := (Int32.ofNat k3)) (j := (3 : Int32)) (by decide) (k := 3) rfl (by decide) (g := (mkF m 110 #[.val (.int (4 : Int32)), .val (.int (Int32.ofNat k0)), .val (.int (Int32.ofNat k1)), .val (.int (Int32.ofNat k2)), .val (.int (Int32.ofNat k3))] [(.int (Int32.ofNat k3)), (.int (3 : Int32)), (.ref b68), (.ref b68), (.ref b65), (.ref b65)])) rfl rfl (hb hby d_method_4_code_110)
    refine GoesW.step st83 ?_
    have E_b65 := E_b65.wr W83
    have F_coder_b65 := F_coder_b65.other W83 (Or.inl ne_b65_b68)
    have F_value_b65 := F_value_b65.other W83 (Or.inl ne_b65_b68)
    have Zp84 := Nat.le_trans Zp80 (Keep.of_wr W83).1
    have N85 := Fr.snoc X83 N81 ge_b68
    have sfw := sf_b68
    have sf_b65 := Safe.wr W83 sfw C.chv sf_b65
    have sf_b68 := Safe.wr W83 sfw C.chv sf_b68
    have C := C.wr W83 sfw
    have OO := OO.wr W83 ge_b68
    have K86 := K82.wr W83 (Or.inr sz_b68)
    have A_b68 : OA Z h83 b68 .char 4 (fun i => [(.int (nar .char (Int32.ofNat k0))), (.int (nar .char (Int32.ofNat k1))), (.int (nar .char (Int32.ofNat k2))), (.int (nar .char (Int32.ofNat k3)))].getD i (.int 0)) := A83.congr (fun i hi => by match i, hi with | 0, _ => rfl | 1, _ => rfl | 2, _ => rfl | 3, _ => rfl | i + 4, hi => omega)
    show GoesW p ee below s _ _ _ _ _ (T83.setTop (mkF m 111 #[.val (.int (4 : Int32)), .val (.int (Int32.ofNat k0)), .val (.int (Int32.ofNat k1)), .val (.int (Int32.ofNat k2)), .val (.int (Int32.ofNat k3))] [(.ref b68), (.ref b65), (.ref b65)]))
    have A_b68 : OA Z h83 b68 .char 4 (fun i => .int (Int32.ofNat ((fun j => [k0, k1, k2, k3].getD j 0) i))) := A_b68.congr (fun i hi => by match i, hi with | 0, _ => exact congrArg Value.int (own_charnar k0 (hck 0 (by decide))) | 1, _ => exact congrArg Value.int (own_charnar k1 (hck 1 (by decide))) | 2, _ => exact congrArg Value.int (own_charnar k2 (hck 2 (by decide))) | 3, _ => exact congrArg Value.int (own_charnar k3 (hck 3 (by decide))) | i + 4, hi => omega)
    have lt_b65 := E_b65.lt
    have lt_b68 := A_b68.lt
    obtain ⟨v87, T87, L87, X87, hQ87, st87⟩ := own_callN X83 hx hZ (y := (⟨"java/lang/String", "<init>", "([C)V"⟩ : MethodName)) rfl hown (hw _ (List.mem_of_getElem? (i := 10) rfl)) (hw _ (List.mem_of_getElem? (i := 11) rfl)) (hw _ (List.mem_of_getElem? (i := 8) rfl)) (hw _ (List.mem_of_getElem? (i := 12) rfl)) (by decide) (a := b65) (argsL := [(.ref b68)]) (rm_sin1 l Z a0 hw [] cs fm b65 b68 4 (fun j => [k0, k1, k2, k3].getD j 0) _ _ h83 n0 Zp84 ST OO (by decide) (by decide) (fun j hj => hck j (by omega)) ge_b65 ne_b65_b68 E_b65 F_value_b65 F_coder_b65 A_b68) e83 (W := 1) (by decide) (by decide) (by decide) (by decide) (g := (mkF m 111 #[.val (.int (4 : Int32)), .val (.int (Int32.ofNat k0)), .val (.int (Int32.ofNat k1)), .val (.int (Int32.ofNat k2)), .val (.int (Int32.ofNat k3))] [(.ref b68), (.ref b65), (.ref b65)])) rfl (by rw [hml]; rfl) (rest := [(.ref b65)]) (lenOf pd_26 rfl) rfl (by show 2 * 0 + _ ≤ _; exact Nat.le_of_eq rfl) (hb hby d_method_4_code_111)
    refine GoesW.step st87 ?_
    obtain ⟨rfl, N87, Kc87, b87, u, sz87, Ei87, Fv87, Fc87, A_b87, hlu, hlu2⟩ := hQ87
    have N88 := Fr.app N85 N87
    obtain ⟨h87, e87⟩ : ∃ h', T87.heap = h' := ⟨_, rfl⟩
    rw [e87] at Kc87 Ei87 Fv87 Fc87 A_b87
    have A_b68 := A_b68.keep Kc87 (ninS (Ne.symm ne_b65_b68) nin0)
    have hsk := (sfS sf_b65 sf0)
    have sf_b65 := Safe.keep Kc87 hsk C.chv sf_b65
    have sf_b68 := Safe.keep Kc87 hsk C.chv sf_b68
    have C := C.keep Kc87 hsk
    have OO := OO.keep Kc87 (allS ge_b65 all0)
    have K89 := K86.trans Kc87 (allS (Or.inr sz_b65) all0)
    have Zp90 := Nat.le_trans Zp84 Kc87.1
    have ge_b87 : n0 ≤ b87 := Nat.le_trans Zp84 sz87
    have sz_b87 : h0.size ≤ b87 := Nat.le_trans K86.1 sz87
    have ne_b65_b87 : b65 ≠ b87 := Nat.ne_of_lt (Nat.lt_of_lt_of_le lt_b65 sz87)
    have ne_b68_b87 : b68 ≠ b87 := Nat.ne_of_lt (Nat.lt_of_lt_of_le lt_b68 sz87)
    show GoesW p ee below s _ _ _ _ _ (T87.setTop (mkF m 114 #[.val (.int (4 : Int32)), .val (.int (Int32.ofNat k0)), .val (.int (Int32.ofNat k1)), .val (.int (Int32.ofNat k2)), .val (.int (Int32.ofNat k3))] [(.ref b65)]))
    refine GoesW.retA X87 hx hZ hEL C e87 Bd.notSynchronized Bd.returns rfl rfl (hb hby d_method_4_code_114) (by decide) (by decide) ?_
    rw [e87]
    exact ⟨b65, b87, u, rfl, N88, K89, Ei87, Fv87, Fc87, A_b87, hlu⟩
theorem ef_law (m : MethodId) (x0 : Int32) (x1 : Int32) (x2 : Int32) (x3 : Int32) (x4 : Int32) : entryFrame m #[(.int x0), (.int x1), (.int x2), (.int x3), (.int x4)] maxLocals = mkF m 0 #[.val (.int x0), .val (.int x1), .val (.int x2), .val (.int x3), .val (.int x4), .unset, .unset, .unset, .unset, .unset, .unset, .unset, .unset, .unset, .unset] [] := by first | (simp [entryFrame, mkF, argsToLocals, Value.category, maxLocals]; done) | rfl
theorem pd_27 : parseMethodDescriptor "(ICCCC)Ljava/lang/String;" = some ⟨[.int, .char, .char, .char, .char], some (.object "java/lang/String")⟩ := by decide +kernel
theorem pd_28 : parseMethodDescriptor "(Ljava/lang/String;)Ljava/lang/String;" = some ⟨[(.object "java/lang/String")], some (.object "java/lang/String")⟩ := by decide +kernel
theorem pd_29 : parseMethodDescriptor "(I)C" = some ⟨[.int], some .char⟩ := by decide +kernel
theorem pd_30 : parseMethodDescriptor "(ICCCC)C" = some ⟨[.int, .char, .char, .char, .char], some .char⟩ := by decide +kernel
def Q_law (Z : State) (p1 p2 p3 p4 p5 : Int32) (cs : Int32) (fm : Value) (h0 : Heap) (n0 : Nat) (v : Option Value) (h : Heap) (L : List Loc) : Prop := v = some (.int 1) ∧ Fr n0 L
set_option maxRecDepth 65536 in
set_option maxHeartbeats 40000000 in
theorem rm_law (l : Launch) (Z : State) (a0 : Array Value) (hw : ∀ d ∈ tables_1, d.before a0 Z = true) (ws : List Jvm.Cond) (p1 p2 p3 p4 p5 : Int32) (cs : Int32) (fm : Value) (h0 : Heap) (n0 : Nat) (Z0 : n0 ≤ h0.size) (ST : own_ST Z cs fm) (OO : Old Z n0 h0)  :
    MetFree l x (head1 (Jvm.Cond.code x code maxLocals ret :: ws) room_1) (fun a U => a = #[(.int p1), (.int p2), (.int p3), (.int p4), (.int p5)] ∧ Z.Warmed39 U.vm ∧ U.heap = h0 ∧ CHv Z consts_1 U.vm h0 ∧ ∀ x ∈ ([] : List Addr), Safe Z consts_1 U.vm h0 x) (fun _ _ _ _ _ => True) (fun _ U o U' => ∃ v L, o = .returned v ∧ Q_law Z p1 p2 p3 p4 p5 cs fm h0 n0 v U'.heap L ∧ CHr Z consts_1 U.vm U.heap U'.vm U'.heap ∧ ReturnedEndW U o U' L room_1.cells room_1.slots) := by
  refine MetFree.of_bodySF (plainFor_of_name pn_com_example_hansou_hansou_SpanOfPinLaw) hisR ?_
  intro p ee s m args below meth cc s₁ Bd hml0 hP hK
  obtain ⟨rfl, hZ, hh, H, hsf⟩ := hP
  have hx := Bd.exec
  have hby := Bd.bytes
  have hml : cc.maxLocals = 15 := hml0
  have hown : (s.setVm s.vm).vm.findClass "com/example/hansou/hansou/SpanOfPinLaw" = some m.cls := findClass_of_methodNamed Bd.named
  have hnm := (name_of_methodNamed Bd.named Bd.method).1
  have X0 : Stand p l ee room_1 (s.setVm s.vm) m #[(.int p1), (.int p2), (.int p3), (.int p4), (.int p5)] below meth cc s₁ [] 0 0 := Stand.of_body Bd
  have e0 : s₁.heap = h0 := by rw [← hh, Bd.state]; rfl
  have N0 := Fr.nil n0
  have hEL := own_EW hw
  have hZ : Z.Warmed39 (s.setVm s.vm).vm := hZ
  have C : Cold Z consts_1 s s.vm h0 := by rw [← hh]; exact Cold.start (by rw [hh]; exact H)
  show GoesW p ee below s room_1.cells room_1.slots Z consts_1 (Q_law Z p1 p2 p3 p4 p5 cs fm h0 n0) (s₁.setTop (entryFrame m #[(.int p1), (.int p2), (.int p3), (.int p4), (.int p5)] maxLocals))
  refine GoesW.step (fun _ hr_ => castTop (ef_law m p1 p2 p3 p4 p5) hr_) ?_
  show GoesW p ee below s _ _ _ _ _ (s₁.setTop (mkF m 0 #[.val (.int p1), .val (.int p2), .val (.int p3), .val (.int p4), .val (.int p5), .unset, .unset, .unset, .unset, .unset, .unset, .unset, .unset, .unset, .unset] []))
  refine GoesW.step (fun _ hr_ => XS.iloadN X0.here hx rfl (hb hby at_0) rfl  hr_) ?_
  show GoesW p ee below s _ _ _ _ _ (s₁.setTop (mkF m 1 #[.val (.int p1), .val (.int p2), .val (.int p3), .val (.int p4), .val (.int p5), .unset, .unset, .unset, .unset, .unset, .unset, .unset, .unset, .unset, .unset] [(.int p1)]))
  refine GoesW.step (X0.ldcInt hx hown (mvT hZ (hw _ (List.mem_of_getElem? (i := 0) rfl))) (g := (mkF m 1 #[.val (.int p1), .val (.int p2), .val (.int p3), .val (.int p4), .val (.int p5), .unset, .unset, .unset, .unset, .unset, .unset, .unset, .unset, .unset, .unset] [(.int p1)])) rfl (hb hby at_1)) ?_
  show GoesW p ee below s _ _ _ _ _ (s₁.setTop (mkF m 3 #[.val (.int p1), .val (.int p2), .val (.int p3), .val (.int p4), .val (.int p5), .unset, .unset, .unset, .unset, .unset, .unset, .unset, .unset, .unset, .unset] [(.int (65535 : Int32)), (.int p1)]))
  refine GoesW.step (fun _ hr_ => XS.iand X0.here hx rfl (hb hby at_3) rfl hr_) ?_
  show GoesW p ee below s _ _ _ _ _ (s₁.setTop (mkF m 4 #[.val (.int p1), .val (.int p2), .val (.int p3), .val (.int p4), .val (.int p5), .unset, .unset, .unset, .unset, .unset, .unset, .unset, .unset, .unset, .unset] [(.int (p1 &&& (65535 : Int32)))]))
  refine GoesW.step (fun _ hr_ => XT.i2c X0.here hx rfl (hb hby at_4) rfl hr_) ?_
  show GoesW p ee below s _ _ _ _ _ (s₁.setTop (mkF m 5 #[.val (.int p1), .val (.int p2), .val (.int p3), .val (.int p4), .val (.int p5), .unset, .unset, .unset, .unset, .unset, .unset, .unset, .unset, .unset, .unset] [(.int (p1 &&& (65535 : Int32)).toUInt32.toUInt16.toUInt32.toInt32)]))
  obtain ⟨k0, hk0, ek0⟩ := own_char (p1 &&& (65535 : Int32))
  rw [ek0]
  show GoesW p ee below s _ _ _ _ _ (s₁.setTop (mkF m 5 #[.val (.int p1), .val (.int p2), .val (.int p3), .val (.int p4), .val (.int p5), .unset, .unset, .unset, .unset, .unset, .unset, .unset, .unset, .unset, .unset] [(.int (Int32.ofNat k0))]))
  refine GoesW.step (fun _ hr_ => XS.istore X0.here hx rfl (hb hby at_5) rfl  (l' := #[.val (.int p1), .val (.int p2), .val (.int p3), .val (.int p4), .val (.int p5), .val (.int (Int32.ofNat k0)), .unset, .unset, .unset, .unset, .unset, .unset, .unset, .unset, .unset]) rfl hr_) ?_
  show GoesW p ee below s _ _ _ _ _ (s₁.setTop (mkF m 7 #[.val (.int p1), .val (.int p2), .val (.int p3), .val (.int p4), .val (.int p5), .val (.int (Int32.ofNat k0)), .unset, .unset, .unset, .unset, .unset, .unset, .unset, .unset, .unset] []))
  refine GoesW.step (fun _ hr_ => XS.iloadN X0.here hx rfl (hb hby at_7) rfl  hr_) ?_
  show GoesW p ee below s _ _ _ _ _ (s₁.setTop (mkF m 8 #[.val (.int p1), .val (.int p2), .val (.int p3), .val (.int p4), .val (.int p5), .val (.int (Int32.ofNat k0)), .unset, .unset, .unset, .unset, .unset, .unset, .unset, .unset, .unset] [(.int p1)]))
  refine GoesW.step (fun _ hr_ => XS.bipush X0.here hx rfl (hb hby at_8) hr_) ?_
  show GoesW p ee below s _ _ _ _ _ (s₁.setTop (mkF m 10 #[.val (.int p1), .val (.int p2), .val (.int p3), .val (.int p4), .val (.int p5), .val (.int (Int32.ofNat k0)), .unset, .unset, .unset, .unset, .unset, .unset, .unset, .unset, .unset] [(.int (16 : Int32)), (.int p1)]))
  refine GoesW.step (fun _ hr_ => XT.iushr X0.here hx rfl (hb hby at_10) rfl hr_) ?_
  show GoesW p ee below s _ _ _ _ _ (s₁.setTop (mkF m 11 #[.val (.int p1), .val (.int p2), .val (.int p3), .val (.int p4), .val (.int p5), .val (.int (Int32.ofNat k0)), .unset, .unset, .unset, .unset, .unset, .unset, .unset, .unset, .unset] [(.int (XT.ushr p1 (16 : Int32)))]))
  refine GoesW.step (X0.ldcInt hx hown (mvT hZ (hw _ (List.mem_of_getElem? (i := 0) rfl))) (g := (mkF m 11 #[.val (.int p1), .val (.int p2), .val (.int p3), .val (.int p4), .val (.int p5), .val (.int (Int32.ofNat k0)), .unset, .unset, .unset, .unset, .unset, .unset, .unset, .unset, .unset] [(.int (XT.ushr p1 (16 : Int32)))])) rfl (hb hby at_11)) ?_
  show GoesW p ee below s _ _ _ _ _ (s₁.setTop (mkF m 13 #[.val (.int p1), .val (.int p2), .val (.int p3), .val (.int p4), .val (.int p5), .val (.int (Int32.ofNat k0)), .unset, .unset, .unset, .unset, .unset, .unset, .unset, .unset, .unset] [(.int (65535 : Int32)), (.int (XT.ushr p1 (16 : Int32)))]))
  refine GoesW.step (fun _ hr_ => XS.iand X0.here hx rfl (hb hby at_13) rfl hr_) ?_
  show GoesW p ee below s _ _ _ _ _ (s₁.setTop (mkF m 14 #[.val (.int p1), .val (.int p2), .val (.int p3), .val (.int p4), .val (.int p5), .val (.int (Int32.ofNat k0)), .unset, .unset, .unset, .unset, .unset, .unset, .unset, .unset, .unset] [(.int ((XT.ushr p1 (16 : Int32)) &&& (65535 : Int32)))]))
  refine GoesW.step (fun _ hr_ => XT.i2c X0.here hx rfl (hb hby at_14) rfl hr_) ?_
  show GoesW p ee below s _ _ _ _ _ (s₁.setTop (mkF m 15 #[.val (.int p1), .val (.int p2), .val (.int p3), .val (.int p4), .val (.int p5), .val (.int (Int32.ofNat k0)), .unset, .unset, .unset, .unset, .unset, .unset, .unset, .unset, .unset] [(.int ((XT.ushr p1 (16 : Int32)) &&& (65535 : Int32)).toUInt32.toUInt16.toUInt32.toInt32)]))
  obtain ⟨k1, hk1, ek1⟩ := own_char ((XT.ushr p1 (16 : Int32)) &&& (65535 : Int32))
  rw [ek1]
  show GoesW p ee below s _ _ _ _ _ (s₁.setTop (mkF m 15 #[.val (.int p1), .val (.int p2), .val (.int p3), .val (.int p4), .val (.int p5), .val (.int (Int32.ofNat k0)), .unset, .unset, .unset, .unset, .unset, .unset, .unset, .unset, .unset] [(.int (Int32.ofNat k1))]))
  refine GoesW.step (fun _ hr_ => XS.istore X0.here hx rfl (hb hby at_15) rfl  (l' := #[.val (.int p1), .val (.int p2), .val (.int p3), .val (.int p4), .val (.int p5), .val (.int (Int32.ofNat k0)), .val (.int (Int32.ofNat k1)), .unset, .unset, .unset, .unset, .unset, .unset, .unset, .unset]) rfl hr_) ?_
  show GoesW p ee below s _ _ _ _ _ (s₁.setTop (mkF m 17 #[.val (.int p1), .val (.int p2), .val (.int p3), .val (.int p4), .val (.int p5), .val (.int (Int32.ofNat k0)), .val (.int (Int32.ofNat k1)), .unset, .unset, .unset, .unset, .unset, .unset, .unset, .unset] []))
  refine GoesW.step (fun _ hr_ => XS.iloadN X0.here hx rfl (hb hby at_17) rfl  hr_) ?_
  show GoesW p ee below s _ _ _ _ _ (s₁.setTop (mkF m 18 #[.val (.int p1), .val (.int p2), .val (.int p3), .val (.int p4), .val (.int p5), .val (.int (Int32.ofNat k0)), .val (.int (Int32.ofNat k1)), .unset, .unset, .unset, .unset, .unset, .unset, .unset, .unset] [(.int p2)]))
  refine GoesW.step (X0.ldcInt hx hown (mvT hZ (hw _ (List.mem_of_getElem? (i := 0) rfl))) (g := (mkF m 18 #[.val (.int p1), .val (.int p2), .val (.int p3), .val (.int p4), .val (.int p5), .val (.int (Int32.ofNat k0)), .val (.int (Int32.ofNat k1)), .unset, .unset, .unset, .unset, .unset, .unset, .unset, .unset] [(.int p2)])) rfl (hb hby at_18)) ?_
  show GoesW p ee below s _ _ _ _ _ (s₁.setTop (mkF m 20 #[.val (.int p1), .val (.int p2), .val (.int p3), .val (.int p4), .val (.int p5), .val (.int (Int32.ofNat k0)), .val (.int (Int32.ofNat k1)), .unset, .unset, .unset, .unset, .unset, .unset, .unset, .unset] [(.int (65535 : Int32)), (.int p2)]))
  refine GoesW.step (fun _ hr_ => XS.iand X0.here hx rfl (hb hby at_20) rfl hr_) ?_
  show GoesW p ee below s _ _ _ _ _ (s₁.setTop (mkF m 21 #[.val (.int p1), .val (.int p2), .val (.int p3), .val (.int p4), .val (.int p5), .val (.int (Int32.ofNat k0)), .val (.int (Int32.ofNat k1)), .unset, .unset, .unset, .unset, .unset, .unset, .unset, .unset] [(.int (p2 &&& (65535 : Int32)))]))
  refine GoesW.step (fun _ hr_ => XT.i2c X0.here hx rfl (hb hby at_21) rfl hr_) ?_
  show GoesW p ee below s _ _ _ _ _ (s₁.setTop (mkF m 22 #[.val (.int p1), .val (.int p2), .val (.int p3), .val (.int p4), .val (.int p5), .val (.int (Int32.ofNat k0)), .val (.int (Int32.ofNat k1)), .unset, .unset, .unset, .unset, .unset, .unset, .unset, .unset] [(.int (p2 &&& (65535 : Int32)).toUInt32.toUInt16.toUInt32.toInt32)]))
  obtain ⟨k2, hk2, ek2⟩ := own_char (p2 &&& (65535 : Int32))
  rw [ek2]
  show GoesW p ee below s _ _ _ _ _ (s₁.setTop (mkF m 22 #[.val (.int p1), .val (.int p2), .val (.int p3), .val (.int p4), .val (.int p5), .val (.int (Int32.ofNat k0)), .val (.int (Int32.ofNat k1)), .unset, .unset, .unset, .unset, .unset, .unset, .unset, .unset] [(.int (Int32.ofNat k2))]))
  refine GoesW.step (fun _ hr_ => XS.istore X0.here hx rfl (hb hby at_22) rfl  (l' := #[.val (.int p1), .val (.int p2), .val (.int p3), .val (.int p4), .val (.int p5), .val (.int (Int32.ofNat k0)), .val (.int (Int32.ofNat k1)), .val (.int (Int32.ofNat k2)), .unset, .unset, .unset, .unset, .unset, .unset, .unset]) rfl hr_) ?_
  show GoesW p ee below s _ _ _ _ _ (s₁.setTop (mkF m 24 #[.val (.int p1), .val (.int p2), .val (.int p3), .val (.int p4), .val (.int p5), .val (.int (Int32.ofNat k0)), .val (.int (Int32.ofNat k1)), .val (.int (Int32.ofNat k2)), .unset, .unset, .unset, .unset, .unset, .unset, .unset] []))
  refine GoesW.step (fun _ hr_ => XS.iloadN X0.here hx rfl (hb hby at_24) rfl  hr_) ?_
  show GoesW p ee below s _ _ _ _ _ (s₁.setTop (mkF m 25 #[.val (.int p1), .val (.int p2), .val (.int p3), .val (.int p4), .val (.int p5), .val (.int (Int32.ofNat k0)), .val (.int (Int32.ofNat k1)), .val (.int (Int32.ofNat k2)), .unset, .unset, .unset, .unset, .unset, .unset, .unset] [(.int p2)]))
  refine GoesW.step (fun _ hr_ => XS.bipush X0.here hx rfl (hb hby at_25) hr_) ?_
  show GoesW p ee below s _ _ _ _ _ (s₁.setTop (mkF m 27 #[.val (.int p1), .val (.int p2), .val (.int p3), .val (.int p4), .val (.int p5), .val (.int (Int32.ofNat k0)), .val (.int (Int32.ofNat k1)), .val (.int (Int32.ofNat k2)), .unset, .unset, .unset, .unset, .unset, .unset, .unset] [(.int (16 : Int32)), (.int p2)]))
  refine GoesW.step (fun _ hr_ => XT.iushr X0.here hx rfl (hb hby at_27) rfl hr_) ?_
  show GoesW p ee below s _ _ _ _ _ (s₁.setTop (mkF m 28 #[.val (.int p1), .val (.int p2), .val (.int p3), .val (.int p4), .val (.int p5), .val (.int (Int32.ofNat k0)), .val (.int (Int32.ofNat k1)), .val (.int (Int32.ofNat k2)), .unset, .unset, .unset, .unset, .unset, .unset, .unset] [(.int (XT.ushr p2 (16 : Int32)))]))
  refine GoesW.step (X0.ldcInt hx hown (mvT hZ (hw _ (List.mem_of_getElem? (i := 0) rfl))) (g := (mkF m 28 #[.val (.int p1), .val (.int p2), .val (.int p3), .val (.int p4), .val (.int p5), .val (.int (Int32.ofNat k0)), .val (.int (Int32.ofNat k1)), .val (.int (Int32.ofNat k2)), .unset, .unset, .unset, .unset, .unset, .unset, .unset] [(.int (XT.ushr p2 (16 : Int32)))])) rfl (hb hby at_28)) ?_
  show GoesW p ee below s _ _ _ _ _ (s₁.setTop (mkF m 30 #[.val (.int p1), .val (.int p2), .val (.int p3), .val (.int p4), .val (.int p5), .val (.int (Int32.ofNat k0)), .val (.int (Int32.ofNat k1)), .val (.int (Int32.ofNat k2)), .unset, .unset, .unset, .unset, .unset, .unset, .unset] [(.int (65535 : Int32)), (.int (XT.ushr p2 (16 : Int32)))]))
  refine GoesW.step (fun _ hr_ => XS.iand X0.here hx rfl (hb hby at_30) rfl hr_) ?_
  show GoesW p ee below s _ _ _ _ _ (s₁.setTop (mkF m 31 #[.val (.int p1), .val (.int p2), .val (.int p3), .val (.int p4), .val (.int p5), .val (.int (Int32.ofNat k0)), .val (.int (Int32.ofNat k1)), .val (.int (Int32.ofNat k2)), .unset, .unset, .unset, .unset, .unset, .unset, .unset] [(.int ((XT.ushr p2 (16 : Int32)) &&& (65535 : Int32)))]))
  refine GoesW.step (fun _ hr_ => XT.i2c X0.here hx rfl (hb hby at_31) rfl hr_) ?_
  show GoesW p ee below s _ _ _ _ _ (s₁.setTop (mkF m 32 #[.val (.int p1), .val (.int p2), .val (.int p3), .val (.int p4), .val (.int p5), .val (.int (Int32.ofNat k0)), .val (.int (Int32.ofNat k1)), .val (.int (Int32.ofNat k2)), .unset, .unset, .unset, .unset, .unset, .unset, .unset] [(.int ((XT.ushr p2 (16 : Int32)) &&& (65535 : Int32)).toUInt32.toUInt16.toUInt32.toInt32)]))
  obtain ⟨k3, hk3, ek3⟩ := own_char ((XT.ushr p2 (16 : Int32)) &&& (65535 : Int32))
  rw [ek3]
  show GoesW p ee below s _ _ _ _ _ (s₁.setTop (mkF m 32 #[.val (.int p1), .val (.int p2), .val (.int p3), .val (.int p4), .val (.int p5), .val (.int (Int32.ofNat k0)), .val (.int (Int32.ofNat k1)), .val (.int (Int32.ofNat k2)), .unset, .unset, .unset, .unset, .unset, .unset, .unset] [(.int (Int32.ofNat k3))]))
  refine GoesW.step (fun _ hr_ => XS.istore X0.here hx rfl (hb hby at_32) rfl  (l' := #[.val (.int p1), .val (.int p2), .val (.int p3), .val (.int p4), .val (.int p5), .val (.int (Int32.ofNat k0)), .val (.int (Int32.ofNat k1)), .val (.int (Int32.ofNat k2)), .val (.int (Int32.ofNat k3)), .unset, .unset, .unset, .unset, .unset, .unset]) rfl hr_) ?_
  show GoesW p ee below s _ _ _ _ _ (s₁.setTop (mkF m 34 #[.val (.int p1), .val (.int p2), .val (.int p3), .val (.int p4), .val (.int p5), .val (.int (Int32.ofNat k0)), .val (.int (Int32.ofNat k1)), .val (.int (Int32.ofNat k2)), .val (.int (Int32.ofNat k3)), .unset, .unset, .unset, .unset, .unset, .unset] []))
  refine GoesW.step (fun _ hr_ => XS.iloadN X0.here hx rfl (hb hby at_34) rfl  hr_) ?_
  show GoesW p ee below s _ _ _ _ _ (s₁.setTop (mkF m 35 #[.val (.int p1), .val (.int p2), .val (.int p3), .val (.int p4), .val (.int p5), .val (.int (Int32.ofNat k0)), .val (.int (Int32.ofNat k1)), .val (.int (Int32.ofNat k2)), .val (.int (Int32.ofNat k3)), .unset, .unset, .unset, .unset, .unset, .unset] [(.int p3)]))
  refine GoesW.step (X0.ldcInt hx hown (mvT hZ (hw _ (List.mem_of_getElem? (i := 1) rfl))) (g := (mkF m 35 #[.val (.int p1), .val (.int p2), .val (.int p3), .val (.int p4), .val (.int p5), .val (.int (Int32.ofNat k0)), .val (.int (Int32.ofNat k1)), .val (.int (Int32.ofNat k2)), .val (.int (Int32.ofNat k3)), .unset, .unset, .unset, .unset, .unset, .unset] [(.int p3)])) rfl (hb hby at_35)) ?_
  show GoesW p ee below s _ _ _ _ _ (s₁.setTop (mkF m 37 #[.val (.int p1), .val (.int p2), .val (.int p3), .val (.int p4), .val (.int p5), .val (.int (Int32.ofNat k0)), .val (.int (Int32.ofNat k1)), .val (.int (Int32.ofNat k2)), .val (.int (Int32.ofNat k3)), .unset, .unset, .unset, .unset, .unset, .unset] [(.int (2147483647 : Int32)), (.int p3)]))
  refine GoesW.step (fun _ hr_ => XS.iand X0.here hx rfl (hb hby at_37) rfl hr_) ?_
  show GoesW p ee below s _ _ _ _ _ (s₁.setTop (mkF m 38 #[.val (.int p1), .val (.int p2), .val (.int p3), .val (.int p4), .val (.int p5), .val (.int (Int32.ofNat k0)), .val (.int (Int32.ofNat k1)), .val (.int (Int32.ofNat k2)), .val (.int (Int32.ofNat k3)), .unset, .unset, .unset, .unset, .unset, .unset] [(.int (p3 &&& (2147483647 : Int32)))]))
  refine GoesW.step (fun _ hr_ => XS.iconst X0.here hx rfl (hb hby at_38) hr_) ?_
  show GoesW p ee below s _ _ _ _ _ (s₁.setTop (mkF m 39 #[.val (.int p1), .val (.int p2), .val (.int p3), .val (.int p4), .val (.int p5), .val (.int (Int32.ofNat k0)), .val (.int (Int32.ofNat k1)), .val (.int (Int32.ofNat k2)), .val (.int (Int32.ofNat k3)), .unset, .unset, .unset, .unset, .unset, .unset] [(.int (5 : Int32)), (.int (p3 &&& (2147483647 : Int32)))]))
  refine GoesW.step (fun _ hr_ => iremM (g := (mkF m 39 #[.val (.int p1), .val (.int p2), .val (.int p3), .val (.int p4), .val (.int p5), .val (.int (Int32.ofNat k0)), .val (.int (Int32.ofNat k1)), .val (.int (Int32.ofNat k2)), .val (.int (Int32.ofNat k3)), .unset, .unset, .unset, .unset, .unset, .unset] [(.int (5 : Int32)), (.int (p3 &&& (2147483647 : Int32)))])) X0 hx rfl (hb hby at_39) rfl (by decide) hr_) ?_
  show GoesW p ee below s _ _ _ _ _ (s₁.setTop (mkF m 40 #[.val (.int p1), .val (.int p2), .val (.int p3), .val (.int p4), .val (.int p5), .val (.int (Int32.ofNat k0)), .val (.int (Int32.ofNat k1)), .val (.int (Int32.ofNat k2)), .val (.int (Int32.ofNat k3)), .unset, .unset, .unset, .unset, .unset, .unset] [(.int ((p3 &&& (2147483647 : Int32)) % (5 : Int32)))]))
  obtain ⟨n, hn5, en⟩ := own_small p3 5 (by decide) (by decide)
  have hn4 : n ≤ 4 := by omega
  rw [show (p3 &&& (2147483647 : Int32)) % (5 : Int32) = Int32.ofNat n from en]
  have hck : ∀ j, j < 4 → [k0, k1, k2, k3].getD j 0 < 65536 := fun j hj => by match j, hj with | 0, _ => exact hk0 | 1, _ => exact hk1 | 2, _ => exact hk2 | 3, _ => exact hk3 | j + 4, hj => omega
  show GoesW p ee below s _ _ _ _ _ (s₁.setTop (mkF m 40 #[.val (.int p1), .val (.int p2), .val (.int p3), .val (.int p4), .val (.int p5), .val (.int (Int32.ofNat k0)), .val (.int (Int32.ofNat k1)), .val (.int (Int32.ofNat k2)), .val (.int (Int32.ofNat k3)), .unset, .unset, .unset, .unset, .unset, .unset] [(.int (Int32.ofNat n))]))
  refine GoesW.step (fun _ hr_ => XS.istore X0.here hx rfl (hb hby at_40) rfl  (l' := #[.val (.int p1), .val (.int p2), .val (.int p3), .val (.int p4), .val (.int p5), .val (.int (Int32.ofNat k0)), .val (.int (Int32.ofNat k1)), .val (.int (Int32.ofNat k2)), .val (.int (Int32.ofNat k3)), .val (.int (Int32.ofNat n)), .unset, .unset, .unset, .unset, .unset]) rfl hr_) ?_
  show GoesW p ee below s _ _ _ _ _ (s₁.setTop (mkF m 42 #[.val (.int p1), .val (.int p2), .val (.int p3), .val (.int p4), .val (.int p5), .val (.int (Int32.ofNat k0)), .val (.int (Int32.ofNat k1)), .val (.int (Int32.ofNat k2)), .val (.int (Int32.ofNat k3)), .val (.int (Int32.ofNat n)), .unset, .unset, .unset, .unset, .unset] []))
  refine GoesW.step (fun _ hr_ => XS.iloadN X0.here hx rfl (hb hby at_42) rfl  hr_) ?_
  show GoesW p ee below s _ _ _ _ _ (s₁.setTop (mkF m 43 #[.val (.int p1), .val (.int p2), .val (.int p3), .val (.int p4), .val (.int p5), .val (.int (Int32.ofNat k0)), .val (.int (Int32.ofNat k1)), .val (.int (Int32.ofNat k2)), .val (.int (Int32.ofNat k3)), .val (.int (Int32.ofNat n)), .unset, .unset, .unset, .unset, .unset] [(.int p4)]))
  refine GoesW.step (X0.ldcInt hx hown (mvT hZ (hw _ (List.mem_of_getElem? (i := 1) rfl))) (g := (mkF m 43 #[.val (.int p1), .val (.int p2), .val (.int p3), .val (.int p4), .val (.int p5), .val (.int (Int32.ofNat k0)), .val (.int (Int32.ofNat k1)), .val (.int (Int32.ofNat k2)), .val (.int (Int32.ofNat k3)), .val (.int (Int32.ofNat n)), .unset, .unset, .unset, .unset, .unset] [(.int p4)])) rfl (hb hby at_43)) ?_
  show GoesW p ee below s _ _ _ _ _ (s₁.setTop (mkF m 45 #[.val (.int p1), .val (.int p2), .val (.int p3), .val (.int p4), .val (.int p5), .val (.int (Int32.ofNat k0)), .val (.int (Int32.ofNat k1)), .val (.int (Int32.ofNat k2)), .val (.int (Int32.ofNat k3)), .val (.int (Int32.ofNat n)), .unset, .unset, .unset, .unset, .unset] [(.int (2147483647 : Int32)), (.int p4)]))
  refine GoesW.step (fun _ hr_ => XS.iand X0.here hx rfl (hb hby at_45) rfl hr_) ?_
  show GoesW p ee below s _ _ _ _ _ (s₁.setTop (mkF m 46 #[.val (.int p1), .val (.int p2), .val (.int p3), .val (.int p4), .val (.int p5), .val (.int (Int32.ofNat k0)), .val (.int (Int32.ofNat k1)), .val (.int (Int32.ofNat k2)), .val (.int (Int32.ofNat k3)), .val (.int (Int32.ofNat n)), .unset, .unset, .unset, .unset, .unset] [(.int (p4 &&& (2147483647 : Int32)))]))
  refine GoesW.step (fun _ hr_ => XS.iload X0.here hx rfl (hb hby at_46) rfl  hr_) ?_
  show GoesW p ee below s _ _ _ _ _ (s₁.setTop (mkF m 48 #[.val (.int p1), .val (.int p2), .val (.int p3), .val (.int p4), .val (.int p5), .val (.int (Int32.ofNat k0)), .val (.int (Int32.ofNat k1)), .val (.int (Int32.ofNat k2)), .val (.int (Int32.ofNat k3)), .val (.int (Int32.ofNat n)), .unset, .unset, .unset, .unset, .unset] [(.int (Int32.ofNat n)), (.int (p4 &&& (2147483647 : Int32)))]))
  refine GoesW.step (fun _ hr_ => XS.iconst X0.here hx rfl (hb hby at_48) hr_) ?_
  show GoesW p ee below s _ _ _ _ _ (s₁.setTop (mkF m 49 #[.val (.int p1), .val (.int p2), .val (.int p3), .val (.int p4), .val (.int p5), .val (.int (Int32.ofNat k0)), .val (.int (Int32.ofNat k1)), .val (.int (Int32.ofNat k2)), .val (.int (Int32.ofNat k3)), .val (.int (Int32.ofNat n)), .unset, .unset, .unset, .unset, .unset] [(.int (1 : Int32)), (.int (Int32.ofNat n)), (.int (p4 &&& (2147483647 : Int32)))]))
  refine GoesW.step (fun _ hr_ => XS.iadd X0.here hx rfl (hb hby at_49) rfl hr_) ?_
  show GoesW p ee below s _ _ _ _ _ (s₁.setTop (mkF m 50 #[.val (.int p1), .val (.int p2), .val (.int p3), .val (.int p4), .val (.int p5), .val (.int (Int32.ofNat k0)), .val (.int (Int32.ofNat k1)), .val (.int (Int32.ofNat k2)), .val (.int (Int32.ofNat k3)), .val (.int (Int32.ofNat n)), .unset, .unset, .unset, .unset, .unset] [(.int ((Int32.ofNat n) + (1 : Int32))), (.int (p4 &&& (2147483647 : Int32)))]))
  rw [show Int32.ofNat n + (1 : Int32) = Int32.ofNat (n + 1) from own_addN n 1]
  show GoesW p ee below s _ _ _ _ _ (s₁.setTop (mkF m 50 #[.val (.int p1), .val (.int p2), .val (.int p3), .val (.int p4), .val (.int p5), .val (.int (Int32.ofNat k0)), .val (.int (Int32.ofNat k1)), .val (.int (Int32.ofNat k2)), .val (.int (Int32.ofNat k3)), .val (.int (Int32.ofNat n)), .unset, .unset, .unset, .unset, .unset] [(.int (Int32.ofNat (n + 1))), (.int (p4 &&& (2147483647 : Int32)))]))
  refine GoesW.step (fun _ hr_ => iremM (g := (mkF m 50 #[.val (.int p1), .val (.int p2), .val (.int p3), .val (.int p4), .val (.int p5), .val (.int (Int32.ofNat k0)), .val (.int (Int32.ofNat k1)), .val (.int (Int32.ofNat k2)), .val (.int (Int32.ofNat k3)), .val (.int (Int32.ofNat n)), .unset, .unset, .unset, .unset, .unset] [(.int (Int32.ofNat (n + 1))), (.int (p4 &&& (2147483647 : Int32)))])) X0 hx rfl (hb hby at_50) rfl (fun z => absurd ((own_eqN (n + 1) 0 (by omega) (by decide)).mp z) (by omega)) hr_) ?_
  show GoesW p ee below s _ _ _ _ _ (s₁.setTop (mkF m 51 #[.val (.int p1), .val (.int p2), .val (.int p3), .val (.int p4), .val (.int p5), .val (.int (Int32.ofNat k0)), .val (.int (Int32.ofNat k1)), .val (.int (Int32.ofNat k2)), .val (.int (Int32.ofNat k3)), .val (.int (Int32.ofNat n)), .unset, .unset, .unset, .unset, .unset] [(.int ((p4 &&& (2147483647 : Int32)) % (Int32.ofNat (n + 1))))]))
  obtain ⟨i, hi, ei⟩ := own_small p4 (n + 1) (by omega) (by omega)
  rw [show (p4 &&& (2147483647 : Int32)) % (Int32.ofNat (n + 1)) = Int32.ofNat i from ei]
  show GoesW p ee below s _ _ _ _ _ (s₁.setTop (mkF m 51 #[.val (.int p1), .val (.int p2), .val (.int p3), .val (.int p4), .val (.int p5), .val (.int (Int32.ofNat k0)), .val (.int (Int32.ofNat k1)), .val (.int (Int32.ofNat k2)), .val (.int (Int32.ofNat k3)), .val (.int (Int32.ofNat n)), .unset, .unset, .unset, .unset, .unset] [(.int (Int32.ofNat i))]))
  refine GoesW.step (fun _ hr_ => XS.istore X0.here hx rfl (hb hby at_51) rfl  (l' := #[.val (.int p1), .val (.int p2), .val (.int p3), .val (.int p4), .val (.int p5), .val (.int (Int32.ofNat k0)), .val (.int (Int32.ofNat k1)), .val (.int (Int32.ofNat k2)), .val (.int (Int32.ofNat k3)), .val (.int (Int32.ofNat n)), .val (.int (Int32.ofNat i)), .unset, .unset, .unset, .unset]) rfl hr_) ?_
  show GoesW p ee below s _ _ _ _ _ (s₁.setTop (mkF m 53 #[.val (.int p1), .val (.int p2), .val (.int p3), .val (.int p4), .val (.int p5), .val (.int (Int32.ofNat k0)), .val (.int (Int32.ofNat k1)), .val (.int (Int32.ofNat k2)), .val (.int (Int32.ofNat k3)), .val (.int (Int32.ofNat n)), .val (.int (Int32.ofNat i)), .unset, .unset, .unset, .unset] []))
  refine GoesW.step (fun _ hr_ => XS.iload X0.here hx rfl (hb hby at_53) rfl  hr_) ?_
  show GoesW p ee below s _ _ _ _ _ (s₁.setTop (mkF m 55 #[.val (.int p1), .val (.int p2), .val (.int p3), .val (.int p4), .val (.int p5), .val (.int (Int32.ofNat k0)), .val (.int (Int32.ofNat k1)), .val (.int (Int32.ofNat k2)), .val (.int (Int32.ofNat k3)), .val (.int (Int32.ofNat n)), .val (.int (Int32.ofNat i)), .unset, .unset, .unset, .unset] [(.int (Int32.ofNat i))]))
  refine GoesW.step (fun _ hr_ => XS.iload X0.here hx rfl (hb hby at_55) rfl  hr_) ?_
  show GoesW p ee below s _ _ _ _ _ (s₁.setTop (mkF m 57 #[.val (.int p1), .val (.int p2), .val (.int p3), .val (.int p4), .val (.int p5), .val (.int (Int32.ofNat k0)), .val (.int (Int32.ofNat k1)), .val (.int (Int32.ofNat k2)), .val (.int (Int32.ofNat k3)), .val (.int (Int32.ofNat n)), .val (.int (Int32.ofNat i)), .unset, .unset, .unset, .unset] [(.int p5), (.int (Int32.ofNat i))]))
  refine GoesW.step (X0.ldcInt hx hown (mvT hZ (hw _ (List.mem_of_getElem? (i := 1) rfl))) (g := (mkF m 57 #[.val (.int p1), .val (.int p2), .val (.int p3), .val (.int p4), .val (.int p5), .val (.int (Int32.ofNat k0)), .val (.int (Int32.ofNat k1)), .val (.int (Int32.ofNat k2)), .val (.int (Int32.ofNat k3)), .val (.int (Int32.ofNat n)), .val (.int (Int32.ofNat i)), .unset, .unset, .unset, .unset] [(.int p5), (.int (Int32.ofNat i))])) rfl (hb hby at_57)) ?_
  show GoesW p ee below s _ _ _ _ _ (s₁.setTop (mkF m 59 #[.val (.int p1), .val (.int p2), .val (.int p3), .val (.int p4), .val (.int p5), .val (.int (Int32.ofNat k0)), .val (.int (Int32.ofNat k1)), .val (.int (Int32.ofNat k2)), .val (.int (Int32.ofNat k3)), .val (.int (Int32.ofNat n)), .val (.int (Int32.ofNat i)), .unset, .unset, .unset, .unset] [(.int (2147483647 : Int32)), (.int p5), (.int (Int32.ofNat i))]))
  refine GoesW.step (fun _ hr_ => XS.iand X0.here hx rfl (hb hby at_59) rfl hr_) ?_
  show GoesW p ee below s _ _ _ _ _ (s₁.setTop (mkF m 60 #[.val (.int p1), .val (.int p2), .val (.int p3), .val (.int p4), .val (.int p5), .val (.int (Int32.ofNat k0)), .val (.int (Int32.ofNat k1)), .val (.int (Int32.ofNat k2)), .val (.int (Int32.ofNat k3)), .val (.int (Int32.ofNat n)), .val (.int (Int32.ofNat i)), .unset, .unset, .unset, .unset] [(.int (p5 &&& (2147483647 : Int32))), (.int (Int32.ofNat i))]))
  refine GoesW.step (fun _ hr_ => XS.iload X0.here hx rfl (hb hby at_60) rfl  hr_) ?_
  show GoesW p ee below s _ _ _ _ _ (s₁.setTop (mkF m 62 #[.val (.int p1), .val (.int p2), .val (.int p3), .val (.int p4), .val (.int p5), .val (.int (Int32.ofNat k0)), .val (.int (Int32.ofNat k1)), .val (.int (Int32.ofNat k2)), .val (.int (Int32.ofNat k3)), .val (.int (Int32.ofNat n)), .val (.int (Int32.ofNat i)), .unset, .unset, .unset, .unset] [(.int (Int32.ofNat n)), (.int (p5 &&& (2147483647 : Int32))), (.int (Int32.ofNat i))]))
  refine GoesW.step (fun _ hr_ => XS.iload X0.here hx rfl (hb hby at_62) rfl  hr_) ?_
  show GoesW p ee below s _ _ _ _ _ (s₁.setTop (mkF m 64 #[.val (.int p1), .val (.int p2), .val (.int p3), .val (.int p4), .val (.int p5), .val (.int (Int32.ofNat k0)), .val (.int (Int32.ofNat k1)), .val (.int (Int32.ofNat k2)), .val (.int (Int32.ofNat k3)), .val (.int (Int32.ofNat n)), .val (.int (Int32.ofNat i)), .unset, .unset, .unset, .unset] [(.int (Int32.ofNat i)), (.int (Int32.ofNat n)), (.int (p5 &&& (2147483647 : Int32))), (.int (Int32.ofNat i))]))
  refine GoesW.step (fun _ hr_ => XS.isub X0.here hx rfl (hb hby at_64) rfl hr_) ?_
  show GoesW p ee below s _ _ _ _ _ (s₁.setTop (mkF m 65 #[.val (.int p1), .val (.int p2), .val (.int p3), .val (.int p4), .val (.int p5), .val (.int (Int32.ofNat k0)), .val (.int (Int32.ofNat k1)), .val (.int (Int32.ofNat k2)), .val (.int (Int32.ofNat k3)), .val (.int (Int32.ofNat n)), .val (.int (Int32.ofNat i)), .unset, .unset, .unset, .unset] [(.int ((Int32.ofNat n) - (Int32.ofNat i))), (.int (p5 &&& (2147483647 : Int32))), (.int (Int32.ofNat i))]))
  rw [own_subN n i (by omega) (by omega)]
  show GoesW p ee below s _ _ _ _ _ (s₁.setTop (mkF m 65 #[.val (.int p1), .val (.int p2), .val (.int p3), .val (.int p4), .val (.int p5), .val (.int (Int32.ofNat k0)), .val (.int (Int32.ofNat k1)), .val (.int (Int32.ofNat k2)), .val (.int (Int32.ofNat k3)), .val (.int (Int32.ofNat n)), .val (.int (Int32.ofNat i)), .unset, .unset, .unset, .unset] [(.int (Int32.ofNat (n - i))), (.int (p5 &&& (2147483647 : Int32))), (.int (Int32.ofNat i))]))
  refine GoesW.step (fun _ hr_ => XS.iconst X0.here hx rfl (hb hby at_65) hr_) ?_
  show GoesW p ee below s _ _ _ _ _ (s₁.setTop (mkF m 66 #[.val (.int p1), .val (.int p2), .val (.int p3), .val (.int p4), .val (.int p5), .val (.int (Int32.ofNat k0)), .val (.int (Int32.ofNat k1)), .val (.int (Int32.ofNat k2)), .val (.int (Int32.ofNat k3)), .val (.int (Int32.ofNat n)), .val (.int (Int32.ofNat i)), .unset, .unset, .unset, .unset] [(.int (1 : Int32)), (.int (Int32.ofNat (n - i))), (.int (p5 &&& (2147483647 : Int32))), (.int (Int32.ofNat i))]))
  refine GoesW.step (fun _ hr_ => XS.iadd X0.here hx rfl (hb hby at_66) rfl hr_) ?_
  show GoesW p ee below s _ _ _ _ _ (s₁.setTop (mkF m 67 #[.val (.int p1), .val (.int p2), .val (.int p3), .val (.int p4), .val (.int p5), .val (.int (Int32.ofNat k0)), .val (.int (Int32.ofNat k1)), .val (.int (Int32.ofNat k2)), .val (.int (Int32.ofNat k3)), .val (.int (Int32.ofNat n)), .val (.int (Int32.ofNat i)), .unset, .unset, .unset, .unset] [(.int ((Int32.ofNat (n - i)) + (1 : Int32))), (.int (p5 &&& (2147483647 : Int32))), (.int (Int32.ofNat i))]))
  rw [show Int32.ofNat (n - i) + (1 : Int32) = Int32.ofNat (n - i + 1) from own_addN (n - i) 1]
  show GoesW p ee below s _ _ _ _ _ (s₁.setTop (mkF m 67 #[.val (.int p1), .val (.int p2), .val (.int p3), .val (.int p4), .val (.int p5), .val (.int (Int32.ofNat k0)), .val (.int (Int32.ofNat k1)), .val (.int (Int32.ofNat k2)), .val (.int (Int32.ofNat k3)), .val (.int (Int32.ofNat n)), .val (.int (Int32.ofNat i)), .unset, .unset, .unset, .unset] [(.int (Int32.ofNat (n - i + 1))), (.int (p5 &&& (2147483647 : Int32))), (.int (Int32.ofNat i))]))
  refine GoesW.step (fun _ hr_ => iremM (g := (mkF m 67 #[.val (.int p1), .val (.int p2), .val (.int p3), .val (.int p4), .val (.int p5), .val (.int (Int32.ofNat k0)), .val (.int (Int32.ofNat k1)), .val (.int (Int32.ofNat k2)), .val (.int (Int32.ofNat k3)), .val (.int (Int32.ofNat n)), .val (.int (Int32.ofNat i)), .unset, .unset, .unset, .unset] [(.int (Int32.ofNat (n - i + 1))), (.int (p5 &&& (2147483647 : Int32))), (.int (Int32.ofNat i))])) X0 hx rfl (hb hby at_67) rfl (fun z => absurd ((own_eqN (n - i + 1) 0 (by omega) (by decide)).mp z) (by omega)) hr_) ?_
  show GoesW p ee below s _ _ _ _ _ (s₁.setTop (mkF m 68 #[.val (.int p1), .val (.int p2), .val (.int p3), .val (.int p4), .val (.int p5), .val (.int (Int32.ofNat k0)), .val (.int (Int32.ofNat k1)), .val (.int (Int32.ofNat k2)), .val (.int (Int32.ofNat k3)), .val (.int (Int32.ofNat n)), .val (.int (Int32.ofNat i)), .unset, .unset, .unset, .unset] [(.int ((p5 &&& (2147483647 : Int32)) % (Int32.ofNat (n - i + 1)))), (.int (Int32.ofNat i))]))
  obtain ⟨q, hq, eq⟩ := own_small p5 (n - i + 1) (by omega) (by omega)
  rw [show (p5 &&& (2147483647 : Int32)) % (Int32.ofNat (n - i + 1)) = Int32.ofNat q from eq]
  show GoesW p ee below s _ _ _ _ _ (s₁.setTop (mkF m 68 #[.val (.int p1), .val (.int p2), .val (.int p3), .val (.int p4), .val (.int p5), .val (.int (Int32.ofNat k0)), .val (.int (Int32.ofNat k1)), .val (.int (Int32.ofNat k2)), .val (.int (Int32.ofNat k3)), .val (.int (Int32.ofNat n)), .val (.int (Int32.ofNat i)), .unset, .unset, .unset, .unset] [(.int (Int32.ofNat q)), (.int (Int32.ofNat i))]))
  refine GoesW.step (fun _ hr_ => XS.iadd X0.here hx rfl (hb hby at_68) rfl hr_) ?_
  show GoesW p ee below s _ _ _ _ _ (s₁.setTop (mkF m 69 #[.val (.int p1), .val (.int p2), .val (.int p3), .val (.int p4), .val (.int p5), .val (.int (Int32.ofNat k0)), .val (.int (Int32.ofNat k1)), .val (.int (Int32.ofNat k2)), .val (.int (Int32.ofNat k3)), .val (.int (Int32.ofNat n)), .val (.int (Int32.ofNat i)), .unset, .unset, .unset, .unset] [(.int ((Int32.ofNat i) + (Int32.ofNat q)))]))
  rw [own_addN i q]
  obtain ⟨j, ej⟩ : ∃ j, j = i + q := ⟨_, rfl⟩
  rw [← ej]
  have hij : i ≤ j := by omega
  have hjn : j ≤ n := by omega
  show GoesW p ee below s _ _ _ _ _ (s₁.setTop (mkF m 69 #[.val (.int p1), .val (.int p2), .val (.int p3), .val (.int p4), .val (.int p5), .val (.int (Int32.ofNat k0)), .val (.int (Int32.ofNat k1)), .val (.int (Int32.ofNat k2)), .val (.int (Int32.ofNat k3)), .val (.int (Int32.ofNat n)), .val (.int (Int32.ofNat i)), .unset, .unset, .unset, .unset] [(.int (Int32.ofNat j))]))
  refine GoesW.step (fun _ hr_ => XS.istore X0.here hx rfl (hb hby at_69) rfl  (l' := #[.val (.int p1), .val (.int p2), .val (.int p3), .val (.int p4), .val (.int p5), .val (.int (Int32.ofNat k0)), .val (.int (Int32.ofNat k1)), .val (.int (Int32.ofNat k2)), .val (.int (Int32.ofNat k3)), .val (.int (Int32.ofNat n)), .val (.int (Int32.ofNat i)), .val (.int (Int32.ofNat j)), .unset, .unset, .unset]) rfl hr_) ?_
  show GoesW p ee below s _ _ _ _ _ (s₁.setTop (mkF m 71 #[.val (.int p1), .val (.int p2), .val (.int p3), .val (.int p4), .val (.int p5), .val (.int (Int32.ofNat k0)), .val (.int (Int32.ofNat k1)), .val (.int (Int32.ofNat k2)), .val (.int (Int32.ofNat k3)), .val (.int (Int32.ofNat n)), .val (.int (Int32.ofNat i)), .val (.int (Int32.ofNat j)), .unset, .unset, .unset] []))
  refine GoesW.step (fun _ hr_ => XS.iload X0.here hx rfl (hb hby at_71) rfl  hr_) ?_
  show GoesW p ee below s _ _ _ _ _ (s₁.setTop (mkF m 73 #[.val (.int p1), .val (.int p2), .val (.int p3), .val (.int p4), .val (.int p5), .val (.int (Int32.ofNat k0)), .val (.int (Int32.ofNat k1)), .val (.int (Int32.ofNat k2)), .val (.int (Int32.ofNat k3)), .val (.int (Int32.ofNat n)), .val (.int (Int32.ofNat i)), .val (.int (Int32.ofNat j)), .unset, .unset, .unset] [(.int (Int32.ofNat n))]))
  refine GoesW.step (fun _ hr_ => XS.iload X0.here hx rfl (hb hby at_73) rfl  hr_) ?_
  show GoesW p ee below s _ _ _ _ _ (s₁.setTop (mkF m 75 #[.val (.int p1), .val (.int p2), .val (.int p3), .val (.int p4), .val (.int p5), .val (.int (Int32.ofNat k0)), .val (.int (Int32.ofNat k1)), .val (.int (Int32.ofNat k2)), .val (.int (Int32.ofNat k3)), .val (.int (Int32.ofNat n)), .val (.int (Int32.ofNat i)), .val (.int (Int32.ofNat j)), .unset, .unset, .unset] [(.int (Int32.ofNat k0)), (.int (Int32.ofNat n))]))
  refine GoesW.step (fun _ hr_ => XS.iload X0.here hx rfl (hb hby at_75) rfl  hr_) ?_
  show GoesW p ee below s _ _ _ _ _ (s₁.setTop (mkF m 77 #[.val (.int p1), .val (.int p2), .val (.int p3), .val (.int p4), .val (.int p5), .val (.int (Int32.ofNat k0)), .val (.int (Int32.ofNat k1)), .val (.int (Int32.ofNat k2)), .val (.int (Int32.ofNat k3)), .val (.int (Int32.ofNat n)), .val (.int (Int32.ofNat i)), .val (.int (Int32.ofNat j)), .unset, .unset, .unset] [(.int (Int32.ofNat k1)), (.int (Int32.ofNat k0)), (.int (Int32.ofNat n))]))
  refine GoesW.step (fun _ hr_ => XS.iload X0.here hx rfl (hb hby at_77) rfl  hr_) ?_
  show GoesW p ee below s _ _ _ _ _ (s₁.setTop (mkF m 79 #[.val (.int p1), .val (.int p2), .val (.int p3), .val (.int p4), .val (.int p5), .val (.int (Int32.ofNat k0)), .val (.int (Int32.ofNat k1)), .val (.int (Int32.ofNat k2)), .val (.int (Int32.ofNat k3)), .val (.int (Int32.ofNat n)), .val (.int (Int32.ofNat i)), .val (.int (Int32.ofNat j)), .unset, .unset, .unset] [(.int (Int32.ofNat k2)), (.int (Int32.ofNat k1)), (.int (Int32.ofNat k0)), (.int (Int32.ofNat n))]))
  refine GoesW.step (fun _ hr_ => XS.iload X0.here hx rfl (hb hby at_79) rfl  hr_) ?_
  show GoesW p ee below s _ _ _ _ _ (s₁.setTop (mkF m 81 #[.val (.int p1), .val (.int p2), .val (.int p3), .val (.int p4), .val (.int p5), .val (.int (Int32.ofNat k0)), .val (.int (Int32.ofNat k1)), .val (.int (Int32.ofNat k2)), .val (.int (Int32.ofNat k3)), .val (.int (Int32.ofNat n)), .val (.int (Int32.ofNat i)), .val (.int (Int32.ofNat j)), .unset, .unset, .unset] [(.int (Int32.ofNat k3)), (.int (Int32.ofNat k2)), (.int (Int32.ofNat k1)), (.int (Int32.ofNat k0)), (.int (Int32.ofNat n))]))
  obtain ⟨v1, vm1, T1, L1, ⟨X1, Cn1, hZ, hown, hsaf1⟩, hQ1, st1⟩ := own_callSW X0 hx hZ hEL C (y := (⟨"com/example/hansou/hansou/SpanOfPinLaw", "make", "(ICCCC)Ljava/lang/String;"⟩ : MethodName)) hown (hw _ (List.mem_of_getElem? (i := 2) rfl)) (hw _ (List.mem_of_getElem? (i := 3) rfl)) (hw _ (List.mem_of_getElem? (i := 4) rfl)) (hw _ (List.mem_of_getElem? (i := 5) rfl)) (by decide) (argsL := [(.int (Int32.ofNat n)), (.int (Int32.ofNat k0)), (.int (Int32.ofNat k1)), (.int (Int32.ofNat k2)), (.int (Int32.ofNat k3))]) (ws := []) (fun _ q => nomatch q) (rm_mk l Z a0 hw [] cs fm n k0 k1 k2 k3 h0 n0 Z0 ST OO hn4 hck) e0 (W := 0) (by decide) (by decide) (by decide) (by decide) (g := (mkF m 81 #[.val (.int p1), .val (.int p2), .val (.int p3), .val (.int p4), .val (.int p5), .val (.int (Int32.ofNat k0)), .val (.int (Int32.ofNat k1)), .val (.int (Int32.ofNat k2)), .val (.int (Int32.ofNat k3)), .val (.int (Int32.ofNat n)), .val (.int (Int32.ofNat i)), .val (.int (Int32.ofNat j)), .unset, .unset, .unset] [(.int (Int32.ofNat k3)), (.int (Int32.ofNat k2)), (.int (Int32.ofNat k1)), (.int (Int32.ofNat k0)), (.int (Int32.ofNat n))])) rfl (by rw [hml]; rfl) (rest := []) (lenOf pd_27 rfl) rfl (by show 2 * 0 + _ ≤ _; exact Nat.le_of_eq rfl) (hb hby at_81)
  refine GoesW.step st1 ?_
  obtain ⟨o1, b1, u, rfl, N1, Kc1, Ei1, Fv1, Fc1, A_b1, hlu⟩ := hQ1
  have N2 := Fr.app N0 N1
  obtain ⟨h1, e1⟩ : ∃ h', T1.heap = h' := ⟨_, rfl⟩
  rw [e1] at Kc1 Cn1 hsaf1 Ei1 Fv1 Fc1 A_b1
  have C := Cn1
  have OO := OO.keep Kc1 all0
  have Zp3 := Nat.le_trans Z0 Kc1.1
  show GoesW p ee below s _ _ _ _ _ (T1.setTop (mkF m 84 #[.val (.int p1), .val (.int p2), .val (.int p3), .val (.int p4), .val (.int p5), .val (.int (Int32.ofNat k0)), .val (.int (Int32.ofNat k1)), .val (.int (Int32.ofNat k2)), .val (.int (Int32.ofNat k3)), .val (.int (Int32.ofNat n)), .val (.int (Int32.ofNat i)), .val (.int (Int32.ofNat j)), .unset, .unset, .unset] [(.ref o1)]))
  refine GoesW.step (fun _ hr_ => XS.astore X1.here hx rfl (hb hby at_84) rfl rfl (l' := #[.val (.int p1), .val (.int p2), .val (.int p3), .val (.int p4), .val (.int p5), .val (.int (Int32.ofNat k0)), .val (.int (Int32.ofNat k1)), .val (.int (Int32.ofNat k2)), .val (.int (Int32.ofNat k3)), .val (.int (Int32.ofNat n)), .val (.int (Int32.ofNat i)), .val (.int (Int32.ofNat j)), .val (.ref o1), .unset, .unset]) rfl hr_) ?_
  show GoesW p ee below s _ _ _ _ _ (T1.setTop (mkF m 86 #[.val (.int p1), .val (.int p2), .val (.int p3), .val (.int p4), .val (.int p5), .val (.int (Int32.ofNat k0)), .val (.int (Int32.ofNat k1)), .val (.int (Int32.ofNat k2)), .val (.int (Int32.ofNat k3)), .val (.int (Int32.ofNat n)), .val (.int (Int32.ofNat i)), .val (.int (Int32.ofNat j)), .val (.ref o1), .unset, .unset] []))
  obtain ⟨T4, h4, X4, e4, E4, A4, D4, -, st4⟩ := newO X1 hx hZ hown (hw _ (List.mem_of_getElem? (i := 36) rfl)) (hw _ (List.mem_of_getElem? (i := 37) rfl)) (hw _ (List.mem_of_getElem? (i := 38) rfl)) e1 (g := (mkF m 86 #[.val (.int p1), .val (.int p2), .val (.int p3), .val (.int p4), .val (.int p5), .val (.int (Int32.ofNat k0)), .val (.int (Int32.ofNat k1)), .val (.int (Int32.ofNat k2)), .val (.int (Int32.ofNat k3)), .val (.int (Int32.ofNat n)), .val (.int (Int32.ofNat i)), .val (.int (Int32.ofNat j)), .val (.ref o1), .unset, .unset] [])) rfl (hb hby at_86) (by decide) (by decide)
  obtain ⟨b4, g_b4⟩ : ∃ z, z = h1.size := ⟨_, rfl⟩
  have ne_o1_b4 : o1 ≠ b4 := Nat.ne_of_lt (Nat.lt_of_lt_of_le Ei1.lt (Nat.le_of_eq g_b4.symm))
  have ne_b1_b4 : b1 ≠ b4 := Nat.ne_of_lt (Nat.lt_of_lt_of_le A_b1.lt (Nat.le_of_eq g_b4.symm))
  have ge_b4 : n0 ≤ b4 := Nat.le_trans Zp3 (Nat.le_of_eq g_b4.symm)
  rw [← g_b4] at A4 D4 st4
  have Ei1 := Ei1.ext E4
  have Fv1 := Fv1.ext E4
  have Fc1 := Fc1.ext E4
  have A_b1 := A_b1.ext E4
  have Zp5 := Nat.le_trans Zp3 E4.1
  have sf_b4 := Safe.ext E4 C.chv (Safe.new (Nat.le_of_eq g_b4.symm))
  have C := C.ext E4
  have OO := OO.ext E4
  refine GoesW.step st4 ?_
  have E_b4 := A4
  have F_start_b4 : Fld Z h4 b4 "com/example/hansou/hansou/Span" "start" "I" (.int (0 : Int32)) := D4 (Or.inr (hw _ (List.mem_of_getElem? (i := 49) rfl))) (ty := .int) (by decide)
  have F_end_b4 : Fld Z h4 b4 "com/example/hansou/hansou/Span" "end" "I" (.int (0 : Int32)) := D4 (Or.inr (hw _ (List.mem_of_getElem? (i := 51) rfl))) (ty := .int) (by decide)
  show GoesW p ee below s _ _ _ _ _ (T4.setTop (mkF m 89 #[.val (.int p1), .val (.int p2), .val (.int p3), .val (.int p4), .val (.int p5), .val (.int (Int32.ofNat k0)), .val (.int (Int32.ofNat k1)), .val (.int (Int32.ofNat k2)), .val (.int (Int32.ofNat k3)), .val (.int (Int32.ofNat n)), .val (.int (Int32.ofNat i)), .val (.int (Int32.ofNat j)), .val (.ref o1), .unset, .unset] [(.ref b4)]))
  refine GoesW.step (fun _ hr_ => XS.dup X4.here hx rfl (hb hby at_89) rfl rfl hr_) ?_
  show GoesW p ee below s _ _ _ _ _ (T4.setTop (mkF m 90 #[.val (.int p1), .val (.int p2), .val (.int p3), .val (.int p4), .val (.int p5), .val (.int (Int32.ofNat k0)), .val (.int (Int32.ofNat k1)), .val (.int (Int32.ofNat k2)), .val (.int (Int32.ofNat k3)), .val (.int (Int32.ofNat n)), .val (.int (Int32.ofNat i)), .val (.int (Int32.ofNat j)), .val (.ref o1), .unset, .unset] [(.ref b4), (.ref b4)]))
  refine GoesW.step (fun _ hr_ => XS.iload X4.here hx rfl (hb hby at_90) rfl  hr_) ?_
  show GoesW p ee below s _ _ _ _ _ (T4.setTop (mkF m 92 #[.val (.int p1), .val (.int p2), .val (.int p3), .val (.int p4), .val (.int p5), .val (.int (Int32.ofNat k0)), .val (.int (Int32.ofNat k1)), .val (.int (Int32.ofNat k2)), .val (.int (Int32.ofNat k3)), .val (.int (Int32.ofNat n)), .val (.int (Int32.ofNat i)), .val (.int (Int32.ofNat j)), .val (.ref o1), .unset, .unset] [(.int (Int32.ofNat i)), (.ref b4), (.ref b4)]))
  refine GoesW.step (fun _ hr_ => XS.iload X4.here hx rfl (hb hby at_92) rfl  hr_) ?_
  show GoesW p ee below s _ _ _ _ _ (T4.setTop (mkF m 94 #[.val (.int p1), .val (.int p2), .val (.int p3), .val (.int p4), .val (.int p5), .val (.int (Int32.ofNat k0)), .val (.int (Int32.ofNat k1)), .val (.int (Int32.ofNat k2)), .val (.int (Int32.ofNat k3)), .val (.int (Int32.ofNat n)), .val (.int (Int32.ofNat i)), .val (.int (Int32.ofNat j)), .val (.ref o1), .unset, .unset] [(.int (Int32.ofNat j)), (.int (Int32.ofNat i)), (.ref b4), (.ref b4)]))
  have lt_o1 := Ei1.lt
  have lt_b1 := A_b1.lt
  have lt_b4 := E_b4.lt
  obtain ⟨v6, T6, L6, X6, hQ6, st6⟩ := own_callN X4 hx hZ (y := (⟨"com/example/hansou/hansou/Span", "<init>", "(II)V"⟩ : MethodName)) rfl hown (hw _ (List.mem_of_getElem? (i := 39) rfl)) (hw _ (List.mem_of_getElem? (i := 40) rfl)) (hw _ (List.mem_of_getElem? (i := 38) rfl)) (hw _ (List.mem_of_getElem? (i := 41) rfl)) (by decide) (a := b4) (argsL := [(.int (Int32.ofNat i)), (.int (Int32.ofNat j))]) (rm_spi l Z a0 hw [] cs fm b4 (Int32.ofNat i) (Int32.ofNat j) _ _ h4 n0 Zp5 ST OO ge_b4 E_b4 F_start_b4 F_end_b4) e4 (W := 1) (by decide) (by decide) (by decide) (by decide) (g := (mkF m 94 #[.val (.int p1), .val (.int p2), .val (.int p3), .val (.int p4), .val (.int p5), .val (.int (Int32.ofNat k0)), .val (.int (Int32.ofNat k1)), .val (.int (Int32.ofNat k2)), .val (.int (Int32.ofNat k3)), .val (.int (Int32.ofNat n)), .val (.int (Int32.ofNat i)), .val (.int (Int32.ofNat j)), .val (.ref o1), .unset, .unset] [(.int (Int32.ofNat j)), (.int (Int32.ofNat i)), (.ref b4), (.ref b4)])) rfl (by rw [hml]; rfl) (rest := [(.ref b4)]) (lenOf pd_1 rfl) rfl (by show 2 * 0 + _ ≤ _; exact Nat.le_of_eq rfl) (hb hby at_94)
  refine GoesW.step st6 ?_
  obtain ⟨rfl, N6, Kc6, Ei6, Fs6, Fe6⟩ := hQ6
  have N7 := Fr.app N2 N6
  obtain ⟨h6, e6⟩ : ∃ h', T6.heap = h' := ⟨_, rfl⟩
  rw [e6] at Kc6 Ei6 Fs6 Fe6
  have Ei1 := Ei1.keep Kc6
  have Fv1 := Fv1.keep Kc6 (ninS ne_o1_b4 nin0)
  have Fc1 := Fc1.keep Kc6 (ninS ne_o1_b4 nin0)
  have A_b1 := A_b1.keep Kc6 (ninS ne_b1_b4 nin0)
  have hsk := (sfS sf_b4 sf0)
  have sf_b4 := Safe.keep Kc6 hsk C.chv sf_b4
  have C := C.keep Kc6 hsk
  have OO := OO.keep Kc6 (allS ge_b4 all0)
  have Zp8 := Nat.le_trans Zp5 Kc6.1
  show GoesW p ee below s _ _ _ _ _ (T6.setTop (mkF m 97 #[.val (.int p1), .val (.int p2), .val (.int p3), .val (.int p4), .val (.int p5), .val (.int (Int32.ofNat k0)), .val (.int (Int32.ofNat k1)), .val (.int (Int32.ofNat k2)), .val (.int (Int32.ofNat k3)), .val (.int (Int32.ofNat n)), .val (.int (Int32.ofNat i)), .val (.int (Int32.ofNat j)), .val (.ref o1), .unset, .unset] [(.ref b4)]))
  refine GoesW.step (fun _ hr_ => XS.aload X6.here hx rfl (hb hby at_97) rfl rfl hr_) ?_
  show GoesW p ee below s _ _ _ _ _ (T6.setTop (mkF m 99 #[.val (.int p1), .val (.int p2), .val (.int p3), .val (.int p4), .val (.int p5), .val (.int (Int32.ofNat k0)), .val (.int (Int32.ofNat k1)), .val (.int (Int32.ofNat k2)), .val (.int (Int32.ofNat k3)), .val (.int (Int32.ofNat n)), .val (.int (Int32.ofNat i)), .val (.int (Int32.ofNat j)), .val (.ref o1), .unset, .unset] [(.ref o1), (.ref b4)]))
  have lt_o1 := Ei1.lt
  have lt_b1 := A_b1.lt
  have lt_b4 := Ei6.lt
  obtain ⟨v9, vm9, T9, L9, ⟨X9, Cn9, hZ, hown, hsaf9⟩, hQ9, st9⟩ := own_callVW X6 hx hZ hEL C (y := (⟨"com/example/hansou/hansou/Span", "of", "(Ljava/lang/String;)Ljava/lang/String;"⟩ : MethodName)) hown (hw _ (List.mem_of_getElem? (i := 52) rfl)) (hw _ (List.mem_of_getElem? (i := 53) rfl)) (hw _ (List.mem_of_getElem? (i := 55) rfl)) (hw _ (List.mem_of_getElem? (i := 54) rfl)) (hw _ (List.mem_of_getElem? (i := 38) rfl)) (hw _ (List.mem_of_getElem? (i := 56) rfl)) (by decide) (a := b4) (argsL := [(.ref o1)]) (ws := []) (fun _ q => nomatch q) (rm_spof l Z a0 hw [] cs fm b4 o1 b1 u n (fun j => [k0, k1, k2, k3].getD j 0) i j h6 n0 Zp8 ST OO hn4 Ei1 Fv1 Fc1 A_b1 (fun j hj => hck j (by omega)) hlu hij hjn Fs6 Fe6) e6 Ei6 (W := 0) (by decide) (by decide) (by decide) (by decide) (g := (mkF m 99 #[.val (.int p1), .val (.int p2), .val (.int p3), .val (.int p4), .val (.int p5), .val (.int (Int32.ofNat k0)), .val (.int (Int32.ofNat k1)), .val (.int (Int32.ofNat k2)), .val (.int (Int32.ofNat k3)), .val (.int (Int32.ofNat n)), .val (.int (Int32.ofNat i)), .val (.int (Int32.ofNat j)), .val (.ref o1), .unset, .unset] [(.ref o1), (.ref b4)])) rfl (by rw [hml]; rfl) (rest := []) (lenOf pd_28 rfl) rfl (by show 2 * 0 + _ ≤ _; exact Nat.le_of_eq rfl) (hb hby at_99)
  refine GoesW.step st9 ?_
  obtain ⟨o9, b9, u9, rfl, N9, Kc9, Ei9, Fv9, Fc9, A_b9, hlu9⟩ := hQ9
  have N10 := Fr.app N7 N9
  obtain ⟨h9, e9⟩ : ∃ h', T9.heap = h' := ⟨_, rfl⟩
  rw [e9] at Kc9 Cn9 hsaf9 Ei9 Fv9 Fc9 A_b9
  have sf_b4 := hsaf9 b4 lt_b4 sf_b4
  have C := Cn9
  have Ei1 := Ei1.keep Kc9
  have Fv1 := Fv1.keep Kc9 nin0
  have Fc1 := Fc1.keep Kc9 nin0
  have A_b1 := A_b1.keep Kc9 nin0
  have Ei6 := Ei6.keep Kc9
  have Fs6 := Fs6.keep Kc9 nin0
  have Fe6 := Fe6.keep Kc9 nin0
  have OO := OO.keep Kc9 all0
  have Zp11 := Nat.le_trans Zp8 Kc9.1
  show GoesW p ee below s _ _ _ _ _ (T9.setTop (mkF m 102 #[.val (.int p1), .val (.int p2), .val (.int p3), .val (.int p4), .val (.int p5), .val (.int (Int32.ofNat k0)), .val (.int (Int32.ofNat k1)), .val (.int (Int32.ofNat k2)), .val (.int (Int32.ofNat k3)), .val (.int (Int32.ofNat n)), .val (.int (Int32.ofNat i)), .val (.int (Int32.ofNat j)), .val (.ref o1), .unset, .unset] [(.ref o9)]))
  refine GoesW.step (fun _ hr_ => XS.astore X9.here hx rfl (hb hby at_102) rfl rfl (l' := #[.val (.int p1), .val (.int p2), .val (.int p3), .val (.int p4), .val (.int p5), .val (.int (Int32.ofNat k0)), .val (.int (Int32.ofNat k1)), .val (.int (Int32.ofNat k2)), .val (.int (Int32.ofNat k3)), .val (.int (Int32.ofNat n)), .val (.int (Int32.ofNat i)), .val (.int (Int32.ofNat j)), .val (.ref o1), .val (.ref o9), .unset]) rfl hr_) ?_
  show GoesW p ee below s _ _ _ _ _ (T9.setTop (mkF m 104 #[.val (.int p1), .val (.int p2), .val (.int p3), .val (.int p4), .val (.int p5), .val (.int (Int32.ofNat k0)), .val (.int (Int32.ofNat k1)), .val (.int (Int32.ofNat k2)), .val (.int (Int32.ofNat k3)), .val (.int (Int32.ofNat n)), .val (.int (Int32.ofNat i)), .val (.int (Int32.ofNat j)), .val (.ref o1), .val (.ref o9), .unset] []))
  refine GoesW.step (fun _ hr_ => XS.iload X9.here hx rfl (hb hby at_104) rfl  hr_) ?_
  show GoesW p ee below s _ _ _ _ _ (T9.setTop (mkF m 106 #[.val (.int p1), .val (.int p2), .val (.int p3), .val (.int p4), .val (.int p5), .val (.int (Int32.ofNat k0)), .val (.int (Int32.ofNat k1)), .val (.int (Int32.ofNat k2)), .val (.int (Int32.ofNat k3)), .val (.int (Int32.ofNat n)), .val (.int (Int32.ofNat i)), .val (.int (Int32.ofNat j)), .val (.ref o1), .val (.ref o9), .unset] [(.int (Int32.ofNat j))]))
  refine GoesW.step (fun _ hr_ => XS.iload X9.here hx rfl (hb hby at_106) rfl  hr_) ?_
  show GoesW p ee below s _ _ _ _ _ (T9.setTop (mkF m 108 #[.val (.int p1), .val (.int p2), .val (.int p3), .val (.int p4), .val (.int p5), .val (.int (Int32.ofNat k0)), .val (.int (Int32.ofNat k1)), .val (.int (Int32.ofNat k2)), .val (.int (Int32.ofNat k3)), .val (.int (Int32.ofNat n)), .val (.int (Int32.ofNat i)), .val (.int (Int32.ofNat j)), .val (.ref o1), .val (.ref o9), .unset] [(.int (Int32.ofNat i)), (.int (Int32.ofNat j))]))
  refine GoesW.step (fun _ hr_ => XS.isub X9.here hx rfl (hb hby at_108) rfl hr_) ?_
  show GoesW p ee below s _ _ _ _ _ (T9.setTop (mkF m 109 #[.val (.int p1), .val (.int p2), .val (.int p3), .val (.int p4), .val (.int p5), .val (.int (Int32.ofNat k0)), .val (.int (Int32.ofNat k1)), .val (.int (Int32.ofNat k2)), .val (.int (Int32.ofNat k3)), .val (.int (Int32.ofNat n)), .val (.int (Int32.ofNat i)), .val (.int (Int32.ofNat j)), .val (.ref o1), .val (.ref o9), .unset] [(.int ((Int32.ofNat j) - (Int32.ofNat i)))]))
  rw [own_subN j i (by omega) hij]
  show GoesW p ee below s _ _ _ _ _ (T9.setTop (mkF m 109 #[.val (.int p1), .val (.int p2), .val (.int p3), .val (.int p4), .val (.int p5), .val (.int (Int32.ofNat k0)), .val (.int (Int32.ofNat k1)), .val (.int (Int32.ofNat k2)), .val (.int (Int32.ofNat k3)), .val (.int (Int32.ofNat n)), .val (.int (Int32.ofNat i)), .val (.int (Int32.ofNat j)), .val (.ref o1), .val (.ref o9), .unset] [(.int (Int32.ofNat (j - i)))]))
  refine GoesW.step (fun _ hr_ => XS.istore X9.here hx rfl (hb hby at_109) rfl  (l' := #[.val (.int p1), .val (.int p2), .val (.int p3), .val (.int p4), .val (.int p5), .val (.int (Int32.ofNat k0)), .val (.int (Int32.ofNat k1)), .val (.int (Int32.ofNat k2)), .val (.int (Int32.ofNat k3)), .val (.int (Int32.ofNat n)), .val (.int (Int32.ofNat i)), .val (.int (Int32.ofNat j)), .val (.ref o1), .val (.ref o9), .val (.int (Int32.ofNat (j - i)))]) rfl hr_) ?_
  show GoesW p ee below s _ _ _ _ _ (T9.setTop (mkF m 111 #[.val (.int p1), .val (.int p2), .val (.int p3), .val (.int p4), .val (.int p5), .val (.int (Int32.ofNat k0)), .val (.int (Int32.ofNat k1)), .val (.int (Int32.ofNat k2)), .val (.int (Int32.ofNat k3)), .val (.int (Int32.ofNat n)), .val (.int (Int32.ofNat i)), .val (.int (Int32.ofNat j)), .val (.ref o1), .val (.ref o9), .val (.int (Int32.ofNat (j - i)))] []))
  refine GoesW.step (fun _ hr_ => XS.aload X9.here hx rfl (hb hby at_111) rfl rfl hr_) ?_
  show GoesW p ee below s _ _ _ _ _ (T9.setTop (mkF m 113 #[.val (.int p1), .val (.int p2), .val (.int p3), .val (.int p4), .val (.int p5), .val (.int (Int32.ofNat k0)), .val (.int (Int32.ofNat k1)), .val (.int (Int32.ofNat k2)), .val (.int (Int32.ofNat k3)), .val (.int (Int32.ofNat n)), .val (.int (Int32.ofNat i)), .val (.int (Int32.ofNat j)), .val (.ref o1), .val (.ref o9), .val (.int (Int32.ofNat (j - i)))] [(.ref o9)]))
  have lt_o1 := Ei1.lt
  have lt_b1 := A_b1.lt
  have lt_b4 := Ei6.lt
  have lt_o9 := Ei9.lt
  have lt_b9 := A_b9.lt
  obtain ⟨v12, T12, L12, X12, hQ12, st12⟩ := own_callV X9 hx hZ (y := (⟨"java/lang/String", "length", "()I"⟩ : MethodName)) hown (hw _ (List.mem_of_getElem? (i := 92) rfl)) (hw _ (List.mem_of_getElem? (i := 63) rfl)) (hw _ (List.mem_of_getElem? (i := 65) rfl)) (hw _ (List.mem_of_getElem? (i := 64) rfl)) (hw _ (List.mem_of_getElem? (i := 8) rfl)) (hw _ (List.mem_of_getElem? (i := 66) rfl)) (by decide) (a := o9) (argsL := []) (rm_slen l Z a0 hw [] cs fm o9 b9 u9 (j - i) (fun t => (fun j => [k0, k1, k2, k3].getD j 0) (i + t)) h9 n0 Zp11 ST OO (by omega) Ei9 Fv9 Fc9 A_b9) e9 Ei9 (W := 0) (by decide) (by decide) (by decide) (by decide) (g := (mkF m 113 #[.val (.int p1), .val (.int p2), .val (.int p3), .val (.int p4), .val (.int p5), .val (.int (Int32.ofNat k0)), .val (.int (Int32.ofNat k1)), .val (.int (Int32.ofNat k2)), .val (.int (Int32.ofNat k3)), .val (.int (Int32.ofNat n)), .val (.int (Int32.ofNat i)), .val (.int (Int32.ofNat j)), .val (.ref o1), .val (.ref o9), .val (.int (Int32.ofNat (j - i)))] [(.ref o9)])) rfl (by rw [hml]; rfl) (rest := []) (lenOf pd_21 rfl) rfl (by show 2 * 0 + _ ≤ _; exact Nat.le_of_eq rfl) (hb hby at_113)
  refine GoesW.step st12 ?_
  obtain ⟨rfl, N12, e12⟩ := hQ12
  have N13 := Fr.app N10 N12
  show GoesW p ee below s _ _ _ _ _ (T12.setTop (mkF m 116 #[.val (.int p1), .val (.int p2), .val (.int p3), .val (.int p4), .val (.int p5), .val (.int (Int32.ofNat k0)), .val (.int (Int32.ofNat k1)), .val (.int (Int32.ofNat k2)), .val (.int (Int32.ofNat k3)), .val (.int (Int32.ofNat n)), .val (.int (Int32.ofNat i)), .val (.int (Int32.ofNat j)), .val (.ref o1), .val (.ref o9), .val (.int (Int32.ofNat (j - i)))] [(.int (Int32.ofNat (j - i)))]))
  refine GoesW.step (fun _ hr_ => XS.iload X12.here hx rfl (hb hby at_116) rfl  hr_) ?_
  show GoesW p ee below s _ _ _ _ _ (T12.setTop (mkF m 118 #[.val (.int p1), .val (.int p2), .val (.int p3), .val (.int p4), .val (.int p5), .val (.int (Int32.ofNat k0)), .val (.int (Int32.ofNat k1)), .val (.int (Int32.ofNat k2)), .val (.int (Int32.ofNat k3)), .val (.int (Int32.ofNat n)), .val (.int (Int32.ofNat i)), .val (.int (Int32.ofNat j)), .val (.ref o1), .val (.ref o9), .val (.int (Int32.ofNat (j - i)))] [(.int (Int32.ofNat (j - i))), (.int (Int32.ofNat (j - i)))]))
  refine GoesW.step (fun _ hr_ => XS.icmpYes X12.here hx rfl (pc0 := 118) (pc' := 123) rfl (hb hby at_118) rfl (teq rfl).1 (by decide) (by decide) hr_) ?_
  show GoesW p ee below s _ _ _ _ _ (T12.setTop (mkF m 123 #[.val (.int p1), .val (.int p2), .val (.int p3), .val (.int p4), .val (.int p5), .val (.int (Int32.ofNat k0)), .val (.int (Int32.ofNat k1)), .val (.int (Int32.ofNat k2)), .val (.int (Int32.ofNat k3)), .val (.int (Int32.ofNat n)), .val (.int (Int32.ofNat i)), .val (.int (Int32.ofNat j)), .val (.ref o1), .val (.ref o9), .val (.int (Int32.ofNat (j - i)))] []))
  refine GoesW.step (fun _ hr_ => XS.iload X12.here hx rfl (hb hby at_123) rfl  hr_) ?_
  show GoesW p ee below s _ _ _ _ _ (T12.setTop (mkF m 125 #[.val (.int p1), .val (.int p2), .val (.int p3), .val (.int p4), .val (.int p5), .val (.int (Int32.ofNat k0)), .val (.int (Int32.ofNat k1)), .val (.int (Int32.ofNat k2)), .val (.int (Int32.ofNat k3)), .val (.int (Int32.ofNat n)), .val (.int (Int32.ofNat i)), .val (.int (Int32.ofNat j)), .val (.ref o1), .val (.ref o9), .val (.int (Int32.ofNat (j - i)))] [(.int (Int32.ofNat (j - i)))]))
  by_cases hn125_14 : 0 < j - i
  · refine GoesW.step (fun _ hr_ => XS.ifNo X12.here hx rfl (hb hby at_125) rfl ((if0 _ _).trans (tlt ((own_ltN 0 (j - i) (by decide) (by omega)).mpr hn125_14)).2.2.2) hr_) ?_
    show GoesW p ee below s _ _ _ _ _ (T12.setTop (mkF m 128 #[.val (.int p1), .val (.int p2), .val (.int p3), .val (.int p4), .val (.int p5), .val (.int (Int32.ofNat k0)), .val (.int (Int32.ofNat k1)), .val (.int (Int32.ofNat k2)), .val (.int (Int32.ofNat k3)), .val (.int (Int32.ofNat n)), .val (.int (Int32.ofNat i)), .val (.int (Int32.ofNat j)), .val (.ref o1), .val (.ref o9), .val (.int (Int32.ofNat (j - i)))] []))
    refine GoesW.step (fun _ hr_ => XS.aload X12.here hx rfl (hb hby at_128) rfl rfl hr_) ?_
    show GoesW p ee below s _ _ _ _ _ (T12.setTop (mkF m 130 #[.val (.int p1), .val (.int p2), .val (.int p3), .val (.int p4), .val (.int p5), .val (.int (Int32.ofNat k0)), .val (.int (Int32.ofNat k1)), .val (.int (Int32.ofNat k2)), .val (.int (Int32.ofNat k3)), .val (.int (Int32.ofNat n)), .val (.int (Int32.ofNat i)), .val (.int (Int32.ofNat j)), .val (.ref o1), .val (.ref o9), .val (.int (Int32.ofNat (j - i)))] [(.ref o9)]))
    refine GoesW.step (fun _ hr_ => XS.iconst X12.here hx rfl (hb hby at_130) hr_) ?_
    show GoesW p ee below s _ _ _ _ _ (T12.setTop (mkF m 131 #[.val (.int p1), .val (.int p2), .val (.int p3), .val (.int p4), .val (.int p5), .val (.int (Int32.ofNat k0)), .val (.int (Int32.ofNat k1)), .val (.int (Int32.ofNat k2)), .val (.int (Int32.ofNat k3)), .val (.int (Int32.ofNat n)), .val (.int (Int32.ofNat i)), .val (.int (Int32.ofNat j)), .val (.ref o1), .val (.ref o9), .val (.int (Int32.ofNat (j - i)))] [(.int (0 : Int32)), (.ref o9)]))
    have lt_o1 := Ei1.lt
    have lt_b1 := A_b1.lt
    have lt_b4 := Ei6.lt
    have lt_o9 := Ei9.lt
    have lt_b9 := A_b9.lt
    obtain ⟨v15, T15, L15, X15, hQ15, st15⟩ := own_callV X12 hx hZ (y := (⟨"java/lang/String", "charAt", "(I)C"⟩ : MethodName)) hown (hw _ (List.mem_of_getElem? (i := 94) rfl)) (hw _ (List.mem_of_getElem? (i := 95) rfl)) (hw _ (List.mem_of_getElem? (i := 97) rfl)) (hw _ (List.mem_of_getElem? (i := 96) rfl)) (hw _ (List.mem_of_getElem? (i := 8) rfl)) (hw _ (List.mem_of_getElem? (i := 98) rfl)) (by decide) (a := o9) (argsL := [(.int (0 : Int32))]) (rm_schar l Z a0 hw [] cs fm o9 b9 u9 (j - i) (fun t => (fun j => [k0, k1, k2, k3].getD j 0) (i + t)) 0 h9 n0 Zp11 ST OO (by omega) Ei9 Fv9 Fc9 A_b9 (fun t ht => hck _ (by omega)) hlu9 (by omega)) e12 Ei9 (W := 0) (by decide) (by decide) (by decide) (by decide) (g := (mkF m 131 #[.val (.int p1), .val (.int p2), .val (.int p3), .val (.int p4), .val (.int p5), .val (.int (Int32.ofNat k0)), .val (.int (Int32.ofNat k1)), .val (.int (Int32.ofNat k2)), .val (.int (Int32.ofNat k3)), .val (.int (Int32.ofNat n)), .val (.int (Int32.ofNat i)), .val (.int (Int32.ofNat j)), .val (.ref o1), .val (.ref o9), .val (.int (Int32.ofNat (j - i)))] [(.int (0 : Int32)), (.ref o9)])) rfl (by rw [hml]; rfl) (rest := []) (lenOf pd_29 rfl) rfl (by show 2 * 0 + _ ≤ _; exact Nat.le_of_eq rfl) (hb hby at_131)
    refine GoesW.step st15 ?_
    obtain ⟨rfl, N15, e15⟩ := hQ15
    have N16 := Fr.app N13 N15
    show GoesW p ee below s _ _ _ _ _ (T15.setTop (mkF m 134 #[.val (.int p1), .val (.int p2), .val (.int p3), .val (.int p4), .val (.int p5), .val (.int (Int32.ofNat k0)), .val (.int (Int32.ofNat k1)), .val (.int (Int32.ofNat k2)), .val (.int (Int32.ofNat k3)), .val (.int (Int32.ofNat n)), .val (.int (Int32.ofNat i)), .val (.int (Int32.ofNat j)), .val (.ref o1), .val (.ref o9), .val (.int (Int32.ofNat (j - i)))] [(.int (Int32.ofNat ((fun t => (fun j => [k0, k1, k2, k3].getD j 0) (i + t)) 0)))]))
    refine GoesW.step (fun _ hr_ => XS.iload X15.here hx rfl (hb hby at_134) rfl  hr_) ?_
    show GoesW p ee below s _ _ _ _ _ (T15.setTop (mkF m 136 #[.val (.int p1), .val (.int p2), .val (.int p3), .val (.int p4), .val (.int p5), .val (.int (Int32.ofNat k0)), .val (.int (Int32.ofNat k1)), .val (.int (Int32.ofNat k2)), .val (.int (Int32.ofNat k3)), .val (.int (Int32.ofNat n)), .val (.int (Int32.ofNat i)), .val (.int (Int32.ofNat j)), .val (.ref o1), .val (.ref o9), .val (.int (Int32.ofNat (j - i)))] [(.int (Int32.ofNat i)), (.int (Int32.ofNat ((fun t => (fun j => [k0, k1, k2, k3].getD j 0) (i + t)) 0)))]))
    refine GoesW.step (fun _ hr_ => XS.iload X15.here hx rfl (hb hby at_136) rfl  hr_) ?_
    show GoesW p ee below s _ _ _ _ _ (T15.setTop (mkF m 138 #[.val (.int p1), .val (.int p2), .val (.int p3), .val (.int p4), .val (.int p5), .val (.int (Int32.ofNat k0)), .val (.int (Int32.ofNat k1)), .val (.int (Int32.ofNat k2)), .val (.int (Int32.ofNat k3)), .val (.int (Int32.ofNat n)), .val (.int (Int32.ofNat i)), .val (.int (Int32.ofNat j)), .val (.ref o1), .val (.ref o9), .val (.int (Int32.ofNat (j - i)))] [(.int (Int32.ofNat k0)), (.int (Int32.ofNat i)), (.int (Int32.ofNat ((fun t => (fun j => [k0, k1, k2, k3].getD j 0) (i + t)) 0)))]))
    refine GoesW.step (fun _ hr_ => XS.iload X15.here hx rfl (hb hby at_138) rfl  hr_) ?_
    show GoesW p ee below s _ _ _ _ _ (T15.setTop (mkF m 140 #[.val (.int p1), .val (.int p2), .val (.int p3), .val (.int p4), .val (.int p5), .val (.int (Int32.ofNat k0)), .val (.int (Int32.ofNat k1)), .val (.int (Int32.ofNat k2)), .val (.int (Int32.ofNat k3)), .val (.int (Int32.ofNat n)), .val (.int (Int32.ofNat i)), .val (.int (Int32.ofNat j)), .val (.ref o1), .val (.ref o9), .val (.int (Int32.ofNat (j - i)))] [(.int (Int32.ofNat k1)), (.int (Int32.ofNat k0)), (.int (Int32.ofNat i)), (.int (Int32.ofNat ((fun t => (fun j => [k0, k1, k2, k3].getD j 0) (i + t)) 0)))]))
    refine GoesW.step (fun _ hr_ => XS.iload X15.here hx rfl (hb hby at_140) rfl  hr_) ?_
    show GoesW p ee below s _ _ _ _ _ (T15.setTop (mkF m 142 #[.val (.int p1), .val (.int p2), .val (.int p3), .val (.int p4), .val (.int p5), .val (.int (Int32.ofNat k0)), .val (.int (Int32.ofNat k1)), .val (.int (Int32.ofNat k2)), .val (.int (Int32.ofNat k3)), .val (.int (Int32.ofNat n)), .val (.int (Int32.ofNat i)), .val (.int (Int32.ofNat j)), .val (.ref o1), .val (.ref o9), .val (.int (Int32.ofNat (j - i)))] [(.int (Int32.ofNat k2)), (.int (Int32.ofNat k1)), (.int (Int32.ofNat k0)), (.int (Int32.ofNat i)), (.int (Int32.ofNat ((fun t => (fun j => [k0, k1, k2, k3].getD j 0) (i + t)) 0)))]))
    refine GoesW.step (fun _ hr_ => XS.iload X15.here hx rfl (hb hby at_142) rfl  hr_) ?_
    show GoesW p ee below s _ _ _ _ _ (T15.setTop (mkF m 144 #[.val (.int p1), .val (.int p2), .val (.int p3), .val (.int p4), .val (.int p5), .val (.int (Int32.ofNat k0)), .val (.int (Int32.ofNat k1)), .val (.int (Int32.ofNat k2)), .val (.int (Int32.ofNat k3)), .val (.int (Int32.ofNat n)), .val (.int (Int32.ofNat i)), .val (.int (Int32.ofNat j)), .val (.ref o1), .val (.ref o9), .val (.int (Int32.ofNat (j - i)))] [(.int (Int32.ofNat k3)), (.int (Int32.ofNat k2)), (.int (Int32.ofNat k1)), (.int (Int32.ofNat k0)), (.int (Int32.ofNat i)), (.int (Int32.ofNat ((fun t => (fun j => [k0, k1, k2, k3].getD j 0) (i + t)) 0)))]))
    have lt_o1 := Ei1.lt
    have lt_b1 := A_b1.lt
    have lt_b4 := Ei6.lt
    have lt_o9 := Ei9.lt
    have lt_b9 := A_b9.lt
    obtain ⟨v17, T17, L17, X17, hQ17, st17⟩ := own_callS X15 hx hZ (y := (⟨"com/example/hansou/hansou/SpanOfPinLaw", "pick", "(ICCCC)C"⟩ : MethodName)) hown (hw _ (List.mem_of_getElem? (i := 108) rfl)) (hw _ (List.mem_of_getElem? (i := 109) rfl)) (hw _ (List.mem_of_getElem? (i := 4) rfl)) (hw _ (List.mem_of_getElem? (i := 110) rfl)) (by decide) (argsL := [(.int (Int32.ofNat i)), (.int (Int32.ofNat k0)), (.int (Int32.ofNat k1)), (.int (Int32.ofNat k2)), (.int (Int32.ofNat k3))]) (rm_pick l Z a0 hw [] i k0 k1 k2 k3 h9 n0 Zp11 (by omega) hck) e15 (W := 1) (by decide) (by decide) (by decide) (by decide) (g := (mkF m 144 #[.val (.int p1), .val (.int p2), .val (.int p3), .val (.int p4), .val (.int p5), .val (.int (Int32.ofNat k0)), .val (.int (Int32.ofNat k1)), .val (.int (Int32.ofNat k2)), .val (.int (Int32.ofNat k3)), .val (.int (Int32.ofNat n)), .val (.int (Int32.ofNat i)), .val (.int (Int32.ofNat j)), .val (.ref o1), .val (.ref o9), .val (.int (Int32.ofNat (j - i)))] [(.int (Int32.ofNat k3)), (.int (Int32.ofNat k2)), (.int (Int32.ofNat k1)), (.int (Int32.ofNat k0)), (.int (Int32.ofNat i)), (.int (Int32.ofNat ((fun t => (fun j => [k0, k1, k2, k3].getD j 0) (i + t)) 0)))])) rfl (by rw [hml]; rfl) (rest := [(.int (Int32.ofNat ((fun t => (fun j => [k0, k1, k2, k3].getD j 0) (i + t)) 0)))]) (lenOf pd_30 rfl) rfl (by show 2 * 0 + _ ≤ _; exact Nat.le_of_eq rfl) (hb hby at_144)
    refine GoesW.step st17 ?_
    obtain ⟨rfl, N17, e17⟩ := hQ17
    have N18 := Fr.app N16 N17
    show GoesW p ee below s _ _ _ _ _ (T17.setTop (mkF m 147 #[.val (.int p1), .val (.int p2), .val (.int p3), .val (.int p4), .val (.int p5), .val (.int (Int32.ofNat k0)), .val (.int (Int32.ofNat k1)), .val (.int (Int32.ofNat k2)), .val (.int (Int32.ofNat k3)), .val (.int (Int32.ofNat n)), .val (.int (Int32.ofNat i)), .val (.int (Int32.ofNat j)), .val (.ref o1), .val (.ref o9), .val (.int (Int32.ofNat (j - i)))] [(.int (Int32.ofNat ([k0, k1, k2, k3].getD i 0))), (.int (Int32.ofNat ((fun t => (fun j => [k0, k1, k2, k3].getD j 0) (i + t)) 0)))]))
    refine GoesW.step (fun _ hr_ => XS.icmpYes X17.here hx rfl (pc0 := 147) (pc' := 152) rfl (hb hby at_147) rfl (teq rfl).1 (by decide) (by decide) hr_) ?_
    show GoesW p ee below s _ _ _ _ _ (T17.setTop (mkF m 152 #[.val (.int p1), .val (.int p2), .val (.int p3), .val (.int p4), .val (.int p5), .val (.int (Int32.ofNat k0)), .val (.int (Int32.ofNat k1)), .val (.int (Int32.ofNat k2)), .val (.int (Int32.ofNat k3)), .val (.int (Int32.ofNat n)), .val (.int (Int32.ofNat i)), .val (.int (Int32.ofNat j)), .val (.ref o1), .val (.ref o9), .val (.int (Int32.ofNat (j - i)))] []))
    refine GoesW.step (fun _ hr_ => XS.iload X17.here hx rfl (hb hby at_152) rfl  hr_) ?_
    show GoesW p ee below s _ _ _ _ _ (T17.setTop (mkF m 154 #[.val (.int p1), .val (.int p2), .val (.int p3), .val (.int p4), .val (.int p5), .val (.int (Int32.ofNat k0)), .val (.int (Int32.ofNat k1)), .val (.int (Int32.ofNat k2)), .val (.int (Int32.ofNat k3)), .val (.int (Int32.ofNat n)), .val (.int (Int32.ofNat i)), .val (.int (Int32.ofNat j)), .val (.ref o1), .val (.ref o9), .val (.int (Int32.ofNat (j - i)))] [(.int (Int32.ofNat (j - i)))]))
    refine GoesW.step (fun _ hr_ => XS.iconst X17.here hx rfl (hb hby at_154) hr_) ?_
    show GoesW p ee below s _ _ _ _ _ (T17.setTop (mkF m 155 #[.val (.int p1), .val (.int p2), .val (.int p3), .val (.int p4), .val (.int p5), .val (.int (Int32.ofNat k0)), .val (.int (Int32.ofNat k1)), .val (.int (Int32.ofNat k2)), .val (.int (Int32.ofNat k3)), .val (.int (Int32.ofNat n)), .val (.int (Int32.ofNat i)), .val (.int (Int32.ofNat j)), .val (.ref o1), .val (.ref o9), .val (.int (Int32.ofNat (j - i)))] [(.int (1 : Int32)), (.int (Int32.ofNat (j - i)))]))
    by_cases hn155_19 : 1 < j - i
    · refine GoesW.step (fun _ hr_ => XS.icmpNo X17.here hx rfl (hb hby at_155) rfl (tlt ((own_ltN 1 (j - i) (by decide) (by omega)).mpr hn155_19)).2.2.2 hr_) ?_
      show GoesW p ee below s _ _ _ _ _ (T17.setTop (mkF m 158 #[.val (.int p1), .val (.int p2), .val (.int p3), .val (.int p4), .val (.int p5), .val (.int (Int32.ofNat k0)), .val (.int (Int32.ofNat k1)), .val (.int (Int32.ofNat k2)), .val (.int (Int32.ofNat k3)), .val (.int (Int32.ofNat n)), .val (.int (Int32.ofNat i)), .val (.int (Int32.ofNat j)), .val (.ref o1), .val (.ref o9), .val (.int (Int32.ofNat (j - i)))] []))
      refine GoesW.step (fun _ hr_ => XS.aload X17.here hx rfl (hb hby at_158) rfl rfl hr_) ?_
      show GoesW p ee below s _ _ _ _ _ (T17.setTop (mkF m 160 #[.val (.int p1), .val (.int p2), .val (.int p3), .val (.int p4), .val (.int p5), .val (.int (Int32.ofNat k0)), .val (.int (Int32.ofNat k1)), .val (.int (Int32.ofNat k2)), .val (.int (Int32.ofNat k3)), .val (.int (Int32.ofNat n)), .val (.int (Int32.ofNat i)), .val (.int (Int32.ofNat j)), .val (.ref o1), .val (.ref o9), .val (.int (Int32.ofNat (j - i)))] [(.ref o9)]))
      refine GoesW.step (fun _ hr_ => XS.iconst X17.here hx rfl (hb hby at_160) hr_) ?_
      show GoesW p ee below s _ _ _ _ _ (T17.setTop (mkF m 161 #[.val (.int p1), .val (.int p2), .val (.int p3), .val (.int p4), .val (.int p5), .val (.int (Int32.ofNat k0)), .val (.int (Int32.ofNat k1)), .val (.int (Int32.ofNat k2)), .val (.int (Int32.ofNat k3)), .val (.int (Int32.ofNat n)), .val (.int (Int32.ofNat i)), .val (.int (Int32.ofNat j)), .val (.ref o1), .val (.ref o9), .val (.int (Int32.ofNat (j - i)))] [(.int (1 : Int32)), (.ref o9)]))
      have lt_o1 := Ei1.lt
      have lt_b1 := A_b1.lt
      have lt_b4 := Ei6.lt
      have lt_o9 := Ei9.lt
      have lt_b9 := A_b9.lt
      obtain ⟨v20, T20, L20, X20, hQ20, st20⟩ := own_callV X17 hx hZ (y := (⟨"java/lang/String", "charAt", "(I)C"⟩ : MethodName)) hown (hw _ (List.mem_of_getElem? (i := 94) rfl)) (hw _ (List.mem_of_getElem? (i := 95) rfl)) (hw _ (List.mem_of_getElem? (i := 97) rfl)) (hw _ (List.mem_of_getElem? (i := 96) rfl)) (hw _ (List.mem_of_getElem? (i := 8) rfl)) (hw _ (List.mem_of_getElem? (i := 98) rfl)) (by decide) (a := o9) (argsL := [(.int (1 : Int32))]) (rm_schar l Z a0 hw [] cs fm o9 b9 u9 (j - i) (fun t => (fun j => [k0, k1, k2, k3].getD j 0) (i + t)) 1 h9 n0 Zp11 ST OO (by omega) Ei9 Fv9 Fc9 A_b9 (fun t ht => hck _ (by omega)) hlu9 (by omega)) e17 Ei9 (W := 0) (by decide) (by decide) (by decide) (by decide) (g := (mkF m 161 #[.val (.int p1), .val (.int p2), .val (.int p3), .val (.int p4), .val (.int p5), .val (.int (Int32.ofNat k0)), .val (.int (Int32.ofNat k1)), .val (.int (Int32.ofNat k2)), .val (.int (Int32.ofNat k3)), .val (.int (Int32.ofNat n)), .val (.int (Int32.ofNat i)), .val (.int (Int32.ofNat j)), .val (.ref o1), .val (.ref o9), .val (.int (Int32.ofNat (j - i)))] [(.int (1 : Int32)), (.ref o9)])) rfl (by rw [hml]; rfl) (rest := []) (lenOf pd_29 rfl) rfl (by show 2 * 0 + _ ≤ _; exact Nat.le_of_eq rfl) (hb hby at_161)
      refine GoesW.step st20 ?_
      obtain ⟨rfl, N20, e20⟩ := hQ20
      have N21 := Fr.app N18 N20
      show GoesW p ee below s _ _ _ _ _ (T20.setTop (mkF m 164 #[.val (.int p1), .val (.int p2), .val (.int p3), .val (.int p4), .val (.int p5), .val (.int (Int32.ofNat k0)), .val (.int (Int32.ofNat k1)), .val (.int (Int32.ofNat k2)), .val (.int (Int32.ofNat k3)), .val (.int (Int32.ofNat n)), .val (.int (Int32.ofNat i)), .val (.int (Int32.ofNat j)), .val (.ref o1), .val (.ref o9), .val (.int (Int32.ofNat (j - i)))] [(.int (Int32.ofNat ((fun t => (fun j => [k0, k1, k2, k3].getD j 0) (i + t)) 1)))]))
      refine GoesW.step (fun _ hr_ => XS.iload X20.here hx rfl (hb hby at_164) rfl  hr_) ?_
      show GoesW p ee below s _ _ _ _ _ (T20.setTop (mkF m 166 #[.val (.int p1), .val (.int p2), .val (.int p3), .val (.int p4), .val (.int p5), .val (.int (Int32.ofNat k0)), .val (.int (Int32.ofNat k1)), .val (.int (Int32.ofNat k2)), .val (.int (Int32.ofNat k3)), .val (.int (Int32.ofNat n)), .val (.int (Int32.ofNat i)), .val (.int (Int32.ofNat j)), .val (.ref o1), .val (.ref o9), .val (.int (Int32.ofNat (j - i)))] [(.int (Int32.ofNat i)), (.int (Int32.ofNat ((fun t => (fun j => [k0, k1, k2, k3].getD j 0) (i + t)) 1)))]))
      refine GoesW.step (fun _ hr_ => XS.iconst X20.here hx rfl (hb hby at_166) hr_) ?_
      show GoesW p ee below s _ _ _ _ _ (T20.setTop (mkF m 167 #[.val (.int p1), .val (.int p2), .val (.int p3), .val (.int p4), .val (.int p5), .val (.int (Int32.ofNat k0)), .val (.int (Int32.ofNat k1)), .val (.int (Int32.ofNat k2)), .val (.int (Int32.ofNat k3)), .val (.int (Int32.ofNat n)), .val (.int (Int32.ofNat i)), .val (.int (Int32.ofNat j)), .val (.ref o1), .val (.ref o9), .val (.int (Int32.ofNat (j - i)))] [(.int (1 : Int32)), (.int (Int32.ofNat i)), (.int (Int32.ofNat ((fun t => (fun j => [k0, k1, k2, k3].getD j 0) (i + t)) 1)))]))
      refine GoesW.step (fun _ hr_ => XS.iadd X20.here hx rfl (hb hby at_167) rfl hr_) ?_
      show GoesW p ee below s _ _ _ _ _ (T20.setTop (mkF m 168 #[.val (.int p1), .val (.int p2), .val (.int p3), .val (.int p4), .val (.int p5), .val (.int (Int32.ofNat k0)), .val (.int (Int32.ofNat k1)), .val (.int (Int32.ofNat k2)), .val (.int (Int32.ofNat k3)), .val (.int (Int32.ofNat n)), .val (.int (Int32.ofNat i)), .val (.int (Int32.ofNat j)), .val (.ref o1), .val (.ref o9), .val (.int (Int32.ofNat (j - i)))] [(.int ((Int32.ofNat i) + (1 : Int32))), (.int (Int32.ofNat ((fun t => (fun j => [k0, k1, k2, k3].getD j 0) (i + t)) 1)))]))
      rw [show Int32.ofNat i + (1 : Int32) = Int32.ofNat (i + 1) from own_addN i 1]
      show GoesW p ee below s _ _ _ _ _ (T20.setTop (mkF m 168 #[.val (.int p1), .val (.int p2), .val (.int p3), .val (.int p4), .val (.int p5), .val (.int (Int32.ofNat k0)), .val (.int (Int32.ofNat k1)), .val (.int (Int32.ofNat k2)), .val (.int (Int32.ofNat k3)), .val (.int (Int32.ofNat n)), .val (.int (Int32.ofNat i)), .val (.int (Int32.ofNat j)), .val (.ref o1), .val (.ref o9), .val (.int (Int32.ofNat (j - i)))] [(.int (Int32.ofNat (i + 1))), (.int (Int32.ofNat ((fun t => (fun j => [k0, k1, k2, k3].getD j 0) (i + t)) 1)))]))
      refine GoesW.step (fun _ hr_ => XS.iload X20.here hx rfl (hb hby at_168) rfl  hr_) ?_
      show GoesW p ee below s _ _ _ _ _ (T20.setTop (mkF m 170 #[.val (.int p1), .val (.int p2), .val (.int p3), .val (.int p4), .val (.int p5), .val (.int (Int32.ofNat k0)), .val (.int (Int32.ofNat k1)), .val (.int (Int32.ofNat k2)), .val (.int (Int32.ofNat k3)), .val (.int (Int32.ofNat n)), .val (.int (Int32.ofNat i)), .val (.int (Int32.ofNat j)), .val (.ref o1), .val (.ref o9), .val (.int (Int32.ofNat (j - i)))] [(.int (Int32.ofNat k0)), (.int (Int32.ofNat (i + 1))), (.int (Int32.ofNat ((fun t => (fun j => [k0, k1, k2, k3].getD j 0) (i + t)) 1)))]))
      refine GoesW.step (fun _ hr_ => XS.iload X20.here hx rfl (hb hby at_170) rfl  hr_) ?_
      show GoesW p ee below s _ _ _ _ _ (T20.setTop (mkF m 172 #[.val (.int p1), .val (.int p2), .val (.int p3), .val (.int p4), .val (.int p5), .val (.int (Int32.ofNat k0)), .val (.int (Int32.ofNat k1)), .val (.int (Int32.ofNat k2)), .val (.int (Int32.ofNat k3)), .val (.int (Int32.ofNat n)), .val (.int (Int32.ofNat i)), .val (.int (Int32.ofNat j)), .val (.ref o1), .val (.ref o9), .val (.int (Int32.ofNat (j - i)))] [(.int (Int32.ofNat k1)), (.int (Int32.ofNat k0)), (.int (Int32.ofNat (i + 1))), (.int (Int32.ofNat ((fun t => (fun j => [k0, k1, k2, k3].getD j 0) (i + t)) 1)))]))
      refine GoesW.step (fun _ hr_ => XS.iload X20.here hx rfl (hb hby at_172) rfl  hr_) ?_
      show GoesW p ee below s _ _ _ _ _ (T20.setTop (mkF m 174 #[.val (.int p1), .val (.int p2), .val (.int p3), .val (.int p4), .val (.int p5), .val (.int (Int32.ofNat k0)), .val (.int (Int32.ofNat k1)), .val (.int (Int32.ofNat k2)), .val (.int (Int32.ofNat k3)), .val (.int (Int32.ofNat n)), .val (.int (Int32.ofNat i)), .val (.int (Int32.ofNat j)), .val (.ref o1), .val (.ref o9), .val (.int (Int32.ofNat (j - i)))] [(.int (Int32.ofNat k2)), (.int (Int32.ofNat k1)), (.int (Int32.ofNat k0)), (.int (Int32.ofNat (i + 1))), (.int (Int32.ofNat ((fun t => (fun j => [k0, k1, k2, k3].getD j 0) (i + t)) 1)))]))
      refine GoesW.step (fun _ hr_ => XS.iload X20.here hx rfl (hb hby at_174) rfl  hr_) ?_
      show GoesW p ee below s _ _ _ _ _ (T20.setTop (mkF m 176 #[.val (.int p1), .val (.int p2), .val (.int p3), .val (.int p4), .val (.int p5), .val (.int (Int32.ofNat k0)), .val (.int (Int32.ofNat k1)), .val (.int (Int32.ofNat k2)), .val (.int (Int32.ofNat k3)), .val (.int (Int32.ofNat n)), .val (.int (Int32.ofNat i)), .val (.int (Int32.ofNat j)), .val (.ref o1), .val (.ref o9), .val (.int (Int32.ofNat (j - i)))] [(.int (Int32.ofNat k3)), (.int (Int32.ofNat k2)), (.int (Int32.ofNat k1)), (.int (Int32.ofNat k0)), (.int (Int32.ofNat (i + 1))), (.int (Int32.ofNat ((fun t => (fun j => [k0, k1, k2, k3].getD j 0) (i + t)) 1)))]))
      have lt_o1 := Ei1.lt
      have lt_b1 := A_b1.lt
      have lt_b4 := Ei6.lt
      have lt_o9 := Ei9.lt
      have lt_b9 := A_b9.lt
      obtain ⟨v22, T22, L22, X22, hQ22, st22⟩ := own_callS X20 hx hZ (y := (⟨"com/example/hansou/hansou/SpanOfPinLaw", "pick", "(ICCCC)C"⟩ : MethodName)) hown (hw _ (List.mem_of_getElem? (i := 108) rfl)) (hw _ (List.mem_of_getElem? (i := 109) rfl)) (hw _ (List.mem_of_getElem? (i := 4) rfl)) (hw _ (List.mem_of_getElem? (i := 110) rfl)) (by decide) (argsL := [(.int (Int32.ofNat (i + 1))), (.int (Int32.ofNat k0)), (.int (Int32.ofNat k1)), (.int (Int32.ofNat k2)), (.int (Int32.ofNat k3))]) (rm_pick l Z a0 hw [] (i + 1) k0 k1 k2 k3 h9 n0 Zp11 (by omega) hck) e20 (W := 1) (by decide) (by decide) (by decide) (by decide) (g := (mkF m 176 #[.val (.int p1), .val (.int p2), .val (.int p3), .val (.int p4), .val (.int p5), .val (.int (Int32.ofNat k0)), .val (.int (Int32.ofNat k1)), .val (.int (Int32.ofNat k2)), .val (.int (Int32.ofNat k3)), .val (.int (Int32.ofNat n)), .val (.int (Int32.ofNat i)), .val (.int (Int32.ofNat j)), .val (.ref o1), .val (.ref o9), .val (.int (Int32.ofNat (j - i)))] [(.int (Int32.ofNat k3)), (.int (Int32.ofNat k2)), (.int (Int32.ofNat k1)), (.int (Int32.ofNat k0)), (.int (Int32.ofNat (i + 1))), (.int (Int32.ofNat ((fun t => (fun j => [k0, k1, k2, k3].getD j 0) (i + t)) 1)))])) rfl (by rw [hml]; rfl) (rest := [(.int (Int32.ofNat ((fun t => (fun j => [k0, k1, k2, k3].getD j 0) (i + t)) 1)))]) (lenOf pd_30 rfl) rfl (by show 2 * 0 + _ ≤ _; exact Nat.le_of_eq rfl) (hb hby at_176)
      refine GoesW.step st22 ?_
      obtain ⟨rfl, N22, e22⟩ := hQ22
      have N23 := Fr.app N21 N22
      show GoesW p ee below s _ _ _ _ _ (T22.setTop (mkF m 179 #[.val (.int p1), .val (.int p2), .val (.int p3), .val (.int p4), .val (.int p5), .val (.int (Int32.ofNat k0)), .val (.int (Int32.ofNat k1)), .val (.int (Int32.ofNat k2)), .val (.int (Int32.ofNat k3)), .val (.int (Int32.ofNat n)), .val (.int (Int32.ofNat i)), .val (.int (Int32.ofNat j)), .val (.ref o1), .val (.ref o9), .val (.int (Int32.ofNat (j - i)))] [(.int (Int32.ofNat ([k0, k1, k2, k3].getD (i + 1) 0))), (.int (Int32.ofNat ((fun t => (fun j => [k0, k1, k2, k3].getD j 0) (i + t)) 1)))]))
      refine GoesW.step (fun _ hr_ => XS.icmpYes X22.here hx rfl (pc0 := 179) (pc' := 184) rfl (hb hby at_179) rfl (teq rfl).1 (by decide) (by decide) hr_) ?_
      show GoesW p ee below s _ _ _ _ _ (T22.setTop (mkF m 184 #[.val (.int p1), .val (.int p2), .val (.int p3), .val (.int p4), .val (.int p5), .val (.int (Int32.ofNat k0)), .val (.int (Int32.ofNat k1)), .val (.int (Int32.ofNat k2)), .val (.int (Int32.ofNat k3)), .val (.int (Int32.ofNat n)), .val (.int (Int32.ofNat i)), .val (.int (Int32.ofNat j)), .val (.ref o1), .val (.ref o9), .val (.int (Int32.ofNat (j - i)))] []))
      refine GoesW.step (fun _ hr_ => XS.iload X22.here hx rfl (hb hby at_184) rfl  hr_) ?_
      show GoesW p ee below s _ _ _ _ _ (T22.setTop (mkF m 186 #[.val (.int p1), .val (.int p2), .val (.int p3), .val (.int p4), .val (.int p5), .val (.int (Int32.ofNat k0)), .val (.int (Int32.ofNat k1)), .val (.int (Int32.ofNat k2)), .val (.int (Int32.ofNat k3)), .val (.int (Int32.ofNat n)), .val (.int (Int32.ofNat i)), .val (.int (Int32.ofNat j)), .val (.ref o1), .val (.ref o9), .val (.int (Int32.ofNat (j - i)))] [(.int (Int32.ofNat (j - i)))]))
      refine GoesW.step (fun _ hr_ => XS.iconst X22.here hx rfl (hb hby at_186) hr_) ?_
      show GoesW p ee below s _ _ _ _ _ (T22.setTop (mkF m 187 #[.val (.int p1), .val (.int p2), .val (.int p3), .val (.int p4), .val (.int p5), .val (.int (Int32.ofNat k0)), .val (.int (Int32.ofNat k1)), .val (.int (Int32.ofNat k2)), .val (.int (Int32.ofNat k3)), .val (.int (Int32.ofNat n)), .val (.int (Int32.ofNat i)), .val (.int (Int32.ofNat j)), .val (.ref o1), .val (.ref o9), .val (.int (Int32.ofNat (j - i)))] [(.int (2 : Int32)), (.int (Int32.ofNat (j - i)))]))
      by_cases hn187_24 : 2 < j - i
      · refine GoesW.step (fun _ hr_ => XS.icmpNo X22.here hx rfl (hb hby at_187) rfl (tlt ((own_ltN 2 (j - i) (by decide) (by omega)).mpr hn187_24)).2.2.2 hr_) ?_
        show GoesW p ee below s _ _ _ _ _ (T22.setTop (mkF m 190 #[.val (.int p1), .val (.int p2), .val (.int p3), .val (.int p4), .val (.int p5), .val (.int (Int32.ofNat k0)), .val (.int (Int32.ofNat k1)), .val (.int (Int32.ofNat k2)), .val (.int (Int32.ofNat k3)), .val (.int (Int32.ofNat n)), .val (.int (Int32.ofNat i)), .val (.int (Int32.ofNat j)), .val (.ref o1), .val (.ref o9), .val (.int (Int32.ofNat (j - i)))] []))
        refine GoesW.step (fun _ hr_ => XS.aload X22.here hx rfl (hb hby at_190) rfl rfl hr_) ?_
        show GoesW p ee below s _ _ _ _ _ (T22.setTop (mkF m 192 #[.val (.int p1), .val (.int p2), .val (.int p3), .val (.int p4), .val (.int p5), .val (.int (Int32.ofNat k0)), .val (.int (Int32.ofNat k1)), .val (.int (Int32.ofNat k2)), .val (.int (Int32.ofNat k3)), .val (.int (Int32.ofNat n)), .val (.int (Int32.ofNat i)), .val (.int (Int32.ofNat j)), .val (.ref o1), .val (.ref o9), .val (.int (Int32.ofNat (j - i)))] [(.ref o9)]))
        refine GoesW.step (fun _ hr_ => XS.iconst X22.here hx rfl (hb hby at_192) hr_) ?_
        show GoesW p ee below s _ _ _ _ _ (T22.setTop (mkF m 193 #[.val (.int p1), .val (.int p2), .val (.int p3), .val (.int p4), .val (.int p5), .val (.int (Int32.ofNat k0)), .val (.int (Int32.ofNat k1)), .val (.int (Int32.ofNat k2)), .val (.int (Int32.ofNat k3)), .val (.int (Int32.ofNat n)), .val (.int (Int32.ofNat i)), .val (.int (Int32.ofNat j)), .val (.ref o1), .val (.ref o9), .val (.int (Int32.ofNat (j - i)))] [(.int (2 : Int32)), (.ref o9)]))
        have lt_o1 := Ei1.lt
        have lt_b1 := A_b1.lt
        have lt_b4 := Ei6.lt
        have lt_o9 := Ei9.lt
        have lt_b9 := A_b9.lt
        obtain ⟨v25, T25, L25, X25, hQ25, st25⟩ := own_callV X22 hx hZ (y := (⟨"java/lang/String", "charAt", "(I)C"⟩ : MethodName)) hown (hw _ (List.mem_of_getElem? (i := 94) rfl)) (hw _ (List.mem_of_getElem? (i := 95) rfl)) (hw _ (List.mem_of_getElem? (i := 97) rfl)) (hw _ (List.mem_of_getElem? (i := 96) rfl)) (hw _ (List.mem_of_getElem? (i := 8) rfl)) (hw _ (List.mem_of_getElem? (i := 98) rfl)) (by decide) (a := o9) (argsL := [(.int (2 : Int32))]) (rm_schar l Z a0 hw [] cs fm o9 b9 u9 (j - i) (fun t => (fun j => [k0, k1, k2, k3].getD j 0) (i + t)) 2 h9 n0 Zp11 ST OO (by omega) Ei9 Fv9 Fc9 A_b9 (fun t ht => hck _ (by omega)) hlu9 (by omega)) e22 Ei9 (W := 0) (by decide) (by decide) (by decide) (by decide) (g := (mkF m 193 #[.val (.int p1), .val (.int p2), .val (.int p3), .val (.int p4), .val (.int p5), .val (.int (Int32.ofNat k0)), .val (.int (Int32.ofNat k1)), .val (.int (Int32.ofNat k2)), .val (.int (Int32.ofNat k3)), .val (.int (Int32.ofNat n)), .val (.int (Int32.ofNat i)), .val (.int (Int32.ofNat j)), .val (.ref o1), .val (.ref o9), .val (.int (Int32.ofNat (j - i)))] [(.int (2 : Int32)), (.ref o9)])) rfl (by rw [hml]; rfl) (rest := []) (lenOf pd_29 rfl) rfl (by show 2 * 0 + _ ≤ _; exact Nat.le_of_eq rfl) (hb hby at_193)
        refine GoesW.step st25 ?_
        obtain ⟨rfl, N25, e25⟩ := hQ25
        have N26 := Fr.app N23 N25
        show GoesW p ee below s _ _ _ _ _ (T25.setTop (mkF m 196 #[.val (.int p1), .val (.int p2), .val (.int p3), .val (.int p4), .val (.int p5), .val (.int (Int32.ofNat k0)), .val (.int (Int32.ofNat k1)), .val (.int (Int32.ofNat k2)), .val (.int (Int32.ofNat k3)), .val (.int (Int32.ofNat n)), .val (.int (Int32.ofNat i)), .val (.int (Int32.ofNat j)), .val (.ref o1), .val (.ref o9), .val (.int (Int32.ofNat (j - i)))] [(.int (Int32.ofNat ((fun t => (fun j => [k0, k1, k2, k3].getD j 0) (i + t)) 2)))]))
        refine GoesW.step (fun _ hr_ => XS.iload X25.here hx rfl (hb hby at_196) rfl  hr_) ?_
        show GoesW p ee below s _ _ _ _ _ (T25.setTop (mkF m 198 #[.val (.int p1), .val (.int p2), .val (.int p3), .val (.int p4), .val (.int p5), .val (.int (Int32.ofNat k0)), .val (.int (Int32.ofNat k1)), .val (.int (Int32.ofNat k2)), .val (.int (Int32.ofNat k3)), .val (.int (Int32.ofNat n)), .val (.int (Int32.ofNat i)), .val (.int (Int32.ofNat j)), .val (.ref o1), .val (.ref o9), .val (.int (Int32.ofNat (j - i)))] [(.int (Int32.ofNat i)), (.int (Int32.ofNat ((fun t => (fun j => [k0, k1, k2, k3].getD j 0) (i + t)) 2)))]))
        refine GoesW.step (fun _ hr_ => XS.iconst X25.here hx rfl (hb hby at_198) hr_) ?_
        show GoesW p ee below s _ _ _ _ _ (T25.setTop (mkF m 199 #[.val (.int p1), .val (.int p2), .val (.int p3), .val (.int p4), .val (.int p5), .val (.int (Int32.ofNat k0)), .val (.int (Int32.ofNat k1)), .val (.int (Int32.ofNat k2)), .val (.int (Int32.ofNat k3)), .val (.int (Int32.ofNat n)), .val (.int (Int32.ofNat i)), .val (.int (Int32.ofNat j)), .val (.ref o1), .val (.ref o9), .val (.int (Int32.ofNat (j - i)))] [(.int (2 : Int32)), (.int (Int32.ofNat i)), (.int (Int32.ofNat ((fun t => (fun j => [k0, k1, k2, k3].getD j 0) (i + t)) 2)))]))
        refine GoesW.step (fun _ hr_ => XS.iadd X25.here hx rfl (hb hby at_199) rfl hr_) ?_
        show GoesW p ee below s _ _ _ _ _ (T25.setTop (mkF m 200 #[.val (.int p1), .val (.int p2), .val (.int p3), .val (.int p4), .val (.int p5), .val (.int (Int32.ofNat k0)), .val (.int (Int32.ofNat k1)), .val (.int (Int32.ofNat k2)), .val (.int (Int32.ofNat k3)), .val (.int (Int32.ofNat n)), .val (.int (Int32.ofNat i)), .val (.int (Int32.ofNat j)), .val (.ref o1), .val (.ref o9), .val (.int (Int32.ofNat (j - i)))] [(.int ((Int32.ofNat i) + (2 : Int32))), (.int (Int32.ofNat ((fun t => (fun j => [k0, k1, k2, k3].getD j 0) (i + t)) 2)))]))
        rw [show Int32.ofNat i + (2 : Int32) = Int32.ofNat (i + 2) from own_addN i 2]
        show GoesW p ee below s _ _ _ _ _ (T25.setTop (mkF m 200 #[.val (.int p1), .val (.int p2), .val (.int p3), .val (.int p4), .val (.int p5), .val (.int (Int32.ofNat k0)), .val (.int (Int32.ofNat k1)), .val (.int (Int32.ofNat k2)), .val (.int (Int32.ofNat k3)), .val (.int (Int32.ofNat n)), .val (.int (Int32.ofNat i)), .val (.int (Int32.ofNat j)), .val (.ref o1), .val (.ref o9), .val (.int (Int32.ofNat (j - i)))] [(.int (Int32.ofNat (i + 2))), (.int (Int32.ofNat ((fun t => (fun j => [k0, k1, k2, k3].getD j 0) (i + t)) 2)))]))
        refine GoesW.step (fun _ hr_ => XS.iload X25.here hx rfl (hb hby at_200) rfl  hr_) ?_
        show GoesW p ee below s _ _ _ _ _ (T25.setTop (mkF m 202 #[.val (.int p1), .val (.int p2), .val (.int p3), .val (.int p4), .val (.int p5), .val (.int (Int32.ofNat k0)), .val (.int (Int32.ofNat k1)), .val (.int (Int32.ofNat k2)), .val (.int (Int32.ofNat k3)), .val (.int (Int32.ofNat n)), .val (.int (Int32.ofNat i)), .val (.int (Int32.ofNat j)), .val (.ref o1), .val (.ref o9), .val (.int (Int32.ofNat (j - i)))] [(.int (Int32.ofNat k0)), (.int (Int32.ofNat (i + 2))), (.int (Int32.ofNat ((fun t => (fun j => [k0, k1, k2, k3].getD j 0) (i + t)) 2)))]))
        refine GoesW.step (fun _ hr_ => XS.iload X25.here hx rfl (hb hby at_202) rfl  hr_) ?_
        show GoesW p ee below s _ _ _ _ _ (T25.setTop (mkF m 204 #[.val (.int p1), .val (.int p2), .val (.int p3), .val (.int p4), .val (.int p5), .val (.int (Int32.ofNat k0)), .val (.int (Int32.ofNat k1)), .val (.int (Int32.ofNat k2)), .val (.int (Int32.ofNat k3)), .val (.int (Int32.ofNat n)), .val (.int (Int32.ofNat i)), .val (.int (Int32.ofNat j)), .val (.ref o1), .val (.ref o9), .val (.int (Int32.ofNat (j - i)))] [(.int (Int32.ofNat k1)), (.int (Int32.ofNat k0)), (.int (Int32.ofNat (i + 2))), (.int (Int32.ofNat ((fun t => (fun j => [k0, k1, k2, k3].getD j 0) (i + t)) 2)))]))
        refine GoesW.step (fun _ hr_ => XS.iload X25.here hx rfl (hb hby at_204) rfl  hr_) ?_
        show GoesW p ee below s _ _ _ _ _ (T25.setTop (mkF m 206 #[.val (.int p1), .val (.int p2), .val (.int p3), .val (.int p4), .val (.int p5), .val (.int (Int32.ofNat k0)), .val (.int (Int32.ofNat k1)), .val (.int (Int32.ofNat k2)), .val (.int (Int32.ofNat k3)), .val (.int (Int32.ofNat n)), .val (.int (Int32.ofNat i)), .val (.int (Int32.ofNat j)), .val (.ref o1), .val (.ref o9), .val (.int (Int32.ofNat (j - i)))] [(.int (Int32.ofNat k2)), (.int (Int32.ofNat k1)), (.int (Int32.ofNat k0)), (.int (Int32.ofNat (i + 2))), (.int (Int32.ofNat ((fun t => (fun j => [k0, k1, k2, k3].getD j 0) (i + t)) 2)))]))
        refine GoesW.step (fun _ hr_ => XS.iload X25.here hx rfl (hb hby at_206) rfl  hr_) ?_
        show GoesW p ee below s _ _ _ _ _ (T25.setTop (mkF m 208 #[.val (.int p1), .val (.int p2), .val (.int p3), .val (.int p4), .val (.int p5), .val (.int (Int32.ofNat k0)), .val (.int (Int32.ofNat k1)), .val (.int (Int32.ofNat k2)), .val (.int (Int32.ofNat k3)), .val (.int (Int32.ofNat n)), .val (.int (Int32.ofNat i)), .val (.int (Int32.ofNat j)), .val (.ref o1), .val (.ref o9), .val (.int (Int32.ofNat (j - i)))] [(.int (Int32.ofNat k3)), (.int (Int32.ofNat k2)), (.int (Int32.ofNat k1)), (.int (Int32.ofNat k0)), (.int (Int32.ofNat (i + 2))), (.int (Int32.ofNat ((fun t => (fun j => [k0, k1, k2, k3].getD j 0) (i + t)) 2)))]))
        have lt_o1 := Ei1.lt
        have lt_b1 := A_b1.lt
        have lt_b4 := Ei6.lt
        have lt_o9 := Ei9.lt
        have lt_b9 := A_b9.lt
        obtain ⟨v27, T27, L27, X27, hQ27, st27⟩ := own_callS X25 hx hZ (y := (⟨"com/example/hansou/hansou/SpanOfPinLaw", "pick", "(ICCCC)C"⟩ : MethodName)) hown (hw _ (List.mem_of_getElem? (i := 108) rfl)) (hw _ (List.mem_of_getElem? (i := 109) rfl)) (hw _ (List.mem_of_getElem? (i := 4) rfl)) (hw _ (List.mem_of_getElem? (i := 110) rfl)) (by decide) (argsL := [(.int (Int32.ofNat (i + 2))), (.int (Int32.ofNat k0)), (.int (Int32.ofNat k1)), (.int (Int32.ofNat k2)), (.int (Int32.ofNat k3))]) (rm_pick l Z a0 hw [] (i + 2) k0 k1 k2 k3 h9 n0 Zp11 (by omega) hck) e25 (W := 1) (by decide) (by decide) (by decide) (by decide) (g := (mkF m 208 #[.val (.int p1), .val (.int p2), .val (.int p3), .val (.int p4), .val (.int p5), .val (.int (Int32.ofNat k0)), .val (.int (Int32.ofNat k1)), .val (.int (Int32.ofNat k2)), .val (.int (Int32.ofNat k3)), .val (.int (Int32.ofNat n)), .val (.int (Int32.ofNat i)), .val (.int (Int32.ofNat j)), .val (.ref o1), .val (.ref o9), .val (.int (Int32.ofNat (j - i)))] [(.int (Int32.ofNat k3)), (.int (Int32.ofNat k2)), (.int (Int32.ofNat k1)), (.int (Int32.ofNat k0)), (.int (Int32.ofNat (i + 2))), (.int (Int32.ofNat ((fun t => (fun j => [k0, k1, k2, k3].getD j 0) (i + t)) 2)))])) rfl (by rw [hml]; rfl) (rest := [(.int (Int32.ofNat ((fun t => (fun j => [k0, k1, k2, k3].getD j 0) (i + t)) 2)))]) (lenOf pd_30 rfl) rfl (by show 2 * 0 + _ ≤ _; exact Nat.le_of_eq rfl) (hb hby at_208)
        refine GoesW.step st27 ?_
        obtain ⟨rfl, N27, e27⟩ := hQ27
        have N28 := Fr.app N26 N27
        show GoesW p ee below s _ _ _ _ _ (T27.setTop (mkF m 211 #[.val (.int p1), .val (.int p2), .val (.int p3), .val (.int p4), .val (.int p5), .val (.int (Int32.ofNat k0)), .val (.int (Int32.ofNat k1)), .val (.int (Int32.ofNat k2)), .val (.int (Int32.ofNat k3)), .val (.int (Int32.ofNat n)), .val (.int (Int32.ofNat i)), .val (.int (Int32.ofNat j)), .val (.ref o1), .val (.ref o9), .val (.int (Int32.ofNat (j - i)))] [(.int (Int32.ofNat ([k0, k1, k2, k3].getD (i + 2) 0))), (.int (Int32.ofNat ((fun t => (fun j => [k0, k1, k2, k3].getD j 0) (i + t)) 2)))]))
        refine GoesW.step (fun _ hr_ => XS.icmpYes X27.here hx rfl (pc0 := 211) (pc' := 216) rfl (hb hby at_211) rfl (teq rfl).1 (by decide) (by decide) hr_) ?_
        show GoesW p ee below s _ _ _ _ _ (T27.setTop (mkF m 216 #[.val (.int p1), .val (.int p2), .val (.int p3), .val (.int p4), .val (.int p5), .val (.int (Int32.ofNat k0)), .val (.int (Int32.ofNat k1)), .val (.int (Int32.ofNat k2)), .val (.int (Int32.ofNat k3)), .val (.int (Int32.ofNat n)), .val (.int (Int32.ofNat i)), .val (.int (Int32.ofNat j)), .val (.ref o1), .val (.ref o9), .val (.int (Int32.ofNat (j - i)))] []))
        refine GoesW.step (fun _ hr_ => XS.iload X27.here hx rfl (hb hby at_216) rfl  hr_) ?_
        show GoesW p ee below s _ _ _ _ _ (T27.setTop (mkF m 218 #[.val (.int p1), .val (.int p2), .val (.int p3), .val (.int p4), .val (.int p5), .val (.int (Int32.ofNat k0)), .val (.int (Int32.ofNat k1)), .val (.int (Int32.ofNat k2)), .val (.int (Int32.ofNat k3)), .val (.int (Int32.ofNat n)), .val (.int (Int32.ofNat i)), .val (.int (Int32.ofNat j)), .val (.ref o1), .val (.ref o9), .val (.int (Int32.ofNat (j - i)))] [(.int (Int32.ofNat (j - i)))]))
        refine GoesW.step (fun _ hr_ => XS.iconst X27.here hx rfl (hb hby at_218) hr_) ?_
        show GoesW p ee below s _ _ _ _ _ (T27.setTop (mkF m 219 #[.val (.int p1), .val (.int p2), .val (.int p3), .val (.int p4), .val (.int p5), .val (.int (Int32.ofNat k0)), .val (.int (Int32.ofNat k1)), .val (.int (Int32.ofNat k2)), .val (.int (Int32.ofNat k3)), .val (.int (Int32.ofNat n)), .val (.int (Int32.ofNat i)), .val (.int (Int32.ofNat j)), .val (.ref o1), .val (.ref o9), .val (.int (Int32.ofNat (j - i)))] [(.int (3 : Int32)), (.int (Int32.ofNat (j - i)))]))
        by_cases hn219_29 : 3 < j - i
        · refine GoesW.step (fun _ hr_ => XS.icmpNo X27.here hx rfl (hb hby at_219) rfl (tlt ((own_ltN 3 (j - i) (by decide) (by omega)).mpr hn219_29)).2.2.2 hr_) ?_
          show GoesW p ee below s _ _ _ _ _ (T27.setTop (mkF m 222 #[.val (.int p1), .val (.int p2), .val (.int p3), .val (.int p4), .val (.int p5), .val (.int (Int32.ofNat k0)), .val (.int (Int32.ofNat k1)), .val (.int (Int32.ofNat k2)), .val (.int (Int32.ofNat k3)), .val (.int (Int32.ofNat n)), .val (.int (Int32.ofNat i)), .val (.int (Int32.ofNat j)), .val (.ref o1), .val (.ref o9), .val (.int (Int32.ofNat (j - i)))] []))
          refine GoesW.step (fun _ hr_ => XS.aload X27.here hx rfl (hb hby at_222) rfl rfl hr_) ?_
          show GoesW p ee below s _ _ _ _ _ (T27.setTop (mkF m 224 #[.val (.int p1), .val (.int p2), .val (.int p3), .val (.int p4), .val (.int p5), .val (.int (Int32.ofNat k0)), .val (.int (Int32.ofNat k1)), .val (.int (Int32.ofNat k2)), .val (.int (Int32.ofNat k3)), .val (.int (Int32.ofNat n)), .val (.int (Int32.ofNat i)), .val (.int (Int32.ofNat j)), .val (.ref o1), .val (.ref o9), .val (.int (Int32.ofNat (j - i)))] [(.ref o9)]))
          refine GoesW.step (fun _ hr_ => XS.iconst X27.here hx rfl (hb hby at_224) hr_) ?_
          show GoesW p ee below s _ _ _ _ _ (T27.setTop (mkF m 225 #[.val (.int p1), .val (.int p2), .val (.int p3), .val (.int p4), .val (.int p5), .val (.int (Int32.ofNat k0)), .val (.int (Int32.ofNat k1)), .val (.int (Int32.ofNat k2)), .val (.int (Int32.ofNat k3)), .val (.int (Int32.ofNat n)), .val (.int (Int32.ofNat i)), .val (.int (Int32.ofNat j)), .val (.ref o1), .val (.ref o9), .val (.int (Int32.ofNat (j - i)))] [(.int (3 : Int32)), (.ref o9)]))
          have lt_o1 := Ei1.lt
          have lt_b1 := A_b1.lt
          have lt_b4 := Ei6.lt
          have lt_o9 := Ei9.lt
          have lt_b9 := A_b9.lt
          obtain ⟨v30, T30, L30, X30, hQ30, st30⟩ := own_callV X27 hx hZ (y := (⟨"java/lang/String", "charAt", "(I)C"⟩ : MethodName)) hown (hw _ (List.mem_of_getElem? (i := 94) rfl)) (hw _ (List.mem_of_getElem? (i := 95) rfl)) (hw _ (List.mem_of_getElem? (i := 97) rfl)) (hw _ (List.mem_of_getElem? (i := 96) rfl)) (hw _ (List.mem_of_getElem? (i := 8) rfl)) (hw _ (List.mem_of_getElem? (i := 98) rfl)) (by decide) (a := o9) (argsL := [(.int (3 : Int32))]) (rm_schar l Z a0 hw [] cs fm o9 b9 u9 (j - i) (fun t => (fun j => [k0, k1, k2, k3].getD j 0) (i + t)) 3 h9 n0 Zp11 ST OO (by omega) Ei9 Fv9 Fc9 A_b9 (fun t ht => hck _ (by omega)) hlu9 (by omega)) e27 Ei9 (W := 0) (by decide) (by decide) (by decide) (by decide) (g := (mkF m 225 #[.val (.int p1), .val (.int p2), .val (.int p3), .val (.int p4), .val (.int p5), .val (.int (Int32.ofNat k0)), .val (.int (Int32.ofNat k1)), .val (.int (Int32.ofNat k2)), .val (.int (Int32.ofNat k3)), .val (.int (Int32.ofNat n)), .val (.int (Int32.ofNat i)), .val (.int (Int32.ofNat j)), .val (.ref o1), .val (.ref o9), .val (.int (Int32.ofNat (j - i)))] [(.int (3 : Int32)), (.ref o9)])) rfl (by rw [hml]; rfl) (rest := []) (lenOf pd_29 rfl) rfl (by show 2 * 0 + _ ≤ _; exact Nat.le_of_eq rfl) (hb hby at_225)
          refine GoesW.step st30 ?_
          obtain ⟨rfl, N30, e30⟩ := hQ30
          have N31 := Fr.app N28 N30
          show GoesW p ee below s _ _ _ _ _ (T30.setTop (mkF m 228 #[.val (.int p1), .val (.int p2), .val (.int p3), .val (.int p4), .val (.int p5), .val (.int (Int32.ofNat k0)), .val (.int (Int32.ofNat k1)), .val (.int (Int32.ofNat k2)), .val (.int (Int32.ofNat k3)), .val (.int (Int32.ofNat n)), .val (.int (Int32.ofNat i)), .val (.int (Int32.ofNat j)), .val (.ref o1), .val (.ref o9), .val (.int (Int32.ofNat (j - i)))] [(.int (Int32.ofNat ((fun t => (fun j => [k0, k1, k2, k3].getD j 0) (i + t)) 3)))]))
          refine GoesW.step (fun _ hr_ => XS.iload X30.here hx rfl (hb hby at_228) rfl  hr_) ?_
          show GoesW p ee below s _ _ _ _ _ (T30.setTop (mkF m 230 #[.val (.int p1), .val (.int p2), .val (.int p3), .val (.int p4), .val (.int p5), .val (.int (Int32.ofNat k0)), .val (.int (Int32.ofNat k1)), .val (.int (Int32.ofNat k2)), .val (.int (Int32.ofNat k3)), .val (.int (Int32.ofNat n)), .val (.int (Int32.ofNat i)), .val (.int (Int32.ofNat j)), .val (.ref o1), .val (.ref o9), .val (.int (Int32.ofNat (j - i)))] [(.int (Int32.ofNat i)), (.int (Int32.ofNat ((fun t => (fun j => [k0, k1, k2, k3].getD j 0) (i + t)) 3)))]))
          refine GoesW.step (fun _ hr_ => XS.iconst X30.here hx rfl (hb hby at_230) hr_) ?_
          show GoesW p ee below s _ _ _ _ _ (T30.setTop (mkF m 231 #[.val (.int p1), .val (.int p2), .val (.int p3), .val (.int p4), .val (.int p5), .val (.int (Int32.ofNat k0)), .val (.int (Int32.ofNat k1)), .val (.int (Int32.ofNat k2)), .val (.int (Int32.ofNat k3)), .val (.int (Int32.ofNat n)), .val (.int (Int32.ofNat i)), .val (.int (Int32.ofNat j)), .val (.ref o1), .val (.ref o9), .val (.int (Int32.ofNat (j - i)))] [(.int (3 : Int32)), (.int (Int32.ofNat i)), (.int (Int32.ofNat ((fun t => (fun j => [k0, k1, k2, k3].getD j 0) (i + t)) 3)))]))
          refine GoesW.step (fun _ hr_ => XS.iadd X30.here hx rfl (hb hby at_231) rfl hr_) ?_
          show GoesW p ee below s _ _ _ _ _ (T30.setTop (mkF m 232 #[.val (.int p1), .val (.int p2), .val (.int p3), .val (.int p4), .val (.int p5), .val (.int (Int32.ofNat k0)), .val (.int (Int32.ofNat k1)), .val (.int (Int32.ofNat k2)), .val (.int (Int32.ofNat k3)), .val (.int (Int32.ofNat n)), .val (.int (Int32.ofNat i)), .val (.int (Int32.ofNat j)), .val (.ref o1), .val (.ref o9), .val (.int (Int32.ofNat (j - i)))] [(.int ((Int32.ofNat i) + (3 : Int32))), (.int (Int32.ofNat ((fun t => (fun j => [k0, k1, k2, k3].getD j 0) (i + t)) 3)))]))
          rw [show Int32.ofNat i + (3 : Int32) = Int32.ofNat (i + 3) from own_addN i 3]
          show GoesW p ee below s _ _ _ _ _ (T30.setTop (mkF m 232 #[.val (.int p1), .val (.int p2), .val (.int p3), .val (.int p4), .val (.int p5), .val (.int (Int32.ofNat k0)), .val (.int (Int32.ofNat k1)), .val (.int (Int32.ofNat k2)), .val (.int (Int32.ofNat k3)), .val (.int (Int32.ofNat n)), .val (.int (Int32.ofNat i)), .val (.int (Int32.ofNat j)), .val (.ref o1), .val (.ref o9), .val (.int (Int32.ofNat (j - i)))] [(.int (Int32.ofNat (i + 3))), (.int (Int32.ofNat ((fun t => (fun j => [k0, k1, k2, k3].getD j 0) (i + t)) 3)))]))
          refine GoesW.step (fun _ hr_ => XS.iload X30.here hx rfl (hb hby at_232) rfl  hr_) ?_
          show GoesW p ee below s _ _ _ _ _ (T30.setTop (mkF m 234 #[.val (.int p1), .val (.int p2), .val (.int p3), .val (.int p4), .val (.int p5), .val (.int (Int32.ofNat k0)), .val (.int (Int32.ofNat k1)), .val (.int (Int32.ofNat k2)), .val (.int (Int32.ofNat k3)), .val (.int (Int32.ofNat n)), .val (.int (Int32.ofNat i)), .val (.int (Int32.ofNat j)), .val (.ref o1), .val (.ref o9), .val (.int (Int32.ofNat (j - i)))] [(.int (Int32.ofNat k0)), (.int (Int32.ofNat (i + 3))), (.int (Int32.ofNat ((fun t => (fun j => [k0, k1, k2, k3].getD j 0) (i + t)) 3)))]))
          refine GoesW.step (fun _ hr_ => XS.iload X30.here hx rfl (hb hby at_234) rfl  hr_) ?_
          show GoesW p ee below s _ _ _ _ _ (T30.setTop (mkF m 236 #[.val (.int p1), .val (.int p2), .val (.int p3), .val (.int p4), .val (.int p5), .val (.int (Int32.ofNat k0)), .val (.int (Int32.ofNat k1)), .val (.int (Int32.ofNat k2)), .val (.int (Int32.ofNat k3)), .val (.int (Int32.ofNat n)), .val (.int (Int32.ofNat i)), .val (.int (Int32.ofNat j)), .val (.ref o1), .val (.ref o9), .val (.int (Int32.ofNat (j - i)))] [(.int (Int32.ofNat k1)), (.int (Int32.ofNat k0)), (.int (Int32.ofNat (i + 3))), (.int (Int32.ofNat ((fun t => (fun j => [k0, k1, k2, k3].getD j 0) (i + t)) 3)))]))
          refine GoesW.step (fun _ hr_ => XS.iload X30.here hx rfl (hb hby at_236) rfl  hr_) ?_
          show GoesW p ee below s _ _ _ _ _ (T30.setTop (mkF m 238 #[.val (.int p1), .val (.int p2), .val (.int p3), .val (.int p4), .val (.int p5), .val (.int (Int32.ofNat k0)), .val (.int (Int32.ofNat k1)), .val (.int (Int32.ofNat k2)), .val (.int (Int32.ofNat k3)), .val (.int (Int32.ofNat n)), .val (.int (Int32.ofNat i)), .val (.int (Int32.ofNat j)), .val (.ref o1), .val (.ref o9), .val (.int (Int32.ofNat (j - i)))] [(.int (Int32.ofNat k2)), (.int (Int32.ofNat k1)), (.int (Int32.ofNat k0)), (.int (Int32.ofNat (i + 3))), (.int (Int32.ofNat ((fun t => (fun j => [k0, k1, k2, k3].getD j 0) (i + t)) 3)))]))
          refine GoesW.step (fun _ hr_ => XS.iload X30.here hx rfl (hb hby at_238) rfl  hr_) ?_
          show GoesW p ee below s _ _ _ _ _ (T30.setTop (mkF m 240 #[.val (.int p1), .val (.int p2), .val (.int p3), .val (.int p4), .val (.int p5), .val (.int (Int32.ofNat k0)), .val (.int (Int32.ofNat k1)), .val (.int (Int32.ofNat k2)), .val (.int (Int32.ofNat k3)), .val (.int (Int32.ofNat n)), .val (.int (Int32.ofNat i)), .val (.int (Int32.ofNat j)), .val (.ref o1), .val (.ref o9), .val (.int (Int32.ofNat (j - i)))] [(.int (Int32.ofNat k3)), (.int (Int32.ofNat k2)), (.int (Int32.ofNat k1)), (.int (Int32.ofNat k0)), (.int (Int32.ofNat (i + 3))), (.int (Int32.ofNat ((fun t => (fun j => [k0, k1, k2, k3].getD j 0) (i + t)) 3)))]))
          have lt_o1 := Ei1.lt
          have lt_b1 := A_b1.lt
          have lt_b4 := Ei6.lt
          have lt_o9 := Ei9.lt
          have lt_b9 := A_b9.lt
          obtain ⟨v32, T32, L32, X32, hQ32, st32⟩ := own_callS X30 hx hZ (y := (⟨"com/example/hansou/hansou/SpanOfPinLaw", "pick", "(ICCCC)C"⟩ : MethodName)) hown (hw _ (List.mem_of_getElem? (i := 108) rfl)) (hw _ (List.mem_of_getElem? (i := 109) rfl)) (hw _ (List.mem_of_getElem? (i := 4) rfl)) (hw _ (List.mem_of_getElem? (i := 110) rfl)) (by decide) (argsL := [(.int (Int32.ofNat (i + 3))), (.int (Int32.ofNat k0)), (.int (Int32.ofNat k1)), (.int (Int32.ofNat k2)), (.int (Int32.ofNat k3))]) (rm_pick l Z a0 hw [] (i + 3) k0 k1 k2 k3 h9 n0 Zp11 (by omega) hck) e30 (W := 1) (by decide) (by decide) (by decide) (by decide) (g := (mkF m 240 #[.val (.int p1), .val (.int p2), .val (.int p3), .val (.int p4), .val (.int p5), .val (.int (Int32.ofNat k0)), .val (.int (Int32.ofNat k1)), .val (.int (Int32.ofNat k2)), .val (.int (Int32.ofNat k3)), .val (.int (Int32.ofNat n)), .val (.int (Int32.ofNat i)), .val (.int (Int32.ofNat j)), .val (.ref o1), .val (.ref o9), .val (.int (Int32.ofNat (j - i)))] [(.int (Int32.ofNat k3)), (.int (Int32.ofNat k2)), (.int (Int32.ofNat k1)), (.int (Int32.ofNat k0)), (.int (Int32.ofNat (i + 3))), (.int (Int32.ofNat ((fun t => (fun j => [k0, k1, k2, k3].getD j 0) (i + t)) 3)))])) rfl (by rw [hml]; rfl) (rest := [(.int (Int32.ofNat ((fun t => (fun j => [k0, k1, k2, k3].getD j 0) (i + t)) 3)))]) (lenOf pd_30 rfl) rfl (by show 2 * 0 + _ ≤ _; exact Nat.le_of_eq rfl) (hb hby at_240)
          refine GoesW.step st32 ?_
          obtain ⟨rfl, N32, e32⟩ := hQ32
          have N33 := Fr.app N31 N32
          show GoesW p ee below s _ _ _ _ _ (T32.setTop (mkF m 243 #[.val (.int p1), .val (.int p2), .val (.int p3), .val (.int p4), .val (.int p5), .val (.int (Int32.ofNat k0)), .val (.int (Int32.ofNat k1)), .val (.int (Int32.ofNat k2)), .val (.int (Int32.ofNat k3)), .val (.int (Int32.ofNat n)), .val (.int (Int32.ofNat i)), .val (.int (Int32.ofNat j)), .val (.ref o1), .val (.ref o9), .val (.int (Int32.ofNat (j - i)))] [(.int (Int32.ofNat ([k0, k1, k2, k3].getD (i + 3) 0))), (.int (Int32.ofNat ((fun t => (fun j => [k0, k1, k2, k3].getD j 0) (i + t)) 3)))]))
          refine GoesW.step (fun _ hr_ => XS.icmpYes X32.here hx rfl (pc0 := 243) (pc' := 248) rfl (hb hby at_243) rfl (teq rfl).1 (by decide) (by decide) hr_) ?_
          show GoesW p ee below s _ _ _ _ _ (T32.setTop (mkF m 248 #[.val (.int p1), .val (.int p2), .val (.int p3), .val (.int p4), .val (.int p5), .val (.int (Int32.ofNat k0)), .val (.int (Int32.ofNat k1)), .val (.int (Int32.ofNat k2)), .val (.int (Int32.ofNat k3)), .val (.int (Int32.ofNat n)), .val (.int (Int32.ofNat i)), .val (.int (Int32.ofNat j)), .val (.ref o1), .val (.ref o9), .val (.int (Int32.ofNat (j - i)))] []))
          refine GoesW.step (fun _ hr_ => XS.iconst X32.here hx rfl (hb hby at_248) hr_) ?_
          show GoesW p ee below s _ _ _ _ _ (T32.setTop (mkF m 249 #[.val (.int p1), .val (.int p2), .val (.int p3), .val (.int p4), .val (.int p5), .val (.int (Int32.ofNat k0)), .val (.int (Int32.ofNat k1)), .val (.int (Int32.ofNat k2)), .val (.int (Int32.ofNat k3)), .val (.int (Int32.ofNat n)), .val (.int (Int32.ofNat i)), .val (.int (Int32.ofNat j)), .val (.ref o1), .val (.ref o9), .val (.int (Int32.ofNat (j - i)))] [(.int (1 : Int32))]))
          refine GoesW.retZ X32 hx hZ hEL C e32 Bd.notSynchronized Bd.returns (by simp) rfl (hb hby at_249) (by decide) (by decide) ?_
          exact ⟨rfl, N33⟩
        · refine GoesW.step (fun _ hr_ => XS.icmpYes X27.here hx rfl (pc0 := 219) (pc' := 248) rfl (hb hby at_219) rfl (flt (fun z => hn219_29 ((own_ltN 3 (j - i) (by decide) (by omega)).mp z))).2.2.2 (by decide) (by decide) hr_) ?_
          show GoesW p ee below s _ _ _ _ _ (T27.setTop (mkF m 248 #[.val (.int p1), .val (.int p2), .val (.int p3), .val (.int p4), .val (.int p5), .val (.int (Int32.ofNat k0)), .val (.int (Int32.ofNat k1)), .val (.int (Int32.ofNat k2)), .val (.int (Int32.ofNat k3)), .val (.int (Int32.ofNat n)), .val (.int (Int32.ofNat i)), .val (.int (Int32.ofNat j)), .val (.ref o1), .val (.ref o9), .val (.int (Int32.ofNat (j - i)))] []))
          refine GoesW.step (fun _ hr_ => XS.iconst X27.here hx rfl (hb hby at_248) hr_) ?_
          show GoesW p ee below s _ _ _ _ _ (T27.setTop (mkF m 249 #[.val (.int p1), .val (.int p2), .val (.int p3), .val (.int p4), .val (.int p5), .val (.int (Int32.ofNat k0)), .val (.int (Int32.ofNat k1)), .val (.int (Int32.ofNat k2)), .val (.int (Int32.ofNat k3)), .val (.int (Int32.ofNat n)), .val (.int (Int32.ofNat i)), .val (.int (Int32.ofNat j)), .val (.ref o1), .val (.ref o9), .val (.int (Int32.ofNat (j - i)))] [(.int (1 : Int32))]))
          refine GoesW.retZ X27 hx hZ hEL C e27 Bd.notSynchronized Bd.returns (by simp) rfl (hb hby at_249) (by decide) (by decide) ?_
          exact ⟨rfl, N28⟩
      · refine GoesW.step (fun _ hr_ => XS.icmpYes X22.here hx rfl (pc0 := 187) (pc' := 216) rfl (hb hby at_187) rfl (flt (fun z => hn187_24 ((own_ltN 2 (j - i) (by decide) (by omega)).mp z))).2.2.2 (by decide) (by decide) hr_) ?_
        show GoesW p ee below s _ _ _ _ _ (T22.setTop (mkF m 216 #[.val (.int p1), .val (.int p2), .val (.int p3), .val (.int p4), .val (.int p5), .val (.int (Int32.ofNat k0)), .val (.int (Int32.ofNat k1)), .val (.int (Int32.ofNat k2)), .val (.int (Int32.ofNat k3)), .val (.int (Int32.ofNat n)), .val (.int (Int32.ofNat i)), .val (.int (Int32.ofNat j)), .val (.ref o1), .val (.ref o9), .val (.int (Int32.ofNat (j - i)))] []))
        refine GoesW.step (fun _ hr_ => XS.iload X22.here hx rfl (hb hby at_216) rfl  hr_) ?_
        show GoesW p ee below s _ _ _ _ _ (T22.setTop (mkF m 218 #[.val (.int p1), .val (.int p2), .val (.int p3), .val (.int p4), .val (.int p5), .val (.int (Int32.ofNat k0)), .val (.int (Int32.ofNat k1)), .val (.int (Int32.ofNat k2)), .val (.int (Int32.ofNat k3)), .val (.int (Int32.ofNat n)), .val (.int (Int32.ofNat i)), .val (.int (Int32.ofNat j)), .val (.ref o1), .val (.ref o9), .val (.int (Int32.ofNat (j - i)))] [(.int (Int32.ofNat (j - i)))]))
        refine GoesW.step (fun _ hr_ => XS.iconst X22.here hx rfl (hb hby at_218) hr_) ?_
        show GoesW p ee below s _ _ _ _ _ (T22.setTop (mkF m 219 #[.val (.int p1), .val (.int p2), .val (.int p3), .val (.int p4), .val (.int p5), .val (.int (Int32.ofNat k0)), .val (.int (Int32.ofNat k1)), .val (.int (Int32.ofNat k2)), .val (.int (Int32.ofNat k3)), .val (.int (Int32.ofNat n)), .val (.int (Int32.ofNat i)), .val (.int (Int32.ofNat j)), .val (.ref o1), .val (.ref o9), .val (.int (Int32.ofNat (j - i)))] [(.int (3 : Int32)), (.int (Int32.ofNat (j - i)))]))
        refine GoesW.step (fun _ hr_ => XS.icmpYes X22.here hx rfl (pc0 := 219) (pc' := 248) rfl (hb hby at_219) rfl (flt (fun z => absurd ((own_ltN 3 (j - i) (by decide) (by omega)).mp z) (by omega))).2.2.2 (by decide) (by decide) hr_) ?_
        show GoesW p ee below s _ _ _ _ _ (T22.setTop (mkF m 248 #[.val (.int p1), .val (.int p2), .val (.int p3), .val (.int p4), .val (.int p5), .val (.int (Int32.ofNat k0)), .val (.int (Int32.ofNat k1)), .val (.int (Int32.ofNat k2)), .val (.int (Int32.ofNat k3)), .val (.int (Int32.ofNat n)), .val (.int (Int32.ofNat i)), .val (.int (Int32.ofNat j)), .val (.ref o1), .val (.ref o9), .val (.int (Int32.ofNat (j - i)))] []))
        refine GoesW.step (fun _ hr_ => XS.iconst X22.here hx rfl (hb hby at_248) hr_) ?_
        show GoesW p ee below s _ _ _ _ _ (T22.setTop (mkF m 249 #[.val (.int p1), .val (.int p2), .val (.int p3), .val (.int p4), .val (.int p5), .val (.int (Int32.ofNat k0)), .val (.int (Int32.ofNat k1)), .val (.int (Int32.ofNat k2)), .val (.int (Int32.ofNat k3)), .val (.int (Int32.ofNat n)), .val (.int (Int32.ofNat i)), .val (.int (Int32.ofNat j)), .val (.ref o1), .val (.ref o9), .val (.int (Int32.ofNat (j - i)))] [(.int (1 : Int32))]))
        refine GoesW.retZ X22 hx hZ hEL C e22 Bd.notSynchronized Bd.returns (by simp) rfl (hb hby at_249) (by decide) (by decide) ?_
        exact ⟨rfl, N23⟩
    · refine GoesW.step (fun _ hr_ => XS.icmpYes X17.here hx rfl (pc0 := 155) (pc' := 184) rfl (hb hby at_155) rfl (flt (fun z => hn155_19 ((own_ltN 1 (j - i) (by decide) (by omega)).mp z))).2.2.2 (by decide) (by decide) hr_) ?_
      show GoesW p ee below s _ _ _ _ _ (T17.setTop (mkF m 184 #[.val (.int p1), .val (.int p2), .val (.int p3), .val (.int p4), .val (.int p5), .val (.int (Int32.ofNat k0)), .val (.int (Int32.ofNat k1)), .val (.int (Int32.ofNat k2)), .val (.int (Int32.ofNat k3)), .val (.int (Int32.ofNat n)), .val (.int (Int32.ofNat i)), .val (.int (Int32.ofNat j)), .val (.ref o1), .val (.ref o9), .val (.int (Int32.ofNat (j - i)))] []))
      refine GoesW.step (fun _ hr_ => XS.iload X17.here hx rfl (hb hby at_184) rfl  hr_) ?_
      show GoesW p ee below s _ _ _ _ _ (T17.setTop (mkF m 186 #[.val (.int p1), .val (.int p2), .val (.int p3), .val (.int p4), .val (.int p5), .val (.int (Int32.ofNat k0)), .val (.int (Int32.ofNat k1)), .val (.int (Int32.ofNat k2)), .val (.int (Int32.ofNat k3)), .val (.int (Int32.ofNat n)), .val (.int (Int32.ofNat i)), .val (.int (Int32.ofNat j)), .val (.ref o1), .val (.ref o9), .val (.int (Int32.ofNat (j - i)))] [(.int (Int32.ofNat (j - i)))]))
      refine GoesW.step (fun _ hr_ => XS.iconst X17.here hx rfl (hb hby at_186) hr_) ?_
      show GoesW p ee below s _ _ _ _ _ (T17.setTop (mkF m 187 #[.val (.int p1), .val (.int p2), .val (.int p3), .val (.int p4), .val (.int p5), .val (.int (Int32.ofNat k0)), .val (.int (Int32.ofNat k1)), .val (.int (Int32.ofNat k2)), .val (.int (Int32.ofNat k3)), .val (.int (Int32.ofNat n)), .val (.int (Int32.ofNat i)), .val (.int (Int32.ofNat j)), .val (.ref o1), .val (.ref o9), .val (.int (Int32.ofNat (j - i)))] [(.int (2 : Int32)), (.int (Int32.ofNat (j - i)))]))
      refine GoesW.step (fun _ hr_ => XS.icmpYes X17.here hx rfl (pc0 := 187) (pc' := 216) rfl (hb hby at_187) rfl (flt (fun z => absurd ((own_ltN 2 (j - i) (by decide) (by omega)).mp z) (by omega))).2.2.2 (by decide) (by decide) hr_) ?_
      show GoesW p ee below s _ _ _ _ _ (T17.setTop (mkF m 216 #[.val (.int p1), .val (.int p2), .val (.int p3), .val (.int p4), .val (.int p5), .val (.int (Int32.ofNat k0)), .val (.int (Int32.ofNat k1)), .val (.int (Int32.ofNat k2)), .val (.int (Int32.ofNat k3)), .val (.int (Int32.ofNat n)), .val (.int (Int32.ofNat i)), .val (.int (Int32.ofNat j)), .val (.ref o1), .val (.ref o9), .val (.int (Int32.ofNat (j - i)))] []))
      refine GoesW.step (fun _ hr_ => XS.iload X17.here hx rfl (hb hby at_216) rfl  hr_) ?_
      show GoesW p ee below s _ _ _ _ _ (T17.setTop (mkF m 218 #[.val (.int p1), .val (.int p2), .val (.int p3), .val (.int p4), .val (.int p5), .val (.int (Int32.ofNat k0)), .val (.int (Int32.ofNat k1)), .val (.int (Int32.ofNat k2)), .val (.int (Int32.ofNat k3)), .val (.int (Int32.ofNat n)), .val (.int (Int32.ofNat i)), .val (.int (Int32.ofNat j)), .val (.ref o1), .val (.ref o9), .val (.int (Int32.ofNat (j - i)))] [(.int (Int32.ofNat (j - i)))]))
      refine GoesW.step (fun _ hr_ => XS.iconst X17.here hx rfl (hb hby at_218) hr_) ?_
      show GoesW p ee below s _ _ _ _ _ (T17.setTop (mkF m 219 #[.val (.int p1), .val (.int p2), .val (.int p3), .val (.int p4), .val (.int p5), .val (.int (Int32.ofNat k0)), .val (.int (Int32.ofNat k1)), .val (.int (Int32.ofNat k2)), .val (.int (Int32.ofNat k3)), .val (.int (Int32.ofNat n)), .val (.int (Int32.ofNat i)), .val (.int (Int32.ofNat j)), .val (.ref o1), .val (.ref o9), .val (.int (Int32.ofNat (j - i)))] [(.int (3 : Int32)), (.int (Int32.ofNat (j - i)))]))
      refine GoesW.step (fun _ hr_ => XS.icmpYes X17.here hx rfl (pc0 := 219) (pc' := 248) rfl (hb hby at_219) rfl (flt (fun z => absurd ((own_ltN 3 (j - i) (by decide) (by omega)).mp z) (by omega))).2.2.2 (by decide) (by decide) hr_) ?_
      show GoesW p ee below s _ _ _ _ _ (T17.setTop (mkF m 248 #[.val (.int p1), .val (.int p2), .val (.int p3), .val (.int p4), .val (.int p5), .val (.int (Int32.ofNat k0)), .val (.int (Int32.ofNat k1)), .val (.int (Int32.ofNat k2)), .val (.int (Int32.ofNat k3)), .val (.int (Int32.ofNat n)), .val (.int (Int32.ofNat i)), .val (.int (Int32.ofNat j)), .val (.ref o1), .val (.ref o9), .val (.int (Int32.ofNat (j - i)))] []))
      refine GoesW.step (fun _ hr_ => XS.iconst X17.here hx rfl (hb hby at_248) hr_) ?_
      show GoesW p ee below s _ _ _ _ _ (T17.setTop (mkF m 249 #[.val (.int p1), .val (.int p2), .val (.int p3), .val (.int p4), .val (.int p5), .val (.int (Int32.ofNat k0)), .val (.int (Int32.ofNat k1)), .val (.int (Int32.ofNat k2)), .val (.int (Int32.ofNat k3)), .val (.int (Int32.ofNat n)), .val (.int (Int32.ofNat i)), .val (.int (Int32.ofNat j)), .val (.ref o1), .val (.ref o9), .val (.int (Int32.ofNat (j - i)))] [(.int (1 : Int32))]))
      refine GoesW.retZ X17 hx hZ hEL C e17 Bd.notSynchronized Bd.returns (by simp) rfl (hb hby at_249) (by decide) (by decide) ?_
      exact ⟨rfl, N18⟩
  · refine GoesW.step (fun _ hr_ => XS.ifYes X12.here hx rfl (pc0 := 125) (pc' := 152) rfl (hb hby at_125) rfl ((if0 _ _).trans (flt (fun z => hn125_14 ((own_ltN 0 (j - i) (by decide) (by omega)).mp z))).2.2.2) (by decide) (by decide) hr_) ?_
    show GoesW p ee below s _ _ _ _ _ (T12.setTop (mkF m 152 #[.val (.int p1), .val (.int p2), .val (.int p3), .val (.int p4), .val (.int p5), .val (.int (Int32.ofNat k0)), .val (.int (Int32.ofNat k1)), .val (.int (Int32.ofNat k2)), .val (.int (Int32.ofNat k3)), .val (.int (Int32.ofNat n)), .val (.int (Int32.ofNat i)), .val (.int (Int32.ofNat j)), .val (.ref o1), .val (.ref o9), .val (.int (Int32.ofNat (j - i)))] []))
    refine GoesW.step (fun _ hr_ => XS.iload X12.here hx rfl (hb hby at_152) rfl  hr_) ?_
    show GoesW p ee below s _ _ _ _ _ (T12.setTop (mkF m 154 #[.val (.int p1), .val (.int p2), .val (.int p3), .val (.int p4), .val (.int p5), .val (.int (Int32.ofNat k0)), .val (.int (Int32.ofNat k1)), .val (.int (Int32.ofNat k2)), .val (.int (Int32.ofNat k3)), .val (.int (Int32.ofNat n)), .val (.int (Int32.ofNat i)), .val (.int (Int32.ofNat j)), .val (.ref o1), .val (.ref o9), .val (.int (Int32.ofNat (j - i)))] [(.int (Int32.ofNat (j - i)))]))
    refine GoesW.step (fun _ hr_ => XS.iconst X12.here hx rfl (hb hby at_154) hr_) ?_
    show GoesW p ee below s _ _ _ _ _ (T12.setTop (mkF m 155 #[.val (.int p1), .val (.int p2), .val (.int p3), .val (.int p4), .val (.int p5), .val (.int (Int32.ofNat k0)), .val (.int (Int32.ofNat k1)), .val (.int (Int32.ofNat k2)), .val (.int (Int32.ofNat k3)), .val (.int (Int32.ofNat n)), .val (.int (Int32.ofNat i)), .val (.int (Int32.ofNat j)), .val (.ref o1), .val (.ref o9), .val (.int (Int32.ofNat (j - i)))] [(.int (1 : Int32)), (.int (Int32.ofNat (j - i)))]))
    refine GoesW.step (fun _ hr_ => XS.icmpYes X12.here hx rfl (pc0 := 155) (pc' := 184) rfl (hb hby at_155) rfl (flt (fun z => absurd ((own_ltN 1 (j - i) (by decide) (by omega)).mp z) (by omega))).2.2.2 (by decide) (by decide) hr_) ?_
    show GoesW p ee below s _ _ _ _ _ (T12.setTop (mkF m 184 #[.val (.int p1), .val (.int p2), .val (.int p3), .val (.int p4), .val (.int p5), .val (.int (Int32.ofNat k0)), .val (.int (Int32.ofNat k1)), .val (.int (Int32.ofNat k2)), .val (.int (Int32.ofNat k3)), .val (.int (Int32.ofNat n)), .val (.int (Int32.ofNat i)), .val (.int (Int32.ofNat j)), .val (.ref o1), .val (.ref o9), .val (.int (Int32.ofNat (j - i)))] []))
    refine GoesW.step (fun _ hr_ => XS.iload X12.here hx rfl (hb hby at_184) rfl  hr_) ?_
    show GoesW p ee below s _ _ _ _ _ (T12.setTop (mkF m 186 #[.val (.int p1), .val (.int p2), .val (.int p3), .val (.int p4), .val (.int p5), .val (.int (Int32.ofNat k0)), .val (.int (Int32.ofNat k1)), .val (.int (Int32.ofNat k2)), .val (.int (Int32.ofNat k3)), .val (.int (Int32.ofNat n)), .val (.int (Int32.ofNat i)), .val (.int (Int32.ofNat j)), .val (.ref o1), .val (.ref o9), .val (.int (Int32.ofNat (j - i)))] [(.int (Int32.ofNat (j - i)))]))
    refine GoesW.step (fun _ hr_ => XS.iconst X12.here hx rfl (hb hby at_186) hr_) ?_
    show GoesW p ee below s _ _ _ _ _ (T12.setTop (mkF m 187 #[.val (.int p1), .val (.int p2), .val (.int p3), .val (.int p4), .val (.int p5), .val (.int (Int32.ofNat k0)), .val (.int (Int32.ofNat k1)), .val (.int (Int32.ofNat k2)), .val (.int (Int32.ofNat k3)), .val (.int (Int32.ofNat n)), .val (.int (Int32.ofNat i)), .val (.int (Int32.ofNat j)), .val (.ref o1), .val (.ref o9), .val (.int (Int32.ofNat (j - i)))] [(.int (2 : Int32)), (.int (Int32.ofNat (j - i)))]))
    refine GoesW.step (fun _ hr_ => XS.icmpYes X12.here hx rfl (pc0 := 187) (pc' := 216) rfl (hb hby at_187) rfl (flt (fun z => absurd ((own_ltN 2 (j - i) (by decide) (by omega)).mp z) (by omega))).2.2.2 (by decide) (by decide) hr_) ?_
    show GoesW p ee below s _ _ _ _ _ (T12.setTop (mkF m 216 #[.val (.int p1), .val (.int p2), .val (.int p3), .val (.int p4), .val (.int p5), .val (.int (Int32.ofNat k0)), .val (.int (Int32.ofNat k1)), .val (.int (Int32.ofNat k2)), .val (.int (Int32.ofNat k3)), .val (.int (Int32.ofNat n)), .val (.int (Int32.ofNat i)), .val (.int (Int32.ofNat j)), .val (.ref o1), .val (.ref o9), .val (.int (Int32.ofNat (j - i)))] []))
    refine GoesW.step (fun _ hr_ => XS.iload X12.here hx rfl (hb hby at_216) rfl  hr_) ?_
    show GoesW p ee below s _ _ _ _ _ (T12.setTop (mkF m 218 #[.val (.int p1), .val (.int p2), .val (.int p3), .val (.int p4), .val (.int p5), .val (.int (Int32.ofNat k0)), .val (.int (Int32.ofNat k1)), .val (.int (Int32.ofNat k2)), .val (.int (Int32.ofNat k3)), .val (.int (Int32.ofNat n)), .val (.int (Int32.ofNat i)), .val (.int (Int32.ofNat j)), .val (.ref o1), .val (.ref o9), .val (.int (Int32.ofNat (j - i)))] [(.int (Int32.ofNat (j - i)))]))
    refine GoesW.step (fun _ hr_ => XS.iconst X12.here hx rfl (hb hby at_218) hr_) ?_
    show GoesW p ee below s _ _ _ _ _ (T12.setTop (mkF m 219 #[.val (.int p1), .val (.int p2), .val (.int p3), .val (.int p4), .val (.int p5), .val (.int (Int32.ofNat k0)), .val (.int (Int32.ofNat k1)), .val (.int (Int32.ofNat k2)), .val (.int (Int32.ofNat k3)), .val (.int (Int32.ofNat n)), .val (.int (Int32.ofNat i)), .val (.int (Int32.ofNat j)), .val (.ref o1), .val (.ref o9), .val (.int (Int32.ofNat (j - i)))] [(.int (3 : Int32)), (.int (Int32.ofNat (j - i)))]))
    refine GoesW.step (fun _ hr_ => XS.icmpYes X12.here hx rfl (pc0 := 219) (pc' := 248) rfl (hb hby at_219) rfl (flt (fun z => absurd ((own_ltN 3 (j - i) (by decide) (by omega)).mp z) (by omega))).2.2.2 (by decide) (by decide) hr_) ?_
    show GoesW p ee below s _ _ _ _ _ (T12.setTop (mkF m 248 #[.val (.int p1), .val (.int p2), .val (.int p3), .val (.int p4), .val (.int p5), .val (.int (Int32.ofNat k0)), .val (.int (Int32.ofNat k1)), .val (.int (Int32.ofNat k2)), .val (.int (Int32.ofNat k3)), .val (.int (Int32.ofNat n)), .val (.int (Int32.ofNat i)), .val (.int (Int32.ofNat j)), .val (.ref o1), .val (.ref o9), .val (.int (Int32.ofNat (j - i)))] []))
    refine GoesW.step (fun _ hr_ => XS.iconst X12.here hx rfl (hb hby at_248) hr_) ?_
    show GoesW p ee below s _ _ _ _ _ (T12.setTop (mkF m 249 #[.val (.int p1), .val (.int p2), .val (.int p3), .val (.int p4), .val (.int p5), .val (.int (Int32.ofNat k0)), .val (.int (Int32.ofNat k1)), .val (.int (Int32.ofNat k2)), .val (.int (Int32.ofNat k3)), .val (.int (Int32.ofNat n)), .val (.int (Int32.ofNat i)), .val (.int (Int32.ofNat j)), .val (.ref o1), .val (.ref o9), .val (.int (Int32.ofNat (j - i)))] [(.int (1 : Int32))]))
    refine GoesW.retZ X12 hx hZ hEL C e12 Bd.notSynchronized Bd.returns (by simp) rfl (hb hby at_249) (by decide) (by decide) ?_
    exact ⟨rfl, N13⟩
theorem own_eqi {args : Array Value} {s : State} {t : Term} {k : Int32} (h : (Cond.eq t (.int k)).value args s none s [] = some true) : t.eval args s none [] s = some (.int k) := by
  obtain ⟨u, v, h1, h2, h3, h4⟩ := cmp_v (Or.inl h)
  have e2 : (Term.int k).eval args s none [] s = some (.int k) := Term.int_eval _
  rw [e2] at h2
  obtain rfl := Option.some.inj h2
  obtain ⟨z, rfl⟩ := h4
  have q : (Cond.eq t (.int k)).value args s none s [] = some (decide (z = k)) := by simp [Cond.value, h1, e2]
  have := gotT q h
  subst this
  exact h1
theorem own_ne0 {args : Array Value} {s : State} {t : Term} {z k : Int32} (ev : t.eval args s none [] s = some (.int z)) (h : (Cond.not (Cond.eq t (.int k))).value args s none s [] = some true) : z ≠ k := by
  have e2 : (Term.int k).eval args s none [] s = some (.int k) := Term.int_eval _
  have q : (Cond.eq t (.int k)).value args s none s [] = some (decide (z = k)) := by simp [Cond.value, ev, e2]
  have := not_v h
  exact gotF q this
set_option maxRecDepth 65536 in
set_option maxHeartbeats 40000000 in
theorem comes_1 {Post : Tables → Env → Array Value → State → Outcome → State → Prop} (hpost : ∀ tb e args s v u, (limb_1_1.after args s (.returned v) u = true ∧ limb_1_2.after args s (.returned v) u = true ∧ True) → ReturnedEndW s (.returned v) u (Jvm.fieldLocs frame_1_writes args s ++ Jvm.arrayLocs frame_1_arrays args s ++ Jvm.staticLocs frame_1_statics s) 32 3264 → Post tb e args s (.returned v) u) :
    ArmFor flags0 classFile x code maxLocals ret World_1 tables_1 room_1 Calls_1 rest_1 Pre_1 Post := by
  intro l hfl _ _ p e ha hc hk s m args below hf hA hF happ hP
  obtain ⟨hcalls, hrest, hpre⟩ := hP
  obtain ⟨-, -, -, hnamed, -, -, -, hat⟩ := (Spec.applies_iff hf).mp happ
  obtain ⟨hg, hn⟩ := and_e (Cond.before_iff.mp (show (Jvm.Cond.and given_1 narrow_1).before args s = true from hpre))
  obtain ⟨hcount, r0⟩ := and_e hg
  obtain ⟨k0, r1⟩ := and_e r0
  obtain ⟨k1, r2⟩ := and_e r1
  obtain ⟨k2, r3⟩ := and_e r2
  obtain ⟨k3, k4⟩ := and_e r3
  obtain ⟨w0, w1, w2, w3, w4, rfl⟩ : ∃ w0 w1 w2 w3 w4 : Value, args = #[w0, w1, w2, w3, w4] := by
    have hs : args.size = 5 := by simpa [Cond.value, given_1] using hcount
    obtain ⟨L⟩ := args
    match L, hs with
    | [w0, w1, w2, w3, w4], _ => exact ⟨w0, w1, w2, w3, w4, rfl⟩
  have hw := fun d (hd : d ∈ tables_1) => atoms_spec (ws := Jvm.Cond.code x code maxLocals ret :: tables_1) hat d (List.mem_cons_of_mem _ hd)
  obtain ⟨i0, ei0⟩ := is_v k0
  obtain rfl : w0 = (.int i0) := Option.some.inj ei0
  obtain ⟨i1, ei1⟩ := is_v k1
  obtain rfl : w1 = (.int i1) := Option.some.inj ei1
  obtain ⟨i2, ei2⟩ := is_v k2
  obtain rfl : w2 = (.int i2) := Option.some.inj ei2
  obtain ⟨i3, ei3⟩ := is_v k3
  obtain rfl : w3 = (.int i3) := Option.some.inj ei3
  obtain ⟨i4, ei4⟩ := is_v k4
  obtain rfl : w4 = (.int i4) := Option.some.inj ei4
  obtain ⟨hsets, hown0⟩ := atoms_of _ (rest_1_c_eq ▸ (show rest_1_c.before _ s = true from hrest))
  obtain ⟨cs, ecs⟩ := is_v (Cond.before_iff.mp (hsets _ (List.mem_of_getElem? (i := 1) rfl)))
  have Scs := Sta.start ecs (Or.inl (hsets _ (List.mem_of_getElem? (i := 0) rfl)))
  have cs0 : cs ≠ 0 := own_ne0 ecs (Cond.before_iff.mp (hsets _ (List.mem_of_getElem? (i := 2) rfl)))
  obtain ⟨fm, efm, hfm⟩ := isR_v (Cond.before_iff.mp (hsets _ (List.mem_of_getElem? (i := 8) rfl)))
  have Sfm := Sta.start efm (Or.inl (hsets _ (List.mem_of_getElem? (i := 7) rfl)))
  have Sad := Sta.start (own_eqi (Cond.before_iff.mp (hsets _ (List.mem_of_getElem? (i := 12) rfl)))) (Or.inl (hsets _ (List.mem_of_getElem? (i := 11) rfl)))
  have Shi := Sta.start (own_eqi (Cond.before_iff.mp (hsets _ (List.mem_of_getElem? (i := 15) rfl)))) (Or.inl (hsets _ (List.mem_of_getElem? (i := 14) rfl)))
  have Slo := Sta.start (own_eqi (Cond.before_iff.mp (hsets _ (List.mem_of_getElem? (i := 18) rfl)))) (Or.inl (hsets _ (List.mem_of_getElem? (i := 17) rfl)))
  have ST : own_ST s cs fm := ⟨Scs, cs0, Sfm, hfm, Sad, Shi, Slo, trivial⟩
  have hcw := hsets _ (List.mem_of_getElem? (i := 2) rfl)
  obtain ⟨n, o, h1, h2, h3, _, L, rfl, ⟨rfl, N⟩, -, hq⟩ := rm_law l s _ hw tables_1 i0 i1 i2 i3 i4 cs fm s.heap s.heap.size (Nat.le_refl _) ST (Old.start s) p e ha hc hk s m _ below hf ((Spec.applies_iff_loose hf).mp happ).1 ⟨rfl, State.Warmed39.refl s, rfl, CHv.start (own_EW hw) hcalls.1 hcw (hw _ (List.mem_of_getElem? (i := 25) rfl)) (hw _ (List.mem_of_getElem? (i := 7) rfl)), fun _ q => nomatch q⟩ trivial
  refine ⟨n, _, h1, h2, h3, hpost _ _ _ _ _ _ ⟨Cond.after_iff.mpr rfl, Cond.after_iff.mpr (eq_i res_at (Term.int_eval (1)) rfl), trivial⟩ ⟨hq.1, hq.2.1, hq.2.2.1, (hq.2.2.2.sift fun y hy => Or.inr (N y hy)).mono (by decide) (by decide)⟩⟩
theorem main_1_1 : Claimed_1_1 := comes_1 fun _ _ _ _ _ _ h hF => ⟨h.1, hF⟩
theorem main_1_2 : Claimed_1_2 := comes_1 fun _ _ _ _ _ _ h hF => ⟨h.2.1, hF⟩
end Jvm.Pilot.@@N@@
namespace Jvm.Pilot.@@N@@
open Jvm Jvm.ClassFile Sem Op Lib Jvm.Free Jvm.Stand Jvm.Pilot.@@N@@.Jvm.D
/-! MADE BY PROGRAM (witnessworld.py) out of the Statement's table words and the real class files: 24 classes; the members and pool entries that the words name. The judged class is class 1, her method 1. -/
namespace start1
open Jvm.ClassFile
def u (s : String) : CpInfo := .utf8 (stringToUtf16 s)
/-- a pool by its gaps: so many unusable entries, then the entry; so many at the end -/
def gap : Nat → List CpInfo → List CpInfo
  | 0, r => r
  | n + 1, r => .unusable :: gap n r
def poolList (es : List (Nat × CpInfo)) (last : Nat) : List CpInfo := es.foldr (fun e r => gap e.1 (e.2 :: r)) (gap last [])
def pool (es : List (Nat × CpInfo)) (last : Nat) : Array CpInfo := ⟨poolList es last⟩
def fileOf (pool : Array CpInfo) (this : Nat) (attrs : Array Attribute := #[]) (ms : Array MethodInfo := #[]) (fl : Nat := 33) (sup : Nat := 0) (ifs : Array Nat := #[]) (fds : Array FieldInfo := #[]) : ClassFile where
  minorVersion := 0
  majorVersion := 65
  constantPool := pool
  accessFlags := fl
  thisClass := this
  superClass := sup
  interfaces := ifs
  fields := fds
  methods := ms
  attributes := attrs
def plain (name : String) (sup : Option ClassId) : Class where
  name := name
  kind := .ordinary
  loader := none
  accessFlags := 33
  super := sup
  interfaces := #[]
  cf := none
  fields := #[]
  methods := #[]
  instanceTypes := #[]
  staticTypes := #[]
  resolved := #[]
  callSites := []
  init := .initialized
  statics := none
  mirror := none

def pool0 : Array CpInfo := pool [(5, u "<init>"), (0, u "()V"), (1, .class_ 10), (1, u "java/lang/Object")] 113

def k0c0 : Code := { maxStack := 0, maxLocals := 1, code := object_method_1_code, exceptionTable := #[], attributes := #[] }
def k0m0 : Method := { name := "<init>", desc := "()V", sig := { parameters := [], returnType := none }, accessFlags := 1, code := some k0c0 }
/-- java/lang/Object -/
def k0 : Class := { plain "java/lang/Object" none with
  accessFlags := 33
  interfaces := #[]
  cf := some (fileOf pool0 8 #[] #[{ accessFlags := 1, nameIndex := 5, descriptorIndex := 6, attributes := #[] }] 33 0 #[] #[])
  fields := #[]
  methods := #[k0m0]
  instanceTypes := #[]
  staticTypes := #[]
  resolved := Array.replicate 124 none
  statics := none }

def pool1 : Array CpInfo := pool [(2, .class_ 4), (1, u "java/lang/Object"), (0, u "<init>"), (0, u "()V"), (0, .integer 65535), (0, .integer 2147483647), (0, .methodref 10 11), (0, .class_ 12), (0, .nameAndType 13 14), (0, u "com/example/hansou/hansou/SpanOfPinLaw"), (0, u "make"), (0, u "(ICCCC)Ljava/lang/String;"), (0, .class_ 16), (0, u "com/example/hansou/hansou/Span"), (0, .methodref 15 18), (0, .nameAndType 5 19), (0, u "(II)V"), (0, .methodref 15 21), (0, .nameAndType 22 23), (0, u "of"), (0, u "(Ljava/lang/String;)Ljava/lang/String;"), (0, .methodref 25 26), (0, .class_ 27), (0, .nameAndType 28 29), (0, u "java/lang/String"), (0, u "length"), (0, u "()I"), (0, .methodref 25 31), (0, .nameAndType 32 33), (0, u "charAt"), (0, u "(I)C"), (0, .methodref 10 35), (0, .nameAndType 36 37), (0, u "pick"), (0, u "(ICCCC)C"), (0, .methodref 25 39), (0, .nameAndType 5 40), (0, u "([C)V"), (2, u "law"), (0, u "(IIIII)Z")] 3

def k1m0 : Method := { name := "<init>", desc := "()V", sig := { parameters := [], returnType := none }, accessFlags := 1, code := none }
def k1c1 : Code := { maxStack := 6, maxLocals := 15, code := code, exceptionTable := #[], attributes := #[] }
def k1m1 : Method := { name := "law", desc := "(IIIII)Z", sig := { parameters := [.int, .int, .int, .int, .int], returnType := some .boolean }, accessFlags := 9, code := some k1c1 }
def k1c2 : Code := { maxStack := 2, maxLocals := 5, code := method_3_code, exceptionTable := #[], attributes := #[] }
def k1m2 : Method := { name := "pick", desc := "(ICCCC)C", sig := { parameters := [.int, .char, .char, .char, .char], returnType := some .char }, accessFlags := 10, code := some k1c2 }
def k1c3 : Code := { maxStack := 6, maxLocals := 5, code := method_4_code, exceptionTable := #[], attributes := #[] }
def k1m3 : Method := { name := "make", desc := "(ICCCC)Ljava/lang/String;", sig := { parameters := [.int, .char, .char, .char, .char], returnType := some (.object "java/lang/String") }, accessFlags := 10, code := some k1c3 }
/-- com/example/hansou/hansou/SpanOfPinLaw -/
def k1 : Class := { plain "com/example/hansou/hansou/SpanOfPinLaw" (some 0) with
  accessFlags := 49
  interfaces := #[]
  cf := some (fileOf pool1 10 #[] #[{ accessFlags := 1, nameIndex := 5, descriptorIndex := 6, attributes := #[] }, { accessFlags := 9, nameIndex := 43, descriptorIndex := 44, attributes := #[] }, { accessFlags := 10, nameIndex := 36, descriptorIndex := 37, attributes := #[] }, { accessFlags := 10, nameIndex := 13, descriptorIndex := 14, attributes := #[] }] 49 2 #[] #[])
  fields := #[]
  methods := #[k1m0, k1m1, k1m2, k1m3]
  instanceTypes := #[]
  staticTypes := #[]
  resolved := Array.replicate 48 none
  statics := none }

def pool2 : Array CpInfo := pool [(1, .class_ 2), (0, u "java/io/Serializable"), (0, .class_ 4), (0, u "java/lang/Object")] 2

/-- java/io/Serializable -/
def k2 : Class := { plain "java/io/Serializable" (some 0) with
  accessFlags := 1537
  interfaces := #[]
  cf := some (fileOf pool2 1 #[] #[] 1537 3 #[] #[])
  fields := #[]
  methods := #[]
  instanceTypes := #[]
  staticTypes := #[]
  resolved := Array.replicate 7 none
  statics := none }

def pool3 : Array CpInfo := pool [(1, .class_ 2), (0, u "java/lang/Comparable"), (0, .class_ 4), (0, u "java/lang/Object")] 7

/-- java/lang/Comparable -/
def k3 : Class := { plain "java/lang/Comparable" (some 0) with
  accessFlags := 1537
  interfaces := #[]
  cf := some (fileOf pool3 1 #[] #[] 1537 3 #[] #[])
  fields := #[]
  methods := #[]
  instanceTypes := #[]
  staticTypes := #[]
  resolved := Array.replicate 12 none
  statics := none }

def pool4 : Array CpInfo := pool [(2, .class_ 4), (1, u "java/lang/CharSequence"), (42, .class_ 48), (0, u "java/lang/CharSequence$1CodePointIterator"), (10, .class_ 60), (0, u "java/lang/CharSequence$1CharIterator"), (5, .class_ 67), (0, u "java/lang/Object")] 63

/-- java/lang/CharSequence -/
def k4 : Class := { plain "java/lang/CharSequence" (some 0) with
  accessFlags := 1537
  interfaces := #[]
  cf := some (fileOf pool4 2 #[.nestMembers #[47, 59]] #[] 1537 66 #[] #[])
  fields := #[]
  methods := #[]
  instanceTypes := #[]
  staticTypes := #[]
  resolved := Array.replicate 131 none
  statics := none }

def pool5 : Array CpInfo := pool [(1, .class_ 2), (0, u "java/lang/constant/Constable"), (0, .class_ 4), (0, u "java/lang/Object")] 6

/-- java/lang/constant/Constable -/
def k5 : Class := { plain "java/lang/constant/Constable" (some 0) with
  accessFlags := 1537
  interfaces := #[]
  cf := some (fileOf pool5 1 #[] #[] 1537 3 #[] #[])
  fields := #[]
  methods := #[]
  instanceTypes := #[]
  staticTypes := #[]
  resolved := Array.replicate 11 none
  statics := none }

def pool6 : Array CpInfo := pool [(1, .class_ 2), (0, u "java/lang/constant/ConstantDesc"), (0, .class_ 4), (0, u "java/lang/Object")] 32

/-- java/lang/constant/ConstantDesc -/
def k6 : Class := { plain "java/lang/constant/ConstantDesc" (some 0) with
  accessFlags := 1537
  interfaces := #[]
  cf := some (fileOf pool6 1 #[] #[] 1537 3 #[] #[])
  fields := #[]
  methods := #[]
  instanceTypes := #[]
  staticTypes := #[]
  resolved := Array.replicate 37 none
  statics := none }

def pool7 : Array CpInfo := pool [(1, .methodref 2 3), (0, .class_ 4), (0, .nameAndType 5 6), (0, u "java/lang/Object"), (0, u "<init>"), (0, u "()V"), (0, .string 8), (0, u ""), (0, .fieldref 10 11), (0, .class_ 12), (0, .nameAndType 13 14), (0, u "java/lang/String"), (0, u "value"), (0, u "[B"), (0, .fieldref 10 16), (0, .nameAndType 17 18), (0, u "coder"), (0, u "B"), (2, u "hash"), (0, u "I"), (2, u "hashIsZero"), (0, u "Z"), (0, .methodref 10 28), (0, .nameAndType 5 29), (0, u "([CIILjava/lang/Void;)V"), (6, u "checkBoundsOffCount"), (0, u "(III)I"), (0, .fieldref 10 39), (0, .nameAndType 40 26), (0, u "COMPACT_STRINGS"), (1, .class_ 44), (1, u "java/lang/StringUTF16"), (0, u "compress"), (1, .methodref 42 48), (0, .nameAndType 49 50), (0, u "coderFromArrayLen"), (0, u "([BI)B"), (56, .class_ 109), (1, u "java/lang/StringLatin1"), (32, u "()Z"), (34, .methodref 42 178), (0, .nameAndType 45 179), (0, u "([CII)[B"), (31, u "([BB)V"), (122, u "()I"), (0, .methodref 10 336), (0, .nameAndType 17 337), (0, u "()B"), (25, u "([BI)C"), (27, u "(II)V"), (35, u "(I)C"), (64, .methodref 10 493), (0, .nameAndType 494 142), (0, u "isLatin1"), (0, .methodref 107 496), (0, .nameAndType 497 363), (0, u "charAt"), (0, .methodref 42 496), (2, u "checkIndex"), (3, .methodref 10 506), (0, .nameAndType 507 334), (0, u "length"), (5, u "checkFromToIndex"), (7, .methodref 10 522), (0, .nameAndType 523 524), (0, u "checkBoundsBeginEnd"), (0, u "(III)V"), (50, .class_ 576), (0, u "java/lang/CharSequence"), (22, u "CASE_INSENSITIVE_ORDER"), (0, u "Ljava/util/Comparator;"), (82, u "substring"), (0, u "(II)Ljava/lang/String;"), (0, .methodref 107 686), (0, .nameAndType 687 688), (0, u "newString"), (0, u "([BII)Ljava/lang/String;"), (0, .methodref 42 686), (320, u "([C)V"), (42, .fieldref 1054 1055), (0, .class_ 1056), (0, .nameAndType 1057 1058), (0, u "jdk/internal/util/Preconditions"), (0, u "SIOOBE_FORMATTER"), (0, u "Ljava/util/function/BiFunction;"), (0, .methodref 1054 1060), (0, .nameAndType 501 1061), (0, u "(IILjava/util/function/BiFunction;)I"), (0, .methodref 1054 1063), (0, .nameAndType 513 1064), (0, u "(IIILjava/util/function/BiFunction;)I"), (0, .methodref 1054 1066), (0, .nameAndType 1067 1064), (0, u "checkFromIndexSize"), (33, u "serialPersistentFields"), (0, u "[Ljava/io/ObjectStreamField;"), (0, .class_ 1104), (0, u "java/lang/String$CaseInsensitiveComparator"), (1, .class_ 1107), (0, u "java/io/Serializable"), (0, .class_ 1109), (0, u "java/lang/Comparable"), (0, .class_ 1111), (0, u "java/lang/constant/Constable"), (0, .class_ 1113), (0, u "java/lang/constant/ConstantDesc"), (2, u "serialVersionUID"), (0, u "J"), (3, u "REPL"), (0, u "C"), (2, u "LATIN1"), (1, u "UTF16")] 323

def k7m0 : Method := { name := "<init>", desc := "()V", sig := { parameters := [], returnType := none }, accessFlags := 1, code := none }
def k7c1 : Code := { maxStack := 5, maxLocals := 2, code := jdk_42_method_3_code, exceptionTable := #[], attributes := #[] }
def k7m1 : Method := { name := "<init>", desc := "([C)V", sig := { parameters := [(.array .char)], returnType := none }, accessFlags := 1, code := some k7c1 }
def k7c2 : Code := { maxStack := 2, maxLocals := 1, code := jdk_42_method_54_code, exceptionTable := #[], attributes := #[] }
def k7m2 : Method := { name := "length", desc := "()I", sig := { parameters := [], returnType := some .int }, accessFlags := 1, code := some k7c2 }
def k7c3 : Code := { maxStack := 2, maxLocals := 2, code := jdk_42_method_56_code, exceptionTable := #[], attributes := #[] }
def k7m3 : Method := { name := "charAt", desc := "(I)C", sig := { parameters := [.int], returnType := some .char }, accessFlags := 1, code := some k7c3 }
def k7c4 : Code := { maxStack := 3, maxLocals := 5, code := jdk_42_method_92_code, exceptionTable := #[], attributes := #[] }
def k7m4 : Method := { name := "substring", desc := "(II)Ljava/lang/String;", sig := { parameters := [.int, .int], returnType := some (.object "java/lang/String") }, accessFlags := 1, code := some k7c4 }
def k7c5 : Code := { maxStack := 4, maxLocals := 6, code := jdk_42_method_149_code, exceptionTable := #[], attributes := #[] }
def k7m5 : Method := { name := "<init>", desc := "([CIILjava/lang/Void;)V", sig := { parameters := [(.array .char), .int, .int, (.object "java/lang/Void")], returnType := none }, accessFlags := 2, code := some k7c5 }
def k7c6 : Code := { maxStack := 2, maxLocals := 3, code := jdk_42_method_151_code, exceptionTable := #[], attributes := #[] }
def k7m6 : Method := { name := "<init>", desc := "([BB)V", sig := { parameters := [(.array .byte), .byte], returnType := none }, accessFlags := 0, code := some k7c6 }
def k7c7 : Code := { maxStack := 1, maxLocals := 1, code := jdk_42_method_152_code, exceptionTable := #[], attributes := #[] }
def k7m7 : Method := { name := "coder", desc := "()B", sig := { parameters := [], returnType := some .byte }, accessFlags := 0, code := some k7c7 }
def k7c8 : Code := { maxStack := 1, maxLocals := 1, code := jdk_42_method_154_code, exceptionTable := #[], attributes := #[] }
def k7m8 : Method := { name := "isLatin1", desc := "()Z", sig := { parameters := [], returnType := some .boolean }, accessFlags := 0, code := some k7c8 }
def k7c9 : Code := { maxStack := 3, maxLocals := 2, code := jdk_42_method_155_code, exceptionTable := #[], attributes := #[] }
def k7m9 : Method := { name := "checkIndex", desc := "(II)V", sig := { parameters := [.int, .int], returnType := none }, accessFlags := 8, code := some k7c9 }
def k7c10 : Code := { maxStack := 4, maxLocals := 3, code := jdk_42_method_157_code, exceptionTable := #[], attributes := #[] }
def k7m10 : Method := { name := "checkBoundsOffCount", desc := "(III)I", sig := { parameters := [.int, .int, .int], returnType := some .int }, accessFlags := 8, code := some k7c10 }
def k7c11 : Code := { maxStack := 4, maxLocals := 3, code := jdk_42_method_158_code, exceptionTable := #[], attributes := #[] }
def k7m11 : Method := { name := "checkBoundsBeginEnd", desc := "(III)V", sig := { parameters := [.int, .int, .int], returnType := none }, accessFlags := 8, code := some k7c11 }
/-- java/lang/String -/
def k7 : Class := { plain "java/lang/String" (some 0) with
  accessFlags := 49
  interfaces := #[2, 3, 4, 5, 6]
  cf := some (fileOf pool7 10 #[.nestMembers #[1103]] #[{ accessFlags := 1, nameIndex := 5, descriptorIndex := 6, attributes := #[] }, { accessFlags := 1, nameIndex := 5, descriptorIndex := 1010, attributes := #[] }, { accessFlags := 1, nameIndex := 507, descriptorIndex := 334, attributes := #[] }, { accessFlags := 1, nameIndex := 497, descriptorIndex := 427, attributes := #[] }, { accessFlags := 1, nameIndex := 683, descriptorIndex := 684, attributes := #[] }, { accessFlags := 2, nameIndex := 5, descriptorIndex := 29, attributes := #[] }, { accessFlags := 0, nameIndex := 5, descriptorIndex := 211, attributes := #[] }, { accessFlags := 0, nameIndex := 17, descriptorIndex := 337, attributes := #[] }, { accessFlags := 0, nameIndex := 494, descriptorIndex := 142, attributes := #[] }, { accessFlags := 8, nameIndex := 501, descriptorIndex := 391, attributes := #[] }, { accessFlags := 8, nameIndex := 36, descriptorIndex := 37, attributes := #[] }, { accessFlags := 8, nameIndex := 523, descriptorIndex := 524, attributes := #[] }] 49 2 #[1106, 1108, 575, 1110, 1112] #[{ accessFlags := 18, nameIndex := 13, descriptorIndex := 14, attributes := #[] }, { accessFlags := 18, nameIndex := 17, descriptorIndex := 18, attributes := #[] }, { accessFlags := 2, nameIndex := 21, descriptorIndex := 22, attributes := #[] }, { accessFlags := 2, nameIndex := 25, descriptorIndex := 26, attributes := #[] }, { accessFlags := 26, nameIndex := 1116, descriptorIndex := 1117, attributes := #[] }, { accessFlags := 24, nameIndex := 40, descriptorIndex := 26, attributes := #[] }, { accessFlags := 26, nameIndex := 1101, descriptorIndex := 1102, attributes := #[] }, { accessFlags := 26, nameIndex := 1121, descriptorIndex := 1122, attributes := #[] }, { accessFlags := 25, nameIndex := 599, descriptorIndex := 600, attributes := #[] }, { accessFlags := 24, nameIndex := 1125, descriptorIndex := 18, attributes := #[] }, { accessFlags := 24, nameIndex := 1127, descriptorIndex := 18, attributes := #[] }])
  fields := #[{ name := "value", type := (.array .byte), accessFlags := 18, slot := 0, constantValue := 0 }, { name := "coder", type := .byte, accessFlags := 18, slot := 1, constantValue := 0 }, { name := "hash", type := .int, accessFlags := 2, slot := 2, constantValue := 0 }, { name := "hashIsZero", type := .boolean, accessFlags := 2, slot := 3, constantValue := 0 }, { name := "serialVersionUID", type := .long, accessFlags := 26, slot := 0, constantValue := 0 }, { name := "COMPACT_STRINGS", type := .boolean, accessFlags := 24, slot := 1, constantValue := 0 }, { name := "serialPersistentFields", type := (.array (.object "java/io/ObjectStreamField")), accessFlags := 26, slot := 2, constantValue := 0 }, { name := "REPL", type := .char, accessFlags := 26, slot := 3, constantValue := 0 }, { name := "CASE_INSENSITIVE_ORDER", type := (.object "java/util/Comparator"), accessFlags := 25, slot := 4, constantValue := 0 }, { name := "LATIN1", type := .byte, accessFlags := 24, slot := 5, constantValue := 0 }, { name := "UTF16", type := .byte, accessFlags := 24, slot := 6, constantValue := 0 }]
  methods := #[k7m0, k7m1, k7m2, k7m3, k7m4, k7m5, k7m6, k7m7, k7m8, k7m9, k7m10, k7m11]
  instanceTypes := #[(.array .byte), .byte, .int, .boolean]
  staticTypes := #[.long, .boolean, (.array (.object "java/io/ObjectStreamField")), .char, (.object "java/util/Comparator"), .byte, .byte]
  resolved := Array.replicate 1451 none
  statics := some 0 }

def pool8 : Array CpInfo := pool [(3, .class_ 4), (0, u "java/lang/String"), (1, .class_ 8), (1, u "java/lang/Object"), (0, u "<init>"), (0, u "()V"), (0, .methodref 12 13), (0, .class_ 14), (0, .nameAndType 15 16), (0, u "java/lang/StringUTF16"), (0, u "newBytesLength"), (0, u "(I)I"), (3, .integer 1073741823), (23, .fieldref 12 45), (0, .nameAndType 46 47), (0, u "$assertionsDisabled"), (0, u "Z"), (0, .methodref 12 49), (0, .nameAndType 50 51), (0, u "length"), (0, u "([B)I"), (7, .fieldref 12 60), (0, .nameAndType 61 62), (0, u "HI_BYTE_SHIFT"), (0, u "I"), (0, .fieldref 12 64), (0, .nameAndType 65 62), (0, u "LO_BYTE_SHIFT"), (1, .methodref 12 68), (0, .nameAndType 69 70), (0, u "checkIndex"), (0, u "(I[B)V"), (0, .methodref 12 72), (0, .nameAndType 73 74), (0, u "getChar"), (0, u "([BI)C"), (24, u "(II[B)V"), (7, .methodref 12 108), (0, .nameAndType 109 110), (0, u "newBytesFor"), (0, u "(I)[B"), (0, .methodref 12 112), (0, .nameAndType 113 114), (0, u "putChar"), (0, u "([BII)V"), (0, .methodref 12 116), (0, .nameAndType 117 118), (0, u "compress"), (0, u "([CI[BII)I"), (0, .methodref 12 120), (0, .nameAndType 121 122), (0, u "toBytes"), (0, u "([CII)[B"), (0, .methodref 12 124), (0, .nameAndType 117 125), (0, u "([BI[BII)I"), (0, .methodref 127 128), (0, .class_ 129), (0, .nameAndType 130 131), (0, u "java/util/Arrays"), (0, u "copyOfRange"), (0, u "([BII)[B"), (41, .methodref 12 174), (0, .nameAndType 175 99), (0, u "checkBoundsOffCount"), (75, .fieldref 3 252), (0, .nameAndType 253 47), (0, u "COMPACT_STRINGS"), (3, .methodref 12 258), (0, .nameAndType 117 131), (0, .methodref 12 260), (0, .nameAndType 261 262), (0, u "coderFromArrayLen"), (0, u "([BI)B"), (0, .methodref 3 264), (0, .nameAndType 9 265), (0, u "([BB)V"), (15, u "(III)I"), (13, .string 296), (0, u ""), (30, u "newString"), (0, u "([BII)Ljava/lang/String;"), (40, .class_ 371), (1, u "java/lang/StringUTF16$LinesSpliterator"), (20, u "charAt"), (21, .methodref 3 415), (0, .nameAndType 69 416), (0, u "(II)V"), (2, .methodref 3 420), (0, .nameAndType 175 281), (9, u "MAX_LENGTH"), (196, .class_ 628), (0, u "java/lang/StringUTF16$CodePointsSpliterator"), (0, .class_ 630), (0, u "java/lang/StringUTF16$CharsSpliterator")] 4

def k8m0 : Method := { name := "<init>", desc := "()V", sig := { parameters := [], returnType := none }, accessFlags := 0, code := none }
def k8c1 : Code := { maxStack := 1, maxLocals := 1, code := jdk_52_method_2_code, exceptionTable := #[], attributes := #[] }
def k8m1 : Method := { name := "newBytesFor", desc := "(I)[B", sig := { parameters := [.int], returnType := some (.array .byte) }, accessFlags := 9, code := some k8c1 }
def k8c2 : Code := { maxStack := 4, maxLocals := 1, code := jdk_52_method_3_code, exceptionTable := #[], attributes := #[] }
def k8m2 : Method := { name := "newBytesLength", desc := "(I)I", sig := { parameters := [.int], returnType := some .int }, accessFlags := 9, code := some k8c2 }
def k8c3 : Code := { maxStack := 4, maxLocals := 3, code := jdk_52_method_4_code, exceptionTable := #[], attributes := #[] }
def k8m3 : Method := { name := "putChar", desc := "([BII)V", sig := { parameters := [(.array .byte), .int, .int], returnType := none }, accessFlags := 8, code := some k8c3 }
def k8c4 : Code := { maxStack := 3, maxLocals := 2, code := jdk_52_method_5_code, exceptionTable := #[], attributes := #[] }
def k8m4 : Method := { name := "getChar", desc := "([BI)C", sig := { parameters := [(.array .byte), .int], returnType := some .char }, accessFlags := 8, code := some k8c4 }
def k8c5 : Code := { maxStack := 2, maxLocals := 1, code := jdk_52_method_6_code, exceptionTable := #[], attributes := #[] }
def k8m5 : Method := { name := "length", desc := "([B)I", sig := { parameters := [(.array .byte)], returnType := some .int }, accessFlags := 9, code := some k8c5 }
def k8c6 : Code := { maxStack := 4, maxLocals := 5, code := jdk_52_method_14_code, exceptionTable := #[], attributes := #[] }
def k8m6 : Method := { name := "toBytes", desc := "([CII)[B", sig := { parameters := [(.array .char), .int, .int], returnType := some (.array .byte) }, accessFlags := 9, code := some k8c6 }
def k8c7 : Code := { maxStack := 2, maxLocals := 2, code := jdk_52_method_15_code, exceptionTable := #[], attributes := #[] }
def k8m7 : Method := { name := "coderFromArrayLen", desc := "([BI)B", sig := { parameters := [(.array .byte), .int], returnType := some .byte }, accessFlags := 8, code := some k8c7 }
def k8c8 : Code := { maxStack := 5, maxLocals := 6, code := jdk_52_method_16_code, exceptionTable := #[], attributes := #[] }
def k8m8 : Method := { name := "compress", desc := "([CII)[B", sig := { parameters := [(.array .char), .int, .int], returnType := some (.array .byte) }, accessFlags := 9, code := some k8c8 }
def k8c9 : Code := { maxStack := 5, maxLocals := 6, code := jdk_52_method_17_code, exceptionTable := #[], attributes := #[] }
def k8m9 : Method := { name := "compress", desc := "([BII)[B", sig := { parameters := [(.array .byte), .int, .int], returnType := some (.array .byte) }, accessFlags := 9, code := some k8c9 }
def k8c10 : Code := { maxStack := 3, maxLocals := 7, code := jdk_52_method_21_code, exceptionTable := #[], attributes := #[] }
def k8m10 : Method := { name := "compress", desc := "([CI[BII)I", sig := { parameters := [(.array .char), .int, (.array .byte), .int, .int], returnType := some .int }, accessFlags := 9, code := some k8c10 }
def k8c11 : Code := { maxStack := 3, maxLocals := 7, code := jdk_52_method_22_code, exceptionTable := #[], attributes := #[] }
def k8m11 : Method := { name := "compress", desc := "([BI[BII)I", sig := { parameters := [(.array .byte), .int, (.array .byte), .int, .int], returnType := some .int }, accessFlags := 9, code := some k8c11 }
def k8c12 : Code := { maxStack := 6, maxLocals := 5, code := jdk_52_method_69_code, exceptionTable := #[], attributes := #[] }
def k8m12 : Method := { name := "newString", desc := "([BII)Ljava/lang/String;", sig := { parameters := [(.array .byte), .int, .int], returnType := some (.object "java/lang/String") }, accessFlags := 9, code := some k8c12 }
def k8c13 : Code := { maxStack := 2, maxLocals := 2, code := jdk_52_method_83_code, exceptionTable := #[], attributes := #[] }
def k8m13 : Method := { name := "charAt", desc := "([BI)C", sig := { parameters := [(.array .byte), .int], returnType := some .char }, accessFlags := 9, code := some k8c13 }
def k8c14 : Code := { maxStack := 2, maxLocals := 2, code := jdk_52_method_91_code, exceptionTable := #[], attributes := #[] }
def k8m14 : Method := { name := "checkIndex", desc := "(I[B)V", sig := { parameters := [.int, (.array .byte)], returnType := none }, accessFlags := 9, code := some k8c14 }
def k8c15 : Code := { maxStack := 3, maxLocals := 3, code := jdk_52_method_94_code, exceptionTable := #[], attributes := #[] }
def k8m15 : Method := { name := "checkBoundsOffCount", desc := "(II[B)V", sig := { parameters := [.int, .int, (.array .byte)], returnType := none }, accessFlags := 9, code := some k8c15 }
/-- java/lang/StringUTF16 -/
def k8 : Class := { plain "java/lang/StringUTF16" (some 0) with
  accessFlags := 48
  interfaces := #[]
  cf := some (fileOf pool8 12 #[.nestMembers #[627, 629, 369]] #[{ accessFlags := 0, nameIndex := 9, descriptorIndex := 10, attributes := #[] }, { accessFlags := 9, nameIndex := 109, descriptorIndex := 110, attributes := #[] }, { accessFlags := 9, nameIndex := 15, descriptorIndex := 16, attributes := #[] }, { accessFlags := 8, nameIndex := 113, descriptorIndex := 114, attributes := #[] }, { accessFlags := 8, nameIndex := 73, descriptorIndex := 74, attributes := #[] }, { accessFlags := 9, nameIndex := 50, descriptorIndex := 51, attributes := #[] }, { accessFlags := 9, nameIndex := 121, descriptorIndex := 122, attributes := #[] }, { accessFlags := 8, nameIndex := 261, descriptorIndex := 262, attributes := #[] }, { accessFlags := 9, nameIndex := 117, descriptorIndex := 122, attributes := #[] }, { accessFlags := 9, nameIndex := 117, descriptorIndex := 131, attributes := #[] }, { accessFlags := 9, nameIndex := 117, descriptorIndex := 118, attributes := #[] }, { accessFlags := 9, nameIndex := 117, descriptorIndex := 125, attributes := #[] }, { accessFlags := 9, nameIndex := 327, descriptorIndex := 328, attributes := #[] }, { accessFlags := 9, nameIndex := 392, descriptorIndex := 74, attributes := #[] }, { accessFlags := 9, nameIndex := 69, descriptorIndex := 70, attributes := #[] }, { accessFlags := 9, nameIndex := 175, descriptorIndex := 99, attributes := #[] }] 48 6 #[] #[{ accessFlags := 26, nameIndex := 61, descriptorIndex := 62, attributes := #[] }, { accessFlags := 26, nameIndex := 65, descriptorIndex := 62, attributes := #[] }, { accessFlags := 24, nameIndex := 430, descriptorIndex := 62, attributes := #[] }, { accessFlags := 4120, nameIndex := 46, descriptorIndex := 47, attributes := #[] }])
  fields := #[{ name := "HI_BYTE_SHIFT", type := .int, accessFlags := 26, slot := 0, constantValue := 0 }, { name := "LO_BYTE_SHIFT", type := .int, accessFlags := 26, slot := 1, constantValue := 0 }, { name := "MAX_LENGTH", type := .int, accessFlags := 24, slot := 2, constantValue := 0 }, { name := "$assertionsDisabled", type := .boolean, accessFlags := 4120, slot := 3, constantValue := 0 }]
  methods := #[k8m0, k8m1, k8m2, k8m3, k8m4, k8m5, k8m6, k8m7, k8m8, k8m9, k8m10, k8m11, k8m12, k8m13, k8m14, k8m15]
  instanceTypes := #[]
  staticTypes := #[.int, .int, .int, .boolean]
  resolved := Array.replicate 635 none
  statics := some 1 }

def pool9 : Array CpInfo := pool [(1, .methodref 2 3), (0, .class_ 4), (0, .nameAndType 5 6), (0, u "java/lang/Object"), (0, u "<init>"), (0, u "()V"), (0, .class_ 8), (0, u "java/lang/Record")] 13

def k9c0 : Code := { maxStack := 1, maxLocals := 1, code := jdk_30_method_1_code, exceptionTable := #[], attributes := #[] }
def k9m0 : Method := { name := "<init>", desc := "()V", sig := { parameters := [], returnType := none }, accessFlags := 4, code := some k9c0 }
/-- java/lang/Record -/
def k9 : Class := { plain "java/lang/Record" (some 0) with
  accessFlags := 1057
  interfaces := #[]
  cf := some (fileOf pool9 7 #[] #[{ accessFlags := 4, nameIndex := 5, descriptorIndex := 6, attributes := #[] }] 1057 2 #[] #[])
  fields := #[]
  methods := #[k9m0]
  instanceTypes := #[]
  staticTypes := #[]
  resolved := Array.replicate 22 none
  statics := none }

def pool10 : Array CpInfo := pool [(1, .methodref 2 3), (0, .class_ 4), (0, .nameAndType 5 6), (0, u "java/lang/Record"), (0, u "<init>"), (0, u "()V"), (0, .fieldref 8 9), (0, .class_ 10), (0, .nameAndType 11 12), (0, u "com/example/hansou/hansou/Span"), (0, u "start"), (0, u "I"), (0, .fieldref 8 14), (0, .nameAndType 15 12), (0, u "end"), (0, .methodref 17 18), (0, .class_ 19), (0, .nameAndType 20 21), (0, u "java/lang/String"), (0, u "substring"), (0, u "(II)Ljava/lang/String;"), (12, u "(II)V"), (3, u "of"), (0, u "(Ljava/lang/String;)Ljava/lang/String;")] 24

def k10c0 : Code := { maxStack := 2, maxLocals := 3, code := prog_13_method_1_code, exceptionTable := #[], attributes := #[] }
def k10m0 : Method := { name := "<init>", desc := "(II)V", sig := { parameters := [.int, .int], returnType := none }, accessFlags := 0, code := some k10c0 }
def k10c1 : Code := { maxStack := 3, maxLocals := 2, code := prog_13_method_2_code, exceptionTable := #[], attributes := #[] }
def k10m1 : Method := { name := "of", desc := "(Ljava/lang/String;)Ljava/lang/String;", sig := { parameters := [(.object "java/lang/String")], returnType := some (.object "java/lang/String") }, accessFlags := 0, code := some k10c1 }
/-- com/example/hansou/hansou/Span -/
def k10 : Class := { plain "com/example/hansou/hansou/Span" (some 9) with
  accessFlags := 48
  interfaces := #[]
  cf := some (fileOf pool10 8 #[] #[{ accessFlags := 0, nameIndex := 5, descriptorIndex := 34, attributes := #[] }, { accessFlags := 0, nameIndex := 38, descriptorIndex := 39, attributes := #[] }] 48 2 #[] #[{ accessFlags := 18, nameIndex := 11, descriptorIndex := 12, attributes := #[] }, { accessFlags := 18, nameIndex := 15, descriptorIndex := 12, attributes := #[] }])
  fields := #[{ name := "start", type := .int, accessFlags := 18, slot := 0, constantValue := 0 }, { name := "end", type := .int, accessFlags := 18, slot := 1, constantValue := 0 }]
  methods := #[k10m0, k10m1]
  instanceTypes := #[.int, .int]
  staticTypes := #[]
  resolved := Array.replicate 64 none
  statics := none }

def pool11 : Array CpInfo := pool [(2, .class_ 4), (1, u "java/lang/Object"), (0, u "<init>"), (0, u "()V"), (17, .class_ 26), (1, u "jdk/internal/util/Preconditions"), (6, u "checkIndex"), (13, u "checkFromToIndex"), (1, u "checkFromIndexSize"), (5, .class_ 56), (0, u "jdk/internal/util/Preconditions$4"), (57, .class_ 115), (0, u "jdk/internal/util/Preconditions$1"), (7, u "SIOOBE_FORMATTER"), (0, u "Ljava/util/function/BiFunction;"), (0, .class_ 126), (0, u "jdk/internal/util/Preconditions$2"), (3, u "AIOOBE_FORMATTER"), (0, .class_ 132), (0, u "jdk/internal/util/Preconditions$3"), (3, u "IOOBE_FORMATTER"), (41, u "(IILjava/util/function/BiFunction;)I"), (4, u "(IIILjava/util/function/BiFunction;)I")] 10

def k11m0 : Method := { name := "<init>", desc := "()V", sig := { parameters := [], returnType := none }, accessFlags := 1, code := none }
def k11c1 : Code := { maxStack := 3, maxLocals := 3, code := jdk_41_method_11_code, exceptionTable := #[], attributes := #[] }
def k11m1 : Method := { name := "checkIndex", desc := "(IILjava/util/function/BiFunction;)I", sig := { parameters := [.int, .int, (.object "java/util/function/BiFunction")], returnType := some .int }, accessFlags := 9, code := some k11c1 }
def k11c2 : Code := { maxStack := 4, maxLocals := 4, code := jdk_41_method_12_code, exceptionTable := #[], attributes := #[] }
def k11m2 : Method := { name := "checkFromToIndex", desc := "(IIILjava/util/function/BiFunction;)I", sig := { parameters := [.int, .int, .int, (.object "java/util/function/BiFunction")], returnType := some .int }, accessFlags := 9, code := some k11c2 }
def k11c3 : Code := { maxStack := 4, maxLocals := 4, code := jdk_41_method_13_code, exceptionTable := #[], attributes := #[] }
def k11m3 : Method := { name := "checkFromIndexSize", desc := "(IIILjava/util/function/BiFunction;)I", sig := { parameters := [.int, .int, .int, (.object "java/util/function/BiFunction")], returnType := some .int }, accessFlags := 9, code := some k11c3 }
/-- jdk/internal/util/Preconditions -/
def k11 : Class := { plain "jdk/internal/util/Preconditions" (some 0) with
  accessFlags := 33
  interfaces := #[]
  cf := some (fileOf pool11 24 #[.nestMembers #[55, 131, 125, 114]] #[{ accessFlags := 1, nameIndex := 5, descriptorIndex := 6, attributes := #[] }, { accessFlags := 9, nameIndex := 33, descriptorIndex := 178, attributes := #[] }, { accessFlags := 9, nameIndex := 47, descriptorIndex := 183, attributes := #[] }, { accessFlags := 9, nameIndex := 49, descriptorIndex := 183, attributes := #[] }] 33 2 #[] #[{ accessFlags := 25, nameIndex := 123, descriptorIndex := 124, attributes := #[] }, { accessFlags := 25, nameIndex := 130, descriptorIndex := 124, attributes := #[] }, { accessFlags := 25, nameIndex := 136, descriptorIndex := 124, attributes := #[] }])
  fields := #[{ name := "SIOOBE_FORMATTER", type := (.object "java/util/function/BiFunction"), accessFlags := 25, slot := 0, constantValue := 0 }, { name := "AIOOBE_FORMATTER", type := (.object "java/util/function/BiFunction"), accessFlags := 25, slot := 1, constantValue := 0 }, { name := "IOOBE_FORMATTER", type := (.object "java/util/function/BiFunction"), accessFlags := 25, slot := 2, constantValue := 0 }]
  methods := #[k11m0, k11m1, k11m2, k11m3]
  instanceTypes := #[]
  staticTypes := #[(.object "java/util/function/BiFunction"), (.object "java/util/function/BiFunction"), (.object "java/util/function/BiFunction")]
  resolved := Array.replicate 194 none
  statics := some 2 }

def pool12 : Array CpInfo := pool [(1, .class_ 2), (0, u "java/lang/String"), (1, .class_ 6), (1, u "java/lang/Object"), (0, u "<init>"), (0, u "()V"), (0, .methodref 1 10), (0, .nameAndType 11 12), (0, u "checkIndex"), (0, u "(II)V"), (1, .class_ 16), (1, u "java/lang/StringLatin1"), (36, u "([BI)C"), (58, .methodref 1 113), (0, .nameAndType 7 114), (0, u "([BB)V"), (6, u "$assertionsDisabled"), (0, u "Z"), (8, .class_ 133), (1, u "java/util/Arrays"), (17, .string 152), (0, u ""), (43, u "newString"), (0, u "([BII)Ljava/lang/String;"), (23, .class_ 223), (1, u "java/lang/StringLatin1$LinesSpliterator"), (8, .methodref 131 233), (0, .nameAndType 234 235), (0, u "copyOfRange"), (0, u "([BII)[B"), (16, u "charAt"), (137, .class_ 391), (0, u "java/lang/StringLatin1$CharsSpliterator")] 3

def k12m0 : Method := { name := "<init>", desc := "()V", sig := { parameters := [], returnType := none }, accessFlags := 0, code := none }
def k12c1 : Code := { maxStack := 2, maxLocals := 2, code := jdk_43_method_2_code, exceptionTable := #[], attributes := #[] }
def k12m1 : Method := { name := "charAt", desc := "([BI)C", sig := { parameters := [(.array .byte), .int], returnType := some .char }, accessFlags := 9, code := some k12c1 }
def k12c2 : Code := { maxStack := 6, maxLocals := 3, code := jdk_43_method_47_code, exceptionTable := #[], attributes := #[] }
def k12m2 : Method := { name := "newString", desc := "([BII)Ljava/lang/String;", sig := { parameters := [(.array .byte), .int, .int], returnType := some (.object "java/lang/String") }, accessFlags := 9, code := some k12c2 }
/-- java/lang/StringLatin1 -/
def k12 : Class := { plain "java/lang/StringLatin1" (some 0) with
  accessFlags := 48
  interfaces := #[]
  cf := some (fileOf pool12 14 #[.nestMembers #[390, 221]] #[{ accessFlags := 0, nameIndex := 7, descriptorIndex := 8, attributes := #[] }, { accessFlags := 9, nameIndex := 252, descriptorIndex := 53, attributes := #[] }, { accessFlags := 9, nameIndex := 196, descriptorIndex := 197, attributes := #[] }] 48 4 #[] #[{ accessFlags := 4120, nameIndex := 121, descriptorIndex := 122, attributes := #[] }])
  fields := #[{ name := "$assertionsDisabled", type := .boolean, accessFlags := 4120, slot := 0, constantValue := 0 }]
  methods := #[k12m0, k12m1, k12m2]
  instanceTypes := #[]
  staticTypes := #[.boolean]
  resolved := Array.replicate 395 none
  statics := none }

def pool13 : Array CpInfo := pool [(2, .class_ 4), (1, u "java/lang/Object"), (0, u "<init>"), (0, u "()V"), (7, .class_ 16), (1, u "java/util/Arrays"), (57, .class_ 76), (1, u "java/util/Arrays$NaturalOrder"), (36, .class_ 115), (1, u "java/util/Arrays$LegacyMergeSort"), (1, u "Z"), (21, u "copyOfRange"), (10, .methodref 151 152), (0, .class_ 153), (0, .nameAndType 154 155), (0, u "java/lang/System"), (0, u "arraycopy"), (0, u "(Ljava/lang/Object;ILjava/lang/Object;II)V"), (148, .methodref 305 306), (0, .class_ 307), (0, .nameAndType 308 309), (0, u "java/lang/Math"), (0, u "min"), (0, u "(II)I"), (29, .methodref 14 340), (0, .nameAndType 341 342), (0, u "copyOfRangeByte"), (0, u "([BII)[B"), (0, .methodref 14 344), (0, .nameAndType 345 346), (0, u "checkLength"), (0, u "(II)V"), (28, .class_ 376), (0, u "java/util/Arrays$ArrayList"), (68, u "$assertionsDisabled"), (269, u "MIN_ARRAY_SORT_GRAN"), (0, u "I"), (2, u "INSERTIONSORT_THRESHOLD"), (255, .class_ 976), (0, u "java/util/Arrays$ArrayItr")] 52

def k13m0 : Method := { name := "<init>", desc := "()V", sig := { parameters := [], returnType := none }, accessFlags := 2, code := none }
def k13c1 : Code := { maxStack := 4, maxLocals := 2, code := jdk_65_method_131_code, exceptionTable := #[], attributes := #[] }
def k13m1 : Method := { name := "checkLength", desc := "(II)V", sig := { parameters := [.int, .int], returnType := none }, accessFlags := 10, code := some k13c1 }
def k13c2 : Code := { maxStack := 3, maxLocals := 3, code := jdk_65_method_132_code, exceptionTable := #[], attributes := #[] }
def k13m2 : Method := { name := "copyOfRange", desc := "([BII)[B", sig := { parameters := [(.array .byte), .int, .int], returnType := some (.array .byte) }, accessFlags := 9, code := some k13c2 }
def k13c3 : Code := { maxStack := 6, maxLocals := 5, code := jdk_65_method_133_code, exceptionTable := #[], attributes := #[] }
def k13m3 : Method := { name := "copyOfRangeByte", desc := "([BII)[B", sig := { parameters := [(.array .byte), .int, .int], returnType := some (.array .byte) }, accessFlags := 10, code := some k13c3 }
/-- java/util/Arrays -/
def k13 : Class := { plain "java/util/Arrays" (some 0) with
  accessFlags := 49
  interfaces := #[]
  cf := some (fileOf pool13 14 #[.nestMembers #[975, 375, 113, 74]] #[{ accessFlags := 2, nameIndex := 5, descriptorIndex := 6, attributes := #[] }, { accessFlags := 10, nameIndex := 345, descriptorIndex := 346, attributes := #[] }, { accessFlags := 9, nameIndex := 139, descriptorIndex := 342, attributes := #[] }, { accessFlags := 10, nameIndex := 341, descriptorIndex := 342, attributes := #[] }] 49 2 #[] #[{ accessFlags := 26, nameIndex := 715, descriptorIndex := 716, attributes := #[] }, { accessFlags := 26, nameIndex := 719, descriptorIndex := 716, attributes := #[] }, { accessFlags := 4120, nameIndex := 445, descriptorIndex := 117, attributes := #[] }])
  fields := #[{ name := "MIN_ARRAY_SORT_GRAN", type := .int, accessFlags := 26, slot := 0, constantValue := 0 }, { name := "INSERTIONSORT_THRESHOLD", type := .int, accessFlags := 26, slot := 1, constantValue := 0 }, { name := "$assertionsDisabled", type := .boolean, accessFlags := 4120, slot := 2, constantValue := 0 }]
  methods := #[k13m0, k13m1, k13m2, k13m3]
  instanceTypes := #[]
  staticTypes := #[.int, .int, .boolean]
  resolved := Array.replicate 1029 none
  statics := none }

def pool14 : Array CpInfo := pool [(1, .class_ 2), (0, u "java/lang/Math"), (1, .class_ 6), (1, u "java/lang/Object"), (0, u "<init>"), (0, u "()V"), (89, .class_ 100), (1, u "java/lang/Math$RandomNumberGeneratorHolder"), (71, u "negativeZeroFloatBits"), (0, u "J"), (2, u "negativeZeroDoubleBits"), (24, u "min"), (43, u "$assertionsDisabled"), (0, u "Z"), (88, u "(II)I"), (2, u "twoToTheDoubleScaleDown"), (0, u "D"), (4, u "twoToTheDoubleScaleUp"), (9, u "E"), (3, u "PI"), (2, u "TAU"), (2, u "DEGREES_TO_RADIANS"), (0, u "RADIANS_TO_DEGREES")] 94

def k14m0 : Method := { name := "<init>", desc := "()V", sig := { parameters := [], returnType := none }, accessFlags := 2, code := none }
def k14c1 : Code := { maxStack := 2, maxLocals := 2, code := jdk_29_method_69_code, exceptionTable := #[], attributes := #[] }
def k14m1 : Method := { name := "min", desc := "(II)I", sig := { parameters := [.int, .int], returnType := some .int }, accessFlags := 9, code := some k14c1 }
/-- java/lang/Math -/
def k14 : Class := { plain "java/lang/Math" (some 0) with
  accessFlags := 49
  interfaces := #[]
  cf := some (fileOf pool14 1 #[.nestMembers #[98]] #[{ accessFlags := 2, nameIndex := 7, descriptorIndex := 8, attributes := #[] }, { accessFlags := 9, nameIndex := 201, descriptorIndex := 335, attributes := #[] }] 49 4 #[] #[{ accessFlags := 25, nameIndex := 354, descriptorIndex := 339, attributes := #[] }, { accessFlags := 25, nameIndex := 358, descriptorIndex := 339, attributes := #[] }, { accessFlags := 25, nameIndex := 361, descriptorIndex := 339, attributes := #[] }, { accessFlags := 26, nameIndex := 364, descriptorIndex := 339, attributes := #[] }, { accessFlags := 26, nameIndex := 365, descriptorIndex := 339, attributes := #[] }, { accessFlags := 26, nameIndex := 172, descriptorIndex := 173, attributes := #[] }, { accessFlags := 26, nameIndex := 176, descriptorIndex := 173, attributes := #[] }, { accessFlags := 8, nameIndex := 344, descriptorIndex := 339, attributes := #[] }, { accessFlags := 8, nameIndex := 338, descriptorIndex := 339, attributes := #[] }, { accessFlags := 4120, nameIndex := 245, descriptorIndex := 246, attributes := #[] }])
  fields := #[{ name := "E", type := .double, accessFlags := 25, slot := 0, constantValue := 0 }, { name := "PI", type := .double, accessFlags := 25, slot := 1, constantValue := 0 }, { name := "TAU", type := .double, accessFlags := 25, slot := 2, constantValue := 0 }, { name := "DEGREES_TO_RADIANS", type := .double, accessFlags := 26, slot := 3, constantValue := 0 }, { name := "RADIANS_TO_DEGREES", type := .double, accessFlags := 26, slot := 4, constantValue := 0 }, { name := "negativeZeroFloatBits", type := .long, accessFlags := 26, slot := 5, constantValue := 0 }, { name := "negativeZeroDoubleBits", type := .long, accessFlags := 26, slot := 6, constantValue := 0 }, { name := "twoToTheDoubleScaleUp", type := .double, accessFlags := 8, slot := 7, constantValue := 0 }, { name := "twoToTheDoubleScaleDown", type := .double, accessFlags := 8, slot := 8, constantValue := 0 }, { name := "$assertionsDisabled", type := .boolean, accessFlags := 4120, slot := 9, constantValue := 0 }]
  methods := #[k14m0, k14m1]
  instanceTypes := #[]
  staticTypes := #[.double, .double, .double, .double, .double, .long, .long, .double, .double, .boolean]
  resolved := Array.replicate 460 none
  statics := none }

def pool15 : Array CpInfo := pool [(2, .class_ 4), (1, u "java/lang/Object"), (0, u "<init>"), (0, u "()V"), (1, .class_ 10), (1, u "java/lang/System"), (0, u "allowSecurityManager"), (0, u "I"), (16, u "cons"), (0, u "Ljava/io/Console;"), (77, .class_ 110), (1, u "java/lang/System$CallersHolder"), (43, u "initialErrStream"), (0, u "Ljava/io/PrintStream;"), (19, u "security"), (0, u "Ljava/lang/SecurityManager;"), (31, .class_ 209), (0, u "java/lang/System$1"), (7, u "props"), (0, u "Ljava/util/Properties;"), (2, u "lineSeparator"), (0, u "Ljava/lang/String;"), (96, .class_ 321), (1, u "java/lang/System$LoggerFinder"), (5, .class_ 328), (0, u "java/lang/System$Logger"), (67, u "err"), (2, u "out"), (91, u "notSupportedJnuEncoding"), (15, u "in"), (17, u "initialIn"), (0, u "Ljava/io/InputStream;"), (35, u "bootLayer"), (0, u "Ljava/lang/ModuleLayer;"), (99, .class_ 664), (0, u "java/lang/System$2"), (9, u "NEVER"), (2, u "MAYBE"), (49, u "arraycopy"), (0, u "(Ljava/lang/Object;ILjava/lang/Object;II)V"), (72, .class_ 802), (0, u "java/lang/System$Logger$Level")] 31

def k15m0 : Method := { name := "<init>", desc := "()V", sig := { parameters := [], returnType := none }, accessFlags := 2, code := none }
def k15m1 : Method := { name := "arraycopy", desc := "(Ljava/lang/Object;ILjava/lang/Object;II)V", sig := { parameters := [(.object "java/lang/Object"), .int, (.object "java/lang/Object"), .int, .int], returnType := none }, accessFlags := 265, code := none }
/-- java/lang/System -/
def k15 : Class := { plain "java/lang/System" (some 0) with
  accessFlags := 49
  interfaces := #[]
  cf := some (fileOf pool15 8 #[.nestMembers #[319, 327, 801, 108, 663, 208]] #[{ accessFlags := 2, nameIndex := 5, descriptorIndex := 6, attributes := #[] }, { accessFlags := 265, nameIndex := 727, descriptorIndex := 728, attributes := #[] }] 49 2 #[] #[{ accessFlags := 25, nameIndex := 507, descriptorIndex := 526, attributes := #[] }, { accessFlags := 25, nameIndex := 399, descriptorIndex := 155, attributes := #[] }, { accessFlags := 25, nameIndex := 396, descriptorIndex := 155, attributes := #[] }, { accessFlags := 10, nameIndex := 525, descriptorIndex := 526, attributes := #[] }, { accessFlags := 26, nameIndex := 674, descriptorIndex := 12, attributes := #[] }, { accessFlags := 26, nameIndex := 677, descriptorIndex := 12, attributes := #[] }, { accessFlags := 10, nameIndex := 11, descriptorIndex := 12, attributes := #[] }, { accessFlags := 74, nameIndex := 175, descriptorIndex := 176, attributes := #[] }, { accessFlags := 10, nameIndex := 491, descriptorIndex := 222, attributes := #[] }, { accessFlags := 74, nameIndex := 29, descriptorIndex := 30, attributes := #[] }, { accessFlags := 74, nameIndex := 154, descriptorIndex := 155, attributes := #[] }, { accessFlags := 10, nameIndex := 217, descriptorIndex := 218, attributes := #[] }, { accessFlags := 10, nameIndex := 221, descriptorIndex := 222, attributes := #[] }, { accessFlags := 8, nameIndex := 562, descriptorIndex := 563, attributes := #[] }])
  fields := #[{ name := "in", type := (.object "java/io/InputStream"), accessFlags := 25, slot := 0, constantValue := 0 }, { name := "out", type := (.object "java/io/PrintStream"), accessFlags := 25, slot := 1, constantValue := 0 }, { name := "err", type := (.object "java/io/PrintStream"), accessFlags := 25, slot := 2, constantValue := 0 }, { name := "initialIn", type := (.object "java/io/InputStream"), accessFlags := 10, slot := 3, constantValue := 0 }, { name := "NEVER", type := .int, accessFlags := 26, slot := 4, constantValue := 0 }, { name := "MAYBE", type := .int, accessFlags := 26, slot := 5, constantValue := 0 }, { name := "allowSecurityManager", type := .int, accessFlags := 10, slot := 6, constantValue := 0 }, { name := "security", type := (.object "java/lang/SecurityManager"), accessFlags := 74, slot := 7, constantValue := 0 }, { name := "notSupportedJnuEncoding", type := (.object "java/lang/String"), accessFlags := 10, slot := 8, constantValue := 0 }, { name := "cons", type := (.object "java/io/Console"), accessFlags := 74, slot := 9, constantValue := 0 }, { name := "initialErrStream", type := (.object "java/io/PrintStream"), accessFlags := 74, slot := 10, constantValue := 0 }, { name := "props", type := (.object "java/util/Properties"), accessFlags := 10, slot := 11, constantValue := 0 }, { name := "lineSeparator", type := (.object "java/lang/String"), accessFlags := 10, slot := 12, constantValue := 0 }, { name := "bootLayer", type := (.object "java/lang/ModuleLayer"), accessFlags := 8, slot := 13, constantValue := 0 }]
  methods := #[k15m0, k15m1]
  instanceTypes := #[]
  staticTypes := #[(.object "java/io/InputStream"), (.object "java/io/PrintStream"), (.object "java/io/PrintStream"), (.object "java/io/InputStream"), .int, .int, .int, (.object "java/lang/SecurityManager"), (.object "java/lang/String"), (.object "java/io/Console"), (.object "java/io/PrintStream"), (.object "java/util/Properties"), (.object "java/lang/String"), (.object "java/lang/ModuleLayer")]
  resolved := Array.replicate 834 none
  statics := none }

def pool16 : Array CpInfo := pool [(9, u "<init>"), (6, .class_ 18), (1, u "java/lang/Object"), (0, u "()V"), (1, .class_ 23), (1, u "jdk/internal/util/ArraysSupport"), (0, u "LOG2_ARRAY_LONG_INDEX_SCALE"), (0, u "I"), (2, u "U"), (0, u "Ljdk/internal/misc/Unsafe;"), (8, u "BIG_ENDIAN"), (0, u "Z"), (8, u "LOG2_BYTE_BIT_SIZE"), (4, u "LOG2_ARRAY_INT_INDEX_SCALE"), (54, u "JLA"), (0, u "Ljdk/internal/access/JavaLangAccess;"), (11, u "LOG2_ARRAY_BOOLEAN_INDEX_SCALE"), (9, u "LOG2_ARRAY_BYTE_INDEX_SCALE"), (5, u "LOG2_ARRAY_CHAR_INDEX_SCALE"), (5, u "LOG2_ARRAY_SHORT_INDEX_SCALE"), (18, u "LOG2_ARRAY_FLOAT_INDEX_SCALE"), (24, u "LOG2_ARRAY_DOUBLE_INDEX_SCALE"), (89, u "T_BOOLEAN"), (2, u "T_CHAR"), (1, u "T_FLOAT"), (1, u "T_DOUBLE"), (1, u "T_BYTE"), (1, u "T_SHORT"), (1, u "T_INT"), (1, u "T_LONG"), (1, u "SOFT_MAX_ARRAY_LENGTH")] 83

def k16m0 : Method := { name := "<init>", desc := "()V", sig := { parameters := [], returnType := none }, accessFlags := 2, code := none }
/-- jdk/internal/util/ArraysSupport -/
def k16 : Class := { plain "jdk/internal/util/ArraysSupport" (some 0) with
  accessFlags := 33
  interfaces := #[]
  cf := some (fileOf pool16 21 #[] #[{ accessFlags := 2, nameIndex := 9, descriptorIndex := 19, attributes := #[] }] 33 16 #[] #[{ accessFlags := 24, nameIndex := 28, descriptorIndex := 29, attributes := #[] }, { accessFlags := 26, nameIndex := 38, descriptorIndex := 39, attributes := #[] }, { accessFlags := 25, nameIndex := 121, descriptorIndex := 25, attributes := #[] }, { accessFlags := 25, nameIndex := 131, descriptorIndex := 25, attributes := #[] }, { accessFlags := 25, nameIndex := 137, descriptorIndex := 25, attributes := #[] }, { accessFlags := 25, nameIndex := 143, descriptorIndex := 25, attributes := #[] }, { accessFlags := 25, nameIndex := 53, descriptorIndex := 25, attributes := #[] }, { accessFlags := 25, nameIndex := 24, descriptorIndex := 25, attributes := #[] }, { accessFlags := 25, nameIndex := 162, descriptorIndex := 25, attributes := #[] }, { accessFlags := 25, nameIndex := 187, descriptorIndex := 25, attributes := #[] }, { accessFlags := 26, nameIndex := 48, descriptorIndex := 25, attributes := #[] }, { accessFlags := 25, nameIndex := 277, descriptorIndex := 25, attributes := #[] }, { accessFlags := 25, nameIndex := 280, descriptorIndex := 25, attributes := #[] }, { accessFlags := 25, nameIndex := 282, descriptorIndex := 25, attributes := #[] }, { accessFlags := 25, nameIndex := 284, descriptorIndex := 25, attributes := #[] }, { accessFlags := 25, nameIndex := 286, descriptorIndex := 25, attributes := #[] }, { accessFlags := 25, nameIndex := 288, descriptorIndex := 25, attributes := #[] }, { accessFlags := 25, nameIndex := 290, descriptorIndex := 25, attributes := #[] }, { accessFlags := 25, nameIndex := 292, descriptorIndex := 25, attributes := #[] }, { accessFlags := 26, nameIndex := 108, descriptorIndex := 109, attributes := #[] }, { accessFlags := 25, nameIndex := 294, descriptorIndex := 25, attributes := #[] }])
  fields := #[{ name := "U", type := (.object "jdk/internal/misc/Unsafe"), accessFlags := 24, slot := 0, constantValue := 0 }, { name := "BIG_ENDIAN", type := .boolean, accessFlags := 26, slot := 1, constantValue := 0 }, { name := "LOG2_ARRAY_BOOLEAN_INDEX_SCALE", type := .int, accessFlags := 25, slot := 2, constantValue := 0 }, { name := "LOG2_ARRAY_BYTE_INDEX_SCALE", type := .int, accessFlags := 25, slot := 3, constantValue := 0 }, { name := "LOG2_ARRAY_CHAR_INDEX_SCALE", type := .int, accessFlags := 25, slot := 4, constantValue := 0 }, { name := "LOG2_ARRAY_SHORT_INDEX_SCALE", type := .int, accessFlags := 25, slot := 5, constantValue := 0 }, { name := "LOG2_ARRAY_INT_INDEX_SCALE", type := .int, accessFlags := 25, slot := 6, constantValue := 0 }, { name := "LOG2_ARRAY_LONG_INDEX_SCALE", type := .int, accessFlags := 25, slot := 7, constantValue := 0 }, { name := "LOG2_ARRAY_FLOAT_INDEX_SCALE", type := .int, accessFlags := 25, slot := 8, constantValue := 0 }, { name := "LOG2_ARRAY_DOUBLE_INDEX_SCALE", type := .int, accessFlags := 25, slot := 9, constantValue := 0 }, { name := "LOG2_BYTE_BIT_SIZE", type := .int, accessFlags := 26, slot := 10, constantValue := 0 }, { name := "T_BOOLEAN", type := .int, accessFlags := 25, slot := 11, constantValue := 0 }, { name := "T_CHAR", type := .int, accessFlags := 25, slot := 12, constantValue := 0 }, { name := "T_FLOAT", type := .int, accessFlags := 25, slot := 13, constantValue := 0 }, { name := "T_DOUBLE", type := .int, accessFlags := 25, slot := 14, constantValue := 0 }, { name := "T_BYTE", type := .int, accessFlags := 25, slot := 15, constantValue := 0 }, { name := "T_SHORT", type := .int, accessFlags := 25, slot := 16, constantValue := 0 }, { name := "T_INT", type := .int, accessFlags := 25, slot := 17, constantValue := 0 }, { name := "T_LONG", type := .int, accessFlags := 25, slot := 18, constantValue := 0 }, { name := "JLA", type := (.object "jdk/internal/access/JavaLangAccess"), accessFlags := 26, slot := 19, constantValue := 0 }, { name := "SOFT_MAX_ARRAY_LENGTH", type := .int, accessFlags := 25, slot := 20, constantValue := 0 }]
  methods := #[k16m0]
  instanceTypes := #[]
  staticTypes := #[(.object "jdk/internal/misc/Unsafe"), .boolean, .int, .int, .int, .int, .int, .int, .int, .int, .int, .int, .int, .int, .int, .int, .int, .int, .int, (.object "jdk/internal/access/JavaLangAccess"), .int]
  resolved := Array.replicate 378 none
  statics := none }

def pool17 : Array CpInfo := pool [(1, u "java/lang/Cloneable"), (0, .class_ 1), (0, u "java/lang/Object"), (0, .class_ 3)] 3

/-- java/lang/Cloneable -/
def k17 : Class := { plain "java/lang/Cloneable" (some 0) with
  accessFlags := 1537
  interfaces := #[]
  cf := some (fileOf pool17 2 #[] #[] 1537 4 #[] #[])
  fields := #[]
  methods := #[]
  instanceTypes := #[]
  staticTypes := #[]
  resolved := Array.replicate 8 none
  statics := none }

/-- the primitive byte -/
def k18 : Class := { plain "byte" none with kind := .primitive 'B', accessFlags := 0x411 }
/-- [B -/
def k19 : Class := { plain "[B" (some 0) with kind := .array 18 .byte, interfaces := #[17, 2], accessFlags := 1041 }

/-- the primitive char -/
def k20 : Class := { plain "char" none with kind := .primitive 'C', accessFlags := 0x411 }
/-- [C -/
def k21 : Class := { plain "[C" (some 0) with kind := .array 20 .char, interfaces := #[17, 2], accessFlags := 1041 }

/-- the primitive int -/
def k22 : Class := { plain "int" none with kind := .primitive 'I', accessFlags := 0x411 }
/-- [I -/
def k23 : Class := { plain "[I" (some 0) with kind := .array 22 .int, interfaces := #[17, 2], accessFlags := 1041 }

def heap : Heap := #[{ cls := 7, slots := #[.long 0, .int 1, .null, .int 0, .null, .int 0, .int 0], vm := .statics 7 },
  { cls := 8, slots := #[.int 0, .int 8, .int 0, .int 1], vm := .statics 8 },
  { cls := 11, slots := #[.null, .null, .null], vm := .statics 11 }]
def classes : Array Class := #[k0, k1, k2, k3, k4, k5, k6, k7, k8, k9, k10, k11, k12, k13, k14, k15, k16, k17, k18, k19, k20, k21, k22, k23]
def interned : List (Array UInt16 × Addr) := []
def slotsUsed : Nat := 14
def theMethod : MethodId := ⟨1, 1⟩
def args0 : Array Value := #[.int 66, .int 67, .int 3, .int 1, .int 1]
def aboutOver (below : List Frame) : State where
  vm := { classes := classes, interned := interned.toArray }
  heap := heap
  slotsUsed := slotsUsed
  threads := #[{ frames := .invoking theMethod args0 :: below }]
def below0 : List Frame := [.native { method := ⟨0, 0⟩, args := #[] }]
def about1 : State := aboutOver below0
def p0 : Program := .bare "" "" ""
def e0 : Env := launch0.env 0 0 0
theorem w_frames : about1.frames = Frame.invoking theMethod args0 :: below0 := rfl
set_option maxRecDepth 65536 in
theorem w_args : argsFit about1.vm theMethod args0 = true := by decide +kernel
set_option maxRecDepth 65536 in
theorem w_heap : heapFits about1 = true := by decide +kernel
set_option maxRecDepth 65536 in
theorem w_runnable : about1.curStatus? = some .runnable := by decide +kernel
set_option maxRecDepth 65536 in
theorem w_alone : about1.alone = true := by decide +kernel
set_option maxRecDepth 65536 in
theorem w_named : about1.methodNamed? x = some theMethod := by decide +kernel
set_option maxRecDepth 65536 in
theorem w_hears : about1.hears theMethod below0 = true := by decide +kernel
set_option maxRecDepth 65536 in
theorem w_ripe : about1.ripe theMethod args0 below0 = true := by decide +kernel
theorem w_running : about1.status = .running := rfl
set_option maxRecDepth 65536 in
theorem w_room : about1.hasRoom e0.platform room_1 = true :=
  launch0.hasRoom_least _ room_1 (by decide +kernel) (by decide +kernel) (by decide +kernel) (by decide +kernel) (by decide +kernel) (by decide +kernel)
theorem allAtoms_all (ts : List Jvm.Cond) (a : Array Jvm.Value) (st : Jvm.State) : (allAtoms ts).before a st = ts.all (fun c => c.before a st) := by
  induction ts with
  | nil => rfl
  | cons c t ih =>
    show (Jvm.Cond.and c (allAtoms t)).before a st = _
    rw [Jvm.Cond.before_and, ih, List.all_cons]
def words1 : List Jvm.Cond := Jvm.Cond.code x code maxLocals ret :: tables_1
/-- a 'code' word, met by the world's own term for the bytes: nothing is compared byte by byte -/
theorem code_word {y : MethodName} {bytes : ByteArray} {mx : Nat} {rt : Option FieldType} {a : Array Value} {s : State} {m : MethodId} {meth : Method} {c : Code} (h1 : s.methodNamed? y = some m) (h2 : s.vm.method? m = some meth) (h3 : meth.code = some c) (h4 : c.code = bytes)
    (h5 : (c.maxLocals == mx && c.exceptionTable.isEmpty && decide (c.maxStack ≤ mostOperands) && decide (meth.sig.returnType = rt) && !meth.locks && decide (parseMethodDescriptor y.desc = some meth.sig)) = true) : (Jvm.Cond.code y bytes mx rt).before a s = true := by
  simp only [Bool.and_eq_true, beq_iff_eq, Bool.not_eq_true', decide_eq_true_eq] at h5
  obtain ⟨⟨⟨⟨⟨g1, g2⟩, g3⟩, g4⟩, g5⟩, g6⟩ := h5
  simp [Cond.before, Cond.holds, Cond.value, h1, h2, h3, h4, g1, g2, g3, g4, g5, g6]
def isCode : Jvm.Cond → Bool
  | .code _ _ _ _ => true
  | _ => false
theorem all_split {L : List Jvm.Cond} {P : Jvm.Cond → Bool} (h1 : L.all (fun c => isCode c || P c) = true) (h2 : ∀ c ∈ L.filter isCode, P c = true) : L.all P = true := by
  refine List.all_eq_true.mpr fun c hc => ?_
  have h := List.all_eq_true.mp h1 c hc
  rcases Bool.eq_false_or_eq_true (isCode c) with hi | hi
  · exact h2 c (List.mem_filter.mpr ⟨hc, hi⟩)
  · simpa [hi] using h
set_option maxRecDepth 65536 in
theorem w_c0 : (Jvm.Cond.code x code maxLocals ret).before args0 about1 = true := code_word (m := ⟨1, 1⟩) (meth := k1m1) (c := k1c1) (by decide +kernel) rfl rfl rfl (by decide +kernel)
set_option maxRecDepth 65536 in
theorem w_c1 : (Jvm.Cond.code ({ cls := "com/example/hansou/hansou/SpanOfPinLaw", name := "make", desc := "(ICCCC)Ljava/lang/String;" } : Jvm.MethodName) method_4_code (5 : Nat) (Option.some (Jvm.ClassFile.FieldType.object "java/lang/String"))).before args0 about1 = true := code_word (m := ⟨1, 3⟩) (meth := k1m3) (c := k1c3) (by decide +kernel) rfl rfl rfl (by decide +kernel)
set_option maxRecDepth 65536 in
theorem w_c2 : (Jvm.Cond.code ({ cls := "java/lang/String", name := "<init>", desc := "([C)V" } : Jvm.MethodName) jdk_42_method_3_code (2 : Nat) (Option.none : Option Jvm.ClassFile.FieldType)).before args0 about1 = true := code_word (m := ⟨7, 1⟩) (meth := k7m1) (c := k7c1) (by decide +kernel) rfl rfl rfl (by decide +kernel)
set_option maxRecDepth 65536 in
theorem w_c3 : (Jvm.Cond.code ({ cls := "java/lang/String", name := "<init>", desc := "([CIILjava/lang/Void;)V" } : Jvm.MethodName) jdk_42_method_149_code (6 : Nat) (Option.none : Option Jvm.ClassFile.FieldType)).before args0 about1 = true := code_word (m := ⟨7, 5⟩) (meth := k7m5) (c := k7c5) (by decide +kernel) rfl rfl rfl (by decide +kernel)
set_option maxRecDepth 65536 in
theorem w_c4 : (Jvm.Cond.code ({ cls := "java/lang/Object", name := "<init>", desc := "()V" } : Jvm.MethodName) object_method_1_code (1 : Nat) (Option.none : Option Jvm.ClassFile.FieldType)).before args0 about1 = true := code_word (m := ⟨0, 0⟩) (meth := k0m0) (c := k0c0) (by decide +kernel) rfl rfl rfl (by decide +kernel)
set_option maxRecDepth 65536 in
theorem w_c5 : (Jvm.Cond.code ({ cls := "java/lang/StringUTF16", name := "compress", desc := "([CII)[B" } : Jvm.MethodName) jdk_52_method_16_code (6 : Nat) (Option.some (Jvm.ClassFile.FieldType.array Jvm.ClassFile.FieldType.byte))).before args0 about1 = true := code_word (m := ⟨8, 8⟩) (meth := k8m8) (c := k8c8) (by decide +kernel) rfl rfl rfl (by decide +kernel)
set_option maxRecDepth 65536 in
theorem w_c6 : (Jvm.Cond.code ({ cls := "java/lang/StringUTF16", name := "compress", desc := "([CI[BII)I" } : Jvm.MethodName) jdk_52_method_21_code (7 : Nat) (Option.some Jvm.ClassFile.FieldType.int)).before args0 about1 = true := code_word (m := ⟨8, 10⟩) (meth := k8m10) (c := k8c10) (by decide +kernel) rfl rfl rfl (by decide +kernel)
set_option maxRecDepth 65536 in
theorem w_c7 : (Jvm.Cond.code ({ cls := "java/lang/StringUTF16", name := "coderFromArrayLen", desc := "([BI)B" } : Jvm.MethodName) jdk_52_method_15_code (2 : Nat) (Option.some Jvm.ClassFile.FieldType.byte)).before args0 about1 = true := code_word (m := ⟨8, 7⟩) (meth := k8m7) (c := k8c7) (by decide +kernel) rfl rfl rfl (by decide +kernel)
set_option maxRecDepth 65536 in
theorem w_c8 : (Jvm.Cond.code ({ cls := "com/example/hansou/hansou/Span", name := "<init>", desc := "(II)V" } : Jvm.MethodName) prog_13_method_1_code (3 : Nat) (Option.none : Option Jvm.ClassFile.FieldType)).before args0 about1 = true := code_word (m := ⟨10, 0⟩) (meth := k10m0) (c := k10c0) (by decide +kernel) rfl rfl rfl (by decide +kernel)
set_option maxRecDepth 65536 in
theorem w_c9 : (Jvm.Cond.code ({ cls := "java/lang/Record", name := "<init>", desc := "()V" } : Jvm.MethodName) jdk_30_method_1_code (1 : Nat) (Option.none : Option Jvm.ClassFile.FieldType)).before args0 about1 = true := code_word (m := ⟨9, 0⟩) (meth := k9m0) (c := k9c0) (by decide +kernel) rfl rfl rfl (by decide +kernel)
set_option maxRecDepth 65536 in
theorem w_c10 : (Jvm.Cond.code ({ cls := "com/example/hansou/hansou/Span", name := "of", desc := "(Ljava/lang/String;)Ljava/lang/String;" } : Jvm.MethodName) prog_13_method_2_code (2 : Nat) (Option.some (Jvm.ClassFile.FieldType.object "java/lang/String"))).before args0 about1 = true := code_word (m := ⟨10, 1⟩) (meth := k10m1) (c := k10c1) (by decide +kernel) rfl rfl rfl (by decide +kernel)
set_option maxRecDepth 65536 in
theorem w_c11 : (Jvm.Cond.code ({ cls := "java/lang/String", name := "substring", desc := "(II)Ljava/lang/String;" } : Jvm.MethodName) jdk_42_method_92_code (5 : Nat) (Option.some (Jvm.ClassFile.FieldType.object "java/lang/String"))).before args0 about1 = true := code_word (m := ⟨7, 4⟩) (meth := k7m4) (c := k7c4) (by decide +kernel) rfl rfl rfl (by decide +kernel)
set_option maxRecDepth 65536 in
theorem w_c12 : (Jvm.Cond.code ({ cls := "java/lang/String", name := "length", desc := "()I" } : Jvm.MethodName) jdk_42_method_54_code (1 : Nat) (Option.some Jvm.ClassFile.FieldType.int)).before args0 about1 = true := code_word (m := ⟨7, 2⟩) (meth := k7m2) (c := k7c2) (by decide +kernel) rfl rfl rfl (by decide +kernel)
set_option maxRecDepth 65536 in
theorem w_c13 : (Jvm.Cond.code ({ cls := "java/lang/String", name := "coder", desc := "()B" } : Jvm.MethodName) jdk_42_method_152_code (1 : Nat) (Option.some Jvm.ClassFile.FieldType.byte)).before args0 about1 = true := code_word (m := ⟨7, 7⟩) (meth := k7m7) (c := k7c7) (by decide +kernel) rfl rfl rfl (by decide +kernel)
set_option maxRecDepth 65536 in
theorem w_c14 : (Jvm.Cond.code ({ cls := "java/lang/String", name := "checkBoundsBeginEnd", desc := "(III)V" } : Jvm.MethodName) jdk_42_method_158_code (3 : Nat) (Option.none : Option Jvm.ClassFile.FieldType)).before args0 about1 = true := code_word (m := ⟨7, 11⟩) (meth := k7m11) (c := k7c11) (by decide +kernel) rfl rfl rfl (by decide +kernel)
set_option maxRecDepth 65536 in
theorem w_c15 : (Jvm.Cond.code ({ cls := "jdk/internal/util/Preconditions", name := "checkFromToIndex", desc := "(IIILjava/util/function/BiFunction;)I" } : Jvm.MethodName) jdk_41_method_12_code (4 : Nat) (Option.some Jvm.ClassFile.FieldType.int)).before args0 about1 = true := code_word (m := ⟨11, 2⟩) (meth := k11m2) (c := k11c2) (by decide +kernel) rfl rfl rfl (by decide +kernel)
set_option maxRecDepth 65536 in
theorem w_c16 : (Jvm.Cond.code ({ cls := "java/lang/String", name := "isLatin1", desc := "()Z" } : Jvm.MethodName) jdk_42_method_154_code (1 : Nat) (Option.some Jvm.ClassFile.FieldType.boolean)).before args0 about1 = true := code_word (m := ⟨7, 8⟩) (meth := k7m8) (c := k7c8) (by decide +kernel) rfl rfl rfl (by decide +kernel)
set_option maxRecDepth 65536 in
theorem w_c17 : (Jvm.Cond.code ({ cls := "java/lang/StringLatin1", name := "newString", desc := "([BII)Ljava/lang/String;" } : Jvm.MethodName) jdk_43_method_47_code (3 : Nat) (Option.some (Jvm.ClassFile.FieldType.object "java/lang/String"))).before args0 about1 = true := code_word (m := ⟨12, 2⟩) (meth := k12m2) (c := k12c2) (by decide +kernel) rfl rfl rfl (by decide +kernel)
set_option maxRecDepth 65536 in
theorem w_c18 : (Jvm.Cond.code ({ cls := "java/lang/String", name := "charAt", desc := "(I)C" } : Jvm.MethodName) jdk_42_method_56_code (2 : Nat) (Option.some Jvm.ClassFile.FieldType.char)).before args0 about1 = true := code_word (m := ⟨7, 3⟩) (meth := k7m3) (c := k7c3) (by decide +kernel) rfl rfl rfl (by decide +kernel)
set_option maxRecDepth 65536 in
theorem w_c19 : (Jvm.Cond.code ({ cls := "java/lang/StringLatin1", name := "charAt", desc := "([BI)C" } : Jvm.MethodName) jdk_43_method_2_code (2 : Nat) (Option.some Jvm.ClassFile.FieldType.char)).before args0 about1 = true := code_word (m := ⟨12, 1⟩) (meth := k12m1) (c := k12c1) (by decide +kernel) rfl rfl rfl (by decide +kernel)
set_option maxRecDepth 65536 in
theorem w_c20 : (Jvm.Cond.code ({ cls := "java/lang/String", name := "checkIndex", desc := "(II)V" } : Jvm.MethodName) jdk_42_method_155_code (2 : Nat) (Option.none : Option Jvm.ClassFile.FieldType)).before args0 about1 = true := code_word (m := ⟨7, 9⟩) (meth := k7m9) (c := k7c9) (by decide +kernel) rfl rfl rfl (by decide +kernel)
set_option maxRecDepth 65536 in
theorem w_c21 : (Jvm.Cond.code ({ cls := "jdk/internal/util/Preconditions", name := "checkIndex", desc := "(IILjava/util/function/BiFunction;)I" } : Jvm.MethodName) jdk_41_method_11_code (3 : Nat) (Option.some Jvm.ClassFile.FieldType.int)).before args0 about1 = true := code_word (m := ⟨11, 1⟩) (meth := k11m1) (c := k11c1) (by decide +kernel) rfl rfl rfl (by decide +kernel)
set_option maxRecDepth 65536 in
theorem w_c22 : (Jvm.Cond.code ({ cls := "com/example/hansou/hansou/SpanOfPinLaw", name := "pick", desc := "(ICCCC)C" } : Jvm.MethodName) method_3_code (5 : Nat) (Option.some Jvm.ClassFile.FieldType.char)).before args0 about1 = true := code_word (m := ⟨1, 2⟩) (meth := k1m2) (c := k1c2) (by decide +kernel) rfl rfl rfl (by decide +kernel)
set_option maxRecDepth 65536 in
theorem w_c23 : (Jvm.Cond.code ({ cls := "java/lang/StringUTF16", name := "toBytes", desc := "([CII)[B" } : Jvm.MethodName) jdk_52_method_14_code (5 : Nat) (Option.some (Jvm.ClassFile.FieldType.array Jvm.ClassFile.FieldType.byte))).before args0 about1 = true := code_word (m := ⟨8, 6⟩) (meth := k8m6) (c := k8c6) (by decide +kernel) rfl rfl rfl (by decide +kernel)
set_option maxRecDepth 65536 in
theorem w_c24 : (Jvm.Cond.code ({ cls := "java/lang/StringUTF16", name := "newBytesFor", desc := "(I)[B" } : Jvm.MethodName) jdk_52_method_2_code (1 : Nat) (Option.some (Jvm.ClassFile.FieldType.array Jvm.ClassFile.FieldType.byte))).before args0 about1 = true := code_word (m := ⟨8, 1⟩) (meth := k8m1) (c := k8c1) (by decide +kernel) rfl rfl rfl (by decide +kernel)
set_option maxRecDepth 65536 in
theorem w_c25 : (Jvm.Cond.code ({ cls := "java/lang/StringUTF16", name := "newBytesLength", desc := "(I)I" } : Jvm.MethodName) jdk_52_method_3_code (1 : Nat) (Option.some Jvm.ClassFile.FieldType.int)).before args0 about1 = true := code_word (m := ⟨8, 2⟩) (meth := k8m2) (c := k8c2) (by decide +kernel) rfl rfl rfl (by decide +kernel)
set_option maxRecDepth 65536 in
theorem w_c26 : (Jvm.Cond.code ({ cls := "java/lang/StringUTF16", name := "putChar", desc := "([BII)V" } : Jvm.MethodName) jdk_52_method_4_code (3 : Nat) (Option.none : Option Jvm.ClassFile.FieldType)).before args0 about1 = true := code_word (m := ⟨8, 3⟩) (meth := k8m3) (c := k8c3) (by decide +kernel) rfl rfl rfl (by decide +kernel)
set_option maxRecDepth 65536 in
theorem w_c27 : (Jvm.Cond.code ({ cls := "java/lang/StringUTF16", name := "getChar", desc := "([BI)C" } : Jvm.MethodName) jdk_52_method_5_code (2 : Nat) (Option.some Jvm.ClassFile.FieldType.char)).before args0 about1 = true := code_word (m := ⟨8, 4⟩) (meth := k8m4) (c := k8c4) (by decide +kernel) rfl rfl rfl (by decide +kernel)
set_option maxRecDepth 65536 in
theorem w_c28 : (Jvm.Cond.code ({ cls := "java/lang/StringUTF16", name := "newString", desc := "([BII)Ljava/lang/String;" } : Jvm.MethodName) jdk_52_method_69_code (5 : Nat) (Option.some (Jvm.ClassFile.FieldType.object "java/lang/String"))).before args0 about1 = true := code_word (m := ⟨8, 12⟩) (meth := k8m12) (c := k8c12) (by decide +kernel) rfl rfl rfl (by decide +kernel)
set_option maxRecDepth 65536 in
theorem w_c29 : (Jvm.Cond.code ({ cls := "java/lang/StringUTF16", name := "charAt", desc := "([BI)C" } : Jvm.MethodName) jdk_52_method_83_code (2 : Nat) (Option.some Jvm.ClassFile.FieldType.char)).before args0 about1 = true := code_word (m := ⟨8, 13⟩) (meth := k8m13) (c := k8c13) (by decide +kernel) rfl rfl rfl (by decide +kernel)
set_option maxRecDepth 65536 in
theorem w_c30 : (Jvm.Cond.code ({ cls := "java/lang/StringUTF16", name := "checkIndex", desc := "(I[B)V" } : Jvm.MethodName) jdk_52_method_91_code (2 : Nat) (Option.none : Option Jvm.ClassFile.FieldType)).before args0 about1 = true := code_word (m := ⟨8, 14⟩) (meth := k8m14) (c := k8c14) (by decide +kernel) rfl rfl rfl (by decide +kernel)
set_option maxRecDepth 65536 in
theorem w_c31 : (Jvm.Cond.code ({ cls := "java/lang/StringUTF16", name := "length", desc := "([B)I" } : Jvm.MethodName) jdk_52_method_6_code (1 : Nat) (Option.some Jvm.ClassFile.FieldType.int)).before args0 about1 = true := code_word (m := ⟨8, 5⟩) (meth := k8m5) (c := k8c5) (by decide +kernel) rfl rfl rfl (by decide +kernel)
set_option maxRecDepth 65536 in
theorem w_c32 : (Jvm.Cond.code ({ cls := "java/lang/StringUTF16", name := "compress", desc := "([BII)[B" } : Jvm.MethodName) jdk_52_method_17_code (6 : Nat) (Option.some (Jvm.ClassFile.FieldType.array Jvm.ClassFile.FieldType.byte))).before args0 about1 = true := code_word (m := ⟨8, 9⟩) (meth := k8m9) (c := k8c9) (by decide +kernel) rfl rfl rfl (by decide +kernel)
set_option maxRecDepth 65536 in
theorem w_c33 : (Jvm.Cond.code ({ cls := "java/lang/StringUTF16", name := "compress", desc := "([BI[BII)I" } : Jvm.MethodName) jdk_52_method_22_code (7 : Nat) (Option.some Jvm.ClassFile.FieldType.int)).before args0 about1 = true := code_word (m := ⟨8, 11⟩) (meth := k8m11) (c := k8c11) (by decide +kernel) rfl rfl rfl (by decide +kernel)
set_option maxRecDepth 65536 in
theorem w_c34 : (Jvm.Cond.code ({ cls := "java/lang/StringUTF16", name := "checkBoundsOffCount", desc := "(II[B)V" } : Jvm.MethodName) jdk_52_method_94_code (3 : Nat) (Option.none : Option Jvm.ClassFile.FieldType)).before args0 about1 = true := code_word (m := ⟨8, 15⟩) (meth := k8m15) (c := k8c15) (by decide +kernel) rfl rfl rfl (by decide +kernel)
set_option maxRecDepth 65536 in
theorem w_c35 : (Jvm.Cond.code ({ cls := "java/lang/String", name := "checkBoundsOffCount", desc := "(III)I" } : Jvm.MethodName) jdk_42_method_157_code (3 : Nat) (Option.some Jvm.ClassFile.FieldType.int)).before args0 about1 = true := code_word (m := ⟨7, 10⟩) (meth := k7m10) (c := k7c10) (by decide +kernel) rfl rfl rfl (by decide +kernel)
set_option maxRecDepth 65536 in
theorem w_c36 : (Jvm.Cond.code ({ cls := "jdk/internal/util/Preconditions", name := "checkFromIndexSize", desc := "(IIILjava/util/function/BiFunction;)I" } : Jvm.MethodName) jdk_41_method_13_code (4 : Nat) (Option.some Jvm.ClassFile.FieldType.int)).before args0 about1 = true := code_word (m := ⟨11, 3⟩) (meth := k11m3) (c := k11c3) (by decide +kernel) rfl rfl rfl (by decide +kernel)
set_option maxRecDepth 65536 in
theorem w_c37 : (Jvm.Cond.code ({ cls := "java/util/Arrays", name := "copyOfRange", desc := "([BII)[B" } : Jvm.MethodName) jdk_65_method_132_code (3 : Nat) (Option.some (Jvm.ClassFile.FieldType.array Jvm.ClassFile.FieldType.byte))).before args0 about1 = true := code_word (m := ⟨13, 2⟩) (meth := k13m2) (c := k13c2) (by decide +kernel) rfl rfl rfl (by decide +kernel)
set_option maxRecDepth 65536 in
theorem w_c38 : (Jvm.Cond.code ({ cls := "java/util/Arrays", name := "copyOfRangeByte", desc := "([BII)[B" } : Jvm.MethodName) jdk_65_method_133_code (5 : Nat) (Option.some (Jvm.ClassFile.FieldType.array Jvm.ClassFile.FieldType.byte))).before args0 about1 = true := code_word (m := ⟨13, 3⟩) (meth := k13m3) (c := k13c3) (by decide +kernel) rfl rfl rfl (by decide +kernel)
set_option maxRecDepth 65536 in
theorem w_c39 : (Jvm.Cond.code ({ cls := "java/util/Arrays", name := "checkLength", desc := "(II)V" } : Jvm.MethodName) jdk_65_method_131_code (2 : Nat) (Option.none : Option Jvm.ClassFile.FieldType)).before args0 about1 = true := code_word (m := ⟨13, 1⟩) (meth := k13m1) (c := k13c1) (by decide +kernel) rfl rfl rfl (by decide +kernel)
set_option maxRecDepth 65536 in
theorem w_c40 : (Jvm.Cond.code ({ cls := "java/lang/Math", name := "min", desc := "(II)I" } : Jvm.MethodName) jdk_29_method_69_code (2 : Nat) (Option.some Jvm.ClassFile.FieldType.int)).before args0 about1 = true := code_word (m := ⟨14, 1⟩) (meth := k14m1) (c := k14c1) (by decide +kernel) rfl rfl rfl (by decide +kernel)
set_option maxRecDepth 65536 in
theorem w_c41 : (Jvm.Cond.code ({ cls := "java/lang/String", name := "<init>", desc := "([BB)V" } : Jvm.MethodName) jdk_42_method_151_code (3 : Nat) (Option.none : Option Jvm.ClassFile.FieldType)).before args0 about1 = true := code_word (m := ⟨7, 6⟩) (meth := k7m6) (c := k7c6) (by decide +kernel) rfl rfl rfl (by decide +kernel)
def codes1 : List Jvm.Cond := [Jvm.Cond.code x code maxLocals ret, Jvm.Cond.code ({ cls := "com/example/hansou/hansou/SpanOfPinLaw", name := "make", desc := "(ICCCC)Ljava/lang/String;" } : Jvm.MethodName) method_4_code (5 : Nat) (Option.some (Jvm.ClassFile.FieldType.object "java/lang/String")), Jvm.Cond.code ({ cls := "java/lang/String", name := "<init>", desc := "([C)V" } : Jvm.MethodName) jdk_42_method_3_code (2 : Nat) (Option.none : Option Jvm.ClassFile.FieldType), Jvm.Cond.code ({ cls := "java/lang/String", name := "<init>", desc := "([CIILjava/lang/Void;)V" } : Jvm.MethodName) jdk_42_method_149_code (6 : Nat) (Option.none : Option Jvm.ClassFile.FieldType), Jvm.Cond.code ({ cls := "java/lang/Object", name := "<init>", desc := "()V" } : Jvm.MethodName) object_method_1_code (1 : Nat) (Option.none : Option Jvm.ClassFile.FieldType), Jvm.Cond.code ({ cls := "java/lang/StringUTF16", name := "compress", desc := "([CII)[B" } : Jvm.MethodName) jdk_52_method_16_code (6 : Nat) (Option.some (Jvm.ClassFile.FieldType.array Jvm.ClassFile.FieldType.byte)), Jvm.Cond.code ({ cls := "java/lang/StringUTF16", name := "compress", desc := "([CI[BII)I" } : Jvm.MethodName) jdk_52_method_21_code (7 : Nat) (Option.some Jvm.ClassFile.FieldType.int), Jvm.Cond.code ({ cls := "java/lang/StringUTF16", name := "coderFromArrayLen", desc := "([BI)B" } : Jvm.MethodName) jdk_52_method_15_code (2 : Nat) (Option.some Jvm.ClassFile.FieldType.byte), Jvm.Cond.code ({ cls := "com/example/hansou/hansou/Span", name := "<init>", desc := "(II)V" } : Jvm.MethodName) prog_13_method_1_code (3 : Nat) (Option.none : Option Jvm.ClassFile.FieldType), Jvm.Cond.code ({ cls := "java/lang/Record", name := "<init>", desc := "()V" } : Jvm.MethodName) jdk_30_method_1_code (1 : Nat) (Option.none : Option Jvm.ClassFile.FieldType), Jvm.Cond.code ({ cls := "com/example/hansou/hansou/Span", name := "of", desc := "(Ljava/lang/String;)Ljava/lang/String;" } : Jvm.MethodName) prog_13_method_2_code (2 : Nat) (Option.some (Jvm.ClassFile.FieldType.object "java/lang/String")), Jvm.Cond.code ({ cls := "java/lang/String", name := "substring", desc := "(II)Ljava/lang/String;" } : Jvm.MethodName) jdk_42_method_92_code (5 : Nat) (Option.some (Jvm.ClassFile.FieldType.object "java/lang/String")), Jvm.Cond.code ({ cls := "java/lang/String", name := "length", desc := "()I" } : Jvm.MethodName) jdk_42_method_54_code (1 : Nat) (Option.some Jvm.ClassFile.FieldType.int), Jvm.Cond.code ({ cls := "java/lang/String", name := "coder", desc := "()B" } : Jvm.MethodName) jdk_42_method_152_code (1 : Nat) (Option.some Jvm.ClassFile.FieldType.byte), Jvm.Cond.code ({ cls := "java/lang/String", name := "checkBoundsBeginEnd", desc := "(III)V" } : Jvm.MethodName) jdk_42_method_158_code (3 : Nat) (Option.none : Option Jvm.ClassFile.FieldType), Jvm.Cond.code ({ cls := "jdk/internal/util/Preconditions", name := "checkFromToIndex", desc := "(IIILjava/util/function/BiFunction;)I" } : Jvm.MethodName) jdk_41_method_12_code (4 : Nat) (Option.some Jvm.ClassFile.FieldType.int), Jvm.Cond.code ({ cls := "java/lang/String", name := "isLatin1", desc := "()Z" } : Jvm.MethodName) jdk_42_method_154_code (1 : Nat) (Option.some Jvm.ClassFile.FieldType.boolean), Jvm.Cond.code ({ cls := "java/lang/StringLatin1", name := "newString", desc := "([BII)Ljava/lang/String;" } : Jvm.MethodName) jdk_43_method_47_code (3 : Nat) (Option.some (Jvm.ClassFile.FieldType.object "java/lang/String")), Jvm.Cond.code ({ cls := "java/lang/String", name := "charAt", desc := "(I)C" } : Jvm.MethodName) jdk_42_method_56_code (2 : Nat) (Option.some Jvm.ClassFile.FieldType.char), Jvm.Cond.code ({ cls := "java/lang/StringLatin1", name := "charAt", desc := "([BI)C" } : Jvm.MethodName) jdk_43_method_2_code (2 : Nat) (Option.some Jvm.ClassFile.FieldType.char), Jvm.Cond.code ({ cls := "java/lang/String", name := "checkIndex", desc := "(II)V" } : Jvm.MethodName) jdk_42_method_155_code (2 : Nat) (Option.none : Option Jvm.ClassFile.FieldType), Jvm.Cond.code ({ cls := "jdk/internal/util/Preconditions", name := "checkIndex", desc := "(IILjava/util/function/BiFunction;)I" } : Jvm.MethodName) jdk_41_method_11_code (3 : Nat) (Option.some Jvm.ClassFile.FieldType.int), Jvm.Cond.code ({ cls := "com/example/hansou/hansou/SpanOfPinLaw", name := "pick", desc := "(ICCCC)C" } : Jvm.MethodName) method_3_code (5 : Nat) (Option.some Jvm.ClassFile.FieldType.char), Jvm.Cond.code ({ cls := "java/lang/StringUTF16", name := "toBytes", desc := "([CII)[B" } : Jvm.MethodName) jdk_52_method_14_code (5 : Nat) (Option.some (Jvm.ClassFile.FieldType.array Jvm.ClassFile.FieldType.byte)), Jvm.Cond.code ({ cls := "java/lang/StringUTF16", name := "newBytesFor", desc := "(I)[B" } : Jvm.MethodName) jdk_52_method_2_code (1 : Nat) (Option.some (Jvm.ClassFile.FieldType.array Jvm.ClassFile.FieldType.byte)), Jvm.Cond.code ({ cls := "java/lang/StringUTF16", name := "newBytesLength", desc := "(I)I" } : Jvm.MethodName) jdk_52_method_3_code (1 : Nat) (Option.some Jvm.ClassFile.FieldType.int), Jvm.Cond.code ({ cls := "java/lang/StringUTF16", name := "putChar", desc := "([BII)V" } : Jvm.MethodName) jdk_52_method_4_code (3 : Nat) (Option.none : Option Jvm.ClassFile.FieldType), Jvm.Cond.code ({ cls := "java/lang/StringUTF16", name := "getChar", desc := "([BI)C" } : Jvm.MethodName) jdk_52_method_5_code (2 : Nat) (Option.some Jvm.ClassFile.FieldType.char), Jvm.Cond.code ({ cls := "java/lang/StringUTF16", name := "newString", desc := "([BII)Ljava/lang/String;" } : Jvm.MethodName) jdk_52_method_69_code (5 : Nat) (Option.some (Jvm.ClassFile.FieldType.object "java/lang/String")), Jvm.Cond.code ({ cls := "java/lang/StringUTF16", name := "charAt", desc := "([BI)C" } : Jvm.MethodName) jdk_52_method_83_code (2 : Nat) (Option.some Jvm.ClassFile.FieldType.char), Jvm.Cond.code ({ cls := "java/lang/StringUTF16", name := "checkIndex", desc := "(I[B)V" } : Jvm.MethodName) jdk_52_method_91_code (2 : Nat) (Option.none : Option Jvm.ClassFile.FieldType), Jvm.Cond.code ({ cls := "java/lang/StringUTF16", name := "length", desc := "([B)I" } : Jvm.MethodName) jdk_52_method_6_code (1 : Nat) (Option.some Jvm.ClassFile.FieldType.int), Jvm.Cond.code ({ cls := "java/lang/StringUTF16", name := "compress", desc := "([BII)[B" } : Jvm.MethodName) jdk_52_method_17_code (6 : Nat) (Option.some (Jvm.ClassFile.FieldType.array Jvm.ClassFile.FieldType.byte)), Jvm.Cond.code ({ cls := "java/lang/StringUTF16", name := "compress", desc := "([BI[BII)I" } : Jvm.MethodName) jdk_52_method_22_code (7 : Nat) (Option.some Jvm.ClassFile.FieldType.int), Jvm.Cond.code ({ cls := "java/lang/StringUTF16", name := "checkBoundsOffCount", desc := "(II[B)V" } : Jvm.MethodName) jdk_52_method_94_code (3 : Nat) (Option.none : Option Jvm.ClassFile.FieldType), Jvm.Cond.code ({ cls := "java/lang/String", name := "checkBoundsOffCount", desc := "(III)I" } : Jvm.MethodName) jdk_42_method_157_code (3 : Nat) (Option.some Jvm.ClassFile.FieldType.int), Jvm.Cond.code ({ cls := "jdk/internal/util/Preconditions", name := "checkFromIndexSize", desc := "(IIILjava/util/function/BiFunction;)I" } : Jvm.MethodName) jdk_41_method_13_code (4 : Nat) (Option.some Jvm.ClassFile.FieldType.int), Jvm.Cond.code ({ cls := "java/util/Arrays", name := "copyOfRange", desc := "([BII)[B" } : Jvm.MethodName) jdk_65_method_132_code (3 : Nat) (Option.some (Jvm.ClassFile.FieldType.array Jvm.ClassFile.FieldType.byte)), Jvm.Cond.code ({ cls := "java/util/Arrays", name := "copyOfRangeByte", desc := "([BII)[B" } : Jvm.MethodName) jdk_65_method_133_code (5 : Nat) (Option.some (Jvm.ClassFile.FieldType.array Jvm.ClassFile.FieldType.byte)), Jvm.Cond.code ({ cls := "java/util/Arrays", name := "checkLength", desc := "(II)V" } : Jvm.MethodName) jdk_65_method_131_code (2 : Nat) (Option.none : Option Jvm.ClassFile.FieldType), Jvm.Cond.code ({ cls := "java/lang/Math", name := "min", desc := "(II)I" } : Jvm.MethodName) jdk_29_method_69_code (2 : Nat) (Option.some Jvm.ClassFile.FieldType.int), Jvm.Cond.code ({ cls := "java/lang/String", name := "<init>", desc := "([BB)V" } : Jvm.MethodName) jdk_42_method_151_code (3 : Nat) (Option.none : Option Jvm.ClassFile.FieldType)]
set_option maxRecDepth 65536 in
theorem codes_eq : words1.filter isCode = codes1 := rfl
theorem w_codes : ∀ c ∈ words1.filter isCode, c.before args0 about1 = true := by
  rw [codes_eq]
  intro c hc
  simp only [codes1, List.mem_cons, List.not_mem_nil, or_false] at hc
  rcases hc with rfl | rfl | rfl | rfl | rfl | rfl | rfl | rfl | rfl | rfl | rfl | rfl | rfl | rfl | rfl | rfl | rfl | rfl | rfl | rfl | rfl | rfl | rfl | rfl | rfl | rfl | rfl | rfl | rfl | rfl | rfl | rfl | rfl | rfl | rfl | rfl | rfl | rfl | rfl | rfl | rfl | rfl
  · exact w_c0
  · exact w_c1
  · exact w_c2
  · exact w_c3
  · exact w_c4
  · exact w_c5
  · exact w_c6
  · exact w_c7
  · exact w_c8
  · exact w_c9
  · exact w_c10
  · exact w_c11
  · exact w_c12
  · exact w_c13
  · exact w_c14
  · exact w_c15
  · exact w_c16
  · exact w_c17
  · exact w_c18
  · exact w_c19
  · exact w_c20
  · exact w_c21
  · exact w_c22
  · exact w_c23
  · exact w_c24
  · exact w_c25
  · exact w_c26
  · exact w_c27
  · exact w_c28
  · exact w_c29
  · exact w_c30
  · exact w_c31
  · exact w_c32
  · exact w_c33
  · exact w_c34
  · exact w_c35
  · exact w_c36
  · exact w_c37
  · exact w_c38
  · exact w_c39
  · exact w_c40
  · exact w_c41
set_option maxRecDepth 65536 in
theorem w_t1 : (words1.take 24).all (fun c => isCode c || c.before args0 about1) = true := by decide +kernel
set_option maxRecDepth 65536 in
theorem w_t2 : ((words1.drop 24).take 24).all (fun c => isCode c || c.before args0 about1) = true := by decide +kernel
set_option maxRecDepth 65536 in
theorem w_t3 : (((words1.drop 24).drop 24).take 24).all (fun c => isCode c || c.before args0 about1) = true := by decide +kernel
set_option maxRecDepth 65536 in
theorem w_t4 : ((((words1.drop 24).drop 24).drop 24).take 24).all (fun c => isCode c || c.before args0 about1) = true := by decide +kernel
set_option maxRecDepth 65536 in
theorem w_t5 : (((((words1.drop 24).drop 24).drop 24).drop 24).take 24).all (fun c => isCode c || c.before args0 about1) = true := by decide +kernel
set_option maxRecDepth 65536 in
theorem w_t6 : ((((((words1.drop 24).drop 24).drop 24).drop 24).drop 24).take 24).all (fun c => isCode c || c.before args0 about1) = true := by decide +kernel
set_option maxRecDepth 65536 in
theorem w_t7 : (((((((words1.drop 24).drop 24).drop 24).drop 24).drop 24).drop 24).take 24).all (fun c => isCode c || c.before args0 about1) = true := by decide +kernel
set_option maxRecDepth 65536 in
theorem w_t8 : (((((((words1.drop 24).drop 24).drop 24).drop 24).drop 24).drop 24).drop 24).all (fun c => isCode c || c.before args0 about1) = true := by decide +kernel
theorem w_tables : (allAtoms (Jvm.Cond.code x code maxLocals ret :: tables_1)).before args0 about1 = true := by
  rw [allAtoms_all]
  show words1.all (fun c => c.before args0 about1) = true
  refine all_split ?_ w_codes
  rw [← List.take_append_drop 24 words1, List.all_append, w_t1, ← List.take_append_drop 24 (words1.drop 24), List.all_append, w_t2, ← List.take_append_drop 24 ((words1.drop 24).drop 24), List.all_append, w_t3, ← List.take_append_drop 24 (((words1.drop 24).drop 24).drop 24), List.all_append, w_t4, ← List.take_append_drop 24 ((((words1.drop 24).drop 24).drop 24).drop 24), List.all_append, w_t5, ← List.take_append_drop 24 (((((words1.drop 24).drop 24).drop 24).drop 24).drop 24), List.all_append, w_t6, ← List.take_append_drop 24 ((((((words1.drop 24).drop 24).drop 24).drop 24).drop 24).drop 24), List.all_append, w_t7, w_t8]
  rfl
set_option maxRecDepth 65536 in
theorem w_rest : rest_1_c.before args0 about1 = true := by decide +kernel
set_option maxRecDepth 65536 in
theorem w_case : (Jvm.Cond.and given_1 narrow_1).before args0 about1 = true := by decide +kernel
set_option maxRecDepth 65536 in
theorem w_consts : constsHeld consts_1 about1 := Jvm.Lit.constsHeldB_iff.mp (by decide +kernel)
theorem w_applies : (headSpec (Jvm.Cond.code x code maxLocals ret :: tables_1) room_1).applies x e0.platform about1 = true :=
  (Spec.applies_iff w_frames).mpr ⟨w_running, w_runnable, w_alone, w_named, w_hears, w_ripe, w_room, w_tables⟩
theorem atStart : AtStart classFile x code maxLocals ret World_1 tables_1 room_1 Calls_1 rest_1 Pre_1 launch0 p0 e0 about1 theMethod args0 below0 :=
  ⟨lists_1, trivial, launch0.admits_env _ _ _, launch0.least_env, fairChoices_fair.cas, fairChoices_fair.clock, w_frames, w_args, w_heap, w_applies, ⟨w_consts, trivial⟩, w_rest, w_case⟩
end start1
theorem witness_1 : WitnessClaimed_1 := ⟨start1.p0, start1.e0, start1.about1, start1.theMethod, start1.args0, start1.below0, start1.atStart⟩
end Jvm.Pilot.@@N@@
