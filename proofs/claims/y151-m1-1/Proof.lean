import JvmDerived
import JvmDerived.Pilot.@@N@@Statement
import JvmDerived.Pilot.@@N@@Code
set_option linter.unusedVariables false
set_option linter.unusedSimpArgs false
namespace Jvm.Pilot.@@N@@
open Jvm Jvm.ClassFile Sem Op Lib Jvm.Free Jvm.Stand Jvm.LawKit Jvm.RoadKit Bundle Jvm.Pilot.@@N@@.Jvm.D
section OwnNums
theorem own_toInt (n : Nat) (h : n < 2 ^ 31) : (Int32.ofNat n).toInt = n := Int32.toInt_ofNat_of_lt h
theorem own_eq {x : Int32} {n : Nat} (h : n < 2 ^ 31) (e : x.toInt = n) : x = Int32.ofNat n := by rw [← Int32.toInt_inj, own_toInt n h, e]
theorem own_ltN (a b : Nat) (ha : a < 2 ^ 31) (hb : b < 2 ^ 31) : Int32.ofNat a < Int32.ofNat b ↔ a < b := by
  rw [Int32.lt_iff_toInt_lt, own_toInt a ha, own_toInt b hb]; omega
theorem own_eqN (a b : Nat) (ha : a < 2 ^ 31) (hb : b < 2 ^ 31) : Int32.ofNat a = Int32.ofNat b ↔ a = b := by
  rw [← Int32.toInt_inj, own_toInt a ha, own_toInt b hb]; omega
theorem own_addN (a b : Nat) : Int32.ofNat a + Int32.ofNat b = Int32.ofNat (a + b) := (Int32.ofNat_add a b).symm
theorem own_subI (a b : Nat) (ha : a < 2 ^ 31) (hb : b < 2 ^ 31) : (Int32.ofNat a - Int32.ofNat b).toInt = (a : Int) - b := by
  rw [Int32.toInt_sub, own_toInt a ha, own_toInt b hb]
  exact Int.bmod_eq_of_le (by omega) (by omega)
theorem own_subN (a b : Nat) (ha : a < 2 ^ 31) (hb : b ≤ a) : Int32.ofNat a - Int32.ofNat b = Int32.ofNat (a - b) :=
  own_eq (by omega) (by rw [own_subI a b ha (by omega)]; omega)
theorem own_clamp (a : Nat) (ha : a < 2 ^ 31) : (Int32.ofNat a).toNatClampNeg = a := by
  show (Int32.ofNat a).toInt.toNat = a
  rw [own_toInt a ha]; rfl
theorem own_nneg (a : Nat) (ha : a < 2 ^ 31) : ¬ Int32.ofNat a < 0 := by
  rw [Int32.lt_iff_toInt_lt, own_toInt a ha]
  have : (0 : Int32).toInt = 0 := rfl
  omega
theorem own_ixs (a b : Nat) (ha : a < 2 ^ 31) (hb : b ≤ a) : ¬ (Int32.ofNat a - Int32.ofNat b < 0) ∧ (Int32.ofNat a - Int32.ofNat b).toNatClampNeg = a - b := by
  rw [own_subN a b ha hb]; exact ⟨own_nneg _ (by omega), own_clamp _ (by omega)⟩
theorem own_ixa (a b : Nat) (ha : a + b < 2 ^ 31) : ¬ (Int32.ofNat a + Int32.ofNat b < 0) ∧ (Int32.ofNat a + Int32.ofNat b).toNatClampNeg = a + b := by
  rw [own_addN]; exact ⟨own_nneg _ ha, own_clamp _ ha⟩
/-- a small natural behind a mask and a remainder -/
theorem own_small (x : Int32) (k : Nat) (hk0 : 0 < k) (hk : k < 2 ^ 31) : ∃ n : Nat, n < k ∧ (x &&& 2147483647) % Int32.ofNat k = Int32.ofNat n := by
  obtain ⟨q1, q2⟩ := c_and x 2147483647 (by decide)
  obtain ⟨c1, -⟩ := c_irem (x &&& 2147483647) (Int32.ofNat k) k (own_toInt k hk)
  have h1 := c1 q1
  have h2 := Int.emod_nonneg (x &&& 2147483647).toInt (b := (k : Int)) (by omega)
  have h3 := Int.emod_lt_of_pos (x &&& 2147483647).toInt (b := (k : Int)) (by omega)
  exact ⟨((x &&& 2147483647) % Int32.ofNat k).toInt.toNat, by omega, own_eq (by omega) (by omega)⟩
/-- a small natural behind a mask -/
theorem own_masked (x : Int32) (k : Nat) (hk : k < 2 ^ 31) : ∃ n : Nat, n ≤ k ∧ x &&& Int32.ofNat k = Int32.ofNat n := by
  have h0 := own_toInt k hk
  obtain ⟨q1, q2⟩ := c_and x (Int32.ofNat k) (by omega)
  exact ⟨(x &&& Int32.ofNat k).toInt.toNat, by omega, own_eq (by omega) (by omega)⟩
theorem own_cmp (x y : Int64) : XT.cmpL x y = 0 ↔ x = y := lw_eq x y
theorem own_cmplt (x y : Int64) : XT.cmpL x y < 0 ↔ x < y := lw_lt x y
theorem own_cmpgt (x y : Int64) : 0 < XT.cmpL x y ↔ y < x := lw_gt x y
end OwnNums
section OwnLayer
variable {p : Program} {l : Launch} {e : Env} {R : Room} {s : State} {m : MethodId} {args : Array Value} {below : List Frame} {meth : Method} {c : Code} {T : State} {locs : List Loc} {cells slots : Nat} {Z : State} {a0 : Array Value} {h h' : Heap}
/-- from U the run comes to a return of which Q tells (value, heap, written places), within rc cells and rs slots -/
def Goes (p : Program) (e : Env) (below : List Frame) (s : State) (rc rs : Nat) (Q : Option Value → Heap → List Loc → Prop) (U : State) : Prop :=
  ∃ t o, Steps p.tables e below U t ∧ t.status = .running ∧ Ended t below o ∧ ∃ v L, o = .returned v ∧ Q v t.heap L ∧ FrameEnd s o t L rc rs
theorem Goes.step {rc rs : Nat} {Q : Option Value → Heap → List Loc → Prop} {U V : State} (st : ∀ t, Steps p.tables e below V t → Steps p.tables e below U t) (k : Goes p e below s rc rs Q V) : Goes p e below s rc rs Q U := by
  obtain ⟨t, o, k1, k2⟩ := k
  exact ⟨t, o, st t k1, k2⟩
theorem Goes.ret {rc rs : Nat} {Q : Option Value → Heap → List Loc → Prop} (X : Stand p l e R s m args below meth c T locs cells slots) (hx : p.tables.exec = Jvm.exec) (hlk : meth.locks = false) {pc : Nat} {Ls : Array Slot} {w : Value} {t : FieldType} {i : Instr} {rest : List Value} (hret : meth.sig.returnType = some t) (hn : narrow t w = w)
    (hi : (i = .ireturn ∧ (t = .int ∨ t = .boolean ∨ t = .byte ∨ t = .char ∨ t = .short) ∧ ∃ z, w = .int z) ∨ (i = .lreturn ∧ t = .long ∧ ∃ z, w = .long z) ∨ (i = .dreturn ∧ t = .double ∧ ∃ z, w = .double z) ∨ (i = .freturn ∧ t = .float ∧ ∃ z, w = .float z) ∨ (i = .areturn ∧ t.isReference = true ∧ w.isRef = true))
    (hd : decode c.code pc = .ok (i, 1)) (hc : cells ≤ rc) (hs : slots ≤ rs) (hQ : Q (some w) T.heap locs) : Goes p e below s rc rs Q (T.setTop (mkF m pc Ls (w :: rest))) := by
  obtain ⟨fs, hr, hrun, hended, hW, hsame⟩ := X.leave (v := some w) (fun h => by rw [hret] at h; cases h) hlk
  exact ⟨_, _, retOut X hx hret hn hi hd hr, hrun, hended, _, _, rfl, hQ, ⟨_, rfl⟩, hW, hsame.mono hc hs⟩
theorem Goes.retI {rc rs : Nat} {Q : Option Value → Heap → List Loc → Prop} (X : Stand p l e R s m args below meth c T locs cells slots) (hx : p.tables.exec = Jvm.exec) (hlk : meth.locks = false) {pc : Nat} {Ls : Array Slot} {z : Int32} {rest : List Value} (hret : meth.sig.returnType = some .int)
    (hd : decode c.code pc = .ok (.ireturn, 1)) (hc : cells ≤ rc) (hs : slots ≤ rs) (hQ : Q (some (.int z)) T.heap locs) : Goes p e below s rc rs Q (T.setTop (mkF m pc Ls (.int z :: rest))) :=
  Goes.ret X hx hlk hret rfl (Or.inl ⟨rfl, Or.inl rfl, _, rfl⟩) hd hc hs hQ
theorem Goes.retZ {rc rs : Nat} {Q : Option Value → Heap → List Loc → Prop} (X : Stand p l e R s m args below meth c T locs cells slots) (hx : p.tables.exec = Jvm.exec) (hlk : meth.locks = false) {pc : Nat} {Ls : Array Slot} {z : Int32} {t : FieldType} {rest : List Value} (hret : meth.sig.returnType = some t)
    (ht : t = .boolean ∨ t = .byte ∨ t = .char ∨ t = .short) (hn : narrow t (.int z) = .int z)
    (hd : decode c.code pc = .ok (.ireturn, 1)) (hc : cells ≤ rc) (hs : slots ≤ rs) (hQ : Q (some (.int z)) T.heap locs) : Goes p e below s rc rs Q (T.setTop (mkF m pc Ls (.int z :: rest))) :=
  Goes.ret X hx hlk hret hn (Or.inl ⟨rfl, Or.inr ht, _, rfl⟩) hd hc hs hQ
theorem Goes.retJ {rc rs : Nat} {Q : Option Value → Heap → List Loc → Prop} (X : Stand p l e R s m args below meth c T locs cells slots) (hx : p.tables.exec = Jvm.exec) (hlk : meth.locks = false) {pc : Nat} {Ls : Array Slot} {z : Int64} {rest : List Value} (hret : meth.sig.returnType = some .long)
    (hd : decode c.code pc = .ok (.lreturn, 1)) (hc : cells ≤ rc) (hs : slots ≤ rs) (hQ : Q (some (.long z)) T.heap locs) : Goes p e below s rc rs Q (T.setTop (mkF m pc Ls (.long z :: rest))) :=
  Goes.ret X hx hlk hret rfl (Or.inr (Or.inl ⟨rfl, rfl, _, rfl⟩)) hd hc hs hQ
theorem own_narrow_ref {t : FieldType} {w : Value} (hw : w.isRef = true) : narrow t w = w := by
  cases w <;> simp [Value.isRef] at hw <;> cases t <;> rfl
theorem Goes.retA {rc rs : Nat} {Q : Option Value → Heap → List Loc → Prop} (X : Stand p l e R s m args below meth c T locs cells slots) (hx : p.tables.exec = Jvm.exec) (hlk : meth.locks = false) {pc : Nat} {Ls : Array Slot} {w : Value} {t : FieldType} {rest : List Value} (hret : meth.sig.returnType = some t)
    (ht : t.isReference = true) (hw : w.isRef = true)
    (hd : decode c.code pc = .ok (.areturn, 1)) (hc : cells ≤ rc) (hs : slots ≤ rs) (hQ : Q (some w) T.heap locs) : Goes p e below s rc rs Q (T.setTop (mkF m pc Ls (w :: rest))) :=
  Goes.ret X hx hlk hret (own_narrow_ref hw) (Or.inr (Or.inr (Or.inr (Or.inr ⟨rfl, ht, hw⟩)))) hd hc hs hQ
theorem Goes.retV {rc rs : Nat} {Q : Option Value → Heap → List Loc → Prop} (X : Stand p l e R s m args below meth c T locs cells slots) (hx : p.tables.exec = Jvm.exec) (hlk : meth.locks = false) {pc : Nat} {Ls : Array Slot} (hret : meth.sig.returnType = none)
    (hd : decode c.code pc = .ok (.return_, 1)) (hc : cells ≤ rc) (hs : slots ≤ rs) (hQ : Q none T.heap locs) : Goes p e below s rc rs Q (T.setTop (mkF m pc Ls [])) := by
  obtain ⟨fs, hr, hrun, hended, hW, hsame⟩ := X.leave (v := none) (fun _ => rfl) hlk
  exact ⟨_, _, X.returnOut hx hret hd hr, hrun, hended, _, _, rfl, hQ, ⟨_, rfl⟩, hW, hsame.mono hc hs⟩
/-- a static call by its contract -/
theorem own_callS (X : Stand p l e R s m args below meth c T locs cells slots) (hx : p.tables.exec = Jvm.exec) (hZ : Z.Warmed39 s.vm) {own : String} {index : Nat} {y : MethodName} {bytes : ByteArray} {maxL : Nat} {ret : Option FieldType} (hown : s.vm.findClass own = some m.cls)
    (w1 : (Cond.methodLink own index y).before a0 Z = true) (w2 : (Cond.static y).before a0 Z = true) (w3 : (Cond.initialized y.cls).before a0 Z = true) (w4 : (Cond.code y bytes maxL ret).before a0 Z = true) (hy : y.cls ≠ "java/lang/invoke/MethodHandle" ∧ y.cls ≠ "java/lang/invoke/VarHandle")
    {rm : Room} {argsL : List Value} {Q : Option Value → Heap → List Loc → Prop}
    (hM : MetFree l y (head1 [Cond.code y bytes maxL ret] rm) (fun a U => a = argsL.toArray ∧ Z.Warmed39 U.vm ∧ U.heap = h) (fun _ _ _ _ _ => True) (fun _ U o U' => ∃ v L, o = .returned v ∧ Q v U'.heap L ∧ FrameEnd U o U' L rm.cells rm.slots))
    (eT : T.heap = h) {W : Nat} (hf : rm.frames + 1 ≤ R.frames) (hl : W + (maxL + 11) + rm.locals ≤ R.locals) (hc : cells + rm.cells ≤ R.cells) (hsl : slots + rm.slots ≤ R.slots)
    {g : JFrame} (hg : g.method = m) (hsize : g.locals.size = c.maxLocals) {rest : List Value} (hlen : ∀ sig, parseMethodDescriptor y.desc = some sig → argsL.length = sig.parameters.length)
    (hstack : g.stack = argsL.reverse ++ rest) (hW : 2 * g.monitorRoom + (rest.map fun v => v.category).sum ≤ W) (hdg : decode c.code g.pc = .ok (.invokestatic index, 3)) :
    ∃ (v : Option Value) (T' : State) (L : List Loc), Stand p l e R s m args below meth c T' (locs ++ L) (cells + rm.cells) (slots + rm.slots) ∧ Q v T'.heap L ∧
      ∀ t, Steps p.tables e below (T'.setTop { g with pc := g.pc + 3, stack := v.toList ++ rest }) t → Steps p.tables e below (T.setTop g) t := by
  obtain ⟨v, _, ⟨U, Ls, k, n⟩, -, X', ⟨Lc, hQ, l1, y1, z1⟩, st⟩ := Jvm.LawKit.callS X hx (y := y) hown (mvT hZ w1) (mvT hZ w2) (mvT hZ w3) (mvT hZ w4) hy (backOf (W := W) hM hZ w4 w3 hf hl) hg hsize (argsL := argsL) (rest := rest) hlen hstack hW hdg (fun _ _ => ⟨rfl, eT, hc, hsl⟩)
  dsimp only [Pt.U, Pt.locs, Pt.cells, Pt.slots] at X' l1 y1 z1 st hQ
  subst l1 y1 z1
  exact ⟨v, U, Lc, X', hQ, st⟩
/-- a constructor's call by its contract -/
theorem own_callN (X : Stand p l e R s m args below meth c T locs cells slots) (hx : p.tables.exec = Jvm.exec) (hZ : Z.Warmed39 s.vm) {own : String} {index : Nat} {y : MethodName} {bytes : ByteArray} {maxL : Nat} (hy1 : y.name = "<init>") (hown : s.vm.findClass own = some m.cls)
    (w1 : (Cond.methodLink own index y).before a0 Z = true) (w2 : (Cond.instanceMethod y).before a0 Z = true) (w3 : (Cond.initialized y.cls).before a0 Z = true) (w4 : (Cond.code y bytes maxL none).before a0 Z = true) (hy : y.cls ≠ "java/lang/invoke/MethodHandle" ∧ y.cls ≠ "java/lang/invoke/VarHandle")
    {rm : Room} {a : Addr} {argsL : List Value} {Q : Option Value → Heap → List Loc → Prop}
    (hM : MetFree l y (head1 [Cond.code y bytes maxL none] rm) (fun b U => b = (.ref a :: argsL).toArray ∧ Z.Warmed39 U.vm ∧ U.heap = h) (fun _ _ _ _ _ => True) (fun _ U o U' => ∃ v L, o = .returned v ∧ Q v U'.heap L ∧ FrameEnd U o U' L rm.cells rm.slots))
    (eT : T.heap = h) {W : Nat} (hf : rm.frames + 1 ≤ R.frames) (hl : W + (maxL + 11) + rm.locals ≤ R.locals) (hc : cells + rm.cells ≤ R.cells) (hsl : slots + rm.slots ≤ R.slots)
    {g : JFrame} (hg : g.method = m) (hsize : g.locals.size = c.maxLocals) {rest : List Value} (hlen : ∀ sig, parseMethodDescriptor y.desc = some sig → argsL.length = sig.parameters.length)
    (hstack : g.stack = argsL.reverse ++ .ref a :: rest) (hW : 2 * g.monitorRoom + (rest.map fun v => v.category).sum ≤ W) (hdg : decode c.code g.pc = .ok (.invokespecial index, 3)) :
    ∃ (v : Option Value) (T' : State) (L : List Loc), Stand p l e R s m args below meth c T' (locs ++ L) (cells + rm.cells) (slots + rm.slots) ∧ Q v T'.heap L ∧
      ∀ t, Steps p.tables e below (T'.setTop { g with pc := g.pc + 3, stack := v.toList ++ rest }) t → Steps p.tables e below (T.setTop g) t := by
  obtain ⟨v, _, ⟨U, Ls, k, n⟩, -, X', ⟨Lc, hQ, l1, y1, z1⟩, st⟩ := X.specialBack hx (y := y) hy1 hown (mvT hZ w1) (mvT hZ w2) (mvT hZ w4) hy (backOf (W := W) hM hZ w4 w3 hf hl) hg hsize (Steps.refl _) (a := a) (argsL := argsL) (rest := rest) hlen hstack hW hdg (fun _ _ => ⟨rfl, eT, hc, hsl⟩)
  dsimp only [Pt.U, Pt.locs, Pt.cells, Pt.slots] at X' l1 y1 z1 st hQ
  subst l1 y1 z1
  exact ⟨v, U, Lc, X', hQ, fun t k => st.trans k⟩
/-- an instance method's call by its contract -/
theorem own_callV (X : Stand p l e R s m args below meth c T locs cells slots) (hx : p.tables.exec = Jvm.exec) (hZ : Z.Warmed39 s.vm) {own C : String} {index : Nat} {y : MethodName} {bytes : ByteArray} {maxL : Nat} {ret : Option FieldType} (hown : s.vm.findClass own = some m.cls)
    (w1 : (Cond.methodLink own index y).before a0 Z = true) (w2 : (Cond.declares y).before a0 Z = true) (w5 : (Cond.selects C y y).before a0 Z = true) (w6 : (Cond.instanceMethod y).before a0 Z = true) (w3 : (Cond.initialized y.cls).before a0 Z = true) (w4 : (Cond.code y bytes maxL ret).before a0 Z = true) (hy : y.cls ≠ "java/lang/invoke/MethodHandle" ∧ y.cls ≠ "java/lang/invoke/VarHandle")
    {rm : Room} {a : Addr} {argsL : List Value} {Q : Option Value → Heap → List Loc → Prop}
    (hM : MetFree l y (head1 [Cond.code y bytes maxL ret] rm) (fun b U => b = (.ref a :: argsL).toArray ∧ Z.Warmed39 U.vm ∧ U.heap = h) (fun _ _ _ _ _ => True) (fun _ U o U' => ∃ v L, o = .returned v ∧ Q v U'.heap L ∧ FrameEnd U o U' L rm.cells rm.slots))
    (eT : T.heap = h) (E : Exa Z h a C) {W : Nat} (hf : rm.frames + 1 ≤ R.frames) (hl : W + (maxL + 11) + rm.locals ≤ R.locals) (hc : cells + rm.cells ≤ R.cells) (hsl : slots + rm.slots ≤ R.slots)
    {g : JFrame} (hg : g.method = m) (hsize : g.locals.size = c.maxLocals) {rest : List Value} (hlen : ∀ sig, parseMethodDescriptor y.desc = some sig → argsL.length = sig.parameters.length)
    (hstack : g.stack = argsL.reverse ++ .ref a :: rest) (hW : 2 * g.monitorRoom + (rest.map fun v => v.category).sum ≤ W) (hdg : decode c.code g.pc = .ok (.invokevirtual index, 3)) :
    ∃ (v : Option Value) (T' : State) (L : List Loc), Stand p l e R s m args below meth c T' (locs ++ L) (cells + rm.cells) (slots + rm.slots) ∧ Q v T'.heap L ∧
      ∀ t, Steps p.tables e below (T'.setTop { g with pc := g.pc + 3, stack := v.toList ++ rest }) t → Steps p.tables e below (T.setTop g) t := by
  obtain ⟨cB, kB, qa, qb, qc⟩ := isOf hZ eT E
  obtain ⟨v, _, ⟨U, Ls, k, n⟩, -, X', ⟨Lc, hQ, l1, y1, z1⟩, st⟩ := X.virtualBack hx (y := y) (z := y) hown (mvT hZ w1) (mvT hZ w2) (notFace_of_selects (args := #[]) (mvT hZ w5)) (mvT hZ w5) (mvT hZ w6) hy (backOf (W := W) hM hZ w4 w3 hf hl) qa qc hg hsize (Steps.refl _) (argsL := argsL) (rest := rest) hlen hstack hW hdg (fun _ _ => ⟨rfl, eT, hc, hsl⟩)
  dsimp only [Pt.U, Pt.locs, Pt.cells, Pt.slots] at X' l1 y1 z1 st hQ
  subst l1 y1 z1
  exact ⟨v, U, Lc, X', hQ, fun t k => st.trans k⟩
/-- an interface method's call by its contract -/
theorem own_callI (X : Stand p l e R s m args below meth c T locs cells slots) (hx : p.tables.exec = Jvm.exec) (hZ : Z.Warmed39 s.vm) {own C : String} {index count : Nat} {xi z : MethodName} {bytes : ByteArray} {maxL : Nat} {ret : Option FieldType} (hown : s.vm.findClass own = some m.cls)
    (w1 : (Cond.methodLink own index xi).before a0 Z = true) (w2 : (Cond.declares xi).before a0 Z = true) (w7 : (Cond.interfaceMethod xi.cls xi.cls xi.name xi.desc).before a0 Z = true) (w5 : (Cond.selects C xi z).before a0 Z = true) (w6 : (Cond.instanceMethod z).before a0 Z = true) (w8 : (Cond.publicMethod z).before a0 Z = true) (w9 : (Cond.unhidden C xi.name xi.desc).before a0 Z = true) (w10 : (Cond.castable C xi.cls).before a0 Z = true)
    (hfa : ((Cond.interfaceMethod xi.cls xi.cls xi.name xi.desc).onTables && (Cond.interfaceMethod xi.cls xi.cls xi.name xi.desc).keepsFace) = true) (w3 : (Cond.initialized z.cls).before a0 Z = true) (w4 : (Cond.code z bytes maxL ret).before a0 Z = true) (hy : xi.cls ≠ "java/lang/invoke/MethodHandle" ∧ xi.cls ≠ "java/lang/invoke/VarHandle")
    {rm : Room} {a : Addr} {argsL : List Value} {Q : Option Value → Heap → List Loc → Prop}
    (hM : MetFree l z (head1 [Cond.code z bytes maxL ret] rm) (fun b U => b = (.ref a :: argsL).toArray ∧ Z.Warmed39 U.vm ∧ U.heap = h) (fun _ _ _ _ _ => True) (fun _ U o U' => ∃ v L, o = .returned v ∧ Q v U'.heap L ∧ FrameEnd U o U' L rm.cells rm.slots))
    (eT : T.heap = h) (E : Exa Z h a C) {W : Nat} (hf : rm.frames + 1 ≤ R.frames) (hl : W + (maxL + 11) + rm.locals ≤ R.locals) (hc : cells + rm.cells ≤ R.cells) (hsl : slots + rm.slots ≤ R.slots)
    {g : JFrame} (hg : g.method = m) (hsize : g.locals.size = c.maxLocals) {rest : List Value} (hlen : ∀ sig, parseMethodDescriptor xi.desc = some sig → argsL.length = sig.parameters.length)
    (hstack : g.stack = argsL.reverse ++ .ref a :: rest) (hW : 2 * g.monitorRoom + (rest.map fun v => v.category).sum ≤ W) (hdg : decode c.code g.pc = .ok (.invokeinterface index count, 5)) :
    ∃ (v : Option Value) (T' : State) (L : List Loc), Stand p l e R s m args below meth c T' (locs ++ L) (cells + rm.cells) (slots + rm.slots) ∧ Q v T'.heap L ∧
      ∀ t, Steps p.tables e below (T'.setTop { g with pc := g.pc + 5, stack := v.toList ++ rest }) t → Steps p.tables e below (T.setTop g) t := by
  obtain ⟨cB, kB, qa, qb, qc⟩ := isOf hZ eT E
  obtain ⟨v, _, ⟨U, Ls, k, n⟩, -, X', ⟨Lc, hQ, l1, y1, z1⟩, st⟩ := X.interfaceBack hx (xi := xi) (y := z) hown (mvT hZ w1) (mvT hZ w2) (mvT hZ w7 hfa) (mvT hZ w5) (mvT hZ w6) (mvT hZ w8) (mvT hZ w9) (mvT hZ w10) hy (backOf (W := W) hM hZ w4 w3 hf hl) qa qb qc hg hsize (Steps.refl _) (argsL := argsL) (rest := rest) hlen hstack hW hdg (fun _ _ => ⟨rfl, eT, hc, hsl⟩)
  dsimp only [Pt.U, Pt.locs, Pt.cells, Pt.slots] at X' l1 y1 z1 st hQ
  subst l1 y1 z1
  exact ⟨v, U, Lc, X', hQ, fun t k => st.trans k⟩
/-- an array: of n places, place j holds f j -/
def OA (Z : State) (h : Heap) (a : Addr) (ty : FieldType) (n : Nat) (f : Nat → Value) : Prop :=
  ∃ c : Cell, Arr Z h a c ty ∧ c.slots.size = n ∧ n < 2 ^ 31 ∧ ∀ j, j < n → c.slots[j]? = some (f j) ∧ fits ty (f j) = true
variable {a b : Addr} {ty : FieldType} {n k sl : Nat} {f f' : Nat → Value} {v w : Value} {j : Int32} {ws : List Addr}
theorem OA.ext (A : OA Z h a ty n f) (E : Ext h h') : OA Z h' a ty n f := by obtain ⟨c, A, r⟩ := A; exact ⟨c, A.ext E, r⟩
theorem OA.other (A : OA Z h b ty n f) (W : Wr h h' a sl v) (q : b ≠ a) : OA Z h' b ty n f := by obtain ⟨c, A, r⟩ := A; exact ⟨c, A.other W q, r⟩
theorem OA.keep (A : OA Z h a ty n f) (K : Keep h h' ws) (q : a ∉ ws) : OA Z h' a ty n f := by obtain ⟨c, A, r⟩ := A; exact ⟨c, ⟨K.2.1 a c A.1 q, A.2⟩, r⟩
theorem OA.lt (A : OA Z h a ty n f) : a < h.size := by obtain ⟨c, A, -⟩ := A; exact A.lt
theorem OA.congr (A : OA Z h a ty n f) (q : ∀ j, j < n → f j = f' j) : OA Z h a ty n f' := by
  obtain ⟨c, A, r1, r2, H⟩ := A
  exact ⟨c, A, r1, r2, fun j hj => by rw [← q j hj]; exact H j hj⟩
theorem OA.new {cA : ClassId} {z : Int32} (A : Arr Z h a (newA cA ty z) ty) (hf : fits ty (defaultValue ty) = true) (e : z.toNatClampNeg = n) : OA Z h a ty n (fun _ => defaultValue ty) := by
  refine ⟨_, A, by rw [sz_new]; exact e, ?_, fun j hj => ⟨?_, hf⟩⟩
  · have := z.toInt_lt
    have h2 : z.toNatClampNeg = z.toInt.toNat := rfl
    omega
  · simp [newA, e, hj]
theorem OA.set (A : OA Z h a ty n f) (W : Wr h h' a j.toNatClampNeg v) (e : j.toNatClampNeg = k) (hv : fits ty v = true) : OA Z h' a ty n (fun i => if i = k then v else f i) := by
  obtain ⟨c, A, r1, r2, H⟩ := A
  refine ⟨_, A.same W, by rw [sz_set]; exact r1, r2, fun i hi => ?_⟩
  obtain ⟨H1, H2⟩ := H i hi
  subst e
  by_cases q : i = j.toNatClampNeg
  · subst q
    dsimp only
    rw [if_pos rfl]
    exact ⟨by simp [Cell.setSlot, r1, hi], hv⟩
  · dsimp only
    rw [if_neg q]
    refine ⟨?_, H2⟩
    rw [← H1]
    simp [Cell.setSlot, Array.getElem?_setIfInBounds, Ne.symm q]
theorem OA.at (A : OA Z h a ty n f) (hj : ¬ j < 0) (e : j.toNatClampNeg = k) (hk : k < n) : ∃ c : Cell, Arr Z h a c ty ∧ ¬ (j < 0 ∨ c.slots.size ≤ j.toNatClampNeg) ∧ c.slots[j.toNatClampNeg]? = some (f k) ∧ fits ty (f k) = true := by
  obtain ⟨c, A, r1, r2, H⟩ := A
  obtain ⟨H1, H2⟩ := H k hk
  refine ⟨c, A, ?_, by rw [e]; exact H1, H2⟩
  rintro (q | q)
  · exact hj q
  · omega
theorem OA.fits (A : OA Z h a ty n f) (hk : k < n) : fits ty (f k) = true := by
  obtain ⟨c, A, r1, r2, H⟩ := A
  exact (H k hk).2
theorem own_alen (X : Stand p l e R s m args below meth c T locs cells slots) (hx : p.tables.exec = Jvm.exec) (hZ : Z.Warmed39 s.vm) (eT : T.heap = h) (A : OA Z h a ty n f) {z : Int32} (hz : z = n.toInt32)
    {g : JFrame} (hg : g.method = m) {rest : List Value} (hs : g.stack = .ref a :: rest) (hd : decode c.code g.pc = .ok (.arraylength, 1)) :
    ∀ t, Steps p.tables e below (T.setTop { g with pc := g.pc + 1, stack := .int z :: rest }) t → Steps p.tables e below (T.setTop g) t := by
  obtain ⟨cl, A, r1, r2, H⟩ := A
  intro t k
  refine X.arraylength hx (by rw [eT]; exact A.1) (State.isArrayOf_alike hZ.alike A.2.1) hg hs hd t ?_
  rw [r1, ← hz]
  exact k
theorem own_iaload (X : Stand p l e R s m args below meth c T locs cells slots) (hx : p.tables.exec = Jvm.exec) (hZ : Z.Warmed39 s.vm) (eT : T.heap = h) (A : OA Z h a .int n f) (hj : ¬ j < 0) (ek : j.toNatClampNeg = k) (hk : k < n) (hv : f k = v)
    {g : JFrame} (hg : g.method = m) {rest : List Value} (hs : g.stack = .int j :: .ref a :: rest) (hd : decode c.code g.pc = .ok (.iaload, 1)) :
    ∀ t, Steps p.tables e below (T.setTop { g with pc := g.pc + 1, stack := v :: rest }) t → Steps p.tables e below (T.setTop g) t := by
  obtain ⟨cl, A, q1, q2, q3⟩ := A.at hj ek hk
  subst hv
  exact fun t k => X.iaload hx (by rw [eT]; exact A.1) (State.isArrayOf_alike hZ.alike A.2.1) A.2.2 q1 q2 hg hs hd t k
theorem own_laload (X : Stand p l e R s m args below meth c T locs cells slots) (hx : p.tables.exec = Jvm.exec) (hZ : Z.Warmed39 s.vm) (eT : T.heap = h) (A : OA Z h a .long n f) (hj : ¬ j < 0) (ek : j.toNatClampNeg = k) (hk : k < n) (hv : f k = v)
    {g : JFrame} (hg : g.method = m) {rest : List Value} (hs : g.stack = .int j :: .ref a :: rest) (hd : decode c.code g.pc = .ok (.laload, 1)) :
    ∀ t, Steps p.tables e below (T.setTop { g with pc := g.pc + 1, stack := v :: rest }) t → Steps p.tables e below (T.setTop g) t := by
  obtain ⟨cl, A, q1, q2, q3⟩ := A.at hj ek hk
  subst hv
  exact fun t k => X.laload hx (by rw [eT]; exact A.1) (State.isArrayOf_alike hZ.alike A.2.1) A.2.2 q1 q2 hg hs hd t k
theorem own_caload (X : Stand p l e R s m args below meth c T locs cells slots) (hx : p.tables.exec = Jvm.exec) (hZ : Z.Warmed39 s.vm) (eT : T.heap = h) (A : OA Z h a .char n f) (hj : ¬ j < 0) (ek : j.toNatClampNeg = k) (hk : k < n) (hv : f k = v)
    {g : JFrame} (hg : g.method = m) {rest : List Value} (hs : g.stack = .int j :: .ref a :: rest) (hd : decode c.code g.pc = .ok (.caload, 1)) :
    ∀ t, Steps p.tables e below (T.setTop { g with pc := g.pc + 1, stack := v :: rest }) t → Steps p.tables e below (T.setTop g) t := by
  obtain ⟨cl, A, q1, q2, q3⟩ := A.at hj ek hk
  subst hv
  exact fun t k => X.caload hx (by rw [eT]; exact A.1) (State.isArrayOf_alike hZ.alike A.2.1) A.2.2 q1 q2 hg hs hd t k
theorem own_baload (X : Stand p l e R s m args below meth c T locs cells slots) (hx : p.tables.exec = Jvm.exec) (hZ : Z.Warmed39 s.vm) (eT : T.heap = h) (A : OA Z h a .byte n f) (hj : ¬ j < 0) (ek : j.toNatClampNeg = k) (hk : k < n) (hv : f k = v)
    {g : JFrame} (hg : g.method = m) {rest : List Value} (hs : g.stack = .int j :: .ref a :: rest) (hd : decode c.code g.pc = .ok (.baload, 1)) :
    ∀ t, Steps p.tables e below (T.setTop { g with pc := g.pc + 1, stack := v :: rest }) t → Steps p.tables e below (T.setTop g) t := by
  obtain ⟨cl, A, q1, q2, q3⟩ := A.at hj ek hk
  subst hv
  exact fun t k => X.baloadBytes hx (by rw [eT]; exact A.1) (State.isArrayOf_alike hZ.alike A.2.1) A.2.2 q1 q2 hg hs hd t k
theorem own_aaload (X : Stand p l e R s m args below meth c T locs cells slots) (hx : p.tables.exec = Jvm.exec) (hZ : Z.Warmed39 s.vm) (eT : T.heap = h) (A : OA Z h a ty n f) (hty : ty.isReference = true) (hj : ¬ j < 0) (ek : j.toNatClampNeg = k) (hk : k < n) (hv : f k = v)
    {g : JFrame} (hg : g.method = m) {rest : List Value} (hs : g.stack = .int j :: .ref a :: rest) (hd : decode c.code g.pc = .ok (.aaload, 1)) :
    ∀ t, Steps p.tables e below (T.setTop { g with pc := g.pc + 1, stack := v :: rest }) t → Steps p.tables e below (T.setTop g) t := by
  obtain ⟨cl, A, q1, q2, q3⟩ := A.at hj ek hk
  subst hv
  exact fun t k => X.aaload hx (by rw [eT]; exact A.1) (State.isArrayOf_alike hZ.alike A.2.1) hty A.2.2 q1 q2 hg hs hd t k
/-- stores: the new heap, the array's new values -/
theorem own_stI (X : Stand p l e R s m args below meth c T locs cells slots) (hx : p.tables.exec = Jvm.exec) (hZ : Z.Warmed39 s.vm) (eT : T.heap = h) (A : OA Z h a .int n f) {x : Int32} (hj : ¬ j < 0) (ek : j.toNatClampNeg = k) (hk : k < n)
    {g : JFrame} (hg : g.method = m) {rest : List Value} (hs : g.stack = .int x :: .int j :: .ref a :: rest) (hd : decode c.code g.pc = .ok (.iastore, 1)) :
    ∃ T' h', Stand p l e R s m args below meth c T' (locs ++ [⟨a, j.toNatClampNeg⟩]) cells slots ∧ T'.heap = h' ∧ Wr h h' a j.toNatClampNeg (.int x) ∧ OA Z h' a .int n (fun i => if i = k then .int x else f i) ∧
      ∀ t, Steps p.tables e below (T'.setTop { g with pc := g.pc + 1, stack := rest }) t → Steps p.tables e below (T.setTop g) t := by
  obtain ⟨cl, A', q1, q2, q3⟩ := A.at hj ek hk
  obtain ⟨T', h', X', e', W', st⟩ := stI X hx hZ eT A' q1 hg hs hd
  exact ⟨T', h', X', e', W', A.set W' ek rfl, st⟩
theorem own_stJ (X : Stand p l e R s m args below meth c T locs cells slots) (hx : p.tables.exec = Jvm.exec) (hZ : Z.Warmed39 s.vm) (eT : T.heap = h) (A : OA Z h a .long n f) {x : Int64} (hj : ¬ j < 0) (ek : j.toNatClampNeg = k) (hk : k < n)
    {g : JFrame} (hg : g.method = m) {rest : List Value} (hs : g.stack = .long x :: .int j :: .ref a :: rest) (hd : decode c.code g.pc = .ok (.lastore, 1)) :
    ∃ T' h', Stand p l e R s m args below meth c T' (locs ++ [⟨a, j.toNatClampNeg⟩]) cells slots ∧ T'.heap = h' ∧ Wr h h' a j.toNatClampNeg (.long x) ∧ OA Z h' a .long n (fun i => if i = k then .long x else f i) ∧
      ∀ t, Steps p.tables e below (T'.setTop { g with pc := g.pc + 1, stack := rest }) t → Steps p.tables e below (T.setTop g) t := by
  obtain ⟨cl, A', q1, q2, q3⟩ := A.at hj ek hk
  obtain ⟨T', h', X', e', W', st⟩ := stJ X hx hZ eT A' q1 hg hs hd
  exact ⟨T', h', X', e', W', A.set W' ek rfl, st⟩
theorem own_stB (X : Stand p l e R s m args below meth c T locs cells slots) (hx : p.tables.exec = Jvm.exec) (hZ : Z.Warmed39 s.vm) (eT : T.heap = h) (A : OA Z h a .byte n f) {x : Int32} (hj : ¬ j < 0) (ek : j.toNatClampNeg = k) (hk : k < n)
    {g : JFrame} (hg : g.method = m) {rest : List Value} (hs : g.stack = .int x :: .int j :: .ref a :: rest) (hd : decode c.code g.pc = .ok (.bastore, 1)) :
    ∃ T' h', Stand p l e R s m args below meth c T' (locs ++ [⟨a, j.toNatClampNeg⟩]) cells slots ∧ T'.heap = h' ∧ Wr h h' a j.toNatClampNeg (.int (nar .byte x)) ∧ OA Z h' a .byte n (fun i => if i = k then .int (nar .byte x) else f i) ∧
      ∀ t, Steps p.tables e below (T'.setTop { g with pc := g.pc + 1, stack := rest }) t → Steps p.tables e below (T.setTop g) t := by
  obtain ⟨cl, A', q1, q2, q3⟩ := A.at hj ek hk
  obtain ⟨T', h', X', e', W', st⟩ := stB X hx hZ eT A' q1 hg hs hd
  exact ⟨T', h', X', e', W', A.set W' ek (fits_nar_byte _), st⟩
theorem own_stC (X : Stand p l e R s m args below meth c T locs cells slots) (hx : p.tables.exec = Jvm.exec) (hZ : Z.Warmed39 s.vm) (eT : T.heap = h) (A : OA Z h a .char n f) {x : Int32} (hj : ¬ j < 0) (ek : j.toNatClampNeg = k) (hk : k < n)
    {g : JFrame} (hg : g.method = m) {rest : List Value} (hs : g.stack = .int x :: .int j :: .ref a :: rest) (hd : decode c.code g.pc = .ok (.castore, 1)) :
    ∃ T' h', Stand p l e R s m args below meth c T' (locs ++ [⟨a, j.toNatClampNeg⟩]) cells slots ∧ T'.heap = h' ∧ Wr h h' a j.toNatClampNeg (.int (nar .char x)) ∧ OA Z h' a .char n (fun i => if i = k then .int (nar .char x) else f i) ∧
      ∀ t, Steps p.tables e below (T'.setTop { g with pc := g.pc + 1, stack := rest }) t → Steps p.tables e below (T.setTop g) t := by
  obtain ⟨cl, A', q1, q2, q3⟩ := A.at hj ek hk
  obtain ⟨T', h', X', e', W', st⟩ := stC X hx hZ eT A' q1 hg hs hd
  exact ⟨T', h', X', e', W', A.set W' ek (fits_nar_char _), st⟩
theorem own_newP (X : Stand p l e R s m args below meth c T locs cells slots) (hx : p.tables.exec = Jvm.exec) (hZ : Z.Warmed39 s.vm) {aty : ArrayType} (w : (Cond.arrayClass (newarray.typeOf aty)).before a0 Z = true) (eT : T.heap = h) {z : Int32} (hz : ¬ z < 0) (en : z.toNatClampNeg = n) {cap : Nat} (hcap : n ≤ cap) (hb : cap * 8 ≤ 536870912) (hc : cells + 1 ≤ R.cells) (hl : slots + cap ≤ R.slots)
    {g : JFrame} (hg : g.method = m) {rest : List Value} (hs : g.stack = .int z :: rest) (hd : decode c.code g.pc = .ok (.newarray aty, 2)) :
    ∃ T' h', Stand p l e R s m args below meth c T' locs (cells + 1) (slots + cap) ∧ T'.heap = h' ∧ Ext h h' ∧ OA Z h' h.size (newarray.typeOf aty) n (fun _ => defaultValue (newarray.typeOf aty)) ∧
      ∀ t, Steps p.tables e below (T'.setTop { g with pc := g.pc + 2, stack := .ref h.size :: rest }) t → Steps p.tables e below (T.setTop g) t := by
  obtain ⟨T', h', cA, X', e', E', A', st⟩ := newP X hx hZ w eT hg hd hs hz (cap := cap) (en ▸ hcap) hb hc hl
  exact ⟨T', h', X', e', E', OA.new A' (by cases aty <;> rfl) en, st⟩
theorem OA.arv (A : OA Z h a ty n f) (d : Value) : ∃ k, Arv Z h a k ty (Int32.ofNat n) ((List.range n).map f) d := by
  obtain ⟨c, A, r1, r2, H⟩ := A
  have q : ∀ i, i < n → ((List.range n).map f).getD i d = f i := fun i hi => by simp [hi]
  exact ⟨c.cls, c, A, rfl, by rw [own_clamp n r2]; exact r1, own_nneg n r2, fun i hi => by rw [q i (by omega)]; exact (H i (by omega)).1, fun i hi => by rw [q i (by omega)]; exact (H i (by omega)).2⟩
theorem OA.of_arv {k : ClassId} {vs : List Value} {d : Value} {z : Int32} (A : Arv Z h a k ty z vs d) (e : z.toNatClampNeg = n) (q : ∀ i, i < n → vs.getD i d = f i) : OA Z h a ty n f := by
  obtain ⟨c, A, r1, r2, r3, H, G⟩ := A
  refine ⟨c, A, by omega, ?_, fun i hi => ?_⟩
  · have := z.toInt_lt
    have h2 : z.toNatClampNeg = z.toInt.toNat := rfl
    omega
  · rw [← q i hi]
    exact ⟨H i (by omega), G i (by omega)⟩
theorem own_spliced (vd us : List Value) (d : Value) (dp m : Nat) (hu : us.length = m) (hl : dp + m ≤ vd.length) (i : Nat) : (vd.take dp ++ us ++ vd.drop (dp + m)).getD i d = if dp ≤ i ∧ i < dp + m then us.getD (i - dp) d else vd.getD i d := by
  have h1 : (vd.take dp).length = dp := by rw [List.length_take]; omega
  by_cases c1 : i < dp
  · rw [if_neg (by omega)]
    simp only [List.getD_eq_getElem?_getD]
    rw [List.append_assoc, List.getElem?_append_left (by omega), List.getElem?_take_of_lt c1]
  · by_cases c2 : i < dp + m
    · rw [if_pos ⟨by omega, c2⟩]
      simp only [List.getD_eq_getElem?_getD]
      rw [List.append_assoc, List.getElem?_append_right (by omega), h1, List.getElem?_append_left (by omega)]
    · rw [if_neg (by omega)]
      simp only [List.getD_eq_getElem?_getD]
      rw [List.getElem?_append_right (by rw [List.length_append]; omega), List.getElem?_drop, List.length_append, h1, hu]
      have e : dp + m + (i - (dp + m)) = i := by omega
      rw [e]
/-- System.arraycopy between arrays of one primitive kind -/
theorem own_copy (X : Stand p l e R s m args below meth c T locs cells slots) (hx : p.tables.exec = Jvm.exec) (hZ : Z.Warmed39 s.vm) {own : String} {index : Nat} (hown : s.vm.findClass own = some m.cls)
    (w1 : (Cond.methodLink own index Jvm.Stand.acN).before a0 Z = true) (w2 : (Cond.native Jvm.Stand.acN).before a0 Z = true) (w3 : (Cond.static Jvm.Stand.acN).before a0 Z = true) (w4 : (Cond.initialized "java/lang/System").before a0 Z = true) (eT : T.heap = h)
    {n' sp dp nn : Nat} (A : OA Z h a ty n f) (B : OA Z h b ty n' f') (hty : refKind ty = false) (h1 : sp + nn ≤ n) (h2 : dp + nn ≤ n') {n0 : Nat} (N : Fr n0 locs) (ge : n0 ≤ b)
    {g : JFrame} (hg : g.method = m) (hsize : g.locals.size = c.maxLocals) {rest : List Value} (hs : g.stack = .int (Int32.ofNat nn) :: .int (Int32.ofNat dp) :: .ref b :: .int (Int32.ofNat sp) :: .ref a :: rest) (hd : decode c.code g.pc = .ok (.invokestatic index, 3))
    (hf : 1 ≤ R.frames) {W : Nat} (hW : 2 * g.monitorRoom + (rest.map fun v => v.category).sum ≤ W) (hlo : W + 18 ≤ R.locals) :
    ∃ T' h' L, Stand p l e R s m args below meth c T' L cells slots ∧ T'.heap = h' ∧ Fr n0 L ∧ Keep h h' [b] ∧ OA Z h' b ty n' (fun i => if dp ≤ i ∧ i < dp + nn then f (sp + (i - dp)) else f' i) ∧
      ∀ t, Steps p.tables e below (T'.setTop { g with pc := g.pc + 3, stack := rest }) t → Steps p.tables e below (T.setTop g) t := by
  have hn : n < 2 ^ 31 := by obtain ⟨c, A, r1, r2, H⟩ := A; exact r2
  have hn' : n' < 2 ^ 31 := by obtain ⟨c, A, r1, r2, H⟩ := B; exact r2
  obtain ⟨k, A'⟩ := A.arv (.int 0)
  obtain ⟨k', B'⟩ := B.arv (.int 0)
  have c1 := own_clamp sp (by omega)
  have c2 := own_clamp dp (by omega)
  have c3 := own_clamp nn (by omega)
  obtain ⟨T', h', L, X', e', N', K', A2, st⟩ := cpA X hx hZ hown w1 w2 w3 w4 eT A' B' (Or.inl ⟨rfl, hty⟩) (own_nneg sp (by omega)) (own_nneg dp (by omega)) (own_nneg nn (by omega)) (by rw [c1, c3, own_clamp n hn]; exact h1) (by rw [c2, c3, own_clamp n' hn']; exact h2) rfl (by rw [c2, c3]; simpa using h2) N ge hg hsize hs hd hf hW hlo
  refine ⟨T', h', L, X', e', N', K', OA.of_arv A2 (own_clamp n' hn') (fun i hi => ?_), st⟩
  rw [c1, c2, c3, own_spliced _ _ _ _ _ (by simp) (by simpa using h2)]
  by_cases q : dp ≤ i ∧ i < dp + nn
  · rw [if_pos q, if_pos q]
    have q3 : i - dp < nn := by omega
    have q4 : sp + (i - dp) < n := by omega
    simp [q3, q4]
  · rw [if_neg q, if_neg q]
    simp [hi]
/-- an array of references of class C: of n places, place j holds f j -/
def OR (Z : State) (h : Heap) (a : Addr) (C : String) (n : Nat) (f : Nat → Value) : Prop :=
  ∃ c : Cell, Arr Z h a c (.object C) ∧ Ovr Z c.cls C ∧ c.slots.size = n ∧ n < 2 ^ 31 ∧ ∀ j, j < n → c.slots[j]? = some (f j) ∧ (f j).isRef = true
variable {C : String}
theorem OR.ext (A : OR Z h a C n f) (E : Ext h h') : OR Z h' a C n f := by obtain ⟨c, A, r⟩ := A; exact ⟨c, A.ext E, r⟩
theorem OR.other (A : OR Z h b C n f) (W : Wr h h' a sl v) (q : b ≠ a) : OR Z h' b C n f := by obtain ⟨c, A, r⟩ := A; exact ⟨c, A.other W q, r⟩
theorem OR.keep (A : OR Z h a C n f) (K : Keep h h' ws) (q : a ∉ ws) : OR Z h' a C n f := by obtain ⟨c, A, r⟩ := A; exact ⟨c, ⟨K.2.1 a c A.1 q, A.2⟩, r⟩
theorem OR.lt (A : OR Z h a C n f) : a < h.size := by obtain ⟨c, A, -⟩ := A; exact A.lt
theorem OR.congr (A : OR Z h a C n f) (q : ∀ j, j < n → f j = f' j) : OR Z h a C n f' := by
  obtain ⟨c, A, o, r1, r2, H⟩ := A
  exact ⟨c, A, o, r1, r2, fun j hj => by rw [← q j hj]; exact H j hj⟩
theorem own_newR (X : Stand p l e R s m args below meth c T locs cells slots) (hx : p.tables.exec = Jvm.exec) (hZ : Z.Warmed39 s.vm) {own : String} {index : Nat} (hown : s.vm.findClass own = some m.cls) (w1 : (Cond.classLink own index C).before a0 Z = true) (w2 : (Cond.arrayOver (.object C)).before a0 Z = true) (eT : T.heap = h) {z : Int32} (hz : ¬ z < 0) (en : z.toNatClampNeg = n) {cap : Nat} (hcap : n ≤ cap) (hb : cap * 8 ≤ 536870912) (hc : cells + 1 ≤ R.cells) (hl : slots + cap ≤ R.slots)
    {g : JFrame} (hg : g.method = m) {rest : List Value} (hs : g.stack = .int z :: rest) (hd : decode c.code g.pc = .ok (.anewarray index, 3)) :
    ∃ T' h', Stand p l e R s m args below meth c T' locs (cells + 1) (slots + cap) ∧ T'.heap = h' ∧ Ext h h' ∧ OR Z h' h.size C n (fun _ => .null) ∧
      ∀ t, Steps p.tables e below (T'.setTop { g with pc := g.pc + 3, stack := .ref h.size :: rest }) t → Steps p.tables e below (T.setTop g) t := by
  obtain ⟨T', h', cA, X', e', E', A', O', st⟩ := newR X hx hZ hown w1 w2 eT hg hd hs hz (cap := cap) (en ▸ hcap) hb hc hl
  refine ⟨T', h', X', e', E', ⟨_, A', O', by rw [sz_new]; exact en, ?_, fun j hj => ⟨?_, rfl⟩⟩, st⟩
  · have := z.toInt_lt
    have h2 : z.toNatClampNeg = z.toInt.toNat := rfl
    omega
  · simp [newA, en, hj, defaultValue]
theorem own_stR (X : Stand p l e R s m args below meth c T locs cells slots) (hx : p.tables.exec = Jvm.exec) (hZ : Z.Warmed39 s.vm) (eT : T.heap = h) (A : OR Z h a C n f) {y : Addr} (I : Ins Z h y C true) (hj : ¬ j < 0) (ek : j.toNatClampNeg = k) (hk : k < n)
    {g : JFrame} (hg : g.method = m) {rest : List Value} (hs : g.stack = .ref y :: .int j :: .ref a :: rest) (hd : decode c.code g.pc = .ok (.aastore, 1)) :
    ∃ T' h', Stand p l e R s m args below meth c T' (locs ++ [⟨a, j.toNatClampNeg⟩]) cells slots ∧ T'.heap = h' ∧ Wr h h' a j.toNatClampNeg (.ref y) ∧ OR Z h' a C n (fun i => if i = k then .ref y else f i) ∧
      ∀ t, Steps p.tables e below (T'.setTop { g with pc := g.pc + 1, stack := rest }) t → Steps p.tables e below (T.setTop g) t := by
  obtain ⟨cl, A', O', r1, r2, H⟩ := A
  have q1 : ¬ (j < 0 ∨ cl.slots.size ≤ j.toNatClampNeg) := by
    rintro (q | q)
    · exact hj q
    · omega
  obtain ⟨T', h', X', e', W', st⟩ := stR X hx hZ eT A' q1 rfl (Sto.of A' O' I) hg hs hd
  refine ⟨T', h', X', e', W', ⟨_, A'.same W', O', by rw [sz_set]; exact r1, r2, fun i hi => ?_⟩, st⟩
  obtain ⟨H1, H2⟩ := H i hi
  subst ek
  by_cases q : i = j.toNatClampNeg
  · subst q
    dsimp only
    rw [if_pos rfl]
    exact ⟨by simp [Cell.setSlot, r1, hi], rfl⟩
  · dsimp only
    rw [if_neg q]
    refine ⟨?_, H2⟩
    rw [← H1]
    simp [Cell.setSlot, Array.getElem?_setIfInBounds, Ne.symm q]
theorem own_raload (X : Stand p l e R s m args below meth c T locs cells slots) (hx : p.tables.exec = Jvm.exec) (hZ : Z.Warmed39 s.vm) (eT : T.heap = h) (A : OR Z h a C n f) (hj : ¬ j < 0) (ek : j.toNatClampNeg = k) (hk : k < n) (hv : f k = v)
    {g : JFrame} (hg : g.method = m) {rest : List Value} (hs : g.stack = .int j :: .ref a :: rest) (hd : decode c.code g.pc = .ok (.aaload, 1)) :
    ∀ t, Steps p.tables e below (T.setTop { g with pc := g.pc + 1, stack := v :: rest }) t → Steps p.tables e below (T.setTop g) t := by
  obtain ⟨cl, A', O', r1, r2, H⟩ := A
  have q1 : ¬ (j < 0 ∨ cl.slots.size ≤ j.toNatClampNeg) := by
    rintro (q | q)
    · exact hj q
    · omega
  subst hv
  exact fun t k' => X.aaload hx (by rw [eT]; exact A'.1) (State.isArrayOf_alike hZ.alike A'.2.1) rfl A'.2.2 q1 (by rw [ek]; exact (H k hk).1) hg hs hd t k'
theorem own_fits_ref {t : FieldType} {w : Value} (ht : t.isReference = true) (hw : w.isRef = true) : fits t w = true := by
  cases w <;> simp [Value.isRef] at hw <;> cases t <;> first | rfl | (simp [FieldType.isReference] at ht)
end OwnLayer
def own_strip (q : Nat) : Nat → Nat → Nat
  | 0, n => n
  | f + 1, n => if n % q = 0 then own_strip q f (n / q) else n
theorem own_strip_pos (q : Nat) (hq : 2 ≤ q) : ∀ f n, 0 < n → 0 < own_strip q f n ∧ own_strip q f n ≤ n
  | 0, n, h => ⟨h, Nat.le_refl _⟩
  | f + 1, n, h => by
    unfold own_strip
    by_cases c : n % q = 0
    · rw [if_pos c]
      have h1 : 0 < n / q := Nat.div_pos (Nat.le_of_dvd h (Nat.dvd_of_mod_eq_zero c)) (by omega)
      have h2 := own_strip_pos q hq f (n / q) h1
      have h3 : n / q ≤ n := Nat.div_le_self _ _
      omega
    · rw [if_neg c]
      exact ⟨h, Nat.le_refl _⟩
theorem own_strip2 : ∀ f n, 0 < n → n < 2 ^ f → ∃ k, n = 2 ^ k * own_strip 2 f n ∧ own_strip 2 f n % 2 = 1
  | 0, n, h, h2 => by simp at h2; omega
  | f + 1, n, h, h2 => by
    unfold own_strip
    by_cases c : n % 2 = 0
    · rw [if_pos c]
      obtain ⟨k, e, o⟩ := own_strip2 f (n / 2) (by omega) (by rw [Nat.pow_succ] at h2; omega)
      refine ⟨k + 1, ?_, o⟩
      have : n = 2 * (n / 2) := by omega
      rw [Nat.pow_succ, Nat.mul_comm (2 ^ k) 2, Nat.mul_assoc, ← e]
      exact this
    · rw [if_neg c]
      exact ⟨0, by simp, by omega⟩
theorem own_coprime5 (m : Nat) (h : m % 5 ≠ 0) : Nat.Coprime m 5 := by
  have h1 : Nat.gcd m 5 ∣ 5 := Nat.gcd_dvd_right m 5
  have h2 : Nat.gcd m 5 ∣ m := Nat.gcd_dvd_left m 5
  have h3 : Nat.gcd m 5 ≤ 5 := Nat.le_of_dvd (by decide) h1
  have h4 : Nat.gcd m 5 ≠ 5 := fun e => h (Nat.mod_eq_zero_of_dvd (e ▸ h2))
  show Nat.gcd m 5 = 1
  generalize Nat.gcd m 5 = g at h1 h2 h3 h4 ⊢
  match g, h1, h3, h4 with
  | 0, h1, _, _ => exact absurd h1 (by decide)
  | 1, _, _, _ => rfl
  | 2, h1, _, _ => exact absurd h1 (by decide)
  | 3, h1, _, _ => exact absurd h1 (by decide)
  | 4, h1, _, _ => exact absurd h1 (by decide)
  | 5, _, _, h4 => exact absurd rfl h4
  | g + 6, _, h3, _ => omega
theorem own_strip5_of : ∀ j f m, 0 < m → m < 2 ^ f → m ∣ 5 ^ j → own_strip 5 f m = 1
  | j, 0, m, h, h2, _ => by simp at h2; omega
  | 0, f + 1, m, h, h2, hd => by
    have : m = 1 := by simpa using hd
    subst this
    rfl
  | j + 1, f + 1, m, h, h2, hd => by
    unfold own_strip
    by_cases c : m % 5 = 0
    · rw [if_pos c]
      have e : m = 5 * (m / 5) := by omega
      refine own_strip5_of j f (m / 5) (by omega) (by rw [Nat.pow_succ] at h2; omega) ?_
      rw [e, Nat.pow_succ, Nat.mul_comm (5 ^ j) 5] at hd
      exact Nat.dvd_of_mul_dvd_mul_left (by decide) hd
    · rw [if_neg c]
      have q : Nat.Coprime m (5 ^ (j + 1)) := (own_coprime5 m c).pow_right _
      have : m ∣ 1 := by
        have := q.dvd_of_dvd_mul_left (m := 5 ^ (j + 1)) (n := 1) (by rw [Nat.mul_one]; exact hd)
        exact this
      simpa using this
theorem own_pow_of5 : ∀ f m, 0 < m → m < 2 ^ f → own_strip 5 f m = 1 → ∃ j, m = 5 ^ j
  | 0, m, h, h2, _ => by simp at h2; omega
  | f + 1, m, h, h2, e => by
    unfold own_strip at e
    by_cases c : m % 5 = 0
    · rw [if_pos c] at e
      obtain ⟨j, hj⟩ := own_pow_of5 f (m / 5) (by omega) (by rw [Nat.pow_succ] at h2; omega) e
      refine ⟨j + 1, ?_⟩
      rw [Nat.pow_succ, ← hj]
      omega
    · rw [if_neg c] at e
      exact ⟨0, e⟩
theorem own_five (m : Nat) (h : 0 < m) (h2 : m < 2 ^ 31) : own_strip 5 31 m = 1 ↔ 1220703125 % m = 0 := by
  have e13 : (1220703125 : Nat) = 5 ^ 13 := by decide
  constructor
  · intro e
    obtain ⟨j, rfl⟩ := own_pow_of5 31 m h h2 e
    have hj : j ≤ 13 := by
      refine Decidable.byContradiction fun q => ?_
      have : 5 ^ 14 ≤ 5 ^ j := Nat.pow_le_pow_right (by decide) (by omega)
      have e14 : (5 : Nat) ^ 14 = 6103515625 := by decide
      omega
    rw [e13]
    exact Nat.mod_eq_zero_of_dvd (Nat.pow_dvd_pow 5 hj)
  · intro e
    refine own_strip5_of 13 31 m h h2 ?_
    rw [← e13]
    exact Nat.dvd_of_mod_eq_zero e
theorem own_ne (b : Nat) (h : b < 2 ^ 31) (k : Int) (hk : (b : Int) ≠ k) (y : Int32) (hy : y.toInt = k) : Int32.ofNat b ≠ y := fun e => hk (by rw [← own_toInt b h, e, hy])
theorem own_div (a b : Nat) (ha : a < 2 ^ 31) (hb : b < 2 ^ 31) : Int32.ofNat a / Int32.ofNat b = Int32.ofNat (a / b) := by
  have hl : a / b < 2 ^ 31 := Nat.lt_of_le_of_lt (Nat.div_le_self _ _) ha
  refine own_eq hl ?_
  rw [Int32.toInt_div_of_ne_right _ _ (own_ne b hb (-1) (by omega) (-1) rfl), own_toInt a ha, own_toInt b hb]
  rfl
theorem own_mod (a b : Nat) (ha : a < 2 ^ 31) (hb : b < 2 ^ 31) : Int32.ofNat a % Int32.ofNat b = Int32.ofNat (a % b) := by
  have hl : a % b < 2 ^ 31 := Nat.lt_of_le_of_lt (Nat.mod_le _ _) ha
  refine own_eq hl ?_
  rw [Int32.toInt_mod, own_toInt a ha, own_toInt b hb]
  rfl
theorem own_zero (a : Nat) (ha : a < 2 ^ 31) : Int32.ofNat a = 0 ↔ a = 0 := by
  rw [← Int32.toInt_inj, own_toInt a ha]
  have : (0 : Int32).toInt = 0 := rfl
  rw [this]
  omega
theorem own_one (a : Nat) (ha : a < 2 ^ 31) : Int32.ofNat a = 1 ↔ a = 1 := by
  rw [← Int32.toInt_inj, own_toInt a ha]
  have : (1 : Int32).toInt = 1 := rfl
  rw [this]
  omega
theorem own_and_neg (m j : Nat) (hm : m % 2 = 1) (hj : m < 2 ^ j) : m &&& (2 ^ j - m) = 1 := by
  obtain ⟨a, rfl⟩ : ∃ a, m = 2 * a + 1 := ⟨m / 2, by omega⟩
  refine Nat.eq_of_testBit_eq fun i => ?_
  rw [Nat.testBit_and, Nat.testBit_two_pow_sub_succ (x := 2 * a) (by omega)]
  have h0 : 0 < j := by
    rcases j with _ | j
    · simp at hj
    · omega
  rcases i with _ | i
  · simp [h0]
  · have e1 : (2 * a + 1).testBit (i + 1) = a.testBit i := by rw [Nat.testBit_succ]; congr 1; omega
    have e2 : (2 * a).testBit (i + 1) = a.testBit i := by rw [Nat.testBit_succ]; congr 1; omega
    have e3 : (1 : Nat).testBit (i + 1) = false := by rw [Nat.testBit_succ]; simp
    rw [e1, e2, e3]
    cases a.testBit i <;> simp
theorem own_low (n k m : Nat) (h : n = 2 ^ k * m) (hm : m % 2 = 1) (hn : n < 2 ^ 31) : Int32.ofNat n &&& -(Int32.ofNat n) = Int32.ofNat (2 ^ k) := by
  have hm0 : 0 < m := by omega
  have hk : 2 ^ k ≤ n := by rw [h]; exact Nat.le_mul_of_pos_right _ hm0
  have hk31 : k < 31 := (Nat.pow_lt_pow_iff_right (a := 2) (by decide)).mp (Nat.lt_of_le_of_lt hk hn)
  have hn0 : 0 < n := Nat.lt_of_lt_of_le (Nat.two_pow_pos k) hk
  rw [← Int32.toBitVec_inj]
  refine BitVec.eq_of_toNat_eq ?_
  rw [Int32.toBitVec_and, Int32.toBitVec_neg, Int32.toBitVec_ofNat', Int32.toBitVec_ofNat', BitVec.toNat_and, BitVec.toNat_neg, BitVec.toNat_ofNat, BitVec.toNat_ofNat]
  have e1 : n % 2 ^ 32 = n := Nat.mod_eq_of_lt (by omega)
  have e2 : 2 ^ k % 2 ^ 32 = 2 ^ k := Nat.mod_eq_of_lt (by omega)
  have e3 : (2 ^ 32 - n) % 2 ^ 32 = 2 ^ 32 - n := Nat.mod_eq_of_lt (by omega)
  rw [e1, e2, e3]
  have hp : (2 : Nat) ^ 32 = 2 ^ k * 2 ^ (32 - k) := by rw [← Nat.pow_add]; congr 1; omega
  have hmlt : m < 2 ^ (32 - k) := by
    have : 2 ^ k * m < 2 ^ k * 2 ^ (32 - k) := by rw [← hp, ← h]; omega
    exact Nat.lt_of_mul_lt_mul_left this
  have e4 : 2 ^ 32 - n = 2 ^ k * (2 ^ (32 - k) - m) := by rw [Nat.mul_sub, ← hp, ← h]
  rw [e4, h]
  have s1 : ∀ z : Nat, 2 ^ k * z = z <<< k := fun z => by rw [Nat.shiftLeft_eq, Nat.mul_comm]
  rw [s1, s1, ← Nat.shiftLeft_and_distrib, own_and_neg m (32 - k) hm hmlt, Nat.shiftLeft_eq, Nat.one_mul]
theorem own_odd (n : Nat) (h0 : 0 < n) (hn : n < 2 ^ 31) : Int32.ofNat n &&& -(Int32.ofNat n) ≠ 0 ∧ Int32.ofNat n / (Int32.ofNat n &&& -(Int32.ofNat n)) = Int32.ofNat (own_strip 2 31 n) := by
  obtain ⟨k, e, o⟩ := own_strip2 31 n h0 hn
  rw [own_low n k _ e o hn]
  have hk : 2 ^ k ≤ n := by
    have := (own_strip_pos 2 (by decide) 31 n h0).1
    have h2 := Nat.le_mul_of_pos_right (2 ^ k) this
    rw [← e] at h2
    exact h2
  have hk2 : 2 ^ k < 2 ^ 31 := Nat.lt_of_le_of_lt hk hn
  have hp := Nat.two_pow_pos k
  refine ⟨fun q => ?_, ?_⟩
  · have := (own_zero _ hk2).mp q
    omega
  · rw [own_div _ _ hn hk2]
    congr 1
    have := Nat.mul_div_cancel_left (own_strip 2 31 n) hp
    rw [← e] at this
    exact this
theorem own_start (x : Int32) : ∃ n : Nat, n < 2 ^ 31 ∧ x &&& 2147483647 = Int32.ofNat n := by
  obtain ⟨q1, q2⟩ := c_and x 2147483647 (by decide)
  have q3 : (2147483647 : Int32).toInt = 2147483647 := rfl
  exact ⟨(x &&& 2147483647).toInt.toNat, by omega, own_eq (by omega) (by omega)⟩
theorem ef_de (m : MethodId) (x0 : Int32) : entryFrame m #[(.int x0)] 6 = mkF m 0 #[.val (.int x0), .unset, .unset, .unset, .unset, .unset] [] := by first | (simp [entryFrame, mkF, argsToLocals, Value.category]; done) | rfl
theorem pn_com_example_strikeshift_strikeshift_DeliverableNotice : plainName "com/example/strikeshift/strikeshift/DeliverableNotice" = true := by first | (simp [plainName, overriddenIn]; done) | decide +kernel
theorem d_prog_11_method_2_code_0 : decode prog_11_method_2_code 0 = .ok (.iload_n 0, 1) := by decide +kernel
theorem d_prog_11_method_2_code_1 : decode prog_11_method_2_code 1 = .ok (.istore_n 1, 1) := by decide +kernel
theorem d_prog_11_method_2_code_2 : decode prog_11_method_2_code 2 = .ok (.iconst 2, 1) := by decide +kernel
theorem d_prog_11_method_2_code_3 : decode prog_11_method_2_code 3 = .ok (.newarray .int, 2) := by decide +kernel
theorem d_prog_11_method_2_code_5 : decode prog_11_method_2_code 5 = .ok (.dup, 1) := by decide +kernel
theorem d_prog_11_method_2_code_6 : decode prog_11_method_2_code 6 = .ok (.iconst 0, 1) := by decide +kernel
theorem d_prog_11_method_2_code_7 : decode prog_11_method_2_code 7 = .ok (.iconst 2, 1) := by decide +kernel
theorem d_prog_11_method_2_code_8 : decode prog_11_method_2_code 8 = .ok (.iastore, 1) := by decide +kernel
theorem d_prog_11_method_2_code_9 : decode prog_11_method_2_code 9 = .ok (.dup, 1) := by decide +kernel
theorem d_prog_11_method_2_code_10 : decode prog_11_method_2_code 10 = .ok (.iconst 1, 1) := by decide +kernel
theorem d_prog_11_method_2_code_11 : decode prog_11_method_2_code 11 = .ok (.iconst 5, 1) := by decide +kernel
theorem d_prog_11_method_2_code_12 : decode prog_11_method_2_code 12 = .ok (.iastore, 1) := by decide +kernel
theorem d_prog_11_method_2_code_13 : decode prog_11_method_2_code 13 = .ok (.astore_n 2, 1) := by decide +kernel
theorem d_prog_11_method_2_code_14 : decode prog_11_method_2_code 14 = .ok (.aload_n 2, 1) := by decide +kernel
theorem d_prog_11_method_2_code_15 : decode prog_11_method_2_code 15 = .ok (.arraylength, 1) := by decide +kernel
theorem d_prog_11_method_2_code_16 : decode prog_11_method_2_code 16 = .ok (.istore_n 3, 1) := by decide +kernel
theorem d_prog_11_method_2_code_17 : decode prog_11_method_2_code 17 = .ok (.iconst 0, 1) := by decide +kernel
theorem d_prog_11_method_2_code_18 : decode prog_11_method_2_code 18 = .ok (.istore 4, 2) := by decide +kernel
theorem d_prog_11_method_2_code_20 : decode prog_11_method_2_code 20 = .ok (.iload 4, 2) := by decide +kernel
theorem d_prog_11_method_2_code_22 : decode prog_11_method_2_code 22 = .ok (.iload_n 3, 1) := by decide +kernel
theorem d_prog_11_method_2_code_23 : decode prog_11_method_2_code 23 = .ok (.if_icmp .ge 30, 3) := by decide +kernel
theorem d_prog_11_method_2_code_26 : decode prog_11_method_2_code 26 = .ok (.aload_n 2, 1) := by decide +kernel
theorem d_prog_11_method_2_code_27 : decode prog_11_method_2_code 27 = .ok (.iload 4, 2) := by decide +kernel
theorem d_prog_11_method_2_code_29 : decode prog_11_method_2_code 29 = .ok (.iaload, 1) := by decide +kernel
theorem d_prog_11_method_2_code_30 : decode prog_11_method_2_code 30 = .ok (.istore 5, 2) := by decide +kernel
theorem d_prog_11_method_2_code_32 : decode prog_11_method_2_code 32 = .ok (.iload_n 1, 1) := by decide +kernel
theorem d_prog_11_method_2_code_33 : decode prog_11_method_2_code 33 = .ok (.iload 5, 2) := by decide +kernel
theorem d_prog_11_method_2_code_35 : decode prog_11_method_2_code 35 = .ok (.irem, 1) := by decide +kernel
theorem d_prog_11_method_2_code_36 : decode prog_11_method_2_code 36 = .ok (.ifCond .ne 11, 3) := by decide +kernel
theorem d_prog_11_method_2_code_39 : decode prog_11_method_2_code 39 = .ok (.iload_n 1, 1) := by decide +kernel
theorem d_prog_11_method_2_code_40 : decode prog_11_method_2_code 40 = .ok (.iload 5, 2) := by decide +kernel
theorem d_prog_11_method_2_code_42 : decode prog_11_method_2_code 42 = .ok (.idiv, 1) := by decide +kernel
theorem d_prog_11_method_2_code_43 : decode prog_11_method_2_code 43 = .ok (.istore_n 1, 1) := by decide +kernel
theorem d_prog_11_method_2_code_44 : decode prog_11_method_2_code 44 = .ok (.goto (-12), 3) := by decide +kernel
theorem d_prog_11_method_2_code_47 : decode prog_11_method_2_code 47 = .ok (.iinc 4 1, 3) := by decide +kernel
theorem d_prog_11_method_2_code_50 : decode prog_11_method_2_code 50 = .ok (.goto (-30), 3) := by decide +kernel
theorem d_prog_11_method_2_code_53 : decode prog_11_method_2_code 53 = .ok (.iload_n 1, 1) := by decide +kernel
theorem d_prog_11_method_2_code_54 : decode prog_11_method_2_code 54 = .ok (.iconst 1, 1) := by decide +kernel
theorem d_prog_11_method_2_code_55 : decode prog_11_method_2_code 55 = .ok (.if_icmp .ne 7, 3) := by decide +kernel
theorem d_prog_11_method_2_code_58 : decode prog_11_method_2_code 58 = .ok (.iconst 1, 1) := by decide +kernel
theorem d_prog_11_method_2_code_59 : decode prog_11_method_2_code 59 = .ok (.goto 4, 3) := by decide +kernel
theorem d_prog_11_method_2_code_63 : decode prog_11_method_2_code 63 = .ok (.ireturn, 1) := by decide +kernel
theorem d_prog_11_method_2_code_62 : decode prog_11_method_2_code 62 = .ok (.iconst 0, 1) := by decide +kernel
def Q_de (Z : State) (n : Nat) (h0 : Heap) (n0 : Nat) (v : Option Value) (h : Heap) (L : List Loc) : Prop := v = some (.int (if own_strip 5 31 (own_strip 2 31 n) = 1 then 1 else 0)) ∧ Fr n0 L
set_option maxRecDepth 65536 in
set_option maxHeartbeats 40000000 in
theorem rm_de (l : Launch) (Z : State) (a0 : Array Value) (hw : ∀ d ∈ tables_1, d.before a0 Z = true) (ws : List Jvm.Cond) (n : Nat) (h0 : Heap) (n0 : Nat) (Z0 : n0 ≤ h0.size) (hn0 : 0 < n) (hn : n < 2 ^ 31) :
    MetFree l (⟨"com/example/strikeshift/strikeshift/DeliverableNotice", "dividesExactly", "(I)Z"⟩ : MethodName) (head1 (Jvm.Cond.code (⟨"com/example/strikeshift/strikeshift/DeliverableNotice", "dividesExactly", "(I)Z"⟩ : MethodName) prog_11_method_2_code 6 (some .boolean) :: ws) ({ frames := 0, cells := 1, slots := 2, locals := 0 } : Room)) (fun a U => a = #[(.int (Int32.ofNat n))] ∧ Z.Warmed39 U.vm ∧ U.heap = h0) (fun _ _ _ _ _ => True) (fun _ U o U' => ∃ v L, o = .returned v ∧ Q_de Z n h0 n0 v U'.heap L ∧ FrameEnd U o U' L ({ frames := 0, cells := 1, slots := 2, locals := 0 } : Room).cells ({ frames := 0, cells := 1, slots := 2, locals := 0 } : Room).slots) := by
  refine MetFree.of_bodySF (plainFor_of_name pn_com_example_strikeshift_strikeshift_DeliverableNotice) hisR ?_
  intro p ee s m args below meth cc s₁ Bd hml0 hP hK
  obtain ⟨rfl, hZ, hh⟩ := hP
  have hx := Bd.exec
  have hby := Bd.bytes
  have hml : cc.maxLocals = 6 := hml0
  have hown : s.vm.findClass "com/example/strikeshift/strikeshift/DeliverableNotice" = some m.cls := findClass_of_methodNamed Bd.named
  have hnm := (name_of_methodNamed Bd.named Bd.method).1
  have X0 : Stand p l ee ({ frames := 0, cells := 1, slots := 2, locals := 0 } : Room) s m #[(.int (Int32.ofNat n))] below meth cc s₁ [] 0 0 := Stand.of_body Bd
  have e0 : s₁.heap = h0 := by rw [← hh, Bd.state]; rfl
  have N0 := Fr.nil n0
  show Goes p ee below s ({ frames := 0, cells := 1, slots := 2, locals := 0 } : Room).cells ({ frames := 0, cells := 1, slots := 2, locals := 0 } : Room).slots (Q_de Z n h0 n0) (s₁.setTop (entryFrame m #[(.int (Int32.ofNat n))] 6))
  refine Goes.step (fun _ hr_ => castTop (ef_de m (Int32.ofNat n)) hr_) ?_
  show Goes p ee below s _ _ _ (s₁.setTop (mkF m 0 #[.val (.int (Int32.ofNat n)), .unset, .unset, .unset, .unset, .unset] []))
  refine Goes.step (fun _ hr_ => XS.iloadN X0.here hx rfl (hb hby d_prog_11_method_2_code_0) rfl  hr_) ?_
  show Goes p ee below s _ _ _ (s₁.setTop (mkF m 1 #[.val (.int (Int32.ofNat n)), .unset, .unset, .unset, .unset, .unset] [(.int (Int32.ofNat n))]))
  refine Goes.step (fun _ hr_ => XS.istoreN X0.here hx rfl (hb hby d_prog_11_method_2_code_1) rfl  (l' := #[.val (.int (Int32.ofNat n)), .val (.int (Int32.ofNat n)), .unset, .unset, .unset, .unset]) rfl hr_) ?_
  show Goes p ee below s _ _ _ (s₁.setTop (mkF m 2 #[.val (.int (Int32.ofNat n)), .val (.int (Int32.ofNat n)), .unset, .unset, .unset, .unset] []))
  refine Goes.step (fun _ hr_ => XS.iconst X0.here hx rfl (hb hby d_prog_11_method_2_code_2) hr_) ?_
  show Goes p ee below s _ _ _ (s₁.setTop (mkF m 3 #[.val (.int (Int32.ofNat n)), .val (.int (Int32.ofNat n)), .unset, .unset, .unset, .unset] [(.int (2 : Int32))]))
  obtain ⟨T1, h1, X1, e1, E1, A1, st1⟩ := own_newP X0 hx hZ (aty := .int) (hw _ (List.mem_of_getElem? (i := 6) rfl)) e0 (z := (2 : Int32)) (by decide) (n := 2) rfl (cap := 2) (Nat.le_refl _) (by decide) (by decide) (by decide) (g := (mkF m 3 #[.val (.int (Int32.ofNat n)), .val (.int (Int32.ofNat n)), .unset, .unset, .unset, .unset] [(.int (2 : Int32))])) rfl rfl (hb hby d_prog_11_method_2_code_3)
  obtain ⟨b1, g_b1⟩ : ∃ z, z = h0.size := ⟨_, rfl⟩
  have ge_b1 : n0 ≤ b1 := Nat.le_trans Z0 (Nat.le_of_eq g_b1.symm)
  rw [← g_b1] at A1 st1
  have Zp2 := Nat.le_trans Z0 E1.1
  refine Goes.step st1 ?_
  have A_b1 : OA Z h1 b1 .int 2 (fun _ => (.int 0)) := A1
  show Goes p ee below s _ _ _ (T1.setTop (mkF m 5 #[.val (.int (Int32.ofNat n)), .val (.int (Int32.ofNat n)), .unset, .unset, .unset, .unset] [(.ref b1)]))
  refine Goes.step (fun _ hr_ => XS.dup X1.here hx rfl (hb hby d_prog_11_method_2_code_5) rfl rfl hr_) ?_
  show Goes p ee below s _ _ _ (T1.setTop (mkF m 6 #[.val (.int (Int32.ofNat n)), .val (.int (Int32.ofNat n)), .unset, .unset, .unset, .unset] [(.ref b1), (.ref b1)]))
  refine Goes.step (fun _ hr_ => XS.iconst X1.here hx rfl (hb hby d_prog_11_method_2_code_6) hr_) ?_
  show Goes p ee below s _ _ _ (T1.setTop (mkF m 7 #[.val (.int (Int32.ofNat n)), .val (.int (Int32.ofNat n)), .unset, .unset, .unset, .unset] [(.int (0 : Int32)), (.ref b1), (.ref b1)]))
  refine Goes.step (fun _ hr_ => XS.iconst X1.here hx rfl (hb hby d_prog_11_method_2_code_7) hr_) ?_
  show Goes p ee below s _ _ _ (T1.setTop (mkF m 8 #[.val (.int (Int32.ofNat n)), .val (.int (Int32.ofNat n)), .unset, .unset, .unset, .unset] [(.int (2 : Int32)), (.int (0 : Int32)), (.ref b1), (.ref b1)]))
  obtain ⟨T3, h3, X3, e3, W3, A3, st3⟩ := own_stI X1 hx hZ e1 A_b1 (x := (2 : Int32)) (j := (0 : Int32)) (by decide) (k := 0) rfl (by decide) (g := (mkF m 8 #[.val (.int (Int32.ofNat n)), .val (.int (Int32.ofNat n)), .unset, .unset, .unset, .unset] [(.int (2 : Int32)), (.int (0 : Int32)), (.ref b1), (.ref b1)])) rfl rfl (hb hby d_prog_11_method_2_code_8)
  refine Goes.step st3 ?_
  have Zp4 := Nat.le_trans Zp2 (Keep.of_wr W3).1
  have N5 := Fr.snoc X3 N0 ge_b1
  have A_b1 : OA Z h3 b1 .int 2 (fun i => [(.int (2 : Int32)), (.int 0)].getD i (.int 0)) := A3.congr (fun i hi => by match i, hi with | 0, _ => rfl | 1, _ => rfl | i + 2, hi => omega)
  show Goes p ee below s _ _ _ (T3.setTop (mkF m 9 #[.val (.int (Int32.ofNat n)), .val (.int (Int32.ofNat n)), .unset, .unset, .unset, .unset] [(.ref b1)]))
  refine Goes.step (fun _ hr_ => XS.dup X3.here hx rfl (hb hby d_prog_11_method_2_code_9) rfl rfl hr_) ?_
  show Goes p ee below s _ _ _ (T3.setTop (mkF m 10 #[.val (.int (Int32.ofNat n)), .val (.int (Int32.ofNat n)), .unset, .unset, .unset, .unset] [(.ref b1), (.ref b1)]))
  refine Goes.step (fun _ hr_ => XS.iconst X3.here hx rfl (hb hby d_prog_11_method_2_code_10) hr_) ?_
  show Goes p ee below s _ _ _ (T3.setTop (mkF m 11 #[.val (.int (Int32.ofNat n)), .val (.int (Int32.ofNat n)), .unset, .unset, .unset, .unset] [(.int (1 : Int32)), (.ref b1), (.ref b1)]))
  refine Goes.step (fun _ hr_ => XS.iconst X3.here hx rfl (hb hby d_prog_11_method_2_code_11) hr_) ?_
  show Goes p ee below s _ _ _ (T3.setTop (mkF m 12 #[.val (.int (Int32.ofNat n)), .val (.int (Int32.ofNat n)), .unset, .unset, .unset, .unset] [(.int (5 : Int32)), (.int (1 : Int32)), (.ref b1), (.ref b1)]))
  obtain ⟨T6, h6, X6, e6, W6, A6, st6⟩ := own_stI X3 hx hZ e3 A_b1 (x := (5 : Int32)) (j := (1 : Int32)) (by decide) (k := 1) rfl (by decide) (g := (mkF m 12 #[.val (.int (Int32.ofNat n)), .val (.int (Int32.ofNat n)), .unset, .unset, .unset, .unset] [(.int (5 : Int32)), (.int (1 : Int32)), (.ref b1), (.ref b1)])) rfl rfl (hb hby d_prog_11_method_2_code_12)
  refine Goes.step st6 ?_
  have Zp7 := Nat.le_trans Zp4 (Keep.of_wr W6).1
  have N8 := Fr.snoc X6 N5 ge_b1
  have A_b1 : OA Z h6 b1 .int 2 (fun i => [(.int (2 : Int32)), (.int (5 : Int32))].getD i (.int 0)) := A6.congr (fun i hi => by match i, hi with | 0, _ => rfl | 1, _ => rfl | i + 2, hi => omega)
  show Goes p ee below s _ _ _ (T6.setTop (mkF m 13 #[.val (.int (Int32.ofNat n)), .val (.int (Int32.ofNat n)), .unset, .unset, .unset, .unset] [(.ref b1)]))
  refine Goes.step (fun _ hr_ => XS.astoreN X6.here hx rfl (hb hby d_prog_11_method_2_code_13) rfl rfl (l' := #[.val (.int (Int32.ofNat n)), .val (.int (Int32.ofNat n)), .val (.ref b1), .unset, .unset, .unset]) rfl hr_) ?_
  show Goes p ee below s _ _ _ (T6.setTop (mkF m 14 #[.val (.int (Int32.ofNat n)), .val (.int (Int32.ofNat n)), .val (.ref b1), .unset, .unset, .unset] []))
  refine Goes.step (fun _ hr_ => XS.aloadN X6.here hx rfl (hb hby d_prog_11_method_2_code_14) rfl rfl hr_) ?_
  show Goes p ee below s _ _ _ (T6.setTop (mkF m 15 #[.val (.int (Int32.ofNat n)), .val (.int (Int32.ofNat n)), .val (.ref b1), .unset, .unset, .unset] [(.ref b1)]))
  refine Goes.step (own_alen X6 hx hZ e6 A_b1 (z := (2 : Int32)) rfl (g := (mkF m 15 #[.val (.int (Int32.ofNat n)), .val (.int (Int32.ofNat n)), .val (.ref b1), .unset, .unset, .unset] [(.ref b1)])) rfl rfl (hb hby d_prog_11_method_2_code_15)) ?_
  show Goes p ee below s _ _ _ (T6.setTop (mkF m 16 #[.val (.int (Int32.ofNat n)), .val (.int (Int32.ofNat n)), .val (.ref b1), .unset, .unset, .unset] [(.int (2 : Int32))]))
  refine Goes.step (fun _ hr_ => XS.istoreN X6.here hx rfl (hb hby d_prog_11_method_2_code_16) rfl  (l' := #[.val (.int (Int32.ofNat n)), .val (.int (Int32.ofNat n)), .val (.ref b1), .val (.int (2 : Int32)), .unset, .unset]) rfl hr_) ?_
  show Goes p ee below s _ _ _ (T6.setTop (mkF m 17 #[.val (.int (Int32.ofNat n)), .val (.int (Int32.ofNat n)), .val (.ref b1), .val (.int (2 : Int32)), .unset, .unset] []))
  refine Goes.step (fun _ hr_ => XS.iconst X6.here hx rfl (hb hby d_prog_11_method_2_code_17) hr_) ?_
  show Goes p ee below s _ _ _ (T6.setTop (mkF m 18 #[.val (.int (Int32.ofNat n)), .val (.int (Int32.ofNat n)), .val (.ref b1), .val (.int (2 : Int32)), .unset, .unset] [(.int (0 : Int32))]))
  refine Goes.step (fun _ hr_ => XS.istore X6.here hx rfl (hb hby d_prog_11_method_2_code_18) rfl  (l' := #[.val (.int (Int32.ofNat n)), .val (.int (Int32.ofNat n)), .val (.ref b1), .val (.int (2 : Int32)), .val (.int (0 : Int32)), .unset]) rfl hr_) ?_
  show Goes p ee below s _ _ _ (T6.setTop (mkF m 20 #[.val (.int (Int32.ofNat n)), .val (.int (Int32.ofNat n)), .val (.ref b1), .val (.int (2 : Int32)), .val (.int (0 : Int32)), .unset] []))
  refine Goes.step (fun _ hr_ => XS.iload X6.here hx rfl (hb hby d_prog_11_method_2_code_20) rfl  hr_) ?_
  show Goes p ee below s _ _ _ (T6.setTop (mkF m 22 #[.val (.int (Int32.ofNat n)), .val (.int (Int32.ofNat n)), .val (.ref b1), .val (.int (2 : Int32)), .val (.int (0 : Int32)), .unset] [(.int (0 : Int32))]))
  refine Goes.step (fun _ hr_ => XS.iloadN X6.here hx rfl (hb hby d_prog_11_method_2_code_22) rfl  hr_) ?_
  show Goes p ee below s _ _ _ (T6.setTop (mkF m 23 #[.val (.int (Int32.ofNat n)), .val (.int (Int32.ofNat n)), .val (.ref b1), .val (.int (2 : Int32)), .val (.int (0 : Int32)), .unset] [(.int (2 : Int32)), (.int (0 : Int32))]))
  refine Goes.step (fun _ hr_ => XS.icmpNo X6.here hx rfl (hb hby d_prog_11_method_2_code_23) rfl (tlt (by decide)).2.1 hr_) ?_
  show Goes p ee below s _ _ _ (T6.setTop (mkF m 26 #[.val (.int (Int32.ofNat n)), .val (.int (Int32.ofNat n)), .val (.ref b1), .val (.int (2 : Int32)), .val (.int (0 : Int32)), .unset] []))
  refine Goes.step (fun _ hr_ => XS.aloadN X6.here hx rfl (hb hby d_prog_11_method_2_code_26) rfl rfl hr_) ?_
  show Goes p ee below s _ _ _ (T6.setTop (mkF m 27 #[.val (.int (Int32.ofNat n)), .val (.int (Int32.ofNat n)), .val (.ref b1), .val (.int (2 : Int32)), .val (.int (0 : Int32)), .unset] [(.ref b1)]))
  refine Goes.step (fun _ hr_ => XS.iload X6.here hx rfl (hb hby d_prog_11_method_2_code_27) rfl  hr_) ?_
  show Goes p ee below s _ _ _ (T6.setTop (mkF m 29 #[.val (.int (Int32.ofNat n)), .val (.int (Int32.ofNat n)), .val (.ref b1), .val (.int (2 : Int32)), .val (.int (0 : Int32)), .unset] [(.int (0 : Int32)), (.ref b1)]))
  refine Goes.step (own_iaload X6 hx hZ e6 A_b1 (j := (0 : Int32)) (by decide) (k := 0) rfl (by decide) (v := (.int (2 : Int32))) rfl (g := (mkF m 29 #[.val (.int (Int32.ofNat n)), .val (.int (Int32.ofNat n)), .val (.ref b1), .val (.int (2 : Int32)), .val (.int (0 : Int32)), .unset] [(.int (0 : Int32)), (.ref b1)])) rfl rfl (hb hby d_prog_11_method_2_code_29)) ?_
  show Goes p ee below s _ _ _ (T6.setTop (mkF m 30 #[.val (.int (Int32.ofNat n)), .val (.int (Int32.ofNat n)), .val (.ref b1), .val (.int (2 : Int32)), .val (.int (0 : Int32)), .unset] [(.int (2 : Int32))]))
  refine Goes.step (fun _ hr_ => XS.istore X6.here hx rfl (hb hby d_prog_11_method_2_code_30) rfl  (l' := #[.val (.int (Int32.ofNat n)), .val (.int (Int32.ofNat n)), .val (.ref b1), .val (.int (2 : Int32)), .val (.int (0 : Int32)), .val (.int (2 : Int32))]) rfl hr_) ?_
  show Goes p ee below s _ _ _ (T6.setTop (mkF m 32 #[.val (.int (Int32.ofNat n)), .val (.int (Int32.ofNat n)), .val (.ref b1), .val (.int (2 : Int32)), .val (.int (0 : Int32)), .val (.int (2 : Int32))] []))
  have inner : ∀ (q : Nat) (hq0 : 2 ≤ q) (hq : q < 2 ^ 31) (i4 : Int32) (f y : Nat), 0 < y → y < 2 ^ f → y < 2 ^ 31 → ∀ t, Steps p.tables ee below (T6.setTop (mkF m 47 #[.val (.int (Int32.ofNat n)), .val (.int (Int32.ofNat (own_strip q f y))), .val (.ref b1), .val (.int (2 : Int32)), .val (.int i4), .val (.int (Int32.ofNat q))] [])) t → Steps p.tables ee below (T6.setTop (mkF m 32 #[.val (.int (Int32.ofNat n)), .val (.int (Int32.ofNat y)), .val (.ref b1), .val (.int (2 : Int32)), .val (.int i4), .val (.int (Int32.ofNat q))] [])) t := by
    intro q hq0 hq i4 f
    induction f with
    | zero => intro y h1 h2; simp at h2; omega
    | succ f ih =>
      intro y h1 h2 h3 t kt
      show Steps p.tables ee below (T6.setTop (mkF m 32 #[.val (.int (Int32.ofNat n)), .val (.int (Int32.ofNat y)), .val (.ref b1), .val (.int (2 : Int32)), .val (.int i4), .val (.int (Int32.ofNat q))] [])) _
      refine XS.iloadN X6.here hx rfl (hb hby d_prog_11_method_2_code_32) rfl  ?_
      show Steps p.tables ee below (T6.setTop (mkF m 33 #[.val (.int (Int32.ofNat n)), .val (.int (Int32.ofNat y)), .val (.ref b1), .val (.int (2 : Int32)), .val (.int i4), .val (.int (Int32.ofNat q))] [(.int (Int32.ofNat y))])) _
      refine XS.iload X6.here hx rfl (hb hby d_prog_11_method_2_code_33) rfl  ?_
      show Steps p.tables ee below (T6.setTop (mkF m 35 #[.val (.int (Int32.ofNat n)), .val (.int (Int32.ofNat y)), .val (.ref b1), .val (.int (2 : Int32)), .val (.int i4), .val (.int (Int32.ofNat q))] [(.int (Int32.ofNat q)), (.int (Int32.ofNat y))])) _
      refine iremM (g := (mkF m 35 #[.val (.int (Int32.ofNat n)), .val (.int (Int32.ofNat y)), .val (.ref b1), .val (.int (2 : Int32)), .val (.int i4), .val (.int (Int32.ofNat q))] [(.int (Int32.ofNat q)), (.int (Int32.ofNat y))])) X6 hx rfl (hb hby d_prog_11_method_2_code_35) rfl (own_ne q hq 0 (by omega) 0 rfl) ?_
      show Steps p.tables ee below (T6.setTop (mkF m 36 #[.val (.int (Int32.ofNat n)), .val (.int (Int32.ofNat y)), .val (.ref b1), .val (.int (2 : Int32)), .val (.int i4), .val (.int (Int32.ofNat q))] [(.int ((Int32.ofNat y) % (Int32.ofNat q)))])) _
      rw [own_mod y q h3 hq]
      show Steps p.tables ee below (T6.setTop (mkF m 36 #[.val (.int (Int32.ofNat n)), .val (.int (Int32.ofNat y)), .val (.ref b1), .val (.int (2 : Int32)), .val (.int i4), .val (.int (Int32.ofNat q))] [(.int (Int32.ofNat (y % q)))])) _
      have hl : y % q < 2 ^ 31 := Nat.lt_of_le_of_lt (Nat.mod_le _ _) h3
      by_cases hm : y % q = 0
      · show Steps p.tables ee below (T6.setTop (mkF m 36 #[.val (.int (Int32.ofNat n)), .val (.int (Int32.ofNat y)), .val (.ref b1), .val (.int (2 : Int32)), .val (.int i4), .val (.int (Int32.ofNat q))] [(.int (Int32.ofNat (y % q)))])) _
        refine XS.ifNo X6.here hx rfl (hb hby d_prog_11_method_2_code_36) rfl ((if0 _ _).trans (teq ((own_zero _ hl).mpr hm)).2) ?_
        show Steps p.tables ee below (T6.setTop (mkF m 39 #[.val (.int (Int32.ofNat n)), .val (.int (Int32.ofNat y)), .val (.ref b1), .val (.int (2 : Int32)), .val (.int i4), .val (.int (Int32.ofNat q))] [])) _
        refine XS.iloadN X6.here hx rfl (hb hby d_prog_11_method_2_code_39) rfl  ?_
        show Steps p.tables ee below (T6.setTop (mkF m 40 #[.val (.int (Int32.ofNat n)), .val (.int (Int32.ofNat y)), .val (.ref b1), .val (.int (2 : Int32)), .val (.int i4), .val (.int (Int32.ofNat q))] [(.int (Int32.ofNat y))])) _
        refine XS.iload X6.here hx rfl (hb hby d_prog_11_method_2_code_40) rfl  ?_
        show Steps p.tables ee below (T6.setTop (mkF m 42 #[.val (.int (Int32.ofNat n)), .val (.int (Int32.ofNat y)), .val (.ref b1), .val (.int (2 : Int32)), .val (.int i4), .val (.int (Int32.ofNat q))] [(.int (Int32.ofNat q)), (.int (Int32.ofNat y))])) _
        refine XS.idiv X6.here hx rfl (hb hby d_prog_11_method_2_code_42) rfl (own_ne q hq 0 (by omega) 0 rfl) ?_
        show Steps p.tables ee below (T6.setTop (mkF m 43 #[.val (.int (Int32.ofNat n)), .val (.int (Int32.ofNat y)), .val (.ref b1), .val (.int (2 : Int32)), .val (.int i4), .val (.int (Int32.ofNat q))] [(.int ((Int32.ofNat y) / (Int32.ofNat q)))])) _
        rw [own_div y q h3 hq]
        show Steps p.tables ee below (T6.setTop (mkF m 43 #[.val (.int (Int32.ofNat n)), .val (.int (Int32.ofNat y)), .val (.ref b1), .val (.int (2 : Int32)), .val (.int i4), .val (.int (Int32.ofNat q))] [(.int (Int32.ofNat (y / q)))])) _
        refine XS.istoreN X6.here hx rfl (hb hby d_prog_11_method_2_code_43) rfl  (l' := #[.val (.int (Int32.ofNat n)), .val (.int (Int32.ofNat (y / q))), .val (.ref b1), .val (.int (2 : Int32)), .val (.int i4), .val (.int (Int32.ofNat q))]) rfl ?_
        show Steps p.tables ee below (T6.setTop (mkF m 44 #[.val (.int (Int32.ofNat n)), .val (.int (Int32.ofNat (y / q))), .val (.ref b1), .val (.int (2 : Int32)), .val (.int i4), .val (.int (Int32.ofNat q))] [])) _
        refine XS.goto X6.here hx rfl (pc0 := 44) (pc' := 32) rfl (hb hby d_prog_11_method_2_code_44) (by decide) (by decide) ?_
        show Steps p.tables ee below (T6.setTop (mkF m 32 #[.val (.int (Int32.ofNat n)), .val (.int (Int32.ofNat (y / q))), .val (.ref b1), .val (.int (2 : Int32)), .val (.int i4), .val (.int (Int32.ofNat q))] [])) _
        refine ih (y / q) (Nat.div_pos (Nat.le_of_dvd h1 (Nat.dvd_of_mod_eq_zero hm)) (by omega)) ?_ (Nat.lt_of_le_of_lt (Nat.div_le_self _ _) h3) t ?_
        · rw [Nat.pow_succ] at h2
          exact Nat.div_lt_of_lt_mul (Nat.lt_of_lt_of_le (Nat.lt_of_lt_of_eq h2 (Nat.mul_comm _ _)) (Nat.mul_le_mul_right _ hq0))
        · have q1 : own_strip q (f + 1) y = own_strip q f (y / q) := if_pos hm
          rw [q1] at kt
          exact kt
      · show Steps p.tables ee below (T6.setTop (mkF m 36 #[.val (.int (Int32.ofNat n)), .val (.int (Int32.ofNat y)), .val (.ref b1), .val (.int (2 : Int32)), .val (.int i4), .val (.int (Int32.ofNat q))] [(.int (Int32.ofNat (y % q)))])) _
        refine XS.ifYes X6.here hx rfl (pc0 := 36) (pc' := 47) rfl (hb hby d_prog_11_method_2_code_36) rfl ((if0 _ _).trans (feq (fun z => hm ((own_zero _ hl).mp z))).2) (by decide) (by decide) ?_
        show Steps p.tables ee below (T6.setTop (mkF m 47 #[.val (.int (Int32.ofNat n)), .val (.int (Int32.ofNat y)), .val (.ref b1), .val (.int (2 : Int32)), .val (.int i4), .val (.int (Int32.ofNat q))] [])) _
        have q1 : own_strip q (f + 1) y = y := if_neg hm
        rw [q1] at kt
        exact kt
  refine Goes.step (inner 2 (by decide) (by decide) _ 31 n hn0 hn hn) ?_
  show Goes p ee below s _ _ _ (T6.setTop (mkF m 47 #[.val (.int (Int32.ofNat n)), .val (.int (Int32.ofNat (own_strip 2 31 n))), .val (.ref b1), .val (.int (2 : Int32)), .val (.int (0 : Int32)), .val (.int (2 : Int32))] []))
  refine Goes.step (fun _ hr_ => XS.iinc X6.here hx rfl (hb hby d_prog_11_method_2_code_47) rfl (l' := #[.val (.int (Int32.ofNat n)), .val (.int (Int32.ofNat (own_strip 2 31 n))), .val (.ref b1), .val (.int (2 : Int32)), .val (.int (1 : Int32)), .val (.int (2 : Int32))]) rfl hr_) ?_
  show Goes p ee below s _ _ _ (T6.setTop (mkF m 50 #[.val (.int (Int32.ofNat n)), .val (.int (Int32.ofNat (own_strip 2 31 n))), .val (.ref b1), .val (.int (2 : Int32)), .val (.int (1 : Int32)), .val (.int (2 : Int32))] []))
  refine Goes.step (fun _ hr_ => XS.goto X6.here hx rfl (pc0 := 50) (pc' := 20) rfl (hb hby d_prog_11_method_2_code_50) (by decide) (by decide) hr_) ?_
  show Goes p ee below s _ _ _ (T6.setTop (mkF m 20 #[.val (.int (Int32.ofNat n)), .val (.int (Int32.ofNat (own_strip 2 31 n))), .val (.ref b1), .val (.int (2 : Int32)), .val (.int (1 : Int32)), .val (.int (2 : Int32))] []))
  refine Goes.step (fun _ hr_ => XS.iload X6.here hx rfl (hb hby d_prog_11_method_2_code_20) rfl  hr_) ?_
  show Goes p ee below s _ _ _ (T6.setTop (mkF m 22 #[.val (.int (Int32.ofNat n)), .val (.int (Int32.ofNat (own_strip 2 31 n))), .val (.ref b1), .val (.int (2 : Int32)), .val (.int (1 : Int32)), .val (.int (2 : Int32))] [(.int (1 : Int32))]))
  refine Goes.step (fun _ hr_ => XS.iloadN X6.here hx rfl (hb hby d_prog_11_method_2_code_22) rfl  hr_) ?_
  show Goes p ee below s _ _ _ (T6.setTop (mkF m 23 #[.val (.int (Int32.ofNat n)), .val (.int (Int32.ofNat (own_strip 2 31 n))), .val (.ref b1), .val (.int (2 : Int32)), .val (.int (1 : Int32)), .val (.int (2 : Int32))] [(.int (2 : Int32)), (.int (1 : Int32))]))
  refine Goes.step (fun _ hr_ => XS.icmpNo X6.here hx rfl (hb hby d_prog_11_method_2_code_23) rfl (tlt (by decide)).2.1 hr_) ?_
  show Goes p ee below s _ _ _ (T6.setTop (mkF m 26 #[.val (.int (Int32.ofNat n)), .val (.int (Int32.ofNat (own_strip 2 31 n))), .val (.ref b1), .val (.int (2 : Int32)), .val (.int (1 : Int32)), .val (.int (2 : Int32))] []))
  refine Goes.step (fun _ hr_ => XS.aloadN X6.here hx rfl (hb hby d_prog_11_method_2_code_26) rfl rfl hr_) ?_
  show Goes p ee below s _ _ _ (T6.setTop (mkF m 27 #[.val (.int (Int32.ofNat n)), .val (.int (Int32.ofNat (own_strip 2 31 n))), .val (.ref b1), .val (.int (2 : Int32)), .val (.int (1 : Int32)), .val (.int (2 : Int32))] [(.ref b1)]))
  refine Goes.step (fun _ hr_ => XS.iload X6.here hx rfl (hb hby d_prog_11_method_2_code_27) rfl  hr_) ?_
  show Goes p ee below s _ _ _ (T6.setTop (mkF m 29 #[.val (.int (Int32.ofNat n)), .val (.int (Int32.ofNat (own_strip 2 31 n))), .val (.ref b1), .val (.int (2 : Int32)), .val (.int (1 : Int32)), .val (.int (2 : Int32))] [(.int (1 : Int32)), (.ref b1)]))
  refine Goes.step (own_iaload X6 hx hZ e6 A_b1 (j := (1 : Int32)) (by decide) (k := 1) rfl (by decide) (v := (.int (5 : Int32))) rfl (g := (mkF m 29 #[.val (.int (Int32.ofNat n)), .val (.int (Int32.ofNat (own_strip 2 31 n))), .val (.ref b1), .val (.int (2 : Int32)), .val (.int (1 : Int32)), .val (.int (2 : Int32))] [(.int (1 : Int32)), (.ref b1)])) rfl rfl (hb hby d_prog_11_method_2_code_29)) ?_
  show Goes p ee below s _ _ _ (T6.setTop (mkF m 30 #[.val (.int (Int32.ofNat n)), .val (.int (Int32.ofNat (own_strip 2 31 n))), .val (.ref b1), .val (.int (2 : Int32)), .val (.int (1 : Int32)), .val (.int (2 : Int32))] [(.int (5 : Int32))]))
  refine Goes.step (fun _ hr_ => XS.istore X6.here hx rfl (hb hby d_prog_11_method_2_code_30) rfl  (l' := #[.val (.int (Int32.ofNat n)), .val (.int (Int32.ofNat (own_strip 2 31 n))), .val (.ref b1), .val (.int (2 : Int32)), .val (.int (1 : Int32)), .val (.int (5 : Int32))]) rfl hr_) ?_
  show Goes p ee below s _ _ _ (T6.setTop (mkF m 32 #[.val (.int (Int32.ofNat n)), .val (.int (Int32.ofNat (own_strip 2 31 n))), .val (.ref b1), .val (.int (2 : Int32)), .val (.int (1 : Int32)), .val (.int (5 : Int32))] []))
  obtain ⟨hs0, hs1⟩ := own_strip_pos 2 (by decide) 31 n hn0
  have hs : own_strip 2 31 n < 2 ^ 31 := Nat.lt_of_le_of_lt hs1 hn
  refine Goes.step (inner 5 (by decide) (by decide) _ 31 (own_strip 2 31 n) hs0 hs hs) ?_
  show Goes p ee below s _ _ _ (T6.setTop (mkF m 47 #[.val (.int (Int32.ofNat n)), .val (.int (Int32.ofNat (own_strip 5 31 (own_strip 2 31 n)))), .val (.ref b1), .val (.int (2 : Int32)), .val (.int (1 : Int32)), .val (.int (5 : Int32))] []))
  refine Goes.step (fun _ hr_ => XS.iinc X6.here hx rfl (hb hby d_prog_11_method_2_code_47) rfl (l' := #[.val (.int (Int32.ofNat n)), .val (.int (Int32.ofNat (own_strip 5 31 (own_strip 2 31 n)))), .val (.ref b1), .val (.int (2 : Int32)), .val (.int (2 : Int32)), .val (.int (5 : Int32))]) rfl hr_) ?_
  show Goes p ee below s _ _ _ (T6.setTop (mkF m 50 #[.val (.int (Int32.ofNat n)), .val (.int (Int32.ofNat (own_strip 5 31 (own_strip 2 31 n)))), .val (.ref b1), .val (.int (2 : Int32)), .val (.int (2 : Int32)), .val (.int (5 : Int32))] []))
  refine Goes.step (fun _ hr_ => XS.goto X6.here hx rfl (pc0 := 50) (pc' := 20) rfl (hb hby d_prog_11_method_2_code_50) (by decide) (by decide) hr_) ?_
  show Goes p ee below s _ _ _ (T6.setTop (mkF m 20 #[.val (.int (Int32.ofNat n)), .val (.int (Int32.ofNat (own_strip 5 31 (own_strip 2 31 n)))), .val (.ref b1), .val (.int (2 : Int32)), .val (.int (2 : Int32)), .val (.int (5 : Int32))] []))
  refine Goes.step (fun _ hr_ => XS.iload X6.here hx rfl (hb hby d_prog_11_method_2_code_20) rfl  hr_) ?_
  show Goes p ee below s _ _ _ (T6.setTop (mkF m 22 #[.val (.int (Int32.ofNat n)), .val (.int (Int32.ofNat (own_strip 5 31 (own_strip 2 31 n)))), .val (.ref b1), .val (.int (2 : Int32)), .val (.int (2 : Int32)), .val (.int (5 : Int32))] [(.int (2 : Int32))]))
  refine Goes.step (fun _ hr_ => XS.iloadN X6.here hx rfl (hb hby d_prog_11_method_2_code_22) rfl  hr_) ?_
  show Goes p ee below s _ _ _ (T6.setTop (mkF m 23 #[.val (.int (Int32.ofNat n)), .val (.int (Int32.ofNat (own_strip 5 31 (own_strip 2 31 n)))), .val (.ref b1), .val (.int (2 : Int32)), .val (.int (2 : Int32)), .val (.int (5 : Int32))] [(.int (2 : Int32)), (.int (2 : Int32))]))
  refine Goes.step (fun _ hr_ => XS.icmpYes X6.here hx rfl (pc0 := 23) (pc' := 53) rfl (hb hby d_prog_11_method_2_code_23) rfl (flt (by decide)).2.1 (by decide) (by decide) hr_) ?_
  show Goes p ee below s _ _ _ (T6.setTop (mkF m 53 #[.val (.int (Int32.ofNat n)), .val (.int (Int32.ofNat (own_strip 5 31 (own_strip 2 31 n)))), .val (.ref b1), .val (.int (2 : Int32)), .val (.int (2 : Int32)), .val (.int (5 : Int32))] []))
  refine Goes.step (fun _ hr_ => XS.iloadN X6.here hx rfl (hb hby d_prog_11_method_2_code_53) rfl  hr_) ?_
  show Goes p ee below s _ _ _ (T6.setTop (mkF m 54 #[.val (.int (Int32.ofNat n)), .val (.int (Int32.ofNat (own_strip 5 31 (own_strip 2 31 n)))), .val (.ref b1), .val (.int (2 : Int32)), .val (.int (2 : Int32)), .val (.int (5 : Int32))] [(.int (Int32.ofNat (own_strip 5 31 (own_strip 2 31 n))))]))
  refine Goes.step (fun _ hr_ => XS.iconst X6.here hx rfl (hb hby d_prog_11_method_2_code_54) hr_) ?_
  show Goes p ee below s _ _ _ (T6.setTop (mkF m 55 #[.val (.int (Int32.ofNat n)), .val (.int (Int32.ofNat (own_strip 5 31 (own_strip 2 31 n)))), .val (.ref b1), .val (.int (2 : Int32)), .val (.int (2 : Int32)), .val (.int (5 : Int32))] [(.int (1 : Int32)), (.int (Int32.ofNat (own_strip 5 31 (own_strip 2 31 n))))]))
  have hr0 : own_strip 5 31 (own_strip 2 31 n) < 2 ^ 31 := Nat.lt_of_le_of_lt (own_strip_pos 5 (by decide) 31 _ hs0).2 hs
  by_cases hr : own_strip 5 31 (own_strip 2 31 n) = 1
  · show Goes p ee below s _ _ _ (T6.setTop (mkF m 55 #[.val (.int (Int32.ofNat n)), .val (.int (Int32.ofNat (own_strip 5 31 (own_strip 2 31 n)))), .val (.ref b1), .val (.int (2 : Int32)), .val (.int (2 : Int32)), .val (.int (5 : Int32))] [(.int (1 : Int32)), (.int (Int32.ofNat (own_strip 5 31 (own_strip 2 31 n))))]))
    refine Goes.step (fun _ hr_ => XS.icmpNo X6.here hx rfl (hb hby d_prog_11_method_2_code_55) rfl (teq ((own_one _ hr0).mpr hr)).2 hr_) ?_
    show Goes p ee below s _ _ _ (T6.setTop (mkF m 58 #[.val (.int (Int32.ofNat n)), .val (.int (Int32.ofNat (own_strip 5 31 (own_strip 2 31 n)))), .val (.ref b1), .val (.int (2 : Int32)), .val (.int (2 : Int32)), .val (.int (5 : Int32))] []))
    refine Goes.step (fun _ hr_ => XS.iconst X6.here hx rfl (hb hby d_prog_11_method_2_code_58) hr_) ?_
    show Goes p ee below s _ _ _ (T6.setTop (mkF m 59 #[.val (.int (Int32.ofNat n)), .val (.int (Int32.ofNat (own_strip 5 31 (own_strip 2 31 n)))), .val (.ref b1), .val (.int (2 : Int32)), .val (.int (2 : Int32)), .val (.int (5 : Int32))] [(.int (1 : Int32))]))
    refine Goes.step (fun _ hr_ => XS.goto X6.here hx rfl (pc0 := 59) (pc' := 63) rfl (hb hby d_prog_11_method_2_code_59) (by decide) (by decide) hr_) ?_
    show Goes p ee below s _ _ _ (T6.setTop (mkF m 63 #[.val (.int (Int32.ofNat n)), .val (.int (Int32.ofNat (own_strip 5 31 (own_strip 2 31 n)))), .val (.ref b1), .val (.int (2 : Int32)), .val (.int (2 : Int32)), .val (.int (5 : Int32))] [(.int (1 : Int32))]))
    refine Goes.retZ X6 hx Bd.notSynchronized Bd.returns (by simp) rfl (hb hby d_prog_11_method_2_code_63) (by decide) (by decide) ?_
    refine ⟨?_, N8⟩
    rw [if_pos hr]
  · show Goes p ee below s _ _ _ (T6.setTop (mkF m 55 #[.val (.int (Int32.ofNat n)), .val (.int (Int32.ofNat (own_strip 5 31 (own_strip 2 31 n)))), .val (.ref b1), .val (.int (2 : Int32)), .val (.int (2 : Int32)), .val (.int (5 : Int32))] [(.int (1 : Int32)), (.int (Int32.ofNat (own_strip 5 31 (own_strip 2 31 n))))]))
    refine Goes.step (fun _ hr_ => XS.icmpYes X6.here hx rfl (pc0 := 55) (pc' := 62) rfl (hb hby d_prog_11_method_2_code_55) rfl (feq (fun z => hr ((own_one _ hr0).mp z))).2 (by decide) (by decide) hr_) ?_
    show Goes p ee below s _ _ _ (T6.setTop (mkF m 62 #[.val (.int (Int32.ofNat n)), .val (.int (Int32.ofNat (own_strip 5 31 (own_strip 2 31 n)))), .val (.ref b1), .val (.int (2 : Int32)), .val (.int (2 : Int32)), .val (.int (5 : Int32))] []))
    refine Goes.step (fun _ hr_ => XS.iconst X6.here hx rfl (hb hby d_prog_11_method_2_code_62) hr_) ?_
    show Goes p ee below s _ _ _ (T6.setTop (mkF m 63 #[.val (.int (Int32.ofNat n)), .val (.int (Int32.ofNat (own_strip 5 31 (own_strip 2 31 n)))), .val (.ref b1), .val (.int (2 : Int32)), .val (.int (2 : Int32)), .val (.int (5 : Int32))] [(.int (0 : Int32))]))
    refine Goes.retZ X6 hx Bd.notSynchronized Bd.returns (by simp) rfl (hb hby d_prog_11_method_2_code_63) (by decide) (by decide) ?_
    refine ⟨?_, N8⟩
    rw [if_neg hr]
theorem ef_law (m : MethodId) (x0 : Int32) : entryFrame m #[(.int x0)] maxLocals = mkF m 0 #[.val (.int x0), .unset, .unset, .unset] [] := by first | (simp [entryFrame, mkF, argsToLocals, Value.category, maxLocals]; done) | rfl
theorem pn_com_example_strikeshift_strikeshift_DeliverableNoticeDividesExactlyPinLaw : plainName "com/example/strikeshift/strikeshift/DeliverableNoticeDividesExactlyPinLaw" = true := by first | (simp [plainName, overriddenIn]; done) | decide +kernel
theorem pd_0 : parseMethodDescriptor "(I)Z" = some ⟨[.int], some .boolean⟩ := by decide +kernel
def Q_law (Z : State) (p1 : Int32) (h0 : Heap) (n0 : Nat) (v : Option Value) (h : Heap) (L : List Loc) : Prop := v = some (.int 1) ∧ Fr n0 L
set_option maxRecDepth 65536 in
set_option maxHeartbeats 40000000 in
theorem rm_law (l : Launch) (Z : State) (a0 : Array Value) (hw : ∀ d ∈ tables_1, d.before a0 Z = true) (ws : List Jvm.Cond) (p1 : Int32) (h0 : Heap) (n0 : Nat) (Z0 : n0 ≤ h0.size)  :
    MetFree l x (head1 (Jvm.Cond.code x code maxLocals ret :: ws) room_1) (fun a U => a = #[(.int p1)] ∧ Z.Warmed39 U.vm ∧ U.heap = h0) (fun _ _ _ _ _ => True) (fun _ U o U' => ∃ v L, o = .returned v ∧ Q_law Z p1 h0 n0 v U'.heap L ∧ FrameEnd U o U' L room_1.cells room_1.slots) := by
  refine MetFree.of_bodySF (plainFor_of_name pn_com_example_strikeshift_strikeshift_DeliverableNoticeDividesExactlyPinLaw) hisR ?_
  intro p ee s m args below meth cc s₁ Bd hml0 hP hK
  obtain ⟨rfl, hZ, hh⟩ := hP
  have hx := Bd.exec
  have hby := Bd.bytes
  have hml : cc.maxLocals = 4 := hml0
  have hown : s.vm.findClass "com/example/strikeshift/strikeshift/DeliverableNoticeDividesExactlyPinLaw" = some m.cls := findClass_of_methodNamed Bd.named
  have hnm := (name_of_methodNamed Bd.named Bd.method).1
  have X0 : Stand p l ee room_1 s m #[(.int p1)] below meth cc s₁ [] 0 0 := Stand.of_body Bd
  have e0 : s₁.heap = h0 := by rw [← hh, Bd.state]; rfl
  have N0 := Fr.nil n0
  show Goes p ee below s room_1.cells room_1.slots (Q_law Z p1 h0 n0) (s₁.setTop (entryFrame m #[(.int p1)] maxLocals))
  refine Goes.step (fun _ hr_ => castTop (ef_law m p1) hr_) ?_
  show Goes p ee below s _ _ _ (s₁.setTop (mkF m 0 #[.val (.int p1), .unset, .unset, .unset] []))
  obtain ⟨hod1, hod2⟩ : True ∧ True := ⟨trivial, trivial⟩
  have J11 : ∀ n : Nat, 0 < n → n < 2 ^ 31 → Goes p ee below s room_1.cells room_1.slots (Q_law Z p1 h0 n0) (s₁.setTop (mkF m 11 #[.val (.int p1), .val (.int (Int32.ofNat n)), .unset, .unset] [])) := by
    intro n hn0 hn
    refine Goes.step (fun _ hr_ => XS.iloadN X0.here hx rfl (hb hby at_11) rfl  hr_) ?_
    show Goes p ee below s _ _ _ (s₁.setTop (mkF m 12 #[.val (.int p1), .val (.int (Int32.ofNat n)), .unset, .unset] [(.int (Int32.ofNat n))]))
    refine Goes.step (fun _ hr_ => XS.iloadN X0.here hx rfl (hb hby at_12) rfl  hr_) ?_
    show Goes p ee below s _ _ _ (s₁.setTop (mkF m 13 #[.val (.int p1), .val (.int (Int32.ofNat n)), .unset, .unset] [(.int (Int32.ofNat n)), (.int (Int32.ofNat n))]))
    refine Goes.step (fun _ hr_ => XS.iloadN X0.here hx rfl (hb hby at_13) rfl  hr_) ?_
    show Goes p ee below s _ _ _ (s₁.setTop (mkF m 14 #[.val (.int p1), .val (.int (Int32.ofNat n)), .unset, .unset] [(.int (Int32.ofNat n)), (.int (Int32.ofNat n)), (.int (Int32.ofNat n))]))
    refine Goes.step (fun _ hr_ => XS.ineg X0.here hx rfl (hb hby at_14) rfl hr_) ?_
    show Goes p ee below s _ _ _ (s₁.setTop (mkF m 15 #[.val (.int p1), .val (.int (Int32.ofNat n)), .unset, .unset] [(.int (-(Int32.ofNat n))), (.int (Int32.ofNat n)), (.int (Int32.ofNat n))]))
    refine Goes.step (fun _ hr_ => XS.iand X0.here hx rfl (hb hby at_15) rfl hr_) ?_
    show Goes p ee below s _ _ _ (s₁.setTop (mkF m 16 #[.val (.int p1), .val (.int (Int32.ofNat n)), .unset, .unset] [(.int ((Int32.ofNat n) &&& (-(Int32.ofNat n)))), (.int (Int32.ofNat n))]))
    refine Goes.step (fun _ hr_ => XS.idiv X0.here hx rfl (hb hby at_16) rfl (own_odd n hn0 hn).1 hr_) ?_
    show Goes p ee below s _ _ _ (s₁.setTop (mkF m 17 #[.val (.int p1), .val (.int (Int32.ofNat n)), .unset, .unset] [(.int ((Int32.ofNat n) / ((Int32.ofNat n) &&& (-(Int32.ofNat n)))))]))
    rw [(own_odd n hn0 hn).2]
    obtain ⟨hs0, hs1⟩ := own_strip_pos 2 (by decide) 31 n hn0
    have hs : own_strip 2 31 n < 2 ^ 31 := Nat.lt_of_le_of_lt hs1 hn
    show Goes p ee below s _ _ _ (s₁.setTop (mkF m 17 #[.val (.int p1), .val (.int (Int32.ofNat n)), .unset, .unset] [(.int (Int32.ofNat (own_strip 2 31 n)))]))
    refine Goes.step (fun _ hr_ => XS.istoreN X0.here hx rfl (hb hby at_17) rfl  (l' := #[.val (.int p1), .val (.int (Int32.ofNat n)), .val (.int (Int32.ofNat (own_strip 2 31 n))), .unset]) rfl hr_) ?_
    show Goes p ee below s _ _ _ (s₁.setTop (mkF m 18 #[.val (.int p1), .val (.int (Int32.ofNat n)), .val (.int (Int32.ofNat (own_strip 2 31 n))), .unset] []))
    refine Goes.step (X0.ldcInt hx hown (mvT hZ (hw _ (List.mem_of_getElem? (i := 1) rfl))) (g := (mkF m 18 #[.val (.int p1), .val (.int (Int32.ofNat n)), .val (.int (Int32.ofNat (own_strip 2 31 n))), .unset] [])) rfl (hb hby at_18)) ?_
    show Goes p ee below s _ _ _ (s₁.setTop (mkF m 20 #[.val (.int p1), .val (.int (Int32.ofNat n)), .val (.int (Int32.ofNat (own_strip 2 31 n))), .unset] [(.int (1220703125 : Int32))]))
    refine Goes.step (fun _ hr_ => XS.iloadN X0.here hx rfl (hb hby at_20) rfl  hr_) ?_
    show Goes p ee below s _ _ _ (s₁.setTop (mkF m 21 #[.val (.int p1), .val (.int (Int32.ofNat n)), .val (.int (Int32.ofNat (own_strip 2 31 n))), .unset] [(.int (Int32.ofNat (own_strip 2 31 n))), (.int (1220703125 : Int32))]))
    refine Goes.step (fun _ hr_ => iremM (g := (mkF m 21 #[.val (.int p1), .val (.int (Int32.ofNat n)), .val (.int (Int32.ofNat (own_strip 2 31 n))), .unset] [(.int (Int32.ofNat (own_strip 2 31 n))), (.int (1220703125 : Int32))])) X0 hx rfl (hb hby at_21) rfl (own_ne _ hs 0 (by omega) 0 rfl) hr_) ?_
    show Goes p ee below s _ _ _ (s₁.setTop (mkF m 22 #[.val (.int p1), .val (.int (Int32.ofNat n)), .val (.int (Int32.ofNat (own_strip 2 31 n))), .unset] [(.int ((1220703125 : Int32) % (Int32.ofNat (own_strip 2 31 n))))]))
    have hmm : (1220703125 : Int32) % Int32.ofNat (own_strip 2 31 n) = Int32.ofNat (1220703125 % own_strip 2 31 n) := own_mod 1220703125 _ (by decide) hs
    rw [hmm]
    have hmlt : 1220703125 % own_strip 2 31 n < 2 ^ 31 := Nat.lt_of_le_of_lt (Nat.mod_le _ _) (by decide)
    show Goes p ee below s _ _ _ (s₁.setTop (mkF m 22 #[.val (.int p1), .val (.int (Int32.ofNat n)), .val (.int (Int32.ofNat (own_strip 2 31 n))), .unset] [(.int (Int32.ofNat (1220703125 % own_strip 2 31 n)))]))
    by_cases hr : 1220703125 % own_strip 2 31 n = 0
    · show Goes p ee below s _ _ _ (s₁.setTop (mkF m 22 #[.val (.int p1), .val (.int (Int32.ofNat n)), .val (.int (Int32.ofNat (own_strip 2 31 n))), .unset] [(.int (Int32.ofNat (1220703125 % own_strip 2 31 n)))]))
      refine Goes.step (fun _ hr_ => XS.ifNo X0.here hx rfl (hb hby at_22) rfl ((if0 _ _).trans (teq ((own_zero _ hmlt).mpr hr)).2) hr_) ?_
      show Goes p ee below s _ _ _ (s₁.setTop (mkF m 25 #[.val (.int p1), .val (.int (Int32.ofNat n)), .val (.int (Int32.ofNat (own_strip 2 31 n))), .unset] []))
      refine Goes.step (fun _ hr_ => XS.iconst X0.here hx rfl (hb hby at_25) hr_) ?_
      show Goes p ee below s _ _ _ (s₁.setTop (mkF m 26 #[.val (.int p1), .val (.int (Int32.ofNat n)), .val (.int (Int32.ofNat (own_strip 2 31 n))), .unset] [(.int (1 : Int32))]))
      refine Goes.step (fun _ hr_ => XS.goto X0.here hx rfl (pc0 := 26) (pc' := 30) rfl (hb hby at_26) (by decide) (by decide) hr_) ?_
      show Goes p ee below s _ _ _ (s₁.setTop (mkF m 30 #[.val (.int p1), .val (.int (Int32.ofNat n)), .val (.int (Int32.ofNat (own_strip 2 31 n))), .unset] [(.int (1 : Int32))]))
      refine Goes.step (fun _ hr_ => XS.istoreN X0.here hx rfl (hb hby at_30) rfl  (l' := #[.val (.int p1), .val (.int (Int32.ofNat n)), .val (.int (Int32.ofNat (own_strip 2 31 n))), .val (.int (1 : Int32))]) rfl hr_) ?_
      show Goes p ee below s _ _ _ (s₁.setTop (mkF m 31 #[.val (.int p1), .val (.int (Int32.ofNat n)), .val (.int (Int32.ofNat (own_strip 2 31 n))), .val (.int (1 : Int32))] []))
      refine Goes.step (fun _ hr_ => XS.iloadN X0.here hx rfl (hb hby at_31) rfl  hr_) ?_
      show Goes p ee below s _ _ _ (s₁.setTop (mkF m 32 #[.val (.int p1), .val (.int (Int32.ofNat n)), .val (.int (Int32.ofNat (own_strip 2 31 n))), .val (.int (1 : Int32))] [(.int (Int32.ofNat n))]))
      obtain ⟨v1, T1, L1, X1, hQ1, st1⟩ := own_callS X0 hx hZ (y := (⟨"com/example/strikeshift/strikeshift/DeliverableNotice", "dividesExactly", "(I)Z"⟩ : MethodName)) hown (hw _ (List.mem_of_getElem? (i := 2) rfl)) (hw _ (List.mem_of_getElem? (i := 3) rfl)) (hw _ (List.mem_of_getElem? (i := 4) rfl)) (hw _ (List.mem_of_getElem? (i := 5) rfl)) (by decide) (argsL := [(.int (Int32.ofNat n))]) (rm_de l Z a0 hw [] n h0 n0 Z0 hn0 hn) e0 (W := 0) (by decide) (by decide) (by decide) (by decide) (g := (mkF m 32 #[.val (.int p1), .val (.int (Int32.ofNat n)), .val (.int (Int32.ofNat (own_strip 2 31 n))), .val (.int (1 : Int32))] [(.int (Int32.ofNat n))])) rfl (by rw [hml]; rfl) (rest := []) (lenOf pd_0 rfl) rfl (by show 2 * 0 + _ ≤ _; exact Nat.le_of_eq rfl) (hb hby at_32)
      refine Goes.step st1 ?_
      obtain ⟨rfl, N1⟩ := hQ1
      have N2 := Fr.app N0 N1
      have e1 : T1.heap = T1.heap := rfl
      show Goes p ee below s _ _ _ (T1.setTop (mkF m 35 #[.val (.int p1), .val (.int (Int32.ofNat n)), .val (.int (Int32.ofNat (own_strip 2 31 n))), .val (.int (1 : Int32))] [(.int (if own_strip 5 31 (own_strip 2 31 n) = 1 then (1 : Int32) else 0))]))
      refine Goes.step (fun _ hr_ => XS.iloadN X1.here hx rfl (hb hby at_35) rfl  hr_) ?_
      show Goes p ee below s _ _ _ (T1.setTop (mkF m 36 #[.val (.int p1), .val (.int (Int32.ofNat n)), .val (.int (Int32.ofNat (own_strip 2 31 n))), .val (.int (1 : Int32))] [(.int (1 : Int32)), (.int (if own_strip 5 31 (own_strip 2 31 n) = 1 then (1 : Int32) else 0))]))
      refine Goes.step (fun _ hr_ => XS.icmpNo X1.here hx rfl (hb hby at_36) rfl (teq (if_pos ((own_five _ hs0 hs).mpr hr))).2 hr_) ?_
      show Goes p ee below s _ _ _ (T1.setTop (mkF m 39 #[.val (.int p1), .val (.int (Int32.ofNat n)), .val (.int (Int32.ofNat (own_strip 2 31 n))), .val (.int (1 : Int32))] []))
      refine Goes.step (fun _ hr_ => XS.iconst X1.here hx rfl (hb hby at_39) hr_) ?_
      show Goes p ee below s _ _ _ (T1.setTop (mkF m 40 #[.val (.int p1), .val (.int (Int32.ofNat n)), .val (.int (Int32.ofNat (own_strip 2 31 n))), .val (.int (1 : Int32))] [(.int (1 : Int32))]))
      refine Goes.step (fun _ hr_ => XS.goto X1.here hx rfl (pc0 := 40) (pc' := 44) rfl (hb hby at_40) (by decide) (by decide) hr_) ?_
      show Goes p ee below s _ _ _ (T1.setTop (mkF m 44 #[.val (.int p1), .val (.int (Int32.ofNat n)), .val (.int (Int32.ofNat (own_strip 2 31 n))), .val (.int (1 : Int32))] [(.int (1 : Int32))]))
      refine Goes.retZ X1 hx Bd.notSynchronized Bd.returns (by simp) rfl (hb hby at_44) (by decide) (by decide) ?_
      exact ⟨rfl, N2⟩
    · show Goes p ee below s _ _ _ (s₁.setTop (mkF m 22 #[.val (.int p1), .val (.int (Int32.ofNat n)), .val (.int (Int32.ofNat (own_strip 2 31 n))), .unset] [(.int (Int32.ofNat (1220703125 % own_strip 2 31 n)))]))
      refine Goes.step (fun _ hr_ => XS.ifYes X0.here hx rfl (pc0 := 22) (pc' := 29) rfl (hb hby at_22) rfl ((if0 _ _).trans (feq (fun z => hr ((own_zero _ hmlt).mp z))).2) (by decide) (by decide) hr_) ?_
      show Goes p ee below s _ _ _ (s₁.setTop (mkF m 29 #[.val (.int p1), .val (.int (Int32.ofNat n)), .val (.int (Int32.ofNat (own_strip 2 31 n))), .unset] []))
      refine Goes.step (fun _ hr_ => XS.iconst X0.here hx rfl (hb hby at_29) hr_) ?_
      show Goes p ee below s _ _ _ (s₁.setTop (mkF m 30 #[.val (.int p1), .val (.int (Int32.ofNat n)), .val (.int (Int32.ofNat (own_strip 2 31 n))), .unset] [(.int (0 : Int32))]))
      refine Goes.step (fun _ hr_ => XS.istoreN X0.here hx rfl (hb hby at_30) rfl  (l' := #[.val (.int p1), .val (.int (Int32.ofNat n)), .val (.int (Int32.ofNat (own_strip 2 31 n))), .val (.int (0 : Int32))]) rfl hr_) ?_
      show Goes p ee below s _ _ _ (s₁.setTop (mkF m 31 #[.val (.int p1), .val (.int (Int32.ofNat n)), .val (.int (Int32.ofNat (own_strip 2 31 n))), .val (.int (0 : Int32))] []))
      refine Goes.step (fun _ hr_ => XS.iloadN X0.here hx rfl (hb hby at_31) rfl  hr_) ?_
      show Goes p ee below s _ _ _ (s₁.setTop (mkF m 32 #[.val (.int p1), .val (.int (Int32.ofNat n)), .val (.int (Int32.ofNat (own_strip 2 31 n))), .val (.int (0 : Int32))] [(.int (Int32.ofNat n))]))
      obtain ⟨v3, T3, L3, X3, hQ3, st3⟩ := own_callS X0 hx hZ (y := (⟨"com/example/strikeshift/strikeshift/DeliverableNotice", "dividesExactly", "(I)Z"⟩ : MethodName)) hown (hw _ (List.mem_of_getElem? (i := 2) rfl)) (hw _ (List.mem_of_getElem? (i := 3) rfl)) (hw _ (List.mem_of_getElem? (i := 4) rfl)) (hw _ (List.mem_of_getElem? (i := 5) rfl)) (by decide) (argsL := [(.int (Int32.ofNat n))]) (rm_de l Z a0 hw [] n h0 n0 Z0 hn0 hn) e0 (W := 0) (by decide) (by decide) (by decide) (by decide) (g := (mkF m 32 #[.val (.int p1), .val (.int (Int32.ofNat n)), .val (.int (Int32.ofNat (own_strip 2 31 n))), .val (.int (0 : Int32))] [(.int (Int32.ofNat n))])) rfl (by rw [hml]; rfl) (rest := []) (lenOf pd_0 rfl) rfl (by show 2 * 0 + _ ≤ _; exact Nat.le_of_eq rfl) (hb hby at_32)
      refine Goes.step st3 ?_
      obtain ⟨rfl, N3⟩ := hQ3
      have N4 := Fr.app N0 N3
      have e3 : T3.heap = T3.heap := rfl
      show Goes p ee below s _ _ _ (T3.setTop (mkF m 35 #[.val (.int p1), .val (.int (Int32.ofNat n)), .val (.int (Int32.ofNat (own_strip 2 31 n))), .val (.int (0 : Int32))] [(.int (if own_strip 5 31 (own_strip 2 31 n) = 1 then (1 : Int32) else 0))]))
      refine Goes.step (fun _ hr_ => XS.iloadN X3.here hx rfl (hb hby at_35) rfl  hr_) ?_
      show Goes p ee below s _ _ _ (T3.setTop (mkF m 36 #[.val (.int p1), .val (.int (Int32.ofNat n)), .val (.int (Int32.ofNat (own_strip 2 31 n))), .val (.int (0 : Int32))] [(.int (0 : Int32)), (.int (if own_strip 5 31 (own_strip 2 31 n) = 1 then (1 : Int32) else 0))]))
      refine Goes.step (fun _ hr_ => XS.icmpNo X3.here hx rfl (hb hby at_36) rfl (teq (if_neg (fun z => hr ((own_five _ hs0 hs).mp z)))).2 hr_) ?_
      show Goes p ee below s _ _ _ (T3.setTop (mkF m 39 #[.val (.int p1), .val (.int (Int32.ofNat n)), .val (.int (Int32.ofNat (own_strip 2 31 n))), .val (.int (0 : Int32))] []))
      refine Goes.step (fun _ hr_ => XS.iconst X3.here hx rfl (hb hby at_39) hr_) ?_
      show Goes p ee below s _ _ _ (T3.setTop (mkF m 40 #[.val (.int p1), .val (.int (Int32.ofNat n)), .val (.int (Int32.ofNat (own_strip 2 31 n))), .val (.int (0 : Int32))] [(.int (1 : Int32))]))
      refine Goes.step (fun _ hr_ => XS.goto X3.here hx rfl (pc0 := 40) (pc' := 44) rfl (hb hby at_40) (by decide) (by decide) hr_) ?_
      show Goes p ee below s _ _ _ (T3.setTop (mkF m 44 #[.val (.int p1), .val (.int (Int32.ofNat n)), .val (.int (Int32.ofNat (own_strip 2 31 n))), .val (.int (0 : Int32))] [(.int (1 : Int32))]))
      refine Goes.retZ X3 hx Bd.notSynchronized Bd.returns (by simp) rfl (hb hby at_44) (by decide) (by decide) ?_
      exact ⟨rfl, N4⟩
  refine Goes.step (fun _ hr_ => XS.iloadN X0.here hx rfl (hb hby at_0) rfl  hr_) ?_
  show Goes p ee below s _ _ _ (s₁.setTop (mkF m 1 #[.val (.int p1), .unset, .unset, .unset] [(.int p1)]))
  refine Goes.step (X0.ldcInt hx hown (mvT hZ (hw _ (List.mem_of_getElem? (i := 0) rfl))) (g := (mkF m 1 #[.val (.int p1), .unset, .unset, .unset] [(.int p1)])) rfl (hb hby at_1)) ?_
  show Goes p ee below s _ _ _ (s₁.setTop (mkF m 3 #[.val (.int p1), .unset, .unset, .unset] [(.int (2147483647 : Int32)), (.int p1)]))
  refine Goes.step (fun _ hr_ => XS.iand X0.here hx rfl (hb hby at_3) rfl hr_) ?_
  show Goes p ee below s _ _ _ (s₁.setTop (mkF m 4 #[.val (.int p1), .unset, .unset, .unset] [(.int (p1 &&& (2147483647 : Int32)))]))
  obtain ⟨n, hn, hne⟩ := own_start p1
  rw [hne]
  show Goes p ee below s _ _ _ (s₁.setTop (mkF m 4 #[.val (.int p1), .unset, .unset, .unset] [(.int (Int32.ofNat n))]))
  refine Goes.step (fun _ hr_ => XS.istoreN X0.here hx rfl (hb hby at_4) rfl  (l' := #[.val (.int p1), .val (.int (Int32.ofNat n)), .unset, .unset]) rfl hr_) ?_
  show Goes p ee below s _ _ _ (s₁.setTop (mkF m 5 #[.val (.int p1), .val (.int (Int32.ofNat n)), .unset, .unset] []))
  refine Goes.step (fun _ hr_ => XS.iloadN X0.here hx rfl (hb hby at_5) rfl  hr_) ?_
  show Goes p ee below s _ _ _ (s₁.setTop (mkF m 6 #[.val (.int p1), .val (.int (Int32.ofNat n)), .unset, .unset] [(.int (Int32.ofNat n))]))
  by_cases hz : n = 0
  · show Goes p ee below s _ _ _ (s₁.setTop (mkF m 6 #[.val (.int p1), .val (.int (Int32.ofNat n)), .unset, .unset] [(.int (Int32.ofNat n))]))
    refine Goes.step (fun _ hr_ => XS.ifNo X0.here hx rfl (hb hby at_6) rfl ((if0 _ _).trans (teq ((own_zero _ hn).mpr hz)).2) hr_) ?_
    show Goes p ee below s _ _ _ (s₁.setTop (mkF m 9 #[.val (.int p1), .val (.int (Int32.ofNat n)), .unset, .unset] []))
    refine Goes.step (fun _ hr_ => XS.iconst X0.here hx rfl (hb hby at_9) hr_) ?_
    show Goes p ee below s _ _ _ (s₁.setTop (mkF m 10 #[.val (.int p1), .val (.int (Int32.ofNat n)), .unset, .unset] [(.int (1 : Int32))]))
    refine Goes.step (fun _ hr_ => XS.istoreN X0.here hx rfl (hb hby at_10) rfl  (l' := #[.val (.int p1), .val (.int (1 : Int32)), .unset, .unset]) rfl hr_) ?_
    show Goes p ee below s _ _ _ (s₁.setTop (mkF m 11 #[.val (.int p1), .val (.int (1 : Int32)), .unset, .unset] []))
    exact J11 1 (by decide) (by decide)
  · show Goes p ee below s _ _ _ (s₁.setTop (mkF m 6 #[.val (.int p1), .val (.int (Int32.ofNat n)), .unset, .unset] [(.int (Int32.ofNat n))]))
    refine Goes.step (fun _ hr_ => XS.ifYes X0.here hx rfl (pc0 := 6) (pc' := 11) rfl (hb hby at_6) rfl ((if0 _ _).trans (feq (fun z => hz ((own_zero _ hn).mp z))).2) (by decide) (by decide) hr_) ?_
    show Goes p ee below s _ _ _ (s₁.setTop (mkF m 11 #[.val (.int p1), .val (.int (Int32.ofNat n)), .unset, .unset] []))
    exact J11 n (by omega) hn
set_option maxRecDepth 65536 in
set_option maxHeartbeats 40000000 in
theorem comes_1 {Post : Tables → Env → Array Value → State → Outcome → State → Prop} (hpost : ∀ tb e args s v u, (limb_1_1.after args s (.returned v) u = true ∧ limb_1_2.after args s (.returned v) u = true ∧ True) → FrameEnd s (.returned v) u (Jvm.fieldLocs frame_1_writes args s ++ Jvm.arrayLocs frame_1_arrays args s ++ Jvm.staticLocs frame_1_statics s) 16 128 → Post tb e args s (.returned v) u) :
    ArmFor flags0 classFile x code maxLocals ret World_1 tables_1 room_1 Calls_1 rest_1 Pre_1 Post := by
  intro l hfl _ _ p e ha hc hk s m args below hf hA hF happ hP
  obtain ⟨hcalls, hrest, hpre⟩ := hP
  obtain ⟨-, -, -, hnamed, -, -, -, hat⟩ := (Spec.applies_iff hf).mp happ
  obtain ⟨hg, hn⟩ := and_e (Cond.before_iff.mp (show (Jvm.Cond.and given_1 narrow_1).before args s = true from hpre))
  obtain ⟨hcount, k0⟩ := and_e hg
  obtain ⟨w0, rfl⟩ : ∃ w0 : Value, args = #[w0] := by
    have hs : args.size = 1 := by simpa [Cond.value, given_1] using hcount
    obtain ⟨L⟩ := args
    match L, hs with
    | [w0], _ => exact ⟨w0, rfl⟩
  have hw := fun d (hd : d ∈ tables_1) => atoms_spec (ws := Jvm.Cond.code x code maxLocals ret :: tables_1) hat d (List.mem_cons_of_mem _ hd)
  obtain ⟨i0, ei0⟩ := is_v k0
  obtain rfl : w0 = (.int i0) := Option.some.inj ei0
  obtain ⟨n, o, h1, h2, h3, _, L, rfl, ⟨rfl, N⟩, hq⟩ := rm_law l s _ hw tables_1 i0  s.heap s.heap.size (Nat.le_refl _)  p e ha hc hk s m _ below hf ((Spec.applies_iff_loose hf).mp happ).1 ⟨rfl, State.Warmed39.refl s, rfl⟩ trivial
  refine ⟨n, _, h1, h2, h3, hpost _ _ _ _ _ _ ⟨Cond.after_iff.mpr rfl, Cond.after_iff.mpr (eq_i res_at (Term.int_eval (1)) rfl), trivial⟩ ⟨hq.1, hq.2.1, (hq.2.2.sift fun y hy => Or.inr (N y hy)).mono (by decide) (by decide)⟩⟩
theorem main_1_1 : Claimed_1_1 := comes_1 fun _ _ _ _ _ _ h hF => ⟨h.1, hF⟩
theorem main_1_2 : Claimed_1_2 := comes_1 fun _ _ _ _ _ _ h hF => ⟨h.2.1, hF⟩
end Jvm.Pilot.@@N@@
namespace Jvm.Pilot.@@N@@
open Jvm Jvm.ClassFile Sem Op Lib Jvm.Free Jvm.Stand Jvm.Pilot.@@N@@.Jvm.D
/-! MADE BY PROGRAM (witnessworld.py) out of the Statement's table words and the real class files: 10 classes; the members and pool entries that the words name. The judged class is class 1, her method 1. -/
namespace start1
open Jvm.ClassFile
def u (s : String) : CpInfo := .utf8 (stringToUtf16 s)
/-- a pool by its gaps: so many unusable entries, then the entry; so many at the end -/
def gap : Nat → List CpInfo → List CpInfo
  | 0, r => r
  | n + 1, r => .unusable :: gap n r
def poolList (es : List (Nat × CpInfo)) (last : Nat) : List CpInfo := es.foldr (fun e r => gap e.1 (e.2 :: r)) (gap last [])
def pool (es : List (Nat × CpInfo)) (last : Nat) : Array CpInfo := ⟨poolList es last⟩
def fileOf (pool : Array CpInfo) (this : Nat) (attrs : Array Attribute := #[]) (ms : Array MethodInfo := #[]) (fl : Nat := 33) (sup : Nat := 0) (ifs : Array Nat := #[]) (fds : Array FieldInfo := #[]) : ClassFile where
  minorVersion := 0
  majorVersion := 65
  constantPool := pool
  accessFlags := fl
  thisClass := this
  superClass := sup
  interfaces := ifs
  fields := fds
  methods := ms
  attributes := attrs
def plain (name : String) (sup : Option ClassId) : Class where
  name := name
  kind := .ordinary
  loader := none
  accessFlags := 33
  super := sup
  interfaces := #[]
  cf := none
  fields := #[]
  methods := #[]
  instanceTypes := #[]
  staticTypes := #[]
  resolved := #[]
  callSites := []
  init := .initialized
  statics := none
  mirror := none

def pool0 : Array CpInfo := pool [(5, u "<init>"), (0, u "()V"), (1, .class_ 10), (1, u "java/lang/Object")] 113

def k0m0 : Method := { name := "<init>", desc := "()V", sig := { parameters := [], returnType := none }, accessFlags := 1, code := none }
/-- java/lang/Object -/
def k0 : Class := { plain "java/lang/Object" none with
  accessFlags := 33
  interfaces := #[]
  cf := some (fileOf pool0 8 #[] #[{ accessFlags := 1, nameIndex := 5, descriptorIndex := 6, attributes := #[] }] 33 0 #[] #[])
  fields := #[]
  methods := #[k0m0]
  instanceTypes := #[]
  staticTypes := #[]
  resolved := Array.replicate 124 none
  statics := none }

def pool1 : Array CpInfo := pool [(2, .class_ 4), (1, u "java/lang/Object"), (0, u "<init>"), (0, u "()V"), (0, .integer 2147483647), (0, .integer 1220703125), (0, .methodref 10 11), (0, .class_ 12), (0, .nameAndType 13 14), (0, u "com/example/strikeshift/strikeshift/DeliverableNotice"), (0, u "dividesExactly"), (0, u "(I)Z"), (0, .class_ 16), (0, u "com/example/strikeshift/strikeshift/DeliverableNoticeDividesExactlyPinLaw"), (2, u "law")] 3

def k1m0 : Method := { name := "<init>", desc := "()V", sig := { parameters := [], returnType := none }, accessFlags := 2, code := none }
def k1c1 : Code := { maxStack := 3, maxLocals := 4, code := code, exceptionTable := #[], attributes := #[] }
def k1m1 : Method := { name := "law", desc := "(I)Z", sig := { parameters := [.int], returnType := some .boolean }, accessFlags := 9, code := some k1c1 }
/-- com/example/strikeshift/strikeshift/DeliverableNoticeDividesExactlyPinLaw -/
def k1 : Class := { plain "com/example/strikeshift/strikeshift/DeliverableNoticeDividesExactlyPinLaw" (some 0) with
  accessFlags := 49
  interfaces := #[]
  cf := some (fileOf pool1 15 #[] #[{ accessFlags := 2, nameIndex := 5, descriptorIndex := 6, attributes := #[] }, { accessFlags := 9, nameIndex := 19, descriptorIndex := 14, attributes := #[] }] 49 2 #[] #[])
  fields := #[]
  methods := #[k1m0, k1m1]
  instanceTypes := #[]
  staticTypes := #[]
  resolved := Array.replicate 23 none
  statics := none }

def pool2 : Array CpInfo := pool [(2, .class_ 4), (1, u "java/lang/Object"), (0, u "<init>"), (0, u "()V"), (0, .class_ 8), (0, u "java/lang/Record")] 13

def k2m0 : Method := { name := "<init>", desc := "()V", sig := { parameters := [], returnType := none }, accessFlags := 4, code := none }
/-- java/lang/Record -/
def k2 : Class := { plain "java/lang/Record" (some 0) with
  accessFlags := 1057
  interfaces := #[]
  cf := some (fileOf pool2 7 #[] #[{ accessFlags := 4, nameIndex := 5, descriptorIndex := 6, attributes := #[] }] 1057 2 #[] #[])
  fields := #[]
  methods := #[k2m0]
  instanceTypes := #[]
  staticTypes := #[]
  resolved := Array.replicate 22 none
  statics := none }

def pool3 : Array CpInfo := pool [(2, .class_ 4), (1, u "java/lang/Record"), (40, .class_ 47), (1, u "com/example/strikeshift/strikeshift/DeliverableNotice"), (3, u "cashPerShare"), (52, u "underlying"), (0, u "Ljava/lang/String;"), (2, u "effectiveDate"), (0, u "Ljava/time/LocalDate;"), (2, u "multiplier"), (0, u "I"), (2, u "currency"), (2, u "stocks"), (0, u "Ljava/util/List;"), (2, u "Ljava/util/Optional;"), (2, u "newSymbol"), (2, u "symbolChangeDate"), (2, u "cashInLieuPrices"), (70, u "dividesExactly"), (0, u "(I)Z")] 121

def k3c0 : Code := { maxStack := 4, maxLocals := 6, code := prog_11_method_2_code, exceptionTable := #[], attributes := #[] }
def k3m0 : Method := { name := "dividesExactly", desc := "(I)Z", sig := { parameters := [.int], returnType := some .boolean }, accessFlags := 9, code := some k3c0 }
/-- com/example/strikeshift/strikeshift/DeliverableNotice -/
def k3 : Class := { plain "com/example/strikeshift/strikeshift/DeliverableNotice" (some 2) with
  accessFlags := 49
  interfaces := #[]
  cf := some (fileOf pool3 45 #[] #[{ accessFlags := 9, nameIndex := 203, descriptorIndex := 204, attributes := #[] }] 49 2 #[] #[{ accessFlags := 18, nameIndex := 104, descriptorIndex := 105, attributes := #[] }, { accessFlags := 18, nameIndex := 108, descriptorIndex := 109, attributes := #[] }, { accessFlags := 18, nameIndex := 112, descriptorIndex := 113, attributes := #[] }, { accessFlags := 18, nameIndex := 116, descriptorIndex := 105, attributes := #[] }, { accessFlags := 18, nameIndex := 119, descriptorIndex := 120, attributes := #[] }, { accessFlags := 18, nameIndex := 51, descriptorIndex := 123, attributes := #[] }, { accessFlags := 18, nameIndex := 126, descriptorIndex := 123, attributes := #[] }, { accessFlags := 18, nameIndex := 129, descriptorIndex := 123, attributes := #[] }, { accessFlags := 18, nameIndex := 132, descriptorIndex := 123, attributes := #[] }])
  fields := #[{ name := "underlying", type := (.object "java/lang/String"), accessFlags := 18, slot := 0, constantValue := 0 }, { name := "effectiveDate", type := (.object "java/time/LocalDate"), accessFlags := 18, slot := 1, constantValue := 0 }, { name := "multiplier", type := .int, accessFlags := 18, slot := 2, constantValue := 0 }, { name := "currency", type := (.object "java/lang/String"), accessFlags := 18, slot := 3, constantValue := 0 }, { name := "stocks", type := (.object "java/util/List"), accessFlags := 18, slot := 4, constantValue := 0 }, { name := "cashPerShare", type := (.object "java/util/Optional"), accessFlags := 18, slot := 5, constantValue := 0 }, { name := "newSymbol", type := (.object "java/util/Optional"), accessFlags := 18, slot := 6, constantValue := 0 }, { name := "symbolChangeDate", type := (.object "java/util/Optional"), accessFlags := 18, slot := 7, constantValue := 0 }, { name := "cashInLieuPrices", type := (.object "java/util/Optional"), accessFlags := 18, slot := 8, constantValue := 0 }]
  methods := #[k3m0]
  instanceTypes := #[(.object "java/lang/String"), (.object "java/time/LocalDate"), .int, (.object "java/lang/String"), (.object "java/util/List"), (.object "java/util/Optional"), (.object "java/util/Optional"), (.object "java/util/Optional"), (.object "java/util/Optional")]
  staticTypes := #[]
  resolved := Array.replicate 326 none
  statics := none }

def pool4 : Array CpInfo := pool [(1, u "java/lang/Cloneable"), (0, .class_ 1), (0, u "java/lang/Object"), (0, .class_ 3)] 3

/-- java/lang/Cloneable -/
def k4 : Class := { plain "java/lang/Cloneable" (some 0) with
  accessFlags := 1537
  interfaces := #[]
  cf := some (fileOf pool4 2 #[] #[] 1537 4 #[] #[])
  fields := #[]
  methods := #[]
  instanceTypes := #[]
  staticTypes := #[]
  resolved := Array.replicate 8 none
  statics := none }

def pool5 : Array CpInfo := pool [(1, u "java/io/Serializable"), (0, .class_ 1), (0, u "java/lang/Object"), (0, .class_ 3)] 3

/-- java/io/Serializable -/
def k5 : Class := { plain "java/io/Serializable" (some 0) with
  accessFlags := 1537
  interfaces := #[]
  cf := some (fileOf pool5 2 #[] #[] 1537 4 #[] #[])
  fields := #[]
  methods := #[]
  instanceTypes := #[]
  staticTypes := #[]
  resolved := Array.replicate 8 none
  statics := none }

/-- the primitive byte -/
def k6 : Class := { plain "byte" none with kind := .primitive 'B', accessFlags := 0x411 }
/-- [B -/
def k7 : Class := { plain "[B" (some 0) with kind := .array 6 .byte, interfaces := #[4, 5], accessFlags := 1041 }

/-- the primitive int -/
def k8 : Class := { plain "int" none with kind := .primitive 'I', accessFlags := 0x411 }
/-- [I -/
def k9 : Class := { plain "[I" (some 0) with kind := .array 8 .int, interfaces := #[4, 5], accessFlags := 1041 }

def heap : Heap := #[]
def classes : Array Class := #[k0, k1, k2, k3, k4, k5, k6, k7, k8, k9]
def interned : List (Array UInt16 × Addr) := []
def slotsUsed : Nat := 0
def theMethod : MethodId := ⟨1, 1⟩
def args0 : Array Value := #[.int 5]
def aboutOver (below : List Frame) : State where
  vm := { classes := classes, interned := interned.toArray }
  heap := heap
  slotsUsed := slotsUsed
  threads := #[{ frames := .invoking theMethod args0 :: below }]
def below0 : List Frame := [.native { method := ⟨0, 0⟩, args := #[] }]
def about1 : State := aboutOver below0
def p0 : Program := .bare "" "" ""
def e0 : Env := launch0.env 0 0 0
theorem w_frames : about1.frames = Frame.invoking theMethod args0 :: below0 := rfl
set_option maxRecDepth 65536 in
theorem w_args : argsFit about1.vm theMethod args0 = true := by decide +kernel
set_option maxRecDepth 65536 in
theorem w_heap : heapFits about1 = true := by decide +kernel
set_option maxRecDepth 65536 in
theorem w_runnable : about1.curStatus? = some .runnable := by decide +kernel
set_option maxRecDepth 65536 in
theorem w_alone : about1.alone = true := by decide +kernel
set_option maxRecDepth 65536 in
theorem w_named : about1.methodNamed? x = some theMethod := by decide +kernel
set_option maxRecDepth 65536 in
theorem w_hears : about1.hears theMethod below0 = true := by decide +kernel
set_option maxRecDepth 65536 in
theorem w_ripe : about1.ripe theMethod args0 below0 = true := by decide +kernel
theorem w_running : about1.status = .running := rfl
set_option maxRecDepth 65536 in
theorem w_room : about1.hasRoom e0.platform room_1 = true :=
  launch0.hasRoom_least _ room_1 (by decide +kernel) (by decide +kernel) (by decide +kernel) (by decide +kernel) (by decide +kernel) (by decide +kernel)
theorem allAtoms_all (ts : List Jvm.Cond) (a : Array Jvm.Value) (st : Jvm.State) : (allAtoms ts).before a st = ts.all (fun c => c.before a st) := by
  induction ts with
  | nil => rfl
  | cons c t ih =>
    show (Jvm.Cond.and c (allAtoms t)).before a st = _
    rw [Jvm.Cond.before_and, ih, List.all_cons]
def words1 : List Jvm.Cond := Jvm.Cond.code x code maxLocals ret :: tables_1
/-- a 'code' word, met by the world's own term for the bytes: nothing is compared byte by byte -/
theorem code_word {y : MethodName} {bytes : ByteArray} {mx : Nat} {rt : Option FieldType} {a : Array Value} {s : State} {m : MethodId} {meth : Method} {c : Code} (h1 : s.methodNamed? y = some m) (h2 : s.vm.method? m = some meth) (h3 : meth.code = some c) (h4 : c.code = bytes)
    (h5 : (c.maxLocals == mx && c.exceptionTable.isEmpty && decide (c.maxStack ≤ mostOperands) && decide (meth.sig.returnType = rt) && !meth.locks && decide (parseMethodDescriptor y.desc = some meth.sig)) = true) : (Jvm.Cond.code y bytes mx rt).before a s = true := by
  simp only [Bool.and_eq_true, beq_iff_eq, Bool.not_eq_true', decide_eq_true_eq] at h5
  obtain ⟨⟨⟨⟨⟨g1, g2⟩, g3⟩, g4⟩, g5⟩, g6⟩ := h5
  simp [Cond.before, Cond.holds, Cond.value, h1, h2, h3, h4, g1, g2, g3, g4, g5, g6]
def isCode : Jvm.Cond → Bool
  | .code _ _ _ _ => true
  | _ => false
theorem all_split {L : List Jvm.Cond} {P : Jvm.Cond → Bool} (h1 : L.all (fun c => isCode c || P c) = true) (h2 : ∀ c ∈ L.filter isCode, P c = true) : L.all P = true := by
  refine List.all_eq_true.mpr fun c hc => ?_
  have h := List.all_eq_true.mp h1 c hc
  rcases Bool.eq_false_or_eq_true (isCode c) with hi | hi
  · exact h2 c (List.mem_filter.mpr ⟨hc, hi⟩)
  · simpa [hi] using h
set_option maxRecDepth 65536 in
theorem w_c0 : (Jvm.Cond.code x code maxLocals ret).before args0 about1 = true := code_word (m := ⟨1, 1⟩) (meth := k1m1) (c := k1c1) (by decide +kernel) rfl rfl rfl (by decide +kernel)
set_option maxRecDepth 65536 in
theorem w_c1 : (Jvm.Cond.code ({ cls := "com/example/strikeshift/strikeshift/DeliverableNotice", name := "dividesExactly", desc := "(I)Z" } : Jvm.MethodName) prog_11_method_2_code (6 : Nat) (Option.some Jvm.ClassFile.FieldType.boolean)).before args0 about1 = true := code_word (m := ⟨3, 0⟩) (meth := k3m0) (c := k3c0) (by decide +kernel) rfl rfl rfl (by decide +kernel)
def codes1 : List Jvm.Cond := [Jvm.Cond.code x code maxLocals ret, Jvm.Cond.code ({ cls := "com/example/strikeshift/strikeshift/DeliverableNotice", name := "dividesExactly", desc := "(I)Z" } : Jvm.MethodName) prog_11_method_2_code (6 : Nat) (Option.some Jvm.ClassFile.FieldType.boolean)]
set_option maxRecDepth 65536 in
theorem codes_eq : words1.filter isCode = codes1 := rfl
theorem w_codes : ∀ c ∈ words1.filter isCode, c.before args0 about1 = true := by
  rw [codes_eq]
  intro c hc
  simp only [codes1, List.mem_cons, List.not_mem_nil, or_false] at hc
  rcases hc with rfl | rfl
  · exact w_c0
  · exact w_c1
set_option maxRecDepth 65536 in
theorem w_t1 : words1.all (fun c => isCode c || c.before args0 about1) = true := by decide +kernel
theorem w_tables : (allAtoms (Jvm.Cond.code x code maxLocals ret :: tables_1)).before args0 about1 = true := by
  rw [allAtoms_all]
  show words1.all (fun c => c.before args0 about1) = true
  refine all_split ?_ w_codes
  rw [w_t1]
set_option maxRecDepth 65536 in
theorem w_case : (Jvm.Cond.and given_1 narrow_1).before args0 about1 = true := by decide +kernel
theorem w_applies : (headSpec (Jvm.Cond.code x code maxLocals ret :: tables_1) room_1).applies x e0.platform about1 = true :=
  (Spec.applies_iff w_frames).mpr ⟨w_running, w_runnable, w_alone, w_named, w_hears, w_ripe, w_room, w_tables⟩
theorem atStart : AtStart classFile x code maxLocals ret World_1 tables_1 room_1 Calls_1 rest_1 Pre_1 launch0 p0 e0 about1 theMethod args0 below0 :=
  ⟨lists_1, trivial, launch0.admits_env _ _ _, launch0.least_env, fairChoices_fair.cas, fairChoices_fair.clock, w_frames, w_args, w_heap, w_applies, trivial, trivial, w_case⟩
end start1
theorem witness_1 : WitnessClaimed_1 := ⟨start1.p0, start1.e0, start1.about1, start1.theMethod, start1.args0, start1.below0, start1.atStart⟩
end Jvm.Pilot.@@N@@
