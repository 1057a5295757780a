import JvmDerived
import JvmDerived.Pilot.@@N@@Statement
import JvmDerived.Pilot.@@N@@Code
set_option linter.unusedVariables false
set_option linter.unusedSimpArgs false
namespace Jvm.Pilot.@@N@@
open Jvm Jvm.ClassFile Sem Op Lib Jvm.Free Jvm.Stand Jvm.LawKit Jvm.RoadKit Bundle Jvm.Pilot.@@N@@.Jvm.D
section OwnNums
theorem own_toInt (n : Nat) (h : n < 2 ^ 31) : (Int32.ofNat n).toInt = n := Int32.toInt_ofNat_of_lt h
theorem own_eq {x : Int32} {n : Nat} (h : n < 2 ^ 31) (e : x.toInt = n) : x = Int32.ofNat n := by rw [← Int32.toInt_inj, own_toInt n h, e]
theorem own_ltN (a b : Nat) (ha : a < 2 ^ 31) (hb : b < 2 ^ 31) : Int32.ofNat a < Int32.ofNat b ↔ a < b := by
  rw [Int32.lt_iff_toInt_lt, own_toInt a ha, own_toInt b hb]; omega
theorem own_eqN (a b : Nat) (ha : a < 2 ^ 31) (hb : b < 2 ^ 31) : Int32.ofNat a = Int32.ofNat b ↔ a = b := by
  rw [← Int32.toInt_inj, own_toInt a ha, own_toInt b hb]; omega
theorem own_addN (a b : Nat) : Int32.ofNat a + Int32.ofNat b = Int32.ofNat (a + b) := (Int32.ofNat_add a b).symm
theorem own_subI (a b : Nat) (ha : a < 2 ^ 31) (hb : b < 2 ^ 31) : (Int32.ofNat a - Int32.ofNat b).toInt = (a : Int) - b := by
  rw [Int32.toInt_sub, own_toInt a ha, own_toInt b hb]
  exact Int.bmod_eq_of_le (by omega) (by omega)
theorem own_subN (a b : Nat) (ha : a < 2 ^ 31) (hb : b ≤ a) : Int32.ofNat a - Int32.ofNat b = Int32.ofNat (a - b) :=
  own_eq (by omega) (by rw [own_subI a b ha (by omega)]; omega)
theorem own_clamp (a : Nat) (ha : a < 2 ^ 31) : (Int32.ofNat a).toNatClampNeg = a := by
  show (Int32.ofNat a).toInt.toNat = a
  rw [own_toInt a ha]; rfl
theorem own_nneg (a : Nat) (ha : a < 2 ^ 31) : ¬ Int32.ofNat a < 0 := by
  rw [Int32.lt_iff_toInt_lt, own_toInt a ha]
  have : (0 : Int32).toInt = 0 := rfl
  omega
theorem own_ixs (a b : Nat) (ha : a < 2 ^ 31) (hb : b ≤ a) : ¬ (Int32.ofNat a - Int32.ofNat b < 0) ∧ (Int32.ofNat a - Int32.ofNat b).toNatClampNeg = a - b := by
  rw [own_subN a b ha hb]; exact ⟨own_nneg _ (by omega), own_clamp _ (by omega)⟩
theorem own_ixa (a b : Nat) (ha : a + b < 2 ^ 31) : ¬ (Int32.ofNat a + Int32.ofNat b < 0) ∧ (Int32.ofNat a + Int32.ofNat b).toNatClampNeg = a + b := by
  rw [own_addN]; exact ⟨own_nneg _ ha, own_clamp _ ha⟩
/-- a small natural behind a mask and a remainder -/
theorem own_small (x : Int32) (k : Nat) (hk0 : 0 < k) (hk : k < 2 ^ 31) : ∃ n : Nat, n < k ∧ (x &&& 2147483647) % Int32.ofNat k = Int32.ofNat n := by
  obtain ⟨q1, q2⟩ := c_and x 2147483647 (by decide)
  obtain ⟨c1, -⟩ := c_irem (x &&& 2147483647) (Int32.ofNat k) k (own_toInt k hk)
  have h1 := c1 q1
  have h2 := Int.emod_nonneg (x &&& 2147483647).toInt (b := (k : Int)) (by omega)
  have h3 := Int.emod_lt_of_pos (x &&& 2147483647).toInt (b := (k : Int)) (by omega)
  exact ⟨((x &&& 2147483647) % Int32.ofNat k).toInt.toNat, by omega, own_eq (by omega) (by omega)⟩
/-- a small natural behind a mask -/
theorem own_masked (x : Int32) (k : Nat) (hk : k < 2 ^ 31) : ∃ n : Nat, n ≤ k ∧ x &&& Int32.ofNat k = Int32.ofNat n := by
  have h0 := own_toInt k hk
  obtain ⟨q1, q2⟩ := c_and x (Int32.ofNat k) (by omega)
  exact ⟨(x &&& Int32.ofNat k).toInt.toNat, by omega, own_eq (by omega) (by omega)⟩
theorem own_cmp (x y : Int64) : XT.cmpL x y = 0 ↔ x = y := lw_eq x y
theorem own_cmplt (x y : Int64) : XT.cmpL x y < 0 ↔ x < y := lw_lt x y
theorem own_cmpgt (x y : Int64) : 0 < XT.cmpL x y ↔ y < x := lw_gt x y
end OwnNums
section OwnLayer
variable {p : Program} {l : Launch} {e : Env} {R : Room} {s : State} {m : MethodId} {args : Array Value} {below : List Frame} {meth : Method} {c : Code} {T : State} {locs : List Loc} {cells slots : Nat} {Z : State} {a0 : Array Value} {h h' : Heap}
/-- from U the run comes to a return of which Q tells (value, heap, written places), within rc cells and rs slots -/
def Goes (p : Program) (e : Env) (below : List Frame) (s : State) (rc rs : Nat) (Q : Option Value → Heap → List Loc → Prop) (U : State) : Prop :=
  ∃ t o, Steps p.tables e below U t ∧ t.status = .running ∧ Ended t below o ∧ ∃ v L, o = .returned v ∧ Q v t.heap L ∧ FrameEnd s o t L rc rs
theorem Goes.step {rc rs : Nat} {Q : Option Value → Heap → List Loc → Prop} {U V : State} (st : ∀ t, Steps p.tables e below V t → Steps p.tables e below U t) (k : Goes p e below s rc rs Q V) : Goes p e below s rc rs Q U := by
  obtain ⟨t, o, k1, k2⟩ := k
  exact ⟨t, o, st t k1, k2⟩
theorem Goes.ret {rc rs : Nat} {Q : Option Value → Heap → List Loc → Prop} (X : Stand p l e R s m args below meth c T locs cells slots) (hx : p.tables.exec = Jvm.exec) (hlk : meth.locks = false) {pc : Nat} {Ls : Array Slot} {w : Value} {t : FieldType} {i : Instr} {rest : List Value} (hret : meth.sig.returnType = some t) (hn : narrow t w = w)
    (hi : (i = .ireturn ∧ (t = .int ∨ t = .boolean ∨ t = .byte ∨ t = .char ∨ t = .short) ∧ ∃ z, w = .int z) ∨ (i = .lreturn ∧ t = .long ∧ ∃ z, w = .long z) ∨ (i = .dreturn ∧ t = .double ∧ ∃ z, w = .double z) ∨ (i = .freturn ∧ t = .float ∧ ∃ z, w = .float z) ∨ (i = .areturn ∧ t.isReference = true ∧ w.isRef = true))
    (hd : decode c.code pc = .ok (i, 1)) (hc : cells ≤ rc) (hs : slots ≤ rs) (hQ : Q (some w) T.heap locs) : Goes p e below s rc rs Q (T.setTop (mkF m pc Ls (w :: rest))) := by
  obtain ⟨fs, hr, hrun, hended, hW, hsame⟩ := X.leave (v := some w) (fun h => by rw [hret] at h; cases h) hlk
  exact ⟨_, _, retOut X hx hret hn hi hd hr, hrun, hended, _, _, rfl, hQ, ⟨_, rfl⟩, hW, hsame.mono hc hs⟩
theorem Goes.retI {rc rs : Nat} {Q : Option Value → Heap → List Loc → Prop} (X : Stand p l e R s m args below meth c T locs cells slots) (hx : p.tables.exec = Jvm.exec) (hlk : meth.locks = false) {pc : Nat} {Ls : Array Slot} {z : Int32} {rest : List Value} (hret : meth.sig.returnType = some .int)
    (hd : decode c.code pc = .ok (.ireturn, 1)) (hc : cells ≤ rc) (hs : slots ≤ rs) (hQ : Q (some (.int z)) T.heap locs) : Goes p e below s rc rs Q (T.setTop (mkF m pc Ls (.int z :: rest))) :=
  Goes.ret X hx hlk hret rfl (Or.inl ⟨rfl, Or.inl rfl, _, rfl⟩) hd hc hs hQ
theorem Goes.retZ {rc rs : Nat} {Q : Option Value → Heap → List Loc → Prop} (X : Stand p l e R s m args below meth c T locs cells slots) (hx : p.tables.exec = Jvm.exec) (hlk : meth.locks = false) {pc : Nat} {Ls : Array Slot} {z : Int32} {t : FieldType} {rest : List Value} (hret : meth.sig.returnType = some t)
    (ht : t = .boolean ∨ t = .byte ∨ t = .char ∨ t = .short) (hn : narrow t (.int z) = .int z)
    (hd : decode c.code pc = .ok (.ireturn, 1)) (hc : cells ≤ rc) (hs : slots ≤ rs) (hQ : Q (some (.int z)) T.heap locs) : Goes p e below s rc rs Q (T.setTop (mkF m pc Ls (.int z :: rest))) :=
  Goes.ret X hx hlk hret hn (Or.inl ⟨rfl, Or.inr ht, _, rfl⟩) hd hc hs hQ
theorem Goes.retJ {rc rs : Nat} {Q : Option Value → Heap → List Loc → Prop} (X : Stand p l e R s m args below meth c T locs cells slots) (hx : p.tables.exec = Jvm.exec) (hlk : meth.locks = false) {pc : Nat} {Ls : Array Slot} {z : Int64} {rest : List Value} (hret : meth.sig.returnType = some .long)
    (hd : decode c.code pc = .ok (.lreturn, 1)) (hc : cells ≤ rc) (hs : slots ≤ rs) (hQ : Q (some (.long z)) T.heap locs) : Goes p e below s rc rs Q (T.setTop (mkF m pc Ls (.long z :: rest))) :=
  Goes.ret X hx hlk hret rfl (Or.inr (Or.inl ⟨rfl, rfl, _, rfl⟩)) hd hc hs hQ
theorem own_narrow_ref {t : FieldType} {w : Value} (hw : w.isRef = true) : narrow t w = w := by
  cases w <;> simp [Value.isRef] at hw <;> cases t <;> rfl
theorem Goes.retA {rc rs : Nat} {Q : Option Value → Heap → List Loc → Prop} (X : Stand p l e R s m args below meth c T locs cells slots) (hx : p.tables.exec = Jvm.exec) (hlk : meth.locks = false) {pc : Nat} {Ls : Array Slot} {w : Value} {t : FieldType} {rest : List Value} (hret : meth.sig.returnType = some t)
    (ht : t.isReference = true) (hw : w.isRef = true)
    (hd : decode c.code pc = .ok (.areturn, 1)) (hc : cells ≤ rc) (hs : slots ≤ rs) (hQ : Q (some w) T.heap locs) : Goes p e below s rc rs Q (T.setTop (mkF m pc Ls (w :: rest))) :=
  Goes.ret X hx hlk hret (own_narrow_ref hw) (Or.inr (Or.inr (Or.inr (Or.inr ⟨rfl, ht, hw⟩)))) hd hc hs hQ
theorem Goes.retV {rc rs : Nat} {Q : Option Value → Heap → List Loc → Prop} (X : Stand p l e R s m args below meth c T locs cells slots) (hx : p.tables.exec = Jvm.exec) (hlk : meth.locks = false) {pc : Nat} {Ls : Array Slot} (hret : meth.sig.returnType = none)
    (hd : decode c.code pc = .ok (.return_, 1)) (hc : cells ≤ rc) (hs : slots ≤ rs) (hQ : Q none T.heap locs) : Goes p e below s rc rs Q (T.setTop (mkF m pc Ls [])) := by
  obtain ⟨fs, hr, hrun, hended, hW, hsame⟩ := X.leave (v := none) (fun _ => rfl) hlk
  exact ⟨_, _, X.returnOut hx hret hd hr, hrun, hended, _, _, rfl, hQ, ⟨_, rfl⟩, hW, hsame.mono hc hs⟩
/-- a static call by its contract -/
theorem own_callS (X : Stand p l e R s m args below meth c T locs cells slots) (hx : p.tables.exec = Jvm.exec) (hZ : Z.Warmed39 s.vm) {own : String} {index : Nat} {y : MethodName} {bytes : ByteArray} {maxL : Nat} {ret : Option FieldType} (hown : s.vm.findClass own = some m.cls)
    (w1 : (Cond.methodLink own index y).before a0 Z = true) (w2 : (Cond.static y).before a0 Z = true) (w3 : (Cond.initialized y.cls).before a0 Z = true) (w4 : (Cond.code y bytes maxL ret).before a0 Z = true) (hy : y.cls ≠ "java/lang/invoke/MethodHandle" ∧ y.cls ≠ "java/lang/invoke/VarHandle")
    {rm : Room} {argsL : List Value} {Q : Option Value → Heap → List Loc → Prop}
    (hM : MetFree l y (head1 [Cond.code y bytes maxL ret] rm) (fun a U => a = argsL.toArray ∧ Z.Warmed39 U.vm ∧ U.heap = h) (fun _ _ _ _ _ => True) (fun _ U o U' => ∃ v L, o = .returned v ∧ Q v U'.heap L ∧ FrameEnd U o U' L rm.cells rm.slots))
    (eT : T.heap = h) {W : Nat} (hf : rm.frames + 1 ≤ R.frames) (hl : W + (maxL + 11) + rm.locals ≤ R.locals) (hc : cells + rm.cells ≤ R.cells) (hsl : slots + rm.slots ≤ R.slots)
    {g : JFrame} (hg : g.method = m) (hsize : g.locals.size = c.maxLocals) {rest : List Value} (hlen : ∀ sig, parseMethodDescriptor y.desc = some sig → argsL.length = sig.parameters.length)
    (hstack : g.stack = argsL.reverse ++ rest) (hW : 2 * g.monitorRoom + (rest.map fun v => v.category).sum ≤ W) (hdg : decode c.code g.pc = .ok (.invokestatic index, 3)) :
    ∃ (v : Option Value) (T' : State) (L : List Loc), Stand p l e R s m args below meth c T' (locs ++ L) (cells + rm.cells) (slots + rm.slots) ∧ Q v T'.heap L ∧
      ∀ t, Steps p.tables e below (T'.setTop { g with pc := g.pc + 3, stack := v.toList ++ rest }) t → Steps p.tables e below (T.setTop g) t := by
  obtain ⟨v, _, ⟨U, Ls, k, n⟩, -, X', ⟨Lc, hQ, l1, y1, z1⟩, st⟩ := Jvm.LawKit.callS X hx (y := y) hown (mvT hZ w1) (mvT hZ w2) (mvT hZ w3) (mvT hZ w4) hy (backOf (W := W) hM hZ w4 w3 hf hl) hg hsize (argsL := argsL) (rest := rest) hlen hstack hW hdg (fun _ _ => ⟨rfl, eT, hc, hsl⟩)
  dsimp only [Pt.U, Pt.locs, Pt.cells, Pt.slots] at X' l1 y1 z1 st hQ
  subst l1 y1 z1
  exact ⟨v, U, Lc, X', hQ, st⟩
/-- a constructor's call by its contract -/
theorem own_callN (X : Stand p l e R s m args below meth c T locs cells slots) (hx : p.tables.exec = Jvm.exec) (hZ : Z.Warmed39 s.vm) {own : String} {index : Nat} {y : MethodName} {bytes : ByteArray} {maxL : Nat} (hy1 : y.name = "<init>") (hown : s.vm.findClass own = some m.cls)
    (w1 : (Cond.methodLink own index y).before a0 Z = true) (w2 : (Cond.instanceMethod y).before a0 Z = true) (w3 : (Cond.initialized y.cls).before a0 Z = true) (w4 : (Cond.code y bytes maxL none).before a0 Z = true) (hy : y.cls ≠ "java/lang/invoke/MethodHandle" ∧ y.cls ≠ "java/lang/invoke/VarHandle")
    {rm : Room} {a : Addr} {argsL : List Value} {Q : Option Value → Heap → List Loc → Prop}
    (hM : MetFree l y (head1 [Cond.code y bytes maxL none] rm) (fun b U => b = (.ref a :: argsL).toArray ∧ Z.Warmed39 U.vm ∧ U.heap = h) (fun _ _ _ _ _ => True) (fun _ U o U' => ∃ v L, o = .returned v ∧ Q v U'.heap L ∧ FrameEnd U o U' L rm.cells rm.slots))
    (eT : T.heap = h) {W : Nat} (hf : rm.frames + 1 ≤ R.frames) (hl : W + (maxL + 11) + rm.locals ≤ R.locals) (hc : cells + rm.cells ≤ R.cells) (hsl : slots + rm.slots ≤ R.slots)
    {g : JFrame} (hg : g.method = m) (hsize : g.locals.size = c.maxLocals) {rest : List Value} (hlen : ∀ sig, parseMethodDescriptor y.desc = some sig → argsL.length = sig.parameters.length)
    (hstack : g.stack = argsL.reverse ++ .ref a :: rest) (hW : 2 * g.monitorRoom + (rest.map fun v => v.category).sum ≤ W) (hdg : decode c.code g.pc = .ok (.invokespecial index, 3)) :
    ∃ (v : Option Value) (T' : State) (L : List Loc), Stand p l e R s m args below meth c T' (locs ++ L) (cells + rm.cells) (slots + rm.slots) ∧ Q v T'.heap L ∧
      ∀ t, Steps p.tables e below (T'.setTop { g with pc := g.pc + 3, stack := v.toList ++ rest }) t → Steps p.tables e below (T.setTop g) t := by
  obtain ⟨v, _, ⟨U, Ls, k, n⟩, -, X', ⟨Lc, hQ, l1, y1, z1⟩, st⟩ := X.specialBack hx (y := y) hy1 hown (mvT hZ w1) (mvT hZ w2) (mvT hZ w4) hy (backOf (W := W) hM hZ w4 w3 hf hl) hg hsize (Steps.refl _) (a := a) (argsL := argsL) (rest := rest) hlen hstack hW hdg (fun _ _ => ⟨rfl, eT, hc, hsl⟩)
  dsimp only [Pt.U, Pt.locs, Pt.cells, Pt.slots] at X' l1 y1 z1 st hQ
  subst l1 y1 z1
  exact ⟨v, U, Lc, X', hQ, fun t k => st.trans k⟩
/-- an instance method's call by its contract -/
theorem own_callV (X : Stand p l e R s m args below meth c T locs cells slots) (hx : p.tables.exec = Jvm.exec) (hZ : Z.Warmed39 s.vm) {own C : String} {index : Nat} {y : MethodName} {bytes : ByteArray} {maxL : Nat} {ret : Option FieldType} (hown : s.vm.findClass own = some m.cls)
    (w1 : (Cond.methodLink own index y).before a0 Z = true) (w2 : (Cond.declares y).before a0 Z = true) (w5 : (Cond.selects C y y).before a0 Z = true) (w6 : (Cond.instanceMethod y).before a0 Z = true) (w3 : (Cond.initialized y.cls).before a0 Z = true) (w4 : (Cond.code y bytes maxL ret).before a0 Z = true) (hy : y.cls ≠ "java/lang/invoke/MethodHandle" ∧ y.cls ≠ "java/lang/invoke/VarHandle")
    {rm : Room} {a : Addr} {argsL : List Value} {Q : Option Value → Heap → List Loc → Prop}
    (hM : MetFree l y (head1 [Cond.code y bytes maxL ret] rm) (fun b U => b = (.ref a :: argsL).toArray ∧ Z.Warmed39 U.vm ∧ U.heap = h) (fun _ _ _ _ _ => True) (fun _ U o U' => ∃ v L, o = .returned v ∧ Q v U'.heap L ∧ FrameEnd U o U' L rm.cells rm.slots))
    (eT : T.heap = h) (E : Exa Z h a C) {W : Nat} (hf : rm.frames + 1 ≤ R.frames) (hl : W + (maxL + 11) + rm.locals ≤ R.locals) (hc : cells + rm.cells ≤ R.cells) (hsl : slots + rm.slots ≤ R.slots)
    {g : JFrame} (hg : g.method = m) (hsize : g.locals.size = c.maxLocals) {rest : List Value} (hlen : ∀ sig, parseMethodDescriptor y.desc = some sig → argsL.length = sig.parameters.length)
    (hstack : g.stack = argsL.reverse ++ .ref a :: rest) (hW : 2 * g.monitorRoom + (rest.map fun v => v.category).sum ≤ W) (hdg : decode c.code g.pc = .ok (.invokevirtual index, 3)) :
    ∃ (v : Option Value) (T' : State) (L : List Loc), Stand p l e R s m args below meth c T' (locs ++ L) (cells + rm.cells) (slots + rm.slots) ∧ Q v T'.heap L ∧
      ∀ t, Steps p.tables e below (T'.setTop { g with pc := g.pc + 3, stack := v.toList ++ rest }) t → Steps p.tables e below (T.setTop g) t := by
  obtain ⟨cB, kB, qa, qb, qc⟩ := isOf hZ eT E
  obtain ⟨v, _, ⟨U, Ls, k, n⟩, -, X', ⟨Lc, hQ, l1, y1, z1⟩, st⟩ := X.virtualBack hx (y := y) (z := y) hown (mvT hZ w1) (mvT hZ w2) (notFace_of_selects (args := #[]) (mvT hZ w5)) (mvT hZ w5) (mvT hZ w6) hy (backOf (W := W) hM hZ w4 w3 hf hl) qa qc hg hsize (Steps.refl _) (argsL := argsL) (rest := rest) hlen hstack hW hdg (fun _ _ => ⟨rfl, eT, hc, hsl⟩)
  dsimp only [Pt.U, Pt.locs, Pt.cells, Pt.slots] at X' l1 y1 z1 st hQ
  subst l1 y1 z1
  exact ⟨v, U, Lc, X', hQ, fun t k => st.trans k⟩
/-- an interface method's call by its contract -/
theorem own_callI (X : Stand p l e R s m args below meth c T locs cells slots) (hx : p.tables.exec = Jvm.exec) (hZ : Z.Warmed39 s.vm) {own C : String} {index count : Nat} {xi z : MethodName} {bytes : ByteArray} {maxL : Nat} {ret : Option FieldType} (hown : s.vm.findClass own = some m.cls)
    (w1 : (Cond.methodLink own index xi).before a0 Z = true) (w2 : (Cond.declares xi).before a0 Z = true) (w7 : (Cond.interfaceMethod xi.cls xi.cls xi.name xi.desc).before a0 Z = true) (w5 : (Cond.selects C xi z).before a0 Z = true) (w6 : (Cond.instanceMethod z).before a0 Z = true) (w8 : (Cond.publicMethod z).before a0 Z = true) (w9 : (Cond.unhidden C xi.name xi.desc).before a0 Z = true) (w10 : (Cond.castable C xi.cls).before a0 Z = true)
    (hfa : ((Cond.interfaceMethod xi.cls xi.cls xi.name xi.desc).onTables && (Cond.interfaceMethod xi.cls xi.cls xi.name xi.desc).keepsFace) = true) (w3 : (Cond.initialized z.cls).before a0 Z = true) (w4 : (Cond.code z bytes maxL ret).before a0 Z = true) (hy : xi.cls ≠ "java/lang/invoke/MethodHandle" ∧ xi.cls ≠ "java/lang/invoke/VarHandle")
    {rm : Room} {a : Addr} {argsL : List Value} {Q : Option Value → Heap → List Loc → Prop}
    (hM : MetFree l z (head1 [Cond.code z bytes maxL ret] rm) (fun b U => b = (.ref a :: argsL).toArray ∧ Z.Warmed39 U.vm ∧ U.heap = h) (fun _ _ _ _ _ => True) (fun _ U o U' => ∃ v L, o = .returned v ∧ Q v U'.heap L ∧ FrameEnd U o U' L rm.cells rm.slots))
    (eT : T.heap = h) (E : Exa Z h a C) {W : Nat} (hf : rm.frames + 1 ≤ R.frames) (hl : W + (maxL + 11) + rm.locals ≤ R.locals) (hc : cells + rm.cells ≤ R.cells) (hsl : slots + rm.slots ≤ R.slots)
    {g : JFrame} (hg : g.method = m) (hsize : g.locals.size = c.maxLocals) {rest : List Value} (hlen : ∀ sig, parseMethodDescriptor xi.desc = some sig → argsL.length = sig.parameters.length)
    (hstack : g.stack = argsL.reverse ++ .ref a :: rest) (hW : 2 * g.monitorRoom + (rest.map fun v => v.category).sum ≤ W) (hdg : decode c.code g.pc = .ok (.invokeinterface index count, 5)) :
    ∃ (v : Option Value) (T' : State) (L : List Loc), Stand p l e R s m args below meth c T' (locs ++ L) (cells + rm.cells) (slots + rm.slots) ∧ Q v T'.heap L ∧
      ∀ t, Steps p.tables e below (T'.setTop { g with pc := g.pc + 5, stack := v.toList ++ rest }) t → Steps p.tables e below (T.setTop g) t := by
  obtain ⟨cB, kB, qa, qb, qc⟩ := isOf hZ eT E
  obtain ⟨v, _, ⟨U, Ls, k, n⟩, -, X', ⟨Lc, hQ, l1, y1, z1⟩, st⟩ := X.interfaceBack hx (xi := xi) (y := z) hown (mvT hZ w1) (mvT hZ w2) (mvT hZ w7 hfa) (mvT hZ w5) (mvT hZ w6) (mvT hZ w8) (mvT hZ w9) (mvT hZ w10) hy (backOf (W := W) hM hZ w4 w3 hf hl) qa qb qc hg hsize (Steps.refl _) (argsL := argsL) (rest := rest) hlen hstack hW hdg (fun _ _ => ⟨rfl, eT, hc, hsl⟩)
  dsimp only [Pt.U, Pt.locs, Pt.cells, Pt.slots] at X' l1 y1 z1 st hQ
  subst l1 y1 z1
  exact ⟨v, U, Lc, X', hQ, fun t k => st.trans k⟩
/-- an array: of n places, place j holds f j -/
def OA (Z : State) (h : Heap) (a : Addr) (ty : FieldType) (n : Nat) (f : Nat → Value) : Prop :=
  ∃ c : Cell, Arr Z h a c ty ∧ c.slots.size = n ∧ n < 2 ^ 31 ∧ ∀ j, j < n → c.slots[j]? = some (f j) ∧ fits ty (f j) = true
variable {a b : Addr} {ty : FieldType} {n k sl : Nat} {f f' : Nat → Value} {v w : Value} {j : Int32} {ws : List Addr}
theorem OA.ext (A : OA Z h a ty n f) (E : Ext h h') : OA Z h' a ty n f := by obtain ⟨c, A, r⟩ := A; exact ⟨c, A.ext E, r⟩
theorem OA.other (A : OA Z h b ty n f) (W : Wr h h' a sl v) (q : b ≠ a) : OA Z h' b ty n f := by obtain ⟨c, A, r⟩ := A; exact ⟨c, A.other W q, r⟩
theorem OA.keep (A : OA Z h a ty n f) (K : Keep h h' ws) (q : a ∉ ws) : OA Z h' a ty n f := by obtain ⟨c, A, r⟩ := A; exact ⟨c, ⟨K.2.1 a c A.1 q, A.2⟩, r⟩
theorem OA.lt (A : OA Z h a ty n f) : a < h.size := by obtain ⟨c, A, -⟩ := A; exact A.lt
theorem OA.congr (A : OA Z h a ty n f) (q : ∀ j, j < n → f j = f' j) : OA Z h a ty n f' := by
  obtain ⟨c, A, r1, r2, H⟩ := A
  exact ⟨c, A, r1, r2, fun j hj => by rw [← q j hj]; exact H j hj⟩
theorem OA.new {cA : ClassId} {z : Int32} (A : Arr Z h a (newA cA ty z) ty) (hf : fits ty (defaultValue ty) = true) (e : z.toNatClampNeg = n) : OA Z h a ty n (fun _ => defaultValue ty) := by
  refine ⟨_, A, by rw [sz_new]; exact e, ?_, fun j hj => ⟨?_, hf⟩⟩
  · have := z.toInt_lt
    have h2 : z.toNatClampNeg = z.toInt.toNat := rfl
    omega
  · simp [newA, e, hj]
theorem OA.set (A : OA Z h a ty n f) (W : Wr h h' a j.toNatClampNeg v) (e : j.toNatClampNeg = k) (hv : fits ty v = true) : OA Z h' a ty n (fun i => if i = k then v else f i) := by
  obtain ⟨c, A, r1, r2, H⟩ := A
  refine ⟨_, A.same W, by rw [sz_set]; exact r1, r2, fun i hi => ?_⟩
  obtain ⟨H1, H2⟩ := H i hi
  subst e
  by_cases q : i = j.toNatClampNeg
  · subst q
    dsimp only
    rw [if_pos rfl]
    exact ⟨by simp [Cell.setSlot, r1, hi], hv⟩
  · dsimp only
    rw [if_neg q]
    refine ⟨?_, H2⟩
    rw [← H1]
    simp [Cell.setSlot, Array.getElem?_setIfInBounds, Ne.symm q]
theorem OA.at (A : OA Z h a ty n f) (hj : ¬ j < 0) (e : j.toNatClampNeg = k) (hk : k < n) : ∃ c : Cell, Arr Z h a c ty ∧ ¬ (j < 0 ∨ c.slots.size ≤ j.toNatClampNeg) ∧ c.slots[j.toNatClampNeg]? = some (f k) ∧ fits ty (f k) = true := by
  obtain ⟨c, A, r1, r2, H⟩ := A
  obtain ⟨H1, H2⟩ := H k hk
  refine ⟨c, A, ?_, by rw [e]; exact H1, H2⟩
  rintro (q | q)
  · exact hj q
  · omega
theorem OA.fits (A : OA Z h a ty n f) (hk : k < n) : fits ty (f k) = true := by
  obtain ⟨c, A, r1, r2, H⟩ := A
  exact (H k hk).2
theorem own_alen (X : Stand p l e R s m args below meth c T locs cells slots) (hx : p.tables.exec = Jvm.exec) (hZ : Z.Warmed39 s.vm) (eT : T.heap = h) (A : OA Z h a ty n f) {z : Int32} (hz : z = n.toInt32)
    {g : JFrame} (hg : g.method = m) {rest : List Value} (hs : g.stack = .ref a :: rest) (hd : decode c.code g.pc = .ok (.arraylength, 1)) :
    ∀ t, Steps p.tables e below (T.setTop { g with pc := g.pc + 1, stack := .int z :: rest }) t → Steps p.tables e below (T.setTop g) t := by
  obtain ⟨cl, A, r1, r2, H⟩ := A
  intro t k
  refine X.arraylength hx (by rw [eT]; exact A.1) (State.isArrayOf_alike hZ.alike A.2.1) hg hs hd t ?_
  rw [r1, ← hz]
  exact k
theorem own_iaload (X : Stand p l e R s m args below meth c T locs cells slots) (hx : p.tables.exec = Jvm.exec) (hZ : Z.Warmed39 s.vm) (eT : T.heap = h) (A : OA Z h a .int n f) (hj : ¬ j < 0) (ek : j.toNatClampNeg = k) (hk : k < n) (hv : f k = v)
    {g : JFrame} (hg : g.method = m) {rest : List Value} (hs : g.stack = .int j :: .ref a :: rest) (hd : decode c.code g.pc = .ok (.iaload, 1)) :
    ∀ t, Steps p.tables e below (T.setTop { g with pc := g.pc + 1, stack := v :: rest }) t → Steps p.tables e below (T.setTop g) t := by
  obtain ⟨cl, A, q1, q2, q3⟩ := A.at hj ek hk
  subst hv
  exact fun t k => X.iaload hx (by rw [eT]; exact A.1) (State.isArrayOf_alike hZ.alike A.2.1) A.2.2 q1 q2 hg hs hd t k
theorem own_laload (X : Stand p l e R s m args below meth c T locs cells slots) (hx : p.tables.exec = Jvm.exec) (hZ : Z.Warmed39 s.vm) (eT : T.heap = h) (A : OA Z h a .long n f) (hj : ¬ j < 0) (ek : j.toNatClampNeg = k) (hk : k < n) (hv : f k = v)
    {g : JFrame} (hg : g.method = m) {rest : List Value} (hs : g.stack = .int j :: .ref a :: rest) (hd : decode c.code g.pc = .ok (.laload, 1)) :
    ∀ t, Steps p.tables e below (T.setTop { g with pc := g.pc + 1, stack := v :: rest }) t → Steps p.tables e below (T.setTop g) t := by
  obtain ⟨cl, A, q1, q2, q3⟩ := A.at hj ek hk
  subst hv
  exact fun t k => X.laload hx (by rw [eT]; exact A.1) (State.isArrayOf_alike hZ.alike A.2.1) A.2.2 q1 q2 hg hs hd t k
theorem own_caload (X : Stand p l e R s m args below meth c T locs cells slots) (hx : p.tables.exec = Jvm.exec) (hZ : Z.Warmed39 s.vm) (eT : T.heap = h) (A : OA Z h a .char n f) (hj : ¬ j < 0) (ek : j.toNatClampNeg = k) (hk : k < n) (hv : f k = v)
    {g : JFrame} (hg : g.method = m) {rest : List Value} (hs : g.stack = .int j :: .ref a :: rest) (hd : decode c.code g.pc = .ok (.caload, 1)) :
    ∀ t, Steps p.tables e below (T.setTop { g with pc := g.pc + 1, stack := v :: rest }) t → Steps p.tables e below (T.setTop g) t := by
  obtain ⟨cl, A, q1, q2, q3⟩ := A.at hj ek hk
  subst hv
  exact fun t k => X.caload hx (by rw [eT]; exact A.1) (State.isArrayOf_alike hZ.alike A.2.1) A.2.2 q1 q2 hg hs hd t k
theorem own_baload (X : Stand p l e R s m args below meth c T locs cells slots) (hx : p.tables.exec = Jvm.exec) (hZ : Z.Warmed39 s.vm) (eT : T.heap = h) (A : OA Z h a .byte n f) (hj : ¬ j < 0) (ek : j.toNatClampNeg = k) (hk : k < n) (hv : f k = v)
    {g : JFrame} (hg : g.method = m) {rest : List Value} (hs : g.stack = .int j :: .ref a :: rest) (hd : decode c.code g.pc = .ok (.baload, 1)) :
    ∀ t, Steps p.tables e below (T.setTop { g with pc := g.pc + 1, stack := v :: rest }) t → Steps p.tables e below (T.setTop g) t := by
  obtain ⟨cl, A, q1, q2, q3⟩ := A.at hj ek hk
  subst hv
  exact fun t k => X.baloadBytes hx (by rw [eT]; exact A.1) (State.isArrayOf_alike hZ.alike A.2.1) A.2.2 q1 q2 hg hs hd t k
theorem own_aaload (X : Stand p l e R s m args below meth c T locs cells slots) (hx : p.tables.exec = Jvm.exec) (hZ : Z.Warmed39 s.vm) (eT : T.heap = h) (A : OA Z h a ty n f) (hty : ty.isReference = true) (hj : ¬ j < 0) (ek : j.toNatClampNeg = k) (hk : k < n) (hv : f k = v)
    {g : JFrame} (hg : g.method = m) {rest : List Value} (hs : g.stack = .int j :: .ref a :: rest) (hd : decode c.code g.pc = .ok (.aaload, 1)) :
    ∀ t, Steps p.tables e below (T.setTop { g with pc := g.pc + 1, stack := v :: rest }) t → Steps p.tables e below (T.setTop g) t := by
  obtain ⟨cl, A, q1, q2, q3⟩ := A.at hj ek hk
  subst hv
  exact fun t k => X.aaload hx (by rw [eT]; exact A.1) (State.isArrayOf_alike hZ.alike A.2.1) hty A.2.2 q1 q2 hg hs hd t k
/-- stores: the new heap, the array's new values -/
theorem own_stI (X : Stand p l e R s m args below meth c T locs cells slots) (hx : p.tables.exec = Jvm.exec) (hZ : Z.Warmed39 s.vm) (eT : T.heap = h) (A : OA Z h a .int n f) {x : Int32} (hj : ¬ j < 0) (ek : j.toNatClampNeg = k) (hk : k < n)
    {g : JFrame} (hg : g.method = m) {rest : List Value} (hs : g.stack = .int x :: .int j :: .ref a :: rest) (hd : decode c.code g.pc = .ok (.iastore, 1)) :
    ∃ T' h', Stand p l e R s m args below meth c T' (locs ++ [⟨a, j.toNatClampNeg⟩]) cells slots ∧ T'.heap = h' ∧ Wr h h' a j.toNatClampNeg (.int x) ∧ OA Z h' a .int n (fun i => if i = k then .int x else f i) ∧
      ∀ t, Steps p.tables e below (T'.setTop { g with pc := g.pc + 1, stack := rest }) t → Steps p.tables e below (T.setTop g) t := by
  obtain ⟨cl, A', q1, q2, q3⟩ := A.at hj ek hk
  obtain ⟨T', h', X', e', W', st⟩ := stI X hx hZ eT A' q1 hg hs hd
  exact ⟨T', h', X', e', W', A.set W' ek rfl, st⟩
theorem own_stJ (X : Stand p l e R s m args below meth c T locs cells slots) (hx : p.tables.exec = Jvm.exec) (hZ : Z.Warmed39 s.vm) (eT : T.heap = h) (A : OA Z h a .long n f) {x : Int64} (hj : ¬ j < 0) (ek : j.toNatClampNeg = k) (hk : k < n)
    {g : JFrame} (hg : g.method = m) {rest : List Value} (hs : g.stack = .long x :: .int j :: .ref a :: rest) (hd : decode c.code g.pc = .ok (.lastore, 1)) :
    ∃ T' h', Stand p l e R s m args below meth c T' (locs ++ [⟨a, j.toNatClampNeg⟩]) cells slots ∧ T'.heap = h' ∧ Wr h h' a j.toNatClampNeg (.long x) ∧ OA Z h' a .long n (fun i => if i = k then .long x else f i) ∧
      ∀ t, Steps p.tables e below (T'.setTop { g with pc := g.pc + 1, stack := rest }) t → Steps p.tables e below (T.setTop g) t := by
  obtain ⟨cl, A', q1, q2, q3⟩ := A.at hj ek hk
  obtain ⟨T', h', X', e', W', st⟩ := stJ X hx hZ eT A' q1 hg hs hd
  exact ⟨T', h', X', e', W', A.set W' ek rfl, st⟩
theorem own_stB (X : Stand p l e R s m args below meth c T locs cells slots) (hx : p.tables.exec = Jvm.exec) (hZ : Z.Warmed39 s.vm) (eT : T.heap = h) (A : OA Z h a .byte n f) {x : Int32} (hj : ¬ j < 0) (ek : j.toNatClampNeg = k) (hk : k < n)
    {g : JFrame} (hg : g.method = m) {rest : List Value} (hs : g.stack = .int x :: .int j :: .ref a :: rest) (hd : decode c.code g.pc = .ok (.bastore, 1)) :
    ∃ T' h', Stand p l e R s m args below meth c T' (locs ++ [⟨a, j.toNatClampNeg⟩]) cells slots ∧ T'.heap = h' ∧ Wr h h' a j.toNatClampNeg (.int (nar .byte x)) ∧ OA Z h' a .byte n (fun i => if i = k then .int (nar .byte x) else f i) ∧
      ∀ t, Steps p.tables e below (T'.setTop { g with pc := g.pc + 1, stack := rest }) t → Steps p.tables e below (T.setTop g) t := by
  obtain ⟨cl, A', q1, q2, q3⟩ := A.at hj ek hk
  obtain ⟨T', h', X', e', W', st⟩ := stB X hx hZ eT A' q1 hg hs hd
  exact ⟨T', h', X', e', W', A.set W' ek (fits_nar_byte _), st⟩
theorem own_stC (X : Stand p l e R s m args below meth c T locs cells slots) (hx : p.tables.exec = Jvm.exec) (hZ : Z.Warmed39 s.vm) (eT : T.heap = h) (A : OA Z h a .char n f) {x : Int32} (hj : ¬ j < 0) (ek : j.toNatClampNeg = k) (hk : k < n)
    {g : JFrame} (hg : g.method = m) {rest : List Value} (hs : g.stack = .int x :: .int j :: .ref a :: rest) (hd : decode c.code g.pc = .ok (.castore, 1)) :
    ∃ T' h', Stand p l e R s m args below meth c T' (locs ++ [⟨a, j.toNatClampNeg⟩]) cells slots ∧ T'.heap = h' ∧ Wr h h' a j.toNatClampNeg (.int (nar .char x)) ∧ OA Z h' a .char n (fun i => if i = k then .int (nar .char x) else f i) ∧
      ∀ t, Steps p.tables e below (T'.setTop { g with pc := g.pc + 1, stack := rest }) t → Steps p.tables e below (T.setTop g) t := by
  obtain ⟨cl, A', q1, q2, q3⟩ := A.at hj ek hk
  obtain ⟨T', h', X', e', W', st⟩ := stC X hx hZ eT A' q1 hg hs hd
  exact ⟨T', h', X', e', W', A.set W' ek (fits_nar_char _), st⟩
theorem own_newP (X : Stand p l e R s m args below meth c T locs cells slots) (hx : p.tables.exec = Jvm.exec) (hZ : Z.Warmed39 s.vm) {aty : ArrayType} (w : (Cond.arrayClass (newarray.typeOf aty)).before a0 Z = true) (eT : T.heap = h) {z : Int32} (hz : ¬ z < 0) (en : z.toNatClampNeg = n) {cap : Nat} (hcap : n ≤ cap) (hb : cap * 8 ≤ 536870912) (hc : cells + 1 ≤ R.cells) (hl : slots + cap ≤ R.slots)
    {g : JFrame} (hg : g.method = m) {rest : List Value} (hs : g.stack = .int z :: rest) (hd : decode c.code g.pc = .ok (.newarray aty, 2)) :
    ∃ T' h', Stand p l e R s m args below meth c T' locs (cells + 1) (slots + cap) ∧ T'.heap = h' ∧ Ext h h' ∧ OA Z h' h.size (newarray.typeOf aty) n (fun _ => defaultValue (newarray.typeOf aty)) ∧
      ∀ t, Steps p.tables e below (T'.setTop { g with pc := g.pc + 2, stack := .ref h.size :: rest }) t → Steps p.tables e below (T.setTop g) t := by
  obtain ⟨T', h', cA, X', e', E', A', st⟩ := newP X hx hZ w eT hg hd hs hz (cap := cap) (en ▸ hcap) hb hc hl
  exact ⟨T', h', X', e', E', OA.new A' (by cases aty <;> rfl) en, st⟩
theorem OA.arv (A : OA Z h a ty n f) (d : Value) : ∃ k, Arv Z h a k ty (Int32.ofNat n) ((List.range n).map f) d := by
  obtain ⟨c, A, r1, r2, H⟩ := A
  have q : ∀ i, i < n → ((List.range n).map f).getD i d = f i := fun i hi => by simp [hi]
  exact ⟨c.cls, c, A, rfl, by rw [own_clamp n r2]; exact r1, own_nneg n r2, fun i hi => by rw [q i (by omega)]; exact (H i (by omega)).1, fun i hi => by rw [q i (by omega)]; exact (H i (by omega)).2⟩
theorem OA.of_arv {k : ClassId} {vs : List Value} {d : Value} {z : Int32} (A : Arv Z h a k ty z vs d) (e : z.toNatClampNeg = n) (q : ∀ i, i < n → vs.getD i d = f i) : OA Z h a ty n f := by
  obtain ⟨c, A, r1, r2, r3, H, G⟩ := A
  refine ⟨c, A, by omega, ?_, fun i hi => ?_⟩
  · have := z.toInt_lt
    have h2 : z.toNatClampNeg = z.toInt.toNat := rfl
    omega
  · rw [← q i hi]
    exact ⟨H i (by omega), G i (by omega)⟩
theorem own_spliced (vd us : List Value) (d : Value) (dp m : Nat) (hu : us.length = m) (hl : dp + m ≤ vd.length) (i : Nat) : (vd.take dp ++ us ++ vd.drop (dp + m)).getD i d = if dp ≤ i ∧ i < dp + m then us.getD (i - dp) d else vd.getD i d := by
  have h1 : (vd.take dp).length = dp := by rw [List.length_take]; omega
  by_cases c1 : i < dp
  · rw [if_neg (by omega)]
    simp only [List.getD_eq_getElem?_getD]
    rw [List.append_assoc, List.getElem?_append_left (by omega), List.getElem?_take_of_lt c1]
  · by_cases c2 : i < dp + m
    · rw [if_pos ⟨by omega, c2⟩]
      simp only [List.getD_eq_getElem?_getD]
      rw [List.append_assoc, List.getElem?_append_right (by omega), h1, List.getElem?_append_left (by omega)]
    · rw [if_neg (by omega)]
      simp only [List.getD_eq_getElem?_getD]
      rw [List.getElem?_append_right (by rw [List.length_append]; omega), List.getElem?_drop, List.length_append, h1, hu]
      have e : dp + m + (i - (dp + m)) = i := by omega
      rw [e]
/-- System.arraycopy between arrays of one primitive kind -/
theorem own_copy (X : Stand p l e R s m args below meth c T locs cells slots) (hx : p.tables.exec = Jvm.exec) (hZ : Z.Warmed39 s.vm) {own : String} {index : Nat} (hown : s.vm.findClass own = some m.cls)
    (w1 : (Cond.methodLink own index Jvm.Stand.acN).before a0 Z = true) (w2 : (Cond.native Jvm.Stand.acN).before a0 Z = true) (w3 : (Cond.static Jvm.Stand.acN).before a0 Z = true) (w4 : (Cond.initialized "java/lang/System").before a0 Z = true) (eT : T.heap = h)
    {n' sp dp nn : Nat} (A : OA Z h a ty n f) (B : OA Z h b ty n' f') (hty : refKind ty = false) (h1 : sp + nn ≤ n) (h2 : dp + nn ≤ n') {n0 : Nat} (N : Fr n0 locs) (ge : n0 ≤ b)
    {g : JFrame} (hg : g.method = m) (hsize : g.locals.size = c.maxLocals) {rest : List Value} (hs : g.stack = .int (Int32.ofNat nn) :: .int (Int32.ofNat dp) :: .ref b :: .int (Int32.ofNat sp) :: .ref a :: rest) (hd : decode c.code g.pc = .ok (.invokestatic index, 3))
    (hf : 1 ≤ R.frames) {W : Nat} (hW : 2 * g.monitorRoom + (rest.map fun v => v.category).sum ≤ W) (hlo : W + 18 ≤ R.locals) :
    ∃ T' h' L, Stand p l e R s m args below meth c T' L cells slots ∧ T'.heap = h' ∧ Fr n0 L ∧ Keep h h' [b] ∧ OA Z h' b ty n' (fun i => if dp ≤ i ∧ i < dp + nn then f (sp + (i - dp)) else f' i) ∧
      ∀ t, Steps p.tables e below (T'.setTop { g with pc := g.pc + 3, stack := rest }) t → Steps p.tables e below (T.setTop g) t := by
  have hn : n < 2 ^ 31 := by obtain ⟨c, A, r1, r2, H⟩ := A; exact r2
  have hn' : n' < 2 ^ 31 := by obtain ⟨c, A, r1, r2, H⟩ := B; exact r2
  obtain ⟨k, A'⟩ := A.arv (.int 0)
  obtain ⟨k', B'⟩ := B.arv (.int 0)
  have c1 := own_clamp sp (by omega)
  have c2 := own_clamp dp (by omega)
  have c3 := own_clamp nn (by omega)
  obtain ⟨T', h', L, X', e', N', K', A2, st⟩ := cpA X hx hZ hown w1 w2 w3 w4 eT A' B' (Or.inl ⟨rfl, hty⟩) (own_nneg sp (by omega)) (own_nneg dp (by omega)) (own_nneg nn (by omega)) (by rw [c1, c3, own_clamp n hn]; exact h1) (by rw [c2, c3, own_clamp n' hn']; exact h2) rfl (by rw [c2, c3]; simpa using h2) N ge hg hsize hs hd hf hW hlo
  refine ⟨T', h', L, X', e', N', K', OA.of_arv A2 (own_clamp n' hn') (fun i hi => ?_), st⟩
  rw [c1, c2, c3, own_spliced _ _ _ _ _ (by simp) (by simpa using h2)]
  by_cases q : dp ≤ i ∧ i < dp + nn
  · rw [if_pos q, if_pos q]
    have q3 : i - dp < nn := by omega
    have q4 : sp + (i - dp) < n := by omega
    simp [q3, q4]
  · rw [if_neg q, if_neg q]
    simp [hi]
/-- an array of references of class C: of n places, place j holds f j -/
def OR (Z : State) (h : Heap) (a : Addr) (C : String) (n : Nat) (f : Nat → Value) : Prop :=
  ∃ c : Cell, Arr Z h a c (.object C) ∧ Ovr Z c.cls C ∧ c.slots.size = n ∧ n < 2 ^ 31 ∧ ∀ j, j < n → c.slots[j]? = some (f j) ∧ (f j).isRef = true
variable {C : String}
theorem OR.ext (A : OR Z h a C n f) (E : Ext h h') : OR Z h' a C n f := by obtain ⟨c, A, r⟩ := A; exact ⟨c, A.ext E, r⟩
theorem OR.other (A : OR Z h b C n f) (W : Wr h h' a sl v) (q : b ≠ a) : OR Z h' b C n f := by obtain ⟨c, A, r⟩ := A; exact ⟨c, A.other W q, r⟩
theorem OR.keep (A : OR Z h a C n f) (K : Keep h h' ws) (q : a ∉ ws) : OR Z h' a C n f := by obtain ⟨c, A, r⟩ := A; exact ⟨c, ⟨K.2.1 a c A.1 q, A.2⟩, r⟩
theorem OR.lt (A : OR Z h a C n f) : a < h.size := by obtain ⟨c, A, -⟩ := A; exact A.lt
theorem OR.congr (A : OR Z h a C n f) (q : ∀ j, j < n → f j = f' j) : OR Z h a C n f' := by
  obtain ⟨c, A, o, r1, r2, H⟩ := A
  exact ⟨c, A, o, r1, r2, fun j hj => by rw [← q j hj]; exact H j hj⟩
theorem own_newR (X : Stand p l e R s m args below meth c T locs cells slots) (hx : p.tables.exec = Jvm.exec) (hZ : Z.Warmed39 s.vm) {own : String} {index : Nat} (hown : s.vm.findClass own = some m.cls) (w1 : (Cond.classLink own index C).before a0 Z = true) (w2 : (Cond.arrayOver (.object C)).before a0 Z = true) (eT : T.heap = h) {z : Int32} (hz : ¬ z < 0) (en : z.toNatClampNeg = n) {cap : Nat} (hcap : n ≤ cap) (hb : cap * 8 ≤ 536870912) (hc : cells + 1 ≤ R.cells) (hl : slots + cap ≤ R.slots)
    {g : JFrame} (hg : g.method = m) {rest : List Value} (hs : g.stack = .int z :: rest) (hd : decode c.code g.pc = .ok (.anewarray index, 3)) :
    ∃ T' h', Stand p l e R s m args below meth c T' locs (cells + 1) (slots + cap) ∧ T'.heap = h' ∧ Ext h h' ∧ OR Z h' h.size C n (fun _ => .null) ∧
      ∀ t, Steps p.tables e below (T'.setTop { g with pc := g.pc + 3, stack := .ref h.size :: rest }) t → Steps p.tables e below (T.setTop g) t := by
  obtain ⟨T', h', cA, X', e', E', A', O', st⟩ := newR X hx hZ hown w1 w2 eT hg hd hs hz (cap := cap) (en ▸ hcap) hb hc hl
  refine ⟨T', h', X', e', E', ⟨_, A', O', by rw [sz_new]; exact en, ?_, fun j hj => ⟨?_, rfl⟩⟩, st⟩
  · have := z.toInt_lt
    have h2 : z.toNatClampNeg = z.toInt.toNat := rfl
    omega
  · simp [newA, en, hj, defaultValue]
theorem own_stR (X : Stand p l e R s m args below meth c T locs cells slots) (hx : p.tables.exec = Jvm.exec) (hZ : Z.Warmed39 s.vm) (eT : T.heap = h) (A : OR Z h a C n f) {y : Addr} (I : Ins Z h y C true) (hj : ¬ j < 0) (ek : j.toNatClampNeg = k) (hk : k < n)
    {g : JFrame} (hg : g.method = m) {rest : List Value} (hs : g.stack = .ref y :: .int j :: .ref a :: rest) (hd : decode c.code g.pc = .ok (.aastore, 1)) :
    ∃ T' h', Stand p l e R s m args below meth c T' (locs ++ [⟨a, j.toNatClampNeg⟩]) cells slots ∧ T'.heap = h' ∧ Wr h h' a j.toNatClampNeg (.ref y) ∧ OR Z h' a C n (fun i => if i = k then .ref y else f i) ∧
      ∀ t, Steps p.tables e below (T'.setTop { g with pc := g.pc + 1, stack := rest }) t → Steps p.tables e below (T.setTop g) t := by
  obtain ⟨cl, A', O', r1, r2, H⟩ := A
  have q1 : ¬ (j < 0 ∨ cl.slots.size ≤ j.toNatClampNeg) := by
    rintro (q | q)
    · exact hj q
    · omega
  obtain ⟨T', h', X', e', W', st⟩ := stR X hx hZ eT A' q1 rfl (Sto.of A' O' I) hg hs hd
  refine ⟨T', h', X', e', W', ⟨_, A'.same W', O', by rw [sz_set]; exact r1, r2, fun i hi => ?_⟩, st⟩
  obtain ⟨H1, H2⟩ := H i hi
  subst ek
  by_cases q : i = j.toNatClampNeg
  · subst q
    dsimp only
    rw [if_pos rfl]
    exact ⟨by simp [Cell.setSlot, r1, hi], rfl⟩
  · dsimp only
    rw [if_neg q]
    refine ⟨?_, H2⟩
    rw [← H1]
    simp [Cell.setSlot, Array.getElem?_setIfInBounds, Ne.symm q]
theorem own_raload (X : Stand p l e R s m args below meth c T locs cells slots) (hx : p.tables.exec = Jvm.exec) (hZ : Z.Warmed39 s.vm) (eT : T.heap = h) (A : OR Z h a C n f) (hj : ¬ j < 0) (ek : j.toNatClampNeg = k) (hk : k < n) (hv : f k = v)
    {g : JFrame} (hg : g.method = m) {rest : List Value} (hs : g.stack = .int j :: .ref a :: rest) (hd : decode c.code g.pc = .ok (.aaload, 1)) :
    ∀ t, Steps p.tables e below (T.setTop { g with pc := g.pc + 1, stack := v :: rest }) t → Steps p.tables e below (T.setTop g) t := by
  obtain ⟨cl, A', O', r1, r2, H⟩ := A
  have q1 : ¬ (j < 0 ∨ cl.slots.size ≤ j.toNatClampNeg) := by
    rintro (q | q)
    · exact hj q
    · omega
  subst hv
  exact fun t k' => X.aaload hx (by rw [eT]; exact A'.1) (State.isArrayOf_alike hZ.alike A'.2.1) rfl A'.2.2 q1 (by rw [ek]; exact (H k hk).1) hg hs hd t k'
theorem own_fits_ref {t : FieldType} {w : Value} (ht : t.isReference = true) (hw : w.isRef = true) : fits t w = true := by
  cases w <;> simp [Value.isRef] at hw <;> cases t <;> first | rfl | (simp [FieldType.isReference] at ht)
end OwnLayer
def own_bt (k : Nat) : Int32 := (Int32.ofNat k).toInt8.toInt32
def own_by (u : Bool) (c : Nat → Nat) : Nat → Value := fun j => if u then (if j % 2 = 0 then .int (own_bt (c (j / 2))) else .int (own_bt (c (j / 2) / 256))) else .int (own_bt (c j))
def own_len (u : Bool) (n : Nat) : Nat := if u then 2 * n else n
def own_cd (u : Bool) : Int32 := if u then 1 else 0
theorem own_bt_nar (x : Int32) : nar .byte x.toInt8.toInt32 = x.toInt8.toInt32 := by
  show x.toInt8.toInt32.toInt8.toInt32 = _
  simp
theorem own_bt255 (k : Nat) (h : k < 2 ^ 31) : own_bt k &&& 255 = Int32.ofNat (k % 256) := by
  have h1 := c_mask (own_bt k) 255 8 (by decide) rfl
  have h2 := (c_i2b (Int32.ofNat k)).1
  rw [own_toInt k h] at h2
  refine own_eq (by omega) ?_
  rw [h1]
  show (Int32.ofNat k).toInt8.toInt32.toInt % ((2 ^ 8 : Nat) : Int) = _
  omega
theorem own_i2c (k : Nat) (h : k < 65536) : (Int32.ofNat k).toUInt32.toUInt16.toUInt32.toInt32 = Int32.ofNat k := by
  obtain ⟨h1, h2, h3⟩ := c_i2c (Int32.ofNat k)
  rw [own_toInt k (by omega)] at h1
  exact own_eq (by omega) (by omega)
theorem own_nchar (k : Nat) (h : k < 65536) : narrow .char (.int (Int32.ofNat k)) = .int (Int32.ofNat k) := congrArg Value.int (own_i2c k h)
theorem own_charnar (k : Nat) (h : k < 65536) : nar .char (Int32.ofNat k) = Int32.ofNat k := own_i2c k h
theorem own_char (x : Int32) : ∃ k : Nat, k < 65536 ∧ x.toUInt32.toUInt16.toUInt32.toInt32 = Int32.ofNat k := by
  obtain ⟨h1, h2, h3⟩ := c_i2c x
  exact ⟨x.toUInt32.toUInt16.toUInt32.toInt32.toInt.toNat, by omega, own_eq (by omega) (by omega)⟩
theorem own_shr8 (k : Nat) (h : k < 2 ^ 31) : Int32.ofNat k >>> ((8 : Int32) &&& 31) = Int32.ofNat (k / 256) := by
  have h1 := c_ishr (Int32.ofNat k) 8 8 rfl
  rw [own_toInt k h] at h1
  exact own_eq (by omega) (by rw [h1]; omega)
theorem own_shr0 (k : Nat) (h : k < 2 ^ 31) : Int32.ofNat k >>> ((0 : Int32) &&& 31) = Int32.ofNat k := by
  have h1 := c_ishr (Int32.ofNat k) 0 0 rfl
  rw [own_toInt k h] at h1
  exact own_eq h (by rw [h1]; omega)
theorem own_shr1 (k : Nat) (h : k < 2 ^ 30) : Int32.ofNat (2 * k) >>> ((1 : Int32) &&& 31) = Int32.ofNat k := by
  have h1 := c_ishr (Int32.ofNat (2 * k)) 1 1 rfl
  rw [own_toInt (2 * k) (by omega)] at h1
  exact own_eq (by omega) (by rw [h1]; omega)
theorem own_shl1 (k : Nat) (h : k < 2 ^ 30) : Int32.ofNat k <<< ((1 : Int32) &&& 31) = Int32.ofNat (2 * k) := by
  have h1 := c_ishl (Int32.ofNat k) 1 1 rfl
  have h2 := rng32 (Int32.ofNat k <<< ((1 : Int32) &&& 31))
  rw [own_toInt k (by omega)] at h1
  exact own_eq (by omega) (by omega)
theorem own_shl0 (k : Nat) (h : k < 2 ^ 30) : Int32.ofNat k <<< ((0 : Int32) &&& 31) = Int32.ofNat k := by
  have h1 := c_ishl (Int32.ofNat k) 0 0 rfl
  have h2 := rng32 (Int32.ofNat k <<< ((0 : Int32) &&& 31))
  rw [own_toInt k (by omega)] at h1
  exact own_eq (by omega) (by omega)
theorem own_shl8 (k : Nat) (h : k < 65536) : Int32.ofNat k <<< ((8 : Int32) &&& 31) = Int32.ofNat (256 * k) := by
  have h1 := c_ishl (Int32.ofNat k) 8 8 rfl
  have h2 := rng32 (Int32.ofNat k <<< ((8 : Int32) &&& 31))
  rw [own_toInt k (by omega)] at h1
  exact own_eq (by omega) (by omega)
theorem own_join (c : Nat) (h : c < 65536) : (Int32.ofNat (c % 256) <<< ((0 : Int32) &&& 31)) ||| (Int32.ofNat (c / 256 % 256) <<< ((8 : Int32) &&& 31)) = Int32.ofNat c := by
  rw [own_shl0 _ (by omega), own_shl8 _ (by omega)]
  have h1 := own_toInt (c % 256) (by omega)
  have h2 := own_toInt (256 * (c / 256 % 256)) (by omega)
  have h3 := c_or' (Int32.ofNat (c % 256)) (Int32.ofNat (256 * (c / 256 % 256))) 8 (by decide) 256 rfl (by omega) (by omega) (by omega)
  have h4 := rng32 (Int32.ofNat (c % 256) ||| Int32.ofNat (256 * (c / 256 % 256)))
  exact own_eq (by omega) (by omega)
theorem own_by_lo (c : Nat → Nat) (i : Nat) : own_by true c (2 * i) = .int (own_bt (c i)) := by
  have h1 : 2 * i % 2 = 0 := by omega
  have h2 : 2 * i / 2 = i := by omega
  simp [own_by, h1, h2]
theorem own_by_hi (c : Nat → Nat) (i : Nat) : own_by true c (2 * i + 1) = .int (own_bt (c i / 256)) := by
  have h1 : ¬ (2 * i + 1) % 2 = 0 := by omega
  have h2 : (2 * i + 1) / 2 = i := by omega
  simp [own_by, h1, h2]
theorem own_cd_byte (u : Bool) : narrow .byte (.int (own_cd u)) = .int (own_cd u) ∧ fits .byte (.int (own_cd u)) = true := by cases u <;> exact ⟨rfl, rfl⟩
theorem own_cd0 (n : Nat) : (XT.ushr (Int32.ofNat n - Int32.ofNat n) (31 : Int32)).toInt8.toInt32 = (0 : Int32) := by
  rw [Int32.sub_self]; rfl
theorem own_cd1 (n : Nat) (h0 : 0 < n) (h : n < 2 ^ 30) : (XT.ushr (Int32.ofNat n - Int32.ofNat (2 * n)) (31 : Int32)).toInt8.toInt32 = (1 : Int32) := by
  have h1 := c_iushr (Int32.ofNat n - Int32.ofNat (2 * n)) 31 31 rfl (by decide)
  rw [own_subI n (2 * n) (by omega) (by omega)] at h1
  have h2 : XT.ushr (Int32.ofNat n - Int32.ofNat (2 * n)) (31 : Int32) = Int32.ofNat 1 := by
    refine own_eq (by decide) ?_
    show ((Int32.ofNat n - Int32.ofNat (2 * n)).toUInt32 >>> ((31 : Int32) &&& 31).toUInt32).toInt32.toInt = _
    rw [h1]
    omega
  rw [h2]
  rfl
theorem own_part_next {Z : State} {h : Heap} {b : Addr} {n i : Nat} {c : Nat → Nat} (A : OA Z h b .byte (2 * n) (fun j => if j = 2 * i + 1 then .int (own_bt (c i / 256)) else if j = 2 * i then .int (own_bt (c i)) else if j < 2 * i then own_by true c j else .int 0)) :
    OA Z h b .byte (2 * n) (fun j => if j < 2 * (i + 1) then own_by true c j else .int 0) := A.congr fun j hj => by
  by_cases h1 : j = 2 * i + 1
  · rw [if_pos h1, if_pos (by omega), h1, own_by_hi]
  · by_cases h2 : j = 2 * i
    · rw [if_neg h1, if_pos h2, if_pos (by omega), h2, own_by_lo]
    · by_cases h3 : j < 2 * i
      · rw [if_neg h1, if_neg h2, if_pos h3, if_pos (by omega)]
      · rw [if_neg h1, if_neg h2, if_neg h3, if_neg (by omega)]
theorem own_lat_next {Z : State} {h : Heap} {b : Addr} {n i : Nat} {c : Nat → Nat} {f : Nat → Value} (A : OA Z h b .byte n (fun j => if j = i then .int (own_bt (c i)) else if j < i then own_by false c j else f j)) :
    OA Z h b .byte n (fun j => if j < i + 1 then own_by false c j else f j) := A.congr fun j hj => by
  by_cases h2 : j = i
  · rw [if_pos h2, if_pos (by omega), h2]; rfl
  · by_cases h3 : j < i
    · rw [if_neg h2, if_pos h3, if_pos (by omega)]
    · rw [if_neg h2, if_neg h3, if_neg (by omega)]
def own_ST (Z : State) (cs : Int32) (fm : Value) : Prop := Sta Z Z.heap "java/lang/String" "COMPACT_STRINGS" "Z" (.int cs) ∧ cs ≠ 0 ∧ Sta Z Z.heap "jdk/internal/util/Preconditions" "SIOOBE_FORMATTER" "Ljava/util/function/BiFunction;" fm ∧ fm.isRef = true ∧ Sta Z Z.heap "java/lang/StringUTF16" "$assertionsDisabled" "Z" (.int 1) ∧ Sta Z Z.heap "java/lang/StringUTF16" "HI_BYTE_SHIFT" "I" (.int 0) ∧ Sta Z Z.heap "java/lang/StringUTF16" "LO_BYTE_SHIFT" "I" (.int 8) ∧ True
section OwnCold
variable {p : Program} {l : Launch} {e : Env} {R : Room} {s : State} {m : MethodId} {args : Array Value} {below : List Frame} {meth : Method} {c : Code} {T : State} {locs : List Loc} {cells slots : Nat} {Z : State} {a0 : Array Value} {h h' : Heap} {EL : List (String × Nat)} {vm0 : Vm}
/-- as Goes, for a walk that may load String constants -/
def GoesW (p : Program) (e : Env) (below : List Frame) (s : State) (rc rs : Nat) (Z : State) (EL : List (String × Nat)) (Q : Option Value → Heap → List Loc → Prop) (U : State) : Prop :=
  ∃ t o, Steps p.tables e below U t ∧ t.status = .running ∧ Ended t below o ∧ ∃ v L, o = .returned v ∧ Q v t.heap L ∧ CHr Z EL s.vm s.heap t.vm t.heap ∧ ReturnedEndW s o t L rc rs
theorem GoesW.step {rc rs : Nat} {Q : Option Value → Heap → List Loc → Prop} {U V : State} (st : ∀ t, Steps p.tables e below V t → Steps p.tables e below U t) (k : GoesW p e below s rc rs Z EL Q V) : GoesW p e below s rc rs Z EL Q U := by
  obtain ⟨t, o, k1, k2⟩ := k
  exact ⟨t, o, st t k1, k2⟩
/-- what such a walk keeps beside its Stand over s.setVm vm0 -/
def Cold (Z : State) (EL : List (String × Nat)) (s : State) (vm0 : Vm) (h : Heap) : Prop := (∃ k0, s.Since vm0 k0 ∧ k0 ≤ h.size) ∧ CHr Z EL s.vm s.heap vm0 h
theorem Cold.start (H : CHv Z EL s.vm s.heap) : Cold Z EL s s.vm s.heap := ⟨⟨0, (State.WarmedH.refl s).since 0, Nat.zero_le _⟩, CHr.refl H⟩
theorem Cold.ext (C : Cold Z EL s vm0 h) (E : Ext h h') : Cold Z EL s vm0 h' := by
  obtain ⟨⟨k0, hS, hk⟩, C⟩ := C
  exact ⟨⟨k0, hS, Nat.le_trans hk E.1⟩, C.trans (CHr.ext E C.1)⟩
theorem Cold.wr {a : Addr} {sl : Nat} {v : Value} (C : Cold Z EL s vm0 h) (W : Wr h h' a sl v) (S : Safe Z EL vm0 h a) : Cold Z EL s vm0 h' := by
  obtain ⟨⟨k0, hS, hk⟩, C⟩ := C
  exact ⟨⟨k0, hS, Nat.le_trans hk (Keep.of_wr W).1⟩, C.trans (CHr.wr W S C.1)⟩
theorem Cold.keep {ws : List Addr} (C : Cold Z EL s vm0 h) (K : Keep h h' ws) (hs : ∀ x ∈ ws, Safe Z EL vm0 h x) : Cold Z EL s vm0 h' := by
  obtain ⟨⟨k0, hS, hk⟩, C⟩ := C
  exact ⟨⟨k0, hS, Nat.le_trans hk K.1⟩, C.trans (CHr.keep K hs C.1)⟩
theorem Cold.chv (C : Cold Z EL s vm0 h) : CHv Z EL vm0 h := C.2.1
theorem own_endW {rc rs : Nat} {o : Outcome} {U : State} (C : Cold Z EL s vm0 h) (eU : U.heap = h) (ho : ∃ v, o = .returned v) (hW : (s.setVm vm0).WarmedH U.vm) (hs : (s.setVm vm0).sameButNew ({ U with vm := vm0 } : State) locs cells slots) (hc : cells ≤ rc) (hsl : slots ≤ rs) : ReturnedEndW s o U locs rc rs := by
  obtain ⟨⟨k0, hS, hk⟩, -⟩ := C
  obtain ⟨h1, h2, h3⟩ := hS.ended hW (by rw [eU]; exact hk) hs
  exact ⟨ho, h1, h2, h3.mono hc hsl⟩
theorem GoesW.ret {rc rs : Nat} {Q : Option Value → Heap → List Loc → Prop} (X : Stand p l e R (s.setVm vm0) m args below meth c T locs cells slots) (hx : p.tables.exec = Jvm.exec) (hZ : Z.Warmed39 (s.setVm vm0).vm) (hEL : EW Z a0 EL) (C : Cold Z EL s vm0 h) (eT : T.heap = h) (hlk : meth.locks = false) {pc : Nat} {Ls : Array Slot} {w : Value} {t : FieldType} {i : Instr} {rest : List Value} (hret : meth.sig.returnType = some t) (hn : narrow t w = w)
    (hi : (i = .ireturn ∧ (t = .int ∨ t = .boolean ∨ t = .byte ∨ t = .char ∨ t = .short) ∧ ∃ z, w = .int z) ∨ (i = .lreturn ∧ t = .long ∧ ∃ z, w = .long z) ∨ (i = .dreturn ∧ t = .double ∧ ∃ z, w = .double z) ∨ (i = .freturn ∧ t = .float ∧ ∃ z, w = .float z) ∨ (i = .areturn ∧ t.isReference = true ∧ w.isRef = true))
    (hd : decode c.code pc = .ok (i, 1)) (hc : cells ≤ rc) (hs : slots ≤ rs) (hQ : Q (some w) T.heap locs) : GoesW p e below s rc rs Z EL Q (T.setTop (mkF m pc Ls (w :: rest))) := by
  obtain ⟨fs, hr, hrun, hended, hW, hsame⟩ := X.leave (v := some w) (fun h => by rw [hret] at h; cases h) hlk
  refine ⟨_, _, retOut X hx hret hn hi hd hr, hrun, hended, _, _, rfl, hQ, ?_, own_endW C eT ⟨_, rfl⟩ hW hsame hc hs⟩
  show CHr Z EL s.vm s.heap T.vm T.heap
  rw [eT]
  exact C.2.trans (CHv.at X hZ hEL C.2.1)
theorem GoesW.retI {rc rs : Nat} {Q : Option Value → Heap → List Loc → Prop} (X : Stand p l e R (s.setVm vm0) m args below meth c T locs cells slots) (hx : p.tables.exec = Jvm.exec) (hZ : Z.Warmed39 (s.setVm vm0).vm) (hEL : EW Z a0 EL) (C : Cold Z EL s vm0 h) (eT : T.heap = h) (hlk : meth.locks = false) {pc : Nat} {Ls : Array Slot} {z : Int32} {rest : List Value} (hret : meth.sig.returnType = some .int)
    (hd : decode c.code pc = .ok (.ireturn, 1)) (hc : cells ≤ rc) (hs : slots ≤ rs) (hQ : Q (some (.int z)) T.heap locs) : GoesW p e below s rc rs Z EL Q (T.setTop (mkF m pc Ls (.int z :: rest))) :=
  GoesW.ret X hx hZ hEL C eT hlk hret rfl (Or.inl ⟨rfl, Or.inl rfl, _, rfl⟩) hd hc hs hQ
theorem GoesW.retZ {rc rs : Nat} {Q : Option Value → Heap → List Loc → Prop} (X : Stand p l e R (s.setVm vm0) m args below meth c T locs cells slots) (hx : p.tables.exec = Jvm.exec) (hZ : Z.Warmed39 (s.setVm vm0).vm) (hEL : EW Z a0 EL) (C : Cold Z EL s vm0 h) (eT : T.heap = h) (hlk : meth.locks = false) {pc : Nat} {Ls : Array Slot} {z : Int32} {t : FieldType} {rest : List Value} (hret : meth.sig.returnType = some t)
    (ht : t = .boolean ∨ t = .byte ∨ t = .char ∨ t = .short) (hn : narrow t (.int z) = .int z)
    (hd : decode c.code pc = .ok (.ireturn, 1)) (hc : cells ≤ rc) (hs : slots ≤ rs) (hQ : Q (some (.int z)) T.heap locs) : GoesW p e below s rc rs Z EL Q (T.setTop (mkF m pc Ls (.int z :: rest))) :=
  GoesW.ret X hx hZ hEL C eT hlk hret hn (Or.inl ⟨rfl, Or.inr ht, _, rfl⟩) hd hc hs hQ
theorem GoesW.retA {rc rs : Nat} {Q : Option Value → Heap → List Loc → Prop} (X : Stand p l e R (s.setVm vm0) m args below meth c T locs cells slots) (hx : p.tables.exec = Jvm.exec) (hZ : Z.Warmed39 (s.setVm vm0).vm) (hEL : EW Z a0 EL) (C : Cold Z EL s vm0 h) (eT : T.heap = h) (hlk : meth.locks = false) {pc : Nat} {Ls : Array Slot} {w : Value} {t : FieldType} {rest : List Value} (hret : meth.sig.returnType = some t)
    (ht : t.isReference = true) (hw : w.isRef = true)
    (hd : decode c.code pc = .ok (.areturn, 1)) (hc : cells ≤ rc) (hs : slots ≤ rs) (hQ : Q (some w) T.heap locs) : GoesW p e below s rc rs Z EL Q (T.setTop (mkF m pc Ls (w :: rest))) :=
  GoesW.ret X hx hZ hEL C eT hlk hret (own_narrow_ref hw) (Or.inr (Or.inr (Or.inr (Or.inr ⟨rfl, ht, hw⟩)))) hd hc hs hQ
theorem GoesW.retV {rc rs : Nat} {Q : Option Value → Heap → List Loc → Prop} (X : Stand p l e R (s.setVm vm0) m args below meth c T locs cells slots) (hx : p.tables.exec = Jvm.exec) (hZ : Z.Warmed39 (s.setVm vm0).vm) (hEL : EW Z a0 EL) (C : Cold Z EL s vm0 h) (eT : T.heap = h) (hlk : meth.locks = false) {pc : Nat} {Ls : Array Slot} (hret : meth.sig.returnType = none)
    (hd : decode c.code pc = .ok (.return_, 1)) (hc : cells ≤ rc) (hs : slots ≤ rs) (hQ : Q none T.heap locs) : GoesW p e below s rc rs Z EL Q (T.setTop (mkF m pc Ls [])) := by
  obtain ⟨fs, hr, hrun, hended, hW, hsame⟩ := X.leave (v := none) (fun _ => rfl) hlk
  refine ⟨_, _, X.returnOut hx hret hd hr, hrun, hended, _, _, rfl, hQ, ?_, own_endW C eT ⟨_, rfl⟩ hW hsame hc hs⟩
  show CHr Z EL s.vm s.heap T.vm T.heap
  rw [eT]
  exact C.2.trans (CHv.at X hZ hEL C.2.1)
/-- a callee that may load constants and writes old places ws that no constant is at -/
theorem own_backW {y : MethodName} {bytes : ByteArray} {maxL : Nat} {ret : Option FieldType} {rm : Room} {len W : Nat} {as' : Array Value} {ws : List Addr} {Q : Option Value → Heap → List Loc → Prop}
    (hM : MetFree l y (head1 [Cond.code y bytes maxL ret] rm) (fun a U => a = as' ∧ Z.Warmed39 U.vm ∧ U.heap = h ∧ CHv Z EL U.vm h ∧ ∀ x ∈ ws, Safe Z EL U.vm h x) (fun _ _ _ _ _ => True) (fun _ U o U' => ∃ v L, o = .returned v ∧ Q v U'.heap L ∧ CHr Z EL U.vm U.heap U'.vm U'.heap ∧ ReturnedEndW U o U' L rm.cells rm.slots))
    (hZ : Z.Warmed39 vm0) (wc : (Cond.code y bytes maxL ret).before a0 Z = true) (wz : (Cond.initialized y.cls).before a0 Z = true) (hf : rm.frames + 1 ≤ R.frames) (hl : W + (maxL + 11) + rm.locals ≤ R.locals) (hEL : EW Z a0 EL) (H : CHv Z EL vm0 h) (hws : ∀ x ∈ ws, x < h.size ∧ Safe Z EL vm0 h x) :
    BackS l R p e below (s.setVm vm0) args y len W (fun A a => a = as' ∧ A.U.heap = h ∧ A.cells + rm.cells ≤ R.cells ∧ A.slots + rm.slots ≤ R.slots)
      (fun A _ v B => ∃ L, Q v B.U.heap L ∧ B.locs = A.locs ++ L ∧ B.cells = A.cells + rm.cells ∧ B.slots = A.slots + rm.slots ∧ CHr Z EL vm0 h B.U.vm B.U.heap) := by
  refine BackS.of_freeW (bytes := bytes) (maxL := maxL) (ret := ret) (E := fun _ first o t L k n => (k = rm.cells ∧ n = rm.slots) ∧ CHr Z EL first.vm first.heap t.vm t.heap ∧ ∃ v, o = .returned v ∧ Q v t.heap L) hM hf hl ?_ ?_ (fun _ _ _ _ _ _ _ _ _ => trivial) ?_ ?_
  · intro m meth c A a Y hp
    have hU : Z.Warmed39 A.U.vm := wtrans (s := s.setVm vm0) hZ Y.warmed
    refine ⟨?_, mv hU wc, mv hU wz, hp.2.2⟩
    show (Cond.and _ .tt).before a A.U = true
    rw [Cond.before_and, mv hU wc]
    rfl
  · intro m meth c A a g mk Y hp
    have hc := CHv.at Y hZ hEL H
    exact ⟨hp.1, wtrans (s := s.setVm vm0) hZ Y.warmed, hp.2.1, hc.1, fun x hx => hc.safe (hws x hx).1 (hws x hx).2⟩
  · rintro a f o t ⟨v, L, h1, h2, h3, h4⟩
    exact ⟨L, _, _, h4, ⟨rfl, rfl⟩, h3, v, h1, h2⟩
  · rintro m meth c A a g mk v t L k n Y hp - - ⟨⟨rfl, rfl⟩, e5, v', e3, e4⟩
    cases e3
    refine ⟨L, e4, rfl, rfl, rfl, (CHv.at Y hZ hEL H).trans ?_⟩
    rw [← hp.2.1]
    exact e5
/-- what stands behind a call or a load that may have interned -/
def After (p : Program) (l : Launch) (e : Env) (R : Room) (s : State) (m : MethodId) (args : Array Value) (below : List Frame) (meth : Method) (c : Code) (own : String) (Z : State) (EL : List (String × Nat)) (vm0 : Vm) (h : Heap) (vm1 : Vm) (T' : State) (locs : List Loc) (cells slots : Nat) : Prop :=
  Stand p l e R (s.setVm vm1) m args below meth c T' locs cells slots ∧ Cold Z EL s vm1 T'.heap ∧ Z.Warmed39 (s.setVm vm1).vm ∧ (s.setVm vm1).vm.findClass own = some m.cls ∧ ∀ x, x < h.size → Safe Z EL vm0 h x → Safe Z EL vm1 T'.heap x
theorem own_callSW (X : Stand p l e R (s.setVm vm0) m args below meth c T locs cells slots) (hx : p.tables.exec = Jvm.exec) (hZ : Z.Warmed39 (s.setVm vm0).vm) (hEL : EW Z a0 EL) (C : Cold Z EL s vm0 h) {own : String} {index : Nat} {y : MethodName} {bytes : ByteArray} {maxL : Nat} {ret : Option FieldType} (hown : (s.setVm vm0).vm.findClass own = some m.cls)
    (w1 : (Cond.methodLink own index y).before a0 Z = true) (w2 : (Cond.static y).before a0 Z = true) (w3 : (Cond.initialized y.cls).before a0 Z = true) (w4 : (Cond.code y bytes maxL ret).before a0 Z = true) (hy : y.cls ≠ "java/lang/invoke/MethodHandle" ∧ y.cls ≠ "java/lang/invoke/VarHandle")
    {rm : Room} {argsL : List Value} {ws : List Addr} {Q : Option Value → Heap → List Loc → Prop} (hws : ∀ x ∈ ws, x < h.size ∧ Safe Z EL vm0 h x)
    (hM : MetFree l y (head1 [Cond.code y bytes maxL ret] rm) (fun a U => a = argsL.toArray ∧ Z.Warmed39 U.vm ∧ U.heap = h ∧ CHv Z EL U.vm h ∧ ∀ x ∈ ws, Safe Z EL U.vm h x) (fun _ _ _ _ _ => True) (fun _ U o U' => ∃ v L, o = .returned v ∧ Q v U'.heap L ∧ CHr Z EL U.vm U.heap U'.vm U'.heap ∧ ReturnedEndW U o U' L rm.cells rm.slots))
    (eT : T.heap = h) {W : Nat} (hf : rm.frames + 1 ≤ R.frames) (hl : W + (maxL + 11) + rm.locals ≤ R.locals) (hc : cells + rm.cells ≤ R.cells) (hsl : slots + rm.slots ≤ R.slots)
    {g : JFrame} (hg : g.method = m) (hsize : g.locals.size = c.maxLocals) {rest : List Value} (hlen : ∀ sig, parseMethodDescriptor y.desc = some sig → argsL.length = sig.parameters.length)
    (hstack : g.stack = argsL.reverse ++ rest) (hW : 2 * g.monitorRoom + (rest.map fun v => v.category).sum ≤ W) (hdg : decode c.code g.pc = .ok (.invokestatic index, 3)) :
    ∃ (v : Option Value) (vm1 : Vm) (T' : State) (L : List Loc), After p l e R s m args below meth c own Z EL vm0 h vm1 T' (locs ++ L) (cells + rm.cells) (slots + rm.slots) ∧ Q v T'.heap L ∧
      ∀ t, Steps p.tables e below (T'.setTop { g with pc := g.pc + 3, stack := v.toList ++ rest }) t → Steps p.tables e below (T.setTop g) t := by
  obtain ⟨⟨k0, hS, hk⟩, CC⟩ := C
  obtain ⟨v, _, ⟨U, Ls, k, n⟩, -, X', hS', hgr, ⟨Lc, hQ, l1, y1, z1, cr⟩, st⟩ := callSS X hx (y := y) hown (mvT hZ w1) (mvT hZ w2) (mvT hZ w3) (mvT hZ w4) hy (own_backW (W := W) hM hZ w4 w3 hf hl hEL CC.1 hws) hg hsize (argsL := argsL) (rest := rest) hlen hstack hW hdg (fun _ _ => ⟨rfl, eT, hc, hsl⟩)
  dsimp only [Pt.U, Pt.locs, Pt.cells, Pt.slots] at X' hS' hgr l1 y1 z1 cr st hQ
  subst l1 y1 z1
  obtain ⟨X2, S2, Z2, O2⟩ := rebS hS (eT ▸ hk) X' hS' hgr hZ hown
  exact ⟨v, U.vm, U, Lc, ⟨X2, ⟨⟨_, S2, Nat.le_refl _⟩, CC.trans cr⟩, Z2, O2, fun x hx hs => cr.safe hx hs⟩, hQ, fun t k => st.trans k⟩
theorem own_callNW (X : Stand p l e R (s.setVm vm0) m args below meth c T locs cells slots) (hx : p.tables.exec = Jvm.exec) (hZ : Z.Warmed39 (s.setVm vm0).vm) (hEL : EW Z a0 EL) (C : Cold Z EL s vm0 h) {own : String} {index : Nat} {y : MethodName} {bytes : ByteArray} {maxL : Nat} (hy1 : y.name = "<init>") (hown : (s.setVm vm0).vm.findClass own = some m.cls)
    (w1 : (Cond.methodLink own index y).before a0 Z = true) (w2 : (Cond.instanceMethod y).before a0 Z = true) (w3 : (Cond.initialized y.cls).before a0 Z = true) (w4 : (Cond.code y bytes maxL none).before a0 Z = true) (hy : y.cls ≠ "java/lang/invoke/MethodHandle" ∧ y.cls ≠ "java/lang/invoke/VarHandle")
    {rm : Room} {a : Addr} {argsL : List Value} {ws : List Addr} {Q : Option Value → Heap → List Loc → Prop} (hws : ∀ x ∈ ws, x < h.size ∧ Safe Z EL vm0 h x)
    (hM : MetFree l y (head1 [Cond.code y bytes maxL none] rm) (fun b U => b = (.ref a :: argsL).toArray ∧ Z.Warmed39 U.vm ∧ U.heap = h ∧ CHv Z EL U.vm h ∧ ∀ x ∈ ws, Safe Z EL U.vm h x) (fun _ _ _ _ _ => True) (fun _ U o U' => ∃ v L, o = .returned v ∧ Q v U'.heap L ∧ CHr Z EL U.vm U.heap U'.vm U'.heap ∧ ReturnedEndW U o U' L rm.cells rm.slots))
    (eT : T.heap = h) {W : Nat} (hf : rm.frames + 1 ≤ R.frames) (hl : W + (maxL + 11) + rm.locals ≤ R.locals) (hc : cells + rm.cells ≤ R.cells) (hsl : slots + rm.slots ≤ R.slots)
    {g : JFrame} (hg : g.method = m) (hsize : g.locals.size = c.maxLocals) {rest : List Value} (hlen : ∀ sig, parseMethodDescriptor y.desc = some sig → argsL.length = sig.parameters.length)
    (hstack : g.stack = argsL.reverse ++ .ref a :: rest) (hW : 2 * g.monitorRoom + (rest.map fun v => v.category).sum ≤ W) (hdg : decode c.code g.pc = .ok (.invokespecial index, 3)) :
    ∃ (v : Option Value) (vm1 : Vm) (T' : State) (L : List Loc), After p l e R s m args below meth c own Z EL vm0 h vm1 T' (locs ++ L) (cells + rm.cells) (slots + rm.slots) ∧ Q v T'.heap L ∧
      ∀ t, Steps p.tables e below (T'.setTop { g with pc := g.pc + 3, stack := v.toList ++ rest }) t → Steps p.tables e below (T.setTop g) t := by
  obtain ⟨⟨k0, hS, hk⟩, CC⟩ := C
  obtain ⟨v, _, ⟨U, Ls, k, n⟩, -, X', hS', hgr, ⟨Lc, hQ, l1, y1, z1, cr⟩, st⟩ := X.specialBackS hx (y := y) hy1 hown (mvT hZ w1) (mvT hZ w2) (mvT hZ w4) hy (own_backW (W := W) hM hZ w4 w3 hf hl hEL CC.1 hws) hg hsize (Steps.refl _) (a := a) (argsL := argsL) (rest := rest) hlen hstack hW hdg (fun _ _ => ⟨rfl, eT, hc, hsl⟩)
  dsimp only [Pt.U, Pt.locs, Pt.cells, Pt.slots] at X' hS' hgr l1 y1 z1 cr st hQ
  subst l1 y1 z1
  obtain ⟨X2, S2, Z2, O2⟩ := rebS hS (eT ▸ hk) X' hS' hgr hZ hown
  exact ⟨v, U.vm, U, Lc, ⟨X2, ⟨⟨_, S2, Nat.le_refl _⟩, CC.trans cr⟩, Z2, O2, fun x hx hs => cr.safe hx hs⟩, hQ, fun t k => st.trans k⟩
theorem own_callVW (X : Stand p l e R (s.setVm vm0) m args below meth c T locs cells slots) (hx : p.tables.exec = Jvm.exec) (hZ : Z.Warmed39 (s.setVm vm0).vm) (hEL : EW Z a0 EL) (C : Cold Z EL s vm0 h) {own C0 : String} {index : Nat} {y : MethodName} {bytes : ByteArray} {maxL : Nat} {ret : Option FieldType} (hown : (s.setVm vm0).vm.findClass own = some m.cls)
    (w1 : (Cond.methodLink own index y).before a0 Z = true) (w2 : (Cond.declares y).before a0 Z = true) (w5 : (Cond.selects C0 y y).before a0 Z = true) (w6 : (Cond.instanceMethod y).before a0 Z = true) (w3 : (Cond.initialized y.cls).before a0 Z = true) (w4 : (Cond.code y bytes maxL ret).before a0 Z = true) (hy : y.cls ≠ "java/lang/invoke/MethodHandle" ∧ y.cls ≠ "java/lang/invoke/VarHandle")
    {rm : Room} {a : Addr} {argsL : List Value} {ws : List Addr} {Q : Option Value → Heap → List Loc → Prop} (hws : ∀ x ∈ ws, x < h.size ∧ Safe Z EL vm0 h x)
    (hM : MetFree l y (head1 [Cond.code y bytes maxL ret] rm) (fun b U => b = (.ref a :: argsL).toArray ∧ Z.Warmed39 U.vm ∧ U.heap = h ∧ CHv Z EL U.vm h ∧ ∀ x ∈ ws, Safe Z EL U.vm h x) (fun _ _ _ _ _ => True) (fun _ U o U' => ∃ v L, o = .returned v ∧ Q v U'.heap L ∧ CHr Z EL U.vm U.heap U'.vm U'.heap ∧ ReturnedEndW U o U' L rm.cells rm.slots))
    (eT : T.heap = h) (E : Exa Z h a C0) {W : Nat} (hf : rm.frames + 1 ≤ R.frames) (hl : W + (maxL + 11) + rm.locals ≤ R.locals) (hc : cells + rm.cells ≤ R.cells) (hsl : slots + rm.slots ≤ R.slots)
    {g : JFrame} (hg : g.method = m) (hsize : g.locals.size = c.maxLocals) {rest : List Value} (hlen : ∀ sig, parseMethodDescriptor y.desc = some sig → argsL.length = sig.parameters.length)
    (hstack : g.stack = argsL.reverse ++ .ref a :: rest) (hW : 2 * g.monitorRoom + (rest.map fun v => v.category).sum ≤ W) (hdg : decode c.code g.pc = .ok (.invokevirtual index, 3)) :
    ∃ (v : Option Value) (vm1 : Vm) (T' : State) (L : List Loc), After p l e R s m args below meth c own Z EL vm0 h vm1 T' (locs ++ L) (cells + rm.cells) (slots + rm.slots) ∧ Q v T'.heap L ∧
      ∀ t, Steps p.tables e below (T'.setTop { g with pc := g.pc + 3, stack := v.toList ++ rest }) t → Steps p.tables e below (T.setTop g) t := by
  obtain ⟨⟨k0, hS, hk⟩, CC⟩ := C
  obtain ⟨cB, kB, qa, qb, qc⟩ := isOf hZ eT E
  obtain ⟨v, _, ⟨U, Ls, k, n⟩, -, X', hS', hgr, ⟨Lc, hQ, l1, y1, z1, cr⟩, st⟩ := X.virtualBackS hx (y := y) (z := y) hown (mvT hZ w1) (mvT hZ w2) (notFace_of_selects (args := #[]) (mvT hZ w5)) (mvT hZ w5) (mvT hZ w6) hy (own_backW (W := W) hM hZ w4 w3 hf hl hEL CC.1 hws) qa qc hg hsize (Steps.refl _) (argsL := argsL) (rest := rest) hlen hstack hW hdg (fun _ _ => ⟨rfl, eT, hc, hsl⟩)
  dsimp only [Pt.U, Pt.locs, Pt.cells, Pt.slots] at X' hS' hgr l1 y1 z1 cr st hQ
  subst l1 y1 z1
  obtain ⟨X2, S2, Z2, O2⟩ := rebS hS (eT ▸ hk) X' hS' hgr hZ hown
  exact ⟨v, U.vm, U, Lc, ⟨X2, ⟨⟨_, S2, Nat.le_refl _⟩, CC.trans cr⟩, Z2, O2, fun x hx hs => cr.safe hx hs⟩, hQ, fun t k => st.trans k⟩
/-- ldc of a String constant of EL: it is read -/
theorem own_ldcW (X : Stand p l e R (s.setVm vm0) m args below meth c T locs cells slots) (hx : p.tables.exec = Jvm.exec) (hZ : Z.Warmed39 (s.setVm vm0).vm) (hEL : EW Z a0 EL) (C : Cold Z EL s vm0 h) {own text : String} {index : Nat} (hown : (s.setVm vm0).vm.findClass own = some m.cls)
    (w : (Cond.stringLink own index text).before a0 Z = true) (wS : ∀ a ∈ Bundle.stringAtoms, a.before a0 Z = true) (eT : T.heap = h) (hmem : (own, index) ∈ EL)
    {vs : List Value} {k : Nat} (ht : (∀ c ∈ text.toList, c.toNat < 256) ∧ text.toList.map (fun c => Value.int (Jvm.Lit.byteI c.toNat.toUInt16)) = vs) (hk : k = vs.length) (hk31 : k < 2 ^ 31)
    {g : JFrame} (hg : g.method = m) (hd : decode c.code g.pc = .ok (.ldc index, 2)) {n : Nat} (hn : 4 * text.toList.length ≤ n) (hbig : n ≤ 536870912) (hc : cells + 2 ≤ R.cells) (hl' : slots + (n + 4) ≤ R.slots) :
    ∃ (a b : Addr) (vm1 : Vm) (T' : State) (h' : Heap), After p l e R s m args below meth c own Z EL vm0 h vm1 T' locs (cells + 2) (slots + (n + 4)) ∧ T'.heap = h' ∧ Ext h h' ∧
      Exa Z h' a "java/lang/String" ∧ Fld Z h' a "java/lang/String" "value" "[B" (.ref b) ∧ Fld Z h' a "java/lang/String" "coder" "B" (.int 0) ∧ OA Z h' b .byte k (fun i => vs.getD i (.int 0)) ∧ Lit (s.setVm vm1) own index a ∧ (∀ x, Safe Z EL vm1 h' x → x ≠ a ∧ x ≠ b) ∧
      ∀ t, Steps p.tables e below (T'.setTop { g with pc := g.pc + 2, stack := .ref a :: g.stack }) t → Steps p.tables e below (T.setTop g) t := by
  obtain ⟨⟨k0, hS, hk0⟩, CC⟩ := C
  obtain ⟨a, T', h', k1, b, kc, X', e', E', hS', hk', Z', O', Ex, Fc, Fv, Av, la, lb, cr, L, sf, st⟩ := ldcCH X hx hZ hown w wS eT hS hk0 hEL hmem CC.1 (vs := vs) (z := Int32.ofNat k) ht (own_nneg k hk31) (by rw [own_clamp k hk31]; exact hk) hg hd hn hbig hc hl'
  subst e'
  exact ⟨a, b, T'.vm, T', _, ⟨X', ⟨⟨k1, hS', hk'⟩, CC.trans cr⟩, Z', O', fun x hx hs => cr.safe hx hs⟩, rfl, E', Ex, Fv, Fc, OA.of_arv Av (own_clamp k hk31) (fun i hi => rfl), L, sf, st⟩
theorem own_ldcAgainW (X : Stand p l e R (s.setVm vm0) m args below meth c T locs cells slots) (hx : p.tables.exec = Jvm.exec) (hZ : Z.Warmed39 (s.setVm vm0).vm) {own text : String} {index : Nat} (hown : (s.setVm vm0).vm.findClass own = some m.cls)
    (w : (Cond.stringLink own index text).before a0 Z = true) {a : Addr} (L : Lit (s.setVm vm0) own index a) {g : JFrame} (hg : g.method = m) (hd : decode c.code g.pc = .ok (.ldc index, 2)) :
    ∀ t, Steps p.tables e below (T.setTop { g with pc := g.pc + 2, stack := .ref a :: g.stack }) t → Steps p.tables e below (T.setTop g) t := ldcAgain X hx hZ hown w L hg hd
end OwnCold

theorem own_EW {Z : State} {a0 : Array Value} (hw : ∀ d ∈ tables_1, d.before a0 Z = true) : EW Z a0 consts_1 := (EW.cons (hw _ (List.mem_of_getElem? (i := 22) rfl)) (by decide) EW.nil)
theorem own_wS {Z : State} {a0 : Array Value} (hw : ∀ d ∈ tables_1, d.before a0 Z = true) : ∀ a ∈ Bundle.stringAtoms, a.before a0 Z = true := by
  intro a ha
  simp only [Bundle.stringAtoms, List.mem_cons, List.not_mem_nil, or_false] at ha
  rcases ha with rfl | rfl | rfl | rfl | rfl | rfl | rfl
  · exact (hw _ (List.mem_of_getElem? (i := 11) rfl))
  · exact (hw _ (List.mem_of_getElem? (i := 10) rfl))
  · exact (hw _ (List.mem_of_getElem? (i := 23) rfl))
  · exact (hw _ (List.mem_of_getElem? (i := 24) rfl))
  · exact (hw _ (List.mem_of_getElem? (i := 25) rfl))
  · exact (hw _ (List.mem_of_getElem? (i := 26) rfl))
  · exact (hw _ (List.mem_of_getElem? (i := 27) rfl))
theorem own_allS {P : Addr → Prop} {y : Addr} {L : List Addr} (q : P y) (r : ∀ x ∈ L, P x) : ∀ x ∈ y :: L, P x := allS q r
theorem own_if0 {P : Prop} [Decidable P] : (if P then (1 : Int32) else 0) = 0 ↔ ¬ P := by
  by_cases h : P
  · rw [if_pos h]; exact ⟨fun q => absurd q (by decide), fun q => absurd h q⟩
  · rw [if_neg h]; exact ⟨fun _ => h, fun _ => rfl⟩
theorem own_ifb {P : Prop} [Decidable P] : narrow .boolean (.int (if P then (1 : Int32) else 0)) = .int (if P then (1 : Int32) else 0) := by
  by_cases h : P
  · rw [if_pos h]; rfl
  · rw [if_neg h]; rfl
theorem own_t {P : Prop} [Decidable P] (h : P) : some (Value.int (1 : Int32)) = some (Value.int (if P then (1 : Int32) else 0)) := by rw [if_pos h]
theorem own_f {P : Prop} [Decidable P] (h : ¬ P) : some (Value.int (0 : Int32)) = some (Value.int (if P then (1 : Int32) else 0)) := by rw [if_neg h]
theorem ef_pci (m : MethodId) (x0 : Int32) (x1 : Int32) (x2 : Value) (hx2 : x2.isRef = true) : entryFrame m #[(.int x0), (.int x1), x2] 3 = mkF m 0 #[.val (.int x0), .val (.int x1), .val x2] [] := by cases x2 <;> simp [Value.isRef] at hx2 <;> first | (simp [entryFrame, mkF, argsToLocals, Value.category]; done) | rfl
theorem pn_jdk_internal_util_Preconditions : plainName "jdk/internal/util/Preconditions" = true := by first | (simp [plainName, overriddenIn]; done) | decide +kernel
theorem d_jdk_41_method_11_code_0 : decode jdk_41_method_11_code 0 = .ok (.iload_n 0, 1) := by decide +kernel
theorem d_jdk_41_method_11_code_1 : decode jdk_41_method_11_code 1 = .ok (.ifCond .lt 8, 3) := by decide +kernel
theorem d_jdk_41_method_11_code_4 : decode jdk_41_method_11_code 4 = .ok (.iload_n 0, 1) := by decide +kernel
theorem d_jdk_41_method_11_code_5 : decode jdk_41_method_11_code 5 = .ok (.iload_n 1, 1) := by decide +kernel
theorem d_jdk_41_method_11_code_6 : decode jdk_41_method_11_code 6 = .ok (.if_icmp .lt 10, 3) := by decide +kernel
theorem d_jdk_41_method_11_code_16 : decode jdk_41_method_11_code 16 = .ok (.iload_n 0, 1) := by decide +kernel
theorem d_jdk_41_method_11_code_17 : decode jdk_41_method_11_code 17 = .ok (.ireturn, 1) := by decide +kernel
def Q_pci (Z : State) (cs : Int32) (fm : Value) (i n : Nat) (h0 : Heap) (n0 : Nat) (v : Option Value) (h : Heap) (L : List Loc) : Prop := v = some (.int (Int32.ofNat i)) ∧ Fr n0 L ∧ h = h0
set_option maxRecDepth 65536 in
set_option maxHeartbeats 40000000 in
theorem rm_pci (l : Launch) (Z : State) (a0 : Array Value) (hw : ∀ d ∈ tables_1, d.before a0 Z = true) (ws : List Jvm.Cond) (cs : Int32) (fm : Value) (i n : Nat) (h0 : Heap) (n0 : Nat) (Z0 : n0 ≤ h0.size) (ST : own_ST Z cs fm) (OO : Old Z n0 h0) (hfm : fm.isRef = true) (hi : i < n) (hn : n < 2 ^ 31) :
    MetFree l (⟨"jdk/internal/util/Preconditions", "checkIndex", "(IILjava/util/function/BiFunction;)I"⟩ : MethodName) (head1 (Jvm.Cond.code (⟨"jdk/internal/util/Preconditions", "checkIndex", "(IILjava/util/function/BiFunction;)I"⟩ : MethodName) jdk_41_method_11_code 3 (some .int) :: ws) ({ frames := 0, cells := 0, slots := 0, locals := 0 } : Room)) (fun a U => a = #[(.int (Int32.ofNat i)), (.int (Int32.ofNat n)), fm] ∧ Z.Warmed39 U.vm ∧ U.heap = h0) (fun _ _ _ _ _ => True) (fun _ U o U' => ∃ v L, o = .returned v ∧ Q_pci Z cs fm i n h0 n0 v U'.heap L ∧ FrameEnd U o U' L ({ frames := 0, cells := 0, slots := 0, locals := 0 } : Room).cells ({ frames := 0, cells := 0, slots := 0, locals := 0 } : Room).slots) := by
  refine MetFree.of_bodySF (plainFor_of_name pn_jdk_internal_util_Preconditions) hisR ?_
  intro p ee s m args below meth cc s₁ Bd hml0 hP hK
  obtain ⟨rfl, hZ, hh⟩ := hP
  have hx := Bd.exec
  have hby := Bd.bytes
  have hml : cc.maxLocals = 3 := hml0
  have hown : s.vm.findClass "jdk/internal/util/Preconditions" = some m.cls := findClass_of_methodNamed Bd.named
  have hnm := (name_of_methodNamed Bd.named Bd.method).1
  have X0 : Stand p l ee ({ frames := 0, cells := 0, slots := 0, locals := 0 } : Room) s m #[(.int (Int32.ofNat i)), (.int (Int32.ofNat n)), fm] below meth cc s₁ [] 0 0 := Stand.of_body Bd
  have e0 : s₁.heap = h0 := by rw [← hh, Bd.state]; rfl
  have N0 := Fr.nil n0
  show Goes p ee below s ({ frames := 0, cells := 0, slots := 0, locals := 0 } : Room).cells ({ frames := 0, cells := 0, slots := 0, locals := 0 } : Room).slots (Q_pci Z cs fm i n h0 n0) (s₁.setTop (entryFrame m #[(.int (Int32.ofNat i)), (.int (Int32.ofNat n)), fm] 3))
  refine Goes.step (fun _ hr_ => castTop (ef_pci m (Int32.ofNat i) (Int32.ofNat n) fm hfm) hr_) ?_
  show Goes p ee below s _ _ _ (s₁.setTop (mkF m 0 #[.val (.int (Int32.ofNat i)), .val (.int (Int32.ofNat n)), .val fm] []))
  refine Goes.step (fun _ hr_ => XS.iloadN X0.here hx rfl (hb hby d_jdk_41_method_11_code_0) rfl  hr_) ?_
  show Goes p ee below s _ _ _ (s₁.setTop (mkF m 1 #[.val (.int (Int32.ofNat i)), .val (.int (Int32.ofNat n)), .val fm] [(.int (Int32.ofNat i))]))
  refine Goes.step (fun _ hr_ => XS.ifNo X0.here hx rfl (hb hby d_jdk_41_method_11_code_1) rfl ((if0 _ _).trans (flt (own_nneg i (by omega))).1) hr_) ?_
  show Goes p ee below s _ _ _ (s₁.setTop (mkF m 4 #[.val (.int (Int32.ofNat i)), .val (.int (Int32.ofNat n)), .val fm] []))
  refine Goes.step (fun _ hr_ => XS.iloadN X0.here hx rfl (hb hby d_jdk_41_method_11_code_4) rfl  hr_) ?_
  show Goes p ee below s _ _ _ (s₁.setTop (mkF m 5 #[.val (.int (Int32.ofNat i)), .val (.int (Int32.ofNat n)), .val fm] [(.int (Int32.ofNat i))]))
  refine Goes.step (fun _ hr_ => XS.iloadN X0.here hx rfl (hb hby d_jdk_41_method_11_code_5) rfl  hr_) ?_
  show Goes p ee below s _ _ _ (s₁.setTop (mkF m 6 #[.val (.int (Int32.ofNat i)), .val (.int (Int32.ofNat n)), .val fm] [(.int (Int32.ofNat n)), (.int (Int32.ofNat i))]))
  refine Goes.step (fun _ hr_ => XS.icmpYes X0.here hx rfl (pc0 := 6) (pc' := 16) rfl (hb hby d_jdk_41_method_11_code_6) rfl (tlt ((own_ltN i n (by omega) hn).mpr hi)).1 (by decide) (by decide) hr_) ?_
  show Goes p ee below s _ _ _ (s₁.setTop (mkF m 16 #[.val (.int (Int32.ofNat i)), .val (.int (Int32.ofNat n)), .val fm] []))
  refine Goes.step (fun _ hr_ => XS.iloadN X0.here hx rfl (hb hby d_jdk_41_method_11_code_16) rfl  hr_) ?_
  show Goes p ee below s _ _ _ (s₁.setTop (mkF m 17 #[.val (.int (Int32.ofNat i)), .val (.int (Int32.ofNat n)), .val fm] [(.int (Int32.ofNat i))]))
  refine Goes.retI X0 hx Bd.notSynchronized Bd.returns (hb hby d_jdk_41_method_11_code_17) (by decide) (by decide) ?_
  exact ⟨rfl, N0, e0⟩
theorem ef_sci (m : MethodId) (x0 : Int32) (x1 : Int32) : entryFrame m #[(.int x0), (.int x1)] 2 = mkF m 0 #[.val (.int x0), .val (.int x1)] [] := by first | (simp [entryFrame, mkF, argsToLocals, Value.category]; done) | rfl
theorem pn_java_lang_String : plainName "java/lang/String" = true := by first | (simp [plainName, overriddenIn]; done) | decide +kernel
theorem d_jdk_42_method_155_code_0 : decode jdk_42_method_155_code 0 = .ok (.iload_n 0, 1) := by decide +kernel
theorem d_jdk_42_method_155_code_1 : decode jdk_42_method_155_code 1 = .ok (.iload_n 1, 1) := by decide +kernel
theorem d_jdk_42_method_155_code_2 : decode jdk_42_method_155_code 2 = .ok (.getstatic 1053, 3) := by decide +kernel
theorem pd_0 : parseMethodDescriptor "(IILjava/util/function/BiFunction;)I" = some ⟨[.int, .int, (.object "java/util/function/BiFunction")], some .int⟩ := by decide +kernel
theorem d_jdk_42_method_155_code_5 : decode jdk_42_method_155_code 5 = .ok (.invokestatic 1059, 3) := by decide +kernel
theorem d_jdk_42_method_155_code_8 : decode jdk_42_method_155_code 8 = .ok (.pop, 1) := by decide +kernel
theorem d_jdk_42_method_155_code_9 : decode jdk_42_method_155_code 9 = .ok (.return_, 1) := by decide +kernel
def Q_sci (Z : State) (cs : Int32) (fm : Value) (i n : Nat) (h0 : Heap) (n0 : Nat) (v : Option Value) (h : Heap) (L : List Loc) : Prop := v = none ∧ Fr n0 L ∧ h = h0
set_option maxRecDepth 65536 in
set_option maxHeartbeats 40000000 in
theorem rm_sci (l : Launch) (Z : State) (a0 : Array Value) (hw : ∀ d ∈ tables_1, d.before a0 Z = true) (ws : List Jvm.Cond) (cs : Int32) (fm : Value) (i n : Nat) (h0 : Heap) (n0 : Nat) (Z0 : n0 ≤ h0.size) (ST : own_ST Z cs fm) (OO : Old Z n0 h0) (hi : i < n) (hn : n < 2 ^ 31) :
    MetFree l (⟨"java/lang/String", "checkIndex", "(II)V"⟩ : MethodName) (head1 (Jvm.Cond.code (⟨"java/lang/String", "checkIndex", "(II)V"⟩ : MethodName) jdk_42_method_155_code 2 none :: ws) ({ frames := 1, cells := 0, slots := 0, locals := 14 } : Room)) (fun a U => a = #[(.int (Int32.ofNat i)), (.int (Int32.ofNat n))] ∧ Z.Warmed39 U.vm ∧ U.heap = h0) (fun _ _ _ _ _ => True) (fun _ U o U' => ∃ v L, o = .returned v ∧ Q_sci Z cs fm i n h0 n0 v U'.heap L ∧ FrameEnd U o U' L ({ frames := 1, cells := 0, slots := 0, locals := 14 } : Room).cells ({ frames := 1, cells := 0, slots := 0, locals := 14 } : Room).slots) := by
  refine MetFree.of_bodySF (plainFor_of_name pn_java_lang_String) hisR ?_
  intro p ee s m args below meth cc s₁ Bd hml0 hP hK
  obtain ⟨rfl, hZ, hh⟩ := hP
  have hx := Bd.exec
  have hby := Bd.bytes
  have hml : cc.maxLocals = 2 := hml0
  have hown : s.vm.findClass "java/lang/String" = some m.cls := findClass_of_methodNamed Bd.named
  have hnm := (name_of_methodNamed Bd.named Bd.method).1
  have X0 : Stand p l ee ({ frames := 1, cells := 0, slots := 0, locals := 14 } : Room) s m #[(.int (Int32.ofNat i)), (.int (Int32.ofNat n))] below meth cc s₁ [] 0 0 := Stand.of_body Bd
  have e0 : s₁.heap = h0 := by rw [← hh, Bd.state]; rfl
  have N0 := Fr.nil n0
  show Goes p ee below s ({ frames := 1, cells := 0, slots := 0, locals := 14 } : Room).cells ({ frames := 1, cells := 0, slots := 0, locals := 14 } : Room).slots (Q_sci Z cs fm i n h0 n0) (s₁.setTop (entryFrame m #[(.int (Int32.ofNat i)), (.int (Int32.ofNat n))] 2))
  refine Goes.step (fun _ hr_ => castTop (ef_sci m (Int32.ofNat i) (Int32.ofNat n)) hr_) ?_
  show Goes p ee below s _ _ _ (s₁.setTop (mkF m 0 #[.val (.int (Int32.ofNat i)), .val (.int (Int32.ofNat n))] []))
  refine Goes.step (fun _ hr_ => XS.iloadN X0.here hx rfl (hb hby d_jdk_42_method_155_code_0) rfl  hr_) ?_
  show Goes p ee below s _ _ _ (s₁.setTop (mkF m 1 #[.val (.int (Int32.ofNat i)), .val (.int (Int32.ofNat n))] [(.int (Int32.ofNat i))]))
  refine Goes.step (fun _ hr_ => XS.iloadN X0.here hx rfl (hb hby d_jdk_42_method_155_code_1) rfl  hr_) ?_
  show Goes p ee below s _ _ _ (s₁.setTop (mkF m 2 #[.val (.int (Int32.ofNat i)), .val (.int (Int32.ofNat n))] [(.int (Int32.ofNat n)), (.int (Int32.ofNat i))]))
  obtain ⟨T1, X1, e1, st1⟩ := getS X0 hx hZ (host := "") hown (hw _ (List.mem_of_getElem? (i := 79) rfl)) Via.refl e0 ((ST.2.2.1).ext OO.2) (g := (mkF m 2 #[.val (.int (Int32.ofNat i)), .val (.int (Int32.ofNat n))] [(.int (Int32.ofNat n)), (.int (Int32.ofNat i))])) rfl (hb hby d_jdk_42_method_155_code_2)
  refine Goes.step st1 ?_
  show Goes p ee below s _ _ _ (T1.setTop (mkF m 5 #[.val (.int (Int32.ofNat i)), .val (.int (Int32.ofNat n))] [fm, (.int (Int32.ofNat n)), (.int (Int32.ofNat i))]))
  obtain ⟨v2, T2, L2, X2, hQ2, st2⟩ := own_callS X1 hx hZ (y := (⟨"jdk/internal/util/Preconditions", "checkIndex", "(IILjava/util/function/BiFunction;)I"⟩ : MethodName)) hown (hw _ (List.mem_of_getElem? (i := 81) rfl)) (hw _ (List.mem_of_getElem? (i := 82) rfl)) (hw _ (List.mem_of_getElem? (i := 80) rfl)) (hw _ (List.mem_of_getElem? (i := 83) rfl)) (by decide) (argsL := [(.int (Int32.ofNat i)), (.int (Int32.ofNat n)), fm]) (rm_pci l Z a0 hw [] cs fm i n h0 n0 Z0 ST OO (ST.2.2.2.1) hi hn) e1 (W := 0) (by decide) (by decide) (by decide) (by decide) (g := (mkF m 5 #[.val (.int (Int32.ofNat i)), .val (.int (Int32.ofNat n))] [fm, (.int (Int32.ofNat n)), (.int (Int32.ofNat i))])) rfl (by rw [hml]; rfl) (rest := []) (lenOf pd_0 rfl) rfl (by show 2 * 0 + _ ≤ _; exact Nat.le_of_eq rfl) (hb hby d_jdk_42_method_155_code_5)
  refine Goes.step st2 ?_
  obtain ⟨rfl, N2, e2⟩ := hQ2
  have N3 := Fr.app N0 N2
  show Goes p ee below s _ _ _ (T2.setTop (mkF m 8 #[.val (.int (Int32.ofNat i)), .val (.int (Int32.ofNat n))] [(.int (Int32.ofNat i))]))
  refine Goes.step (fun _ hr_ => XT.pop X2.here hx rfl (hb hby d_jdk_42_method_155_code_8) rfl rfl hr_) ?_
  show Goes p ee below s _ _ _ (T2.setTop (mkF m 9 #[.val (.int (Int32.ofNat i)), .val (.int (Int32.ofNat n))] []))
  refine Goes.retV X2 hx Bd.notSynchronized Bd.returns (hb hby d_jdk_42_method_155_code_9) (by decide) (by decide) ?_
  exact ⟨rfl, N3, e2⟩
theorem ef_l1c (m : MethodId) (x0 : Addr) (x1 : Int32) : entryFrame m #[(.ref x0), (.int x1)] 2 = mkF m 0 #[.val (.ref x0), .val (.int x1)] [] := by first | (simp [entryFrame, mkF, argsToLocals, Value.category]; done) | rfl
theorem pn_java_lang_StringLatin1 : plainName "java/lang/StringLatin1" = true := by first | (simp [plainName, overriddenIn]; done) | decide +kernel
theorem d_jdk_43_method_2_code_0 : decode jdk_43_method_2_code 0 = .ok (.iload_n 1, 1) := by decide +kernel
theorem d_jdk_43_method_2_code_1 : decode jdk_43_method_2_code 1 = .ok (.aload_n 0, 1) := by decide +kernel
theorem d_jdk_43_method_2_code_2 : decode jdk_43_method_2_code 2 = .ok (.arraylength, 1) := by decide +kernel
theorem pd_1 : parseMethodDescriptor "(II)V" = some ⟨[.int, .int], none⟩ := by decide +kernel
theorem d_jdk_43_method_2_code_3 : decode jdk_43_method_2_code 3 = .ok (.invokestatic 9, 3) := by decide +kernel
theorem d_jdk_43_method_2_code_6 : decode jdk_43_method_2_code 6 = .ok (.aload_n 0, 1) := by decide +kernel
theorem d_jdk_43_method_2_code_7 : decode jdk_43_method_2_code 7 = .ok (.iload_n 1, 1) := by decide +kernel
theorem d_jdk_43_method_2_code_8 : decode jdk_43_method_2_code 8 = .ok (.baload, 1) := by decide +kernel
theorem d_jdk_43_method_2_code_9 : decode jdk_43_method_2_code 9 = .ok (.sipush 255, 3) := by decide +kernel
theorem d_jdk_43_method_2_code_12 : decode jdk_43_method_2_code 12 = .ok (.iand, 1) := by decide +kernel
theorem d_jdk_43_method_2_code_13 : decode jdk_43_method_2_code 13 = .ok (.i2c, 1) := by decide +kernel
theorem d_jdk_43_method_2_code_14 : decode jdk_43_method_2_code 14 = .ok (.ireturn, 1) := by decide +kernel
def Q_l1c (Z : State) (cs : Int32) (fm : Value) (a1 : Addr) (i n : Nat) (c : Nat → Nat) (h0 : Heap) (n0 : Nat) (v : Option Value) (h : Heap) (L : List Loc) : Prop := v = some (.int (Int32.ofNat (c i))) ∧ Fr n0 L ∧ h = h0
set_option maxRecDepth 65536 in
set_option maxHeartbeats 40000000 in
theorem rm_l1c (l : Launch) (Z : State) (a0 : Array Value) (hw : ∀ d ∈ tables_1, d.before a0 Z = true) (ws : List Jvm.Cond) (cs : Int32) (fm : Value) (a1 : Addr) (i n : Nat) (c : Nat → Nat) (h0 : Heap) (n0 : Nat) (Z0 : n0 ≤ h0.size) (ST : own_ST Z cs fm) (OO : Old Z n0 h0) (hi : i < n) (hn : n < 2 ^ 31) (hc : c i < 256) (A : OA Z h0 a1 .byte n (own_by false c)) :
    MetFree l (⟨"java/lang/StringLatin1", "charAt", "([BI)C"⟩ : MethodName) (head1 (Jvm.Cond.code (⟨"java/lang/StringLatin1", "charAt", "([BI)C"⟩ : MethodName) jdk_43_method_2_code 2 (some .char) :: ws) ({ frames := 2, cells := 0, slots := 0, locals := 27 } : Room)) (fun a U => a = #[(.ref a1), (.int (Int32.ofNat i))] ∧ Z.Warmed39 U.vm ∧ U.heap = h0) (fun _ _ _ _ _ => True) (fun _ U o U' => ∃ v L, o = .returned v ∧ Q_l1c Z cs fm a1 i n c h0 n0 v U'.heap L ∧ FrameEnd U o U' L ({ frames := 2, cells := 0, slots := 0, locals := 27 } : Room).cells ({ frames := 2, cells := 0, slots := 0, locals := 27 } : Room).slots) := by
  refine MetFree.of_bodySF (plainFor_of_name pn_java_lang_StringLatin1) hisR ?_
  intro p ee s m args below meth cc s₁ Bd hml0 hP hK
  obtain ⟨rfl, hZ, hh⟩ := hP
  have hx := Bd.exec
  have hby := Bd.bytes
  have hml : cc.maxLocals = 2 := hml0
  have hown : s.vm.findClass "java/lang/StringLatin1" = some m.cls := findClass_of_methodNamed Bd.named
  have hnm := (name_of_methodNamed Bd.named Bd.method).1
  have X0 : Stand p l ee ({ frames := 2, cells := 0, slots := 0, locals := 27 } : Room) s m #[(.ref a1), (.int (Int32.ofNat i))] below meth cc s₁ [] 0 0 := Stand.of_body Bd
  have e0 : s₁.heap = h0 := by rw [← hh, Bd.state]; rfl
  have N0 := Fr.nil n0
  show Goes p ee below s ({ frames := 2, cells := 0, slots := 0, locals := 27 } : Room).cells ({ frames := 2, cells := 0, slots := 0, locals := 27 } : Room).slots (Q_l1c Z cs fm a1 i n c h0 n0) (s₁.setTop (entryFrame m #[(.ref a1), (.int (Int32.ofNat i))] 2))
  refine Goes.step (fun _ hr_ => castTop (ef_l1c m a1 (Int32.ofNat i)) hr_) ?_
  show Goes p ee below s _ _ _ (s₁.setTop (mkF m 0 #[.val (.ref a1), .val (.int (Int32.ofNat i))] []))
  refine Goes.step (fun _ hr_ => XS.iloadN X0.here hx rfl (hb hby d_jdk_43_method_2_code_0) rfl  hr_) ?_
  show Goes p ee below s _ _ _ (s₁.setTop (mkF m 1 #[.val (.ref a1), .val (.int (Int32.ofNat i))] [(.int (Int32.ofNat i))]))
  refine Goes.step (fun _ hr_ => XS.aloadN X0.here hx rfl (hb hby d_jdk_43_method_2_code_1) rfl rfl hr_) ?_
  show Goes p ee below s _ _ _ (s₁.setTop (mkF m 2 #[.val (.ref a1), .val (.int (Int32.ofNat i))] [(.ref a1), (.int (Int32.ofNat i))]))
  refine Goes.step (own_alen X0 hx hZ e0 A (z := (Int32.ofNat n)) rfl (g := (mkF m 2 #[.val (.ref a1), .val (.int (Int32.ofNat i))] [(.ref a1), (.int (Int32.ofNat i))])) rfl rfl (hb hby d_jdk_43_method_2_code_2)) ?_
  show Goes p ee below s _ _ _ (s₁.setTop (mkF m 3 #[.val (.ref a1), .val (.int (Int32.ofNat i))] [(.int (Int32.ofNat n)), (.int (Int32.ofNat i))]))
  have lt_a1 := A.lt
  obtain ⟨v1, T1, L1, X1, hQ1, st1⟩ := own_callS X0 hx hZ (y := (⟨"java/lang/String", "checkIndex", "(II)V"⟩ : MethodName)) hown (hw _ (List.mem_of_getElem? (i := 76) rfl)) (hw _ (List.mem_of_getElem? (i := 77) rfl)) (hw _ (List.mem_of_getElem? (i := 11) rfl)) (hw _ (List.mem_of_getElem? (i := 78) rfl)) (by decide) (argsL := [(.int (Int32.ofNat i)), (.int (Int32.ofNat n))]) (rm_sci l Z a0 hw [] cs fm i n h0 n0 Z0 ST OO hi hn) e0 (W := 0) (by decide) (by decide) (by decide) (by decide) (g := (mkF m 3 #[.val (.ref a1), .val (.int (Int32.ofNat i))] [(.int (Int32.ofNat n)), (.int (Int32.ofNat i))])) rfl (by rw [hml]; rfl) (rest := []) (lenOf pd_1 rfl) rfl (by show 2 * 0 + _ ≤ _; exact Nat.le_of_eq rfl) (hb hby d_jdk_43_method_2_code_3)
  refine Goes.step st1 ?_
  obtain ⟨rfl, N1, e1⟩ := hQ1
  have N2 := Fr.app N0 N1
  show Goes p ee below s _ _ _ (T1.setTop (mkF m 6 #[.val (.ref a1), .val (.int (Int32.ofNat i))] []))
  refine Goes.step (fun _ hr_ => XS.aloadN X1.here hx rfl (hb hby d_jdk_43_method_2_code_6) rfl rfl hr_) ?_
  show Goes p ee below s _ _ _ (T1.setTop (mkF m 7 #[.val (.ref a1), .val (.int (Int32.ofNat i))] [(.ref a1)]))
  refine Goes.step (fun _ hr_ => XS.iloadN X1.here hx rfl (hb hby d_jdk_43_method_2_code_7) rfl  hr_) ?_
  show Goes p ee below s _ _ _ (T1.setTop (mkF m 8 #[.val (.ref a1), .val (.int (Int32.ofNat i))] [(.int (Int32.ofNat i)), (.ref a1)]))
  refine Goes.step (own_baload X1 hx hZ e1 A (j := (Int32.ofNat i)) (own_nneg i (by omega)) (k := i) (own_clamp i (by omega)) hi (v := (.int (own_bt (c i)))) rfl (g := (mkF m 8 #[.val (.ref a1), .val (.int (Int32.ofNat i))] [(.int (Int32.ofNat i)), (.ref a1)])) rfl rfl (hb hby d_jdk_43_method_2_code_8)) ?_
  show Goes p ee below s _ _ _ (T1.setTop (mkF m 9 #[.val (.ref a1), .val (.int (Int32.ofNat i))] [(.int (own_bt (c i)))]))
  refine Goes.step (fun _ hr_ => XS.sipush X1.here hx rfl (hb hby d_jdk_43_method_2_code_9) hr_) ?_
  show Goes p ee below s _ _ _ (T1.setTop (mkF m 12 #[.val (.ref a1), .val (.int (Int32.ofNat i))] [(.int (255 : Int32)), (.int (own_bt (c i)))]))
  refine Goes.step (fun _ hr_ => XS.iand X1.here hx rfl (hb hby d_jdk_43_method_2_code_12) rfl hr_) ?_
  show Goes p ee below s _ _ _ (T1.setTop (mkF m 13 #[.val (.ref a1), .val (.int (Int32.ofNat i))] [(.int ((own_bt (c i)) &&& (255 : Int32)))]))
  rw [own_bt255 (c i) (by omega), Nat.mod_eq_of_lt hc]
  show Goes p ee below s _ _ _ (T1.setTop (mkF m 13 #[.val (.ref a1), .val (.int (Int32.ofNat i))] [(.int (Int32.ofNat (c i)))]))
  refine Goes.step (fun _ hr_ => XT.i2c X1.here hx rfl (hb hby d_jdk_43_method_2_code_13) rfl hr_) ?_
  show Goes p ee below s _ _ _ (T1.setTop (mkF m 14 #[.val (.ref a1), .val (.int (Int32.ofNat i))] [(.int (Int32.ofNat (c i)).toUInt32.toUInt16.toUInt32.toInt32)]))
  rw [own_i2c (c i) (by omega)]
  show Goes p ee below s _ _ _ (T1.setTop (mkF m 14 #[.val (.ref a1), .val (.int (Int32.ofNat i))] [(.int (Int32.ofNat (c i)))]))
  refine Goes.retZ X1 hx Bd.notSynchronized Bd.returns (by simp) (own_nchar (c i) (by omega)) (hb hby d_jdk_43_method_2_code_14) (by decide) (by decide) ?_
  exact ⟨rfl, N2, e1⟩
theorem ef_u16l (m : MethodId) (x0 : Addr) : entryFrame m #[(.ref x0)] 1 = mkF m 0 #[.val (.ref x0)] [] := by first | (simp [entryFrame, mkF, argsToLocals, Value.category]; done) | rfl
theorem pn_java_lang_StringUTF16 : plainName "java/lang/StringUTF16" = true := by first | (simp [plainName, overriddenIn]; done) | decide +kernel
theorem d_jdk_52_method_6_code_0 : decode jdk_52_method_6_code 0 = .ok (.aload_n 0, 1) := by decide +kernel
theorem d_jdk_52_method_6_code_1 : decode jdk_52_method_6_code 1 = .ok (.arraylength, 1) := by decide +kernel
theorem d_jdk_52_method_6_code_2 : decode jdk_52_method_6_code 2 = .ok (.iconst 1, 1) := by decide +kernel
theorem d_jdk_52_method_6_code_3 : decode jdk_52_method_6_code 3 = .ok (.ishr, 1) := by decide +kernel
theorem d_jdk_52_method_6_code_4 : decode jdk_52_method_6_code 4 = .ok (.ireturn, 1) := by decide +kernel
def Q_u16l (Z : State) (cs : Int32) (fm : Value) (a1 : Addr) (n : Nat) (f : Nat → Value) (h0 : Heap) (n0 : Nat) (v : Option Value) (h : Heap) (L : List Loc) : Prop := v = some (.int (Int32.ofNat n)) ∧ Fr n0 L ∧ h = h0
set_option maxRecDepth 65536 in
set_option maxHeartbeats 40000000 in
theorem rm_u16l (l : Launch) (Z : State) (a0 : Array Value) (hw : ∀ d ∈ tables_1, d.before a0 Z = true) (ws : List Jvm.Cond) (cs : Int32) (fm : Value) (a1 : Addr) (n : Nat) (f : Nat → Value) (h0 : Heap) (n0 : Nat) (Z0 : n0 ≤ h0.size) (ST : own_ST Z cs fm) (OO : Old Z n0 h0) (hn : n < 2 ^ 30) (A : OA Z h0 a1 .byte (2 * n) f) :
    MetFree l (⟨"java/lang/StringUTF16", "length", "([B)I"⟩ : MethodName) (head1 (Jvm.Cond.code (⟨"java/lang/StringUTF16", "length", "([B)I"⟩ : MethodName) jdk_52_method_6_code 1 (some .int) :: ws) ({ frames := 0, cells := 0, slots := 0, locals := 0 } : Room)) (fun a U => a = #[(.ref a1)] ∧ Z.Warmed39 U.vm ∧ U.heap = h0) (fun _ _ _ _ _ => True) (fun _ U o U' => ∃ v L, o = .returned v ∧ Q_u16l Z cs fm a1 n f h0 n0 v U'.heap L ∧ FrameEnd U o U' L ({ frames := 0, cells := 0, slots := 0, locals := 0 } : Room).cells ({ frames := 0, cells := 0, slots := 0, locals := 0 } : Room).slots) := by
  refine MetFree.of_bodySF (plainFor_of_name pn_java_lang_StringUTF16) hisR ?_
  intro p ee s m args below meth cc s₁ Bd hml0 hP hK
  obtain ⟨rfl, hZ, hh⟩ := hP
  have hx := Bd.exec
  have hby := Bd.bytes
  have hml : cc.maxLocals = 1 := hml0
  have hown : s.vm.findClass "java/lang/StringUTF16" = some m.cls := findClass_of_methodNamed Bd.named
  have hnm := (name_of_methodNamed Bd.named Bd.method).1
  have X0 : Stand p l ee ({ frames := 0, cells := 0, slots := 0, locals := 0 } : Room) s m #[(.ref a1)] below meth cc s₁ [] 0 0 := Stand.of_body Bd
  have e0 : s₁.heap = h0 := by rw [← hh, Bd.state]; rfl
  have N0 := Fr.nil n0
  show Goes p ee below s ({ frames := 0, cells := 0, slots := 0, locals := 0 } : Room).cells ({ frames := 0, cells := 0, slots := 0, locals := 0 } : Room).slots (Q_u16l Z cs fm a1 n f h0 n0) (s₁.setTop (entryFrame m #[(.ref a1)] 1))
  refine Goes.step (fun _ hr_ => castTop (ef_u16l m a1) hr_) ?_
  show Goes p ee below s _ _ _ (s₁.setTop (mkF m 0 #[.val (.ref a1)] []))
  refine Goes.step (fun _ hr_ => XS.aloadN X0.here hx rfl (hb hby d_jdk_52_method_6_code_0) rfl rfl hr_) ?_
  show Goes p ee below s _ _ _ (s₁.setTop (mkF m 1 #[.val (.ref a1)] [(.ref a1)]))
  refine Goes.step (own_alen X0 hx hZ e0 A (z := (Int32.ofNat (2 * n))) rfl (g := (mkF m 1 #[.val (.ref a1)] [(.ref a1)])) rfl rfl (hb hby d_jdk_52_method_6_code_1)) ?_
  show Goes p ee below s _ _ _ (s₁.setTop (mkF m 2 #[.val (.ref a1)] [(.int (Int32.ofNat (2 * n)))]))
  refine Goes.step (fun _ hr_ => XS.iconst X0.here hx rfl (hb hby d_jdk_52_method_6_code_2) hr_) ?_
  show Goes p ee below s _ _ _ (s₁.setTop (mkF m 3 #[.val (.ref a1)] [(.int (1 : Int32)), (.int (Int32.ofNat (2 * n)))]))
  refine Goes.step (fun _ hr_ => XT.ishr X0.here hx rfl (hb hby d_jdk_52_method_6_code_3) rfl hr_) ?_
  show Goes p ee below s _ _ _ (s₁.setTop (mkF m 4 #[.val (.ref a1)] [(.int ((Int32.ofNat (2 * n)) >>> ((1 : Int32) &&& 31)))]))
  rw [own_shr1 n hn]
  show Goes p ee below s _ _ _ (s₁.setTop (mkF m 4 #[.val (.ref a1)] [(.int (Int32.ofNat n))]))
  refine Goes.retI X0 hx Bd.notSynchronized Bd.returns (hb hby d_jdk_52_method_6_code_4) (by decide) (by decide) ?_
  exact ⟨rfl, N0, e0⟩
theorem ef_getc (m : MethodId) (x0 : Addr) (x1 : Int32) : entryFrame m #[(.ref x0), (.int x1)] 2 = mkF m 0 #[.val (.ref x0), .val (.int x1)] [] := by first | (simp [entryFrame, mkF, argsToLocals, Value.category]; done) | rfl
theorem d_jdk_52_method_5_code_0 : decode jdk_52_method_5_code 0 = .ok (.getstatic 44, 3) := by decide +kernel
theorem d_jdk_52_method_5_code_3 : decode jdk_52_method_5_code 3 = .ok (.ifCond .ne 25, 3) := by decide +kernel
theorem d_jdk_52_method_5_code_28 : decode jdk_52_method_5_code 28 = .ok (.iload_n 1, 1) := by decide +kernel
theorem d_jdk_52_method_5_code_29 : decode jdk_52_method_5_code 29 = .ok (.iconst 1, 1) := by decide +kernel
theorem d_jdk_52_method_5_code_30 : decode jdk_52_method_5_code 30 = .ok (.ishl, 1) := by decide +kernel
theorem d_jdk_52_method_5_code_31 : decode jdk_52_method_5_code 31 = .ok (.istore_n 1, 1) := by decide +kernel
theorem d_jdk_52_method_5_code_32 : decode jdk_52_method_5_code 32 = .ok (.aload_n 0, 1) := by decide +kernel
theorem d_jdk_52_method_5_code_33 : decode jdk_52_method_5_code 33 = .ok (.iload_n 1, 1) := by decide +kernel
theorem d_jdk_52_method_5_code_34 : decode jdk_52_method_5_code 34 = .ok (.iinc 1 1, 3) := by decide +kernel
theorem d_jdk_52_method_5_code_37 : decode jdk_52_method_5_code 37 = .ok (.baload, 1) := by decide +kernel
theorem d_jdk_52_method_5_code_38 : decode jdk_52_method_5_code 38 = .ok (.sipush 255, 3) := by decide +kernel
theorem d_jdk_52_method_5_code_41 : decode jdk_52_method_5_code 41 = .ok (.iand, 1) := by decide +kernel
theorem d_jdk_52_method_5_code_42 : decode jdk_52_method_5_code 42 = .ok (.getstatic 59, 3) := by decide +kernel
theorem d_jdk_52_method_5_code_45 : decode jdk_52_method_5_code 45 = .ok (.ishl, 1) := by decide +kernel
theorem d_jdk_52_method_5_code_46 : decode jdk_52_method_5_code 46 = .ok (.aload_n 0, 1) := by decide +kernel
theorem d_jdk_52_method_5_code_47 : decode jdk_52_method_5_code 47 = .ok (.iload_n 1, 1) := by decide +kernel
theorem d_jdk_52_method_5_code_48 : decode jdk_52_method_5_code 48 = .ok (.baload, 1) := by decide +kernel
theorem d_jdk_52_method_5_code_49 : decode jdk_52_method_5_code 49 = .ok (.sipush 255, 3) := by decide +kernel
theorem d_jdk_52_method_5_code_52 : decode jdk_52_method_5_code 52 = .ok (.iand, 1) := by decide +kernel
theorem d_jdk_52_method_5_code_53 : decode jdk_52_method_5_code 53 = .ok (.getstatic 63, 3) := by decide +kernel
theorem d_jdk_52_method_5_code_56 : decode jdk_52_method_5_code 56 = .ok (.ishl, 1) := by decide +kernel
theorem d_jdk_52_method_5_code_57 : decode jdk_52_method_5_code 57 = .ok (.ior, 1) := by decide +kernel
theorem d_jdk_52_method_5_code_58 : decode jdk_52_method_5_code 58 = .ok (.i2c, 1) := by decide +kernel
theorem d_jdk_52_method_5_code_59 : decode jdk_52_method_5_code 59 = .ok (.ireturn, 1) := by decide +kernel
def Q_getc (Z : State) (cs : Int32) (fm : Value) (a1 : Addr) (i n : Nat) (c : Nat → Nat) (h0 : Heap) (n0 : Nat) (v : Option Value) (h : Heap) (L : List Loc) : Prop := v = some (.int (Int32.ofNat (c i))) ∧ Fr n0 L ∧ h = h0
set_option maxRecDepth 65536 in
set_option maxHeartbeats 40000000 in
theorem rm_getc (l : Launch) (Z : State) (a0 : Array Value) (hw : ∀ d ∈ tables_1, d.before a0 Z = true) (ws : List Jvm.Cond) (cs : Int32) (fm : Value) (a1 : Addr) (i n : Nat) (c : Nat → Nat) (h0 : Heap) (n0 : Nat) (Z0 : n0 ≤ h0.size) (ST : own_ST Z cs fm) (OO : Old Z n0 h0) (hi : i < n) (hn : n < 2 ^ 30) (hc : c i < 65536) (A : OA Z h0 a1 .byte (2 * n) (own_by true c)) :
    MetFree l (⟨"java/lang/StringUTF16", "getChar", "([BI)C"⟩ : MethodName) (head1 (Jvm.Cond.code (⟨"java/lang/StringUTF16", "getChar", "([BI)C"⟩ : MethodName) jdk_52_method_5_code 2 (some .char) :: ws) ({ frames := 0, cells := 0, slots := 0, locals := 0 } : Room)) (fun a U => a = #[(.ref a1), (.int (Int32.ofNat i))] ∧ Z.Warmed39 U.vm ∧ U.heap = h0) (fun _ _ _ _ _ => True) (fun _ U o U' => ∃ v L, o = .returned v ∧ Q_getc Z cs fm a1 i n c h0 n0 v U'.heap L ∧ FrameEnd U o U' L ({ frames := 0, cells := 0, slots := 0, locals := 0 } : Room).cells ({ frames := 0, cells := 0, slots := 0, locals := 0 } : Room).slots) := by
  refine MetFree.of_bodySF (plainFor_of_name pn_java_lang_StringUTF16) hisR ?_
  intro p ee s m args below meth cc s₁ Bd hml0 hP hK
  obtain ⟨rfl, hZ, hh⟩ := hP
  have hx := Bd.exec
  have hby := Bd.bytes
  have hml : cc.maxLocals = 2 := hml0
  have hown : s.vm.findClass "java/lang/StringUTF16" = some m.cls := findClass_of_methodNamed Bd.named
  have hnm := (name_of_methodNamed Bd.named Bd.method).1
  have X0 : Stand p l ee ({ frames := 0, cells := 0, slots := 0, locals := 0 } : Room) s m #[(.ref a1), (.int (Int32.ofNat i))] below meth cc s₁ [] 0 0 := Stand.of_body Bd
  have e0 : s₁.heap = h0 := by rw [← hh, Bd.state]; rfl
  have N0 := Fr.nil n0
  show Goes p ee below s ({ frames := 0, cells := 0, slots := 0, locals := 0 } : Room).cells ({ frames := 0, cells := 0, slots := 0, locals := 0 } : Room).slots (Q_getc Z cs fm a1 i n c h0 n0) (s₁.setTop (entryFrame m #[(.ref a1), (.int (Int32.ofNat i))] 2))
  refine Goes.step (fun _ hr_ => castTop (ef_getc m a1 (Int32.ofNat i)) hr_) ?_
  show Goes p ee below s _ _ _ (s₁.setTop (mkF m 0 #[.val (.ref a1), .val (.int (Int32.ofNat i))] []))
  obtain ⟨T1, X1, e1, st1⟩ := getS X0 hx hZ (host := "") hown (hw _ (List.mem_of_getElem? (i := 109) rfl)) Via.refl e0 ((ST.2.2.2.2.1).ext OO.2) (g := (mkF m 0 #[.val (.ref a1), .val (.int (Int32.ofNat i))] [])) rfl (hb hby d_jdk_52_method_5_code_0)
  refine Goes.step st1 ?_
  show Goes p ee below s _ _ _ (T1.setTop (mkF m 3 #[.val (.ref a1), .val (.int (Int32.ofNat i))] [(.int (1 : Int32))]))
  refine Goes.step (fun _ hr_ => XS.ifYes X1.here hx rfl (pc0 := 3) (pc' := 28) rfl (hb hby d_jdk_52_method_5_code_3) rfl ((if0 _ _).trans (feq (by decide)).2) (by decide) (by decide) hr_) ?_
  show Goes p ee below s _ _ _ (T1.setTop (mkF m 28 #[.val (.ref a1), .val (.int (Int32.ofNat i))] []))
  refine Goes.step (fun _ hr_ => XS.iloadN X1.here hx rfl (hb hby d_jdk_52_method_5_code_28) rfl  hr_) ?_
  show Goes p ee below s _ _ _ (T1.setTop (mkF m 29 #[.val (.ref a1), .val (.int (Int32.ofNat i))] [(.int (Int32.ofNat i))]))
  refine Goes.step (fun _ hr_ => XS.iconst X1.here hx rfl (hb hby d_jdk_52_method_5_code_29) hr_) ?_
  show Goes p ee below s _ _ _ (T1.setTop (mkF m 30 #[.val (.ref a1), .val (.int (Int32.ofNat i))] [(.int (1 : Int32)), (.int (Int32.ofNat i))]))
  refine Goes.step (fun _ hr_ => XT.ishl X1.here hx rfl (hb hby d_jdk_52_method_5_code_30) rfl hr_) ?_
  show Goes p ee below s _ _ _ (T1.setTop (mkF m 31 #[.val (.ref a1), .val (.int (Int32.ofNat i))] [(.int ((Int32.ofNat i) <<< ((1 : Int32) &&& 31)))]))
  rw [own_shl1 i (by omega)]
  show Goes p ee below s _ _ _ (T1.setTop (mkF m 31 #[.val (.ref a1), .val (.int (Int32.ofNat i))] [(.int (Int32.ofNat (2 * i)))]))
  refine Goes.step (fun _ hr_ => XS.istoreN X1.here hx rfl (hb hby d_jdk_52_method_5_code_31) rfl  (l' := #[.val (.ref a1), .val (.int (Int32.ofNat (2 * i)))]) rfl hr_) ?_
  show Goes p ee below s _ _ _ (T1.setTop (mkF m 32 #[.val (.ref a1), .val (.int (Int32.ofNat (2 * i)))] []))
  refine Goes.step (fun _ hr_ => XS.aloadN X1.here hx rfl (hb hby d_jdk_52_method_5_code_32) rfl rfl hr_) ?_
  show Goes p ee below s _ _ _ (T1.setTop (mkF m 33 #[.val (.ref a1), .val (.int (Int32.ofNat (2 * i)))] [(.ref a1)]))
  refine Goes.step (fun _ hr_ => XS.iloadN X1.here hx rfl (hb hby d_jdk_52_method_5_code_33) rfl  hr_) ?_
  show Goes p ee below s _ _ _ (T1.setTop (mkF m 34 #[.val (.ref a1), .val (.int (Int32.ofNat (2 * i)))] [(.int (Int32.ofNat (2 * i))), (.ref a1)]))
  refine Goes.step (fun _ hr_ => XS.iinc X1.here hx rfl (hb hby d_jdk_52_method_5_code_34) rfl (l' := #[.val (.ref a1), .val (.int ((Int32.ofNat (2 * i)) + (1 : Int32)))]) rfl hr_) ?_
  show Goes p ee below s _ _ _ (T1.setTop (mkF m 37 #[.val (.ref a1), .val (.int ((Int32.ofNat (2 * i)) + (1 : Int32)))] [(.int (Int32.ofNat (2 * i))), (.ref a1)]))
  rw [show Int32.ofNat (2 * i) + (1 : Int32) = Int32.ofNat (2 * i + 1) from own_addN (2 * i) 1]
  show Goes p ee below s _ _ _ (T1.setTop (mkF m 37 #[.val (.ref a1), .val (.int (Int32.ofNat (2 * i + 1)))] [(.int (Int32.ofNat (2 * i))), (.ref a1)]))
  refine Goes.step (own_baload X1 hx hZ e1 A (j := (Int32.ofNat (2 * i))) (own_nneg (2 * i) (by omega)) (k := (2 * i)) (own_clamp (2 * i) (by omega)) (by omega) (v := (.int (own_bt (c i)))) (own_by_lo c i) (g := (mkF m 37 #[.val (.ref a1), .val (.int (Int32.ofNat (2 * i + 1)))] [(.int (Int32.ofNat (2 * i))), (.ref a1)])) rfl rfl (hb hby d_jdk_52_method_5_code_37)) ?_
  show Goes p ee below s _ _ _ (T1.setTop (mkF m 38 #[.val (.ref a1), .val (.int (Int32.ofNat (2 * i + 1)))] [(.int (own_bt (c i)))]))
  refine Goes.step (fun _ hr_ => XS.sipush X1.here hx rfl (hb hby d_jdk_52_method_5_code_38) hr_) ?_
  show Goes p ee below s _ _ _ (T1.setTop (mkF m 41 #[.val (.ref a1), .val (.int (Int32.ofNat (2 * i + 1)))] [(.int (255 : Int32)), (.int (own_bt (c i)))]))
  refine Goes.step (fun _ hr_ => XS.iand X1.here hx rfl (hb hby d_jdk_52_method_5_code_41) rfl hr_) ?_
  show Goes p ee below s _ _ _ (T1.setTop (mkF m 42 #[.val (.ref a1), .val (.int (Int32.ofNat (2 * i + 1)))] [(.int ((own_bt (c i)) &&& (255 : Int32)))]))
  rw [own_bt255 (c i) (by omega)]
  show Goes p ee below s _ _ _ (T1.setTop (mkF m 42 #[.val (.ref a1), .val (.int (Int32.ofNat (2 * i + 1)))] [(.int (Int32.ofNat (c i % 256)))]))
  obtain ⟨T2, X2, e2, st2⟩ := getS X1 hx hZ (host := "") hown (hw _ (List.mem_of_getElem? (i := 110) rfl)) Via.refl e1 ((ST.2.2.2.2.2.1).ext OO.2) (g := (mkF m 42 #[.val (.ref a1), .val (.int (Int32.ofNat (2 * i + 1)))] [(.int (Int32.ofNat (c i % 256)))])) rfl (hb hby d_jdk_52_method_5_code_42)
  refine Goes.step st2 ?_
  show Goes p ee below s _ _ _ (T2.setTop (mkF m 45 #[.val (.ref a1), .val (.int (Int32.ofNat (2 * i + 1)))] [(.int (0 : Int32)), (.int (Int32.ofNat (c i % 256)))]))
  refine Goes.step (fun _ hr_ => XT.ishl X2.here hx rfl (hb hby d_jdk_52_method_5_code_45) rfl hr_) ?_
  show Goes p ee below s _ _ _ (T2.setTop (mkF m 46 #[.val (.ref a1), .val (.int (Int32.ofNat (2 * i + 1)))] [(.int ((Int32.ofNat (c i % 256)) <<< ((0 : Int32) &&& 31)))]))
  refine Goes.step (fun _ hr_ => XS.aloadN X2.here hx rfl (hb hby d_jdk_52_method_5_code_46) rfl rfl hr_) ?_
  show Goes p ee below s _ _ _ (T2.setTop (mkF m 47 #[.val (.ref a1), .val (.int (Int32.ofNat (2 * i + 1)))] [(.ref a1), (.int ((Int32.ofNat (c i % 256)) <<< ((0 : Int32) &&& 31)))]))
  refine Goes.step (fun _ hr_ => XS.iloadN X2.here hx rfl (hb hby d_jdk_52_method_5_code_47) rfl  hr_) ?_
  show Goes p ee below s _ _ _ (T2.setTop (mkF m 48 #[.val (.ref a1), .val (.int (Int32.ofNat (2 * i + 1)))] [(.int (Int32.ofNat (2 * i + 1))), (.ref a1), (.int ((Int32.ofNat (c i % 256)) <<< ((0 : Int32) &&& 31)))]))
  refine Goes.step (own_baload X2 hx hZ e2 A (j := (Int32.ofNat (2 * i + 1))) (own_nneg (2 * i + 1) (by omega)) (k := (2 * i + 1)) (own_clamp (2 * i + 1) (by omega)) (by omega) (v := (.int (own_bt (c i / 256)))) (own_by_hi c i) (g := (mkF m 48 #[.val (.ref a1), .val (.int (Int32.ofNat (2 * i + 1)))] [(.int (Int32.ofNat (2 * i + 1))), (.ref a1), (.int ((Int32.ofNat (c i % 256)) <<< ((0 : Int32) &&& 31)))])) rfl rfl (hb hby d_jdk_52_method_5_code_48)) ?_
  show Goes p ee below s _ _ _ (T2.setTop (mkF m 49 #[.val (.ref a1), .val (.int (Int32.ofNat (2 * i + 1)))] [(.int (own_bt (c i / 256))), (.int ((Int32.ofNat (c i % 256)) <<< ((0 : Int32) &&& 31)))]))
  refine Goes.step (fun _ hr_ => XS.sipush X2.here hx rfl (hb hby d_jdk_52_method_5_code_49) hr_) ?_
  show Goes p ee below s _ _ _ (T2.setTop (mkF m 52 #[.val (.ref a1), .val (.int (Int32.ofNat (2 * i + 1)))] [(.int (255 : Int32)), (.int (own_bt (c i / 256))), (.int ((Int32.ofNat (c i % 256)) <<< ((0 : Int32) &&& 31)))]))
  refine Goes.step (fun _ hr_ => XS.iand X2.here hx rfl (hb hby d_jdk_52_method_5_code_52) rfl hr_) ?_
  show Goes p ee below s _ _ _ (T2.setTop (mkF m 53 #[.val (.ref a1), .val (.int (Int32.ofNat (2 * i + 1)))] [(.int ((own_bt (c i / 256)) &&& (255 : Int32))), (.int ((Int32.ofNat (c i % 256)) <<< ((0 : Int32) &&& 31)))]))
  rw [own_bt255 (c i / 256) (by omega)]
  show Goes p ee below s _ _ _ (T2.setTop (mkF m 53 #[.val (.ref a1), .val (.int (Int32.ofNat (2 * i + 1)))] [(.int (Int32.ofNat (c i / 256 % 256))), (.int ((Int32.ofNat (c i % 256)) <<< ((0 : Int32) &&& 31)))]))
  obtain ⟨T3, X3, e3, st3⟩ := getS X2 hx hZ (host := "") hown (hw _ (List.mem_of_getElem? (i := 111) rfl)) Via.refl e2 ((ST.2.2.2.2.2.2.1).ext OO.2) (g := (mkF m 53 #[.val (.ref a1), .val (.int (Int32.ofNat (2 * i + 1)))] [(.int (Int32.ofNat (c i / 256 % 256))), (.int ((Int32.ofNat (c i % 256)) <<< ((0 : Int32) &&& 31)))])) rfl (hb hby d_jdk_52_method_5_code_53)
  refine Goes.step st3 ?_
  show Goes p ee below s _ _ _ (T3.setTop (mkF m 56 #[.val (.ref a1), .val (.int (Int32.ofNat (2 * i + 1)))] [(.int (8 : Int32)), (.int (Int32.ofNat (c i / 256 % 256))), (.int ((Int32.ofNat (c i % 256)) <<< ((0 : Int32) &&& 31)))]))
  refine Goes.step (fun _ hr_ => XT.ishl X3.here hx rfl (hb hby d_jdk_52_method_5_code_56) rfl hr_) ?_
  show Goes p ee below s _ _ _ (T3.setTop (mkF m 57 #[.val (.ref a1), .val (.int (Int32.ofNat (2 * i + 1)))] [(.int ((Int32.ofNat (c i / 256 % 256)) <<< ((8 : Int32) &&& 31))), (.int ((Int32.ofNat (c i % 256)) <<< ((0 : Int32) &&& 31)))]))
  refine Goes.step (fun _ hr_ => XT.ior X3.here hx rfl (hb hby d_jdk_52_method_5_code_57) rfl hr_) ?_
  show Goes p ee below s _ _ _ (T3.setTop (mkF m 58 #[.val (.ref a1), .val (.int (Int32.ofNat (2 * i + 1)))] [(.int (((Int32.ofNat (c i % 256)) <<< ((0 : Int32) &&& 31)) ||| ((Int32.ofNat (c i / 256 % 256)) <<< ((8 : Int32) &&& 31))))]))
  rw [own_join (c i) hc]
  show Goes p ee below s _ _ _ (T3.setTop (mkF m 58 #[.val (.ref a1), .val (.int (Int32.ofNat (2 * i + 1)))] [(.int (Int32.ofNat (c i)))]))
  refine Goes.step (fun _ hr_ => XT.i2c X3.here hx rfl (hb hby d_jdk_52_method_5_code_58) rfl hr_) ?_
  show Goes p ee below s _ _ _ (T3.setTop (mkF m 59 #[.val (.ref a1), .val (.int (Int32.ofNat (2 * i + 1)))] [(.int (Int32.ofNat (c i)).toUInt32.toUInt16.toUInt32.toInt32)]))
  rw [own_i2c (c i) hc]
  show Goes p ee below s _ _ _ (T3.setTop (mkF m 59 #[.val (.ref a1), .val (.int (Int32.ofNat (2 * i + 1)))] [(.int (Int32.ofNat (c i)))]))
  refine Goes.retZ X3 hx Bd.notSynchronized Bd.returns (by simp) (own_nchar (c i) hc) (hb hby d_jdk_52_method_5_code_59) (by decide) (by decide) ?_
  exact ⟨rfl, N0, e3⟩
theorem ef_u16ci (m : MethodId) (x0 : Int32) (x1 : Addr) : entryFrame m #[(.int x0), (.ref x1)] 2 = mkF m 0 #[.val (.int x0), .val (.ref x1)] [] := by first | (simp [entryFrame, mkF, argsToLocals, Value.category]; done) | rfl
theorem d_jdk_52_method_91_code_0 : decode jdk_52_method_91_code 0 = .ok (.iload_n 0, 1) := by decide +kernel
theorem d_jdk_52_method_91_code_1 : decode jdk_52_method_91_code 1 = .ok (.aload_n 1, 1) := by decide +kernel
theorem pd_2 : parseMethodDescriptor "([B)I" = some ⟨[(.array .byte)], some .int⟩ := by decide +kernel
theorem d_jdk_52_method_91_code_2 : decode jdk_52_method_91_code 2 = .ok (.invokestatic 48, 3) := by decide +kernel
theorem d_jdk_52_method_91_code_5 : decode jdk_52_method_91_code 5 = .ok (.invokestatic 414, 3) := by decide +kernel
theorem d_jdk_52_method_91_code_8 : decode jdk_52_method_91_code 8 = .ok (.return_, 1) := by decide +kernel
def Q_u16ci (Z : State) (cs : Int32) (fm : Value) (i : Nat) (a1 : Addr) (n : Nat) (f : Nat → Value) (h0 : Heap) (n0 : Nat) (v : Option Value) (h : Heap) (L : List Loc) : Prop := v = none ∧ Fr n0 L ∧ h = h0
set_option maxRecDepth 65536 in
set_option maxHeartbeats 40000000 in
theorem rm_u16ci (l : Launch) (Z : State) (a0 : Array Value) (hw : ∀ d ∈ tables_1, d.before a0 Z = true) (ws : List Jvm.Cond) (cs : Int32) (fm : Value) (i : Nat) (a1 : Addr) (n : Nat) (f : Nat → Value) (h0 : Heap) (n0 : Nat) (Z0 : n0 ≤ h0.size) (ST : own_ST Z cs fm) (OO : Old Z n0 h0) (hi : i < n) (hn : n < 2 ^ 30) (A : OA Z h0 a1 .byte (2 * n) f) :
    MetFree l (⟨"java/lang/StringUTF16", "checkIndex", "(I[B)V"⟩ : MethodName) (head1 (Jvm.Cond.code (⟨"java/lang/StringUTF16", "checkIndex", "(I[B)V"⟩ : MethodName) jdk_52_method_91_code 2 none :: ws) ({ frames := 2, cells := 0, slots := 0, locals := 27 } : Room)) (fun a U => a = #[(.int (Int32.ofNat i)), (.ref a1)] ∧ Z.Warmed39 U.vm ∧ U.heap = h0) (fun _ _ _ _ _ => True) (fun _ U o U' => ∃ v L, o = .returned v ∧ Q_u16ci Z cs fm i a1 n f h0 n0 v U'.heap L ∧ FrameEnd U o U' L ({ frames := 2, cells := 0, slots := 0, locals := 27 } : Room).cells ({ frames := 2, cells := 0, slots := 0, locals := 27 } : Room).slots) := by
  refine MetFree.of_bodySF (plainFor_of_name pn_java_lang_StringUTF16) hisR ?_
  intro p ee s m args below meth cc s₁ Bd hml0 hP hK
  obtain ⟨rfl, hZ, hh⟩ := hP
  have hx := Bd.exec
  have hby := Bd.bytes
  have hml : cc.maxLocals = 2 := hml0
  have hown : s.vm.findClass "java/lang/StringUTF16" = some m.cls := findClass_of_methodNamed Bd.named
  have hnm := (name_of_methodNamed Bd.named Bd.method).1
  have X0 : Stand p l ee ({ frames := 2, cells := 0, slots := 0, locals := 27 } : Room) s m #[(.int (Int32.ofNat i)), (.ref a1)] below meth cc s₁ [] 0 0 := Stand.of_body Bd
  have e0 : s₁.heap = h0 := by rw [← hh, Bd.state]; rfl
  have N0 := Fr.nil n0
  show Goes p ee below s ({ frames := 2, cells := 0, slots := 0, locals := 27 } : Room).cells ({ frames := 2, cells := 0, slots := 0, locals := 27 } : Room).slots (Q_u16ci Z cs fm i a1 n f h0 n0) (s₁.setTop (entryFrame m #[(.int (Int32.ofNat i)), (.ref a1)] 2))
  refine Goes.step (fun _ hr_ => castTop (ef_u16ci m (Int32.ofNat i) a1) hr_) ?_
  show Goes p ee below s _ _ _ (s₁.setTop (mkF m 0 #[.val (.int (Int32.ofNat i)), .val (.ref a1)] []))
  refine Goes.step (fun _ hr_ => XS.iloadN X0.here hx rfl (hb hby d_jdk_52_method_91_code_0) rfl  hr_) ?_
  show Goes p ee below s _ _ _ (s₁.setTop (mkF m 1 #[.val (.int (Int32.ofNat i)), .val (.ref a1)] [(.int (Int32.ofNat i))]))
  refine Goes.step (fun _ hr_ => XS.aloadN X0.here hx rfl (hb hby d_jdk_52_method_91_code_1) rfl rfl hr_) ?_
  show Goes p ee below s _ _ _ (s₁.setTop (mkF m 2 #[.val (.int (Int32.ofNat i)), .val (.ref a1)] [(.ref a1), (.int (Int32.ofNat i))]))
  have lt_a1 := A.lt
  obtain ⟨v1, T1, L1, X1, hQ1, st1⟩ := own_callS X0 hx hZ (y := (⟨"java/lang/StringUTF16", "length", "([B)I"⟩ : MethodName)) hown (hw _ (List.mem_of_getElem? (i := 121) rfl)) (hw _ (List.mem_of_getElem? (i := 122) rfl)) (hw _ (List.mem_of_getElem? (i := 51) rfl)) (hw _ (List.mem_of_getElem? (i := 123) rfl)) (by decide) (argsL := [(.ref a1)]) (rm_u16l l Z a0 hw [] cs fm a1 n _ h0 n0 Z0 ST OO (by omega) A) e0 (W := 1) (by decide) (by decide) (by decide) (by decide) (g := (mkF m 2 #[.val (.int (Int32.ofNat i)), .val (.ref a1)] [(.ref a1), (.int (Int32.ofNat i))])) rfl (by rw [hml]; rfl) (rest := [(.int (Int32.ofNat i))]) (lenOf pd_2 rfl) rfl (by show 2 * 0 + _ ≤ _; exact Nat.le_of_eq rfl) (hb hby d_jdk_52_method_91_code_2)
  refine Goes.step st1 ?_
  obtain ⟨rfl, N1, e1⟩ := hQ1
  have N2 := Fr.app N0 N1
  show Goes p ee below s _ _ _ (T1.setTop (mkF m 5 #[.val (.int (Int32.ofNat i)), .val (.ref a1)] [(.int (Int32.ofNat n)), (.int (Int32.ofNat i))]))
  have lt_a1 := A.lt
  obtain ⟨v3, T3, L3, X3, hQ3, st3⟩ := own_callS X1 hx hZ (y := (⟨"java/lang/String", "checkIndex", "(II)V"⟩ : MethodName)) hown (hw _ (List.mem_of_getElem? (i := 124) rfl)) (hw _ (List.mem_of_getElem? (i := 77) rfl)) (hw _ (List.mem_of_getElem? (i := 11) rfl)) (hw _ (List.mem_of_getElem? (i := 78) rfl)) (by decide) (argsL := [(.int (Int32.ofNat i)), (.int (Int32.ofNat n))]) (rm_sci l Z a0 hw [] cs fm i n h0 n0 Z0 ST OO hi (by omega)) e1 (W := 0) (by decide) (by decide) (by decide) (by decide) (g := (mkF m 5 #[.val (.int (Int32.ofNat i)), .val (.ref a1)] [(.int (Int32.ofNat n)), (.int (Int32.ofNat i))])) rfl (by rw [hml]; rfl) (rest := []) (lenOf pd_1 rfl) rfl (by show 2 * 0 + _ ≤ _; exact Nat.le_of_eq rfl) (hb hby d_jdk_52_method_91_code_5)
  refine Goes.step st3 ?_
  obtain ⟨rfl, N3, e3⟩ := hQ3
  have N4 := Fr.app N2 N3
  show Goes p ee below s _ _ _ (T3.setTop (mkF m 8 #[.val (.int (Int32.ofNat i)), .val (.ref a1)] []))
  refine Goes.retV X3 hx Bd.notSynchronized Bd.returns (hb hby d_jdk_52_method_91_code_8) (by decide) (by decide) ?_
  exact ⟨rfl, N4, e3⟩
theorem ef_u16c (m : MethodId) (x0 : Addr) (x1 : Int32) : entryFrame m #[(.ref x0), (.int x1)] 2 = mkF m 0 #[.val (.ref x0), .val (.int x1)] [] := by first | (simp [entryFrame, mkF, argsToLocals, Value.category]; done) | rfl
theorem d_jdk_52_method_83_code_0 : decode jdk_52_method_83_code 0 = .ok (.iload_n 1, 1) := by decide +kernel
theorem d_jdk_52_method_83_code_1 : decode jdk_52_method_83_code 1 = .ok (.aload_n 0, 1) := by decide +kernel
theorem pd_3 : parseMethodDescriptor "(I[B)V" = some ⟨[.int, (.array .byte)], none⟩ := by decide +kernel
theorem d_jdk_52_method_83_code_2 : decode jdk_52_method_83_code 2 = .ok (.invokestatic 67, 3) := by decide +kernel
theorem d_jdk_52_method_83_code_5 : decode jdk_52_method_83_code 5 = .ok (.aload_n 0, 1) := by decide +kernel
theorem d_jdk_52_method_83_code_6 : decode jdk_52_method_83_code 6 = .ok (.iload_n 1, 1) := by decide +kernel
theorem pd_4 : parseMethodDescriptor "([BI)C" = some ⟨[(.array .byte), .int], some .char⟩ := by decide +kernel
theorem d_jdk_52_method_83_code_7 : decode jdk_52_method_83_code 7 = .ok (.invokestatic 71, 3) := by decide +kernel
theorem d_jdk_52_method_83_code_10 : decode jdk_52_method_83_code 10 = .ok (.ireturn, 1) := by decide +kernel
def Q_u16c (Z : State) (cs : Int32) (fm : Value) (a1 : Addr) (i n : Nat) (c : Nat → Nat) (h0 : Heap) (n0 : Nat) (v : Option Value) (h : Heap) (L : List Loc) : Prop := v = some (.int (Int32.ofNat (c i))) ∧ Fr n0 L ∧ h = h0
set_option maxRecDepth 65536 in
set_option maxHeartbeats 40000000 in
theorem rm_u16c (l : Launch) (Z : State) (a0 : Array Value) (hw : ∀ d ∈ tables_1, d.before a0 Z = true) (ws : List Jvm.Cond) (cs : Int32) (fm : Value) (a1 : Addr) (i n : Nat) (c : Nat → Nat) (h0 : Heap) (n0 : Nat) (Z0 : n0 ≤ h0.size) (ST : own_ST Z cs fm) (OO : Old Z n0 h0) (hi : i < n) (hn : n < 2 ^ 30) (hc : c i < 65536) (A : OA Z h0 a1 .byte (2 * n) (own_by true c)) :
    MetFree l (⟨"java/lang/StringUTF16", "charAt", "([BI)C"⟩ : MethodName) (head1 (Jvm.Cond.code (⟨"java/lang/StringUTF16", "charAt", "([BI)C"⟩ : MethodName) jdk_52_method_83_code 2 (some .char) :: ws) ({ frames := 3, cells := 0, slots := 0, locals := 40 } : Room)) (fun a U => a = #[(.ref a1), (.int (Int32.ofNat i))] ∧ Z.Warmed39 U.vm ∧ U.heap = h0) (fun _ _ _ _ _ => True) (fun _ U o U' => ∃ v L, o = .returned v ∧ Q_u16c Z cs fm a1 i n c h0 n0 v U'.heap L ∧ FrameEnd U o U' L ({ frames := 3, cells := 0, slots := 0, locals := 40 } : Room).cells ({ frames := 3, cells := 0, slots := 0, locals := 40 } : Room).slots) := by
  refine MetFree.of_bodySF (plainFor_of_name pn_java_lang_StringUTF16) hisR ?_
  intro p ee s m args below meth cc s₁ Bd hml0 hP hK
  obtain ⟨rfl, hZ, hh⟩ := hP
  have hx := Bd.exec
  have hby := Bd.bytes
  have hml : cc.maxLocals = 2 := hml0
  have hown : s.vm.findClass "java/lang/StringUTF16" = some m.cls := findClass_of_methodNamed Bd.named
  have hnm := (name_of_methodNamed Bd.named Bd.method).1
  have X0 : Stand p l ee ({ frames := 3, cells := 0, slots := 0, locals := 40 } : Room) s m #[(.ref a1), (.int (Int32.ofNat i))] below meth cc s₁ [] 0 0 := Stand.of_body Bd
  have e0 : s₁.heap = h0 := by rw [← hh, Bd.state]; rfl
  have N0 := Fr.nil n0
  show Goes p ee below s ({ frames := 3, cells := 0, slots := 0, locals := 40 } : Room).cells ({ frames := 3, cells := 0, slots := 0, locals := 40 } : Room).slots (Q_u16c Z cs fm a1 i n c h0 n0) (s₁.setTop (entryFrame m #[(.ref a1), (.int (Int32.ofNat i))] 2))
  refine Goes.step (fun _ hr_ => castTop (ef_u16c m a1 (Int32.ofNat i)) hr_) ?_
  show Goes p ee below s _ _ _ (s₁.setTop (mkF m 0 #[.val (.ref a1), .val (.int (Int32.ofNat i))] []))
  refine Goes.step (fun _ hr_ => XS.iloadN X0.here hx rfl (hb hby d_jdk_52_method_83_code_0) rfl  hr_) ?_
  show Goes p ee below s _ _ _ (s₁.setTop (mkF m 1 #[.val (.ref a1), .val (.int (Int32.ofNat i))] [(.int (Int32.ofNat i))]))
  refine Goes.step (fun _ hr_ => XS.aloadN X0.here hx rfl (hb hby d_jdk_52_method_83_code_1) rfl rfl hr_) ?_
  show Goes p ee below s _ _ _ (s₁.setTop (mkF m 2 #[.val (.ref a1), .val (.int (Int32.ofNat i))] [(.ref a1), (.int (Int32.ofNat i))]))
  have lt_a1 := A.lt
  obtain ⟨v1, T1, L1, X1, hQ1, st1⟩ := own_callS X0 hx hZ (y := (⟨"java/lang/StringUTF16", "checkIndex", "(I[B)V"⟩ : MethodName)) hown (hw _ (List.mem_of_getElem? (i := 118) rfl)) (hw _ (List.mem_of_getElem? (i := 119) rfl)) (hw _ (List.mem_of_getElem? (i := 51) rfl)) (hw _ (List.mem_of_getElem? (i := 120) rfl)) (by decide) (argsL := [(.int (Int32.ofNat i)), (.ref a1)]) (rm_u16ci l Z a0 hw [] cs fm i a1 n _ h0 n0 Z0 ST OO hi hn A) e0 (W := 0) (by decide) (by decide) (by decide) (by decide) (g := (mkF m 2 #[.val (.ref a1), .val (.int (Int32.ofNat i))] [(.ref a1), (.int (Int32.ofNat i))])) rfl (by rw [hml]; rfl) (rest := []) (lenOf pd_3 rfl) rfl (by show 2 * 0 + _ ≤ _; exact Nat.le_of_eq rfl) (hb hby d_jdk_52_method_83_code_2)
  refine Goes.step st1 ?_
  obtain ⟨rfl, N1, e1⟩ := hQ1
  have N2 := Fr.app N0 N1
  show Goes p ee below s _ _ _ (T1.setTop (mkF m 5 #[.val (.ref a1), .val (.int (Int32.ofNat i))] []))
  refine Goes.step (fun _ hr_ => XS.aloadN X1.here hx rfl (hb hby d_jdk_52_method_83_code_5) rfl rfl hr_) ?_
  show Goes p ee below s _ _ _ (T1.setTop (mkF m 6 #[.val (.ref a1), .val (.int (Int32.ofNat i))] [(.ref a1)]))
  refine Goes.step (fun _ hr_ => XS.iloadN X1.here hx rfl (hb hby d_jdk_52_method_83_code_6) rfl  hr_) ?_
  show Goes p ee below s _ _ _ (T1.setTop (mkF m 7 #[.val (.ref a1), .val (.int (Int32.ofNat i))] [(.int (Int32.ofNat i)), (.ref a1)]))
  have lt_a1 := A.lt
  obtain ⟨v3, T3, L3, X3, hQ3, st3⟩ := own_callS X1 hx hZ (y := (⟨"java/lang/StringUTF16", "getChar", "([BI)C"⟩ : MethodName)) hown (hw _ (List.mem_of_getElem? (i := 112) rfl)) (hw _ (List.mem_of_getElem? (i := 113) rfl)) (hw _ (List.mem_of_getElem? (i := 51) rfl)) (hw _ (List.mem_of_getElem? (i := 114) rfl)) (by decide) (argsL := [(.ref a1), (.int (Int32.ofNat i))]) (rm_getc l Z a0 hw [] cs fm a1 i n c h0 n0 Z0 ST OO hi (by omega) hc A) e1 (W := 0) (by decide) (by decide) (by decide) (by decide) (g := (mkF m 7 #[.val (.ref a1), .val (.int (Int32.ofNat i))] [(.int (Int32.ofNat i)), (.ref a1)])) rfl (by rw [hml]; rfl) (rest := []) (lenOf pd_4 rfl) rfl (by show 2 * 0 + _ ≤ _; exact Nat.le_of_eq rfl) (hb hby d_jdk_52_method_83_code_7)
  refine Goes.step st3 ?_
  obtain ⟨rfl, N3, e3⟩ := hQ3
  have N4 := Fr.app N2 N3
  show Goes p ee below s _ _ _ (T3.setTop (mkF m 10 #[.val (.ref a1), .val (.int (Int32.ofNat i))] [(.int (Int32.ofNat (c i)))]))
  refine Goes.retZ X3 hx Bd.notSynchronized Bd.returns (by simp) (own_nchar (c i) hc) (hb hby d_jdk_52_method_83_code_10) (by decide) (by decide) ?_
  exact ⟨rfl, N4, e3⟩
theorem ef_coder (m : MethodId) (x0 : Addr) : entryFrame m #[(.ref x0)] 1 = mkF m 0 #[.val (.ref x0)] [] := by first | (simp [entryFrame, mkF, argsToLocals, Value.category]; done) | rfl
theorem d_jdk_42_method_152_code_0 : decode jdk_42_method_152_code 0 = .ok (.getstatic 38, 3) := by decide +kernel
theorem d_jdk_42_method_152_code_3 : decode jdk_42_method_152_code 3 = .ok (.ifCond .eq 10, 3) := by decide +kernel
theorem d_jdk_42_method_152_code_6 : decode jdk_42_method_152_code 6 = .ok (.aload_n 0, 1) := by decide +kernel
theorem d_jdk_42_method_152_code_7 : decode jdk_42_method_152_code 7 = .ok (.getfield 15, 3) := by decide +kernel
theorem d_jdk_42_method_152_code_10 : decode jdk_42_method_152_code 10 = .ok (.goto 4, 3) := by decide +kernel
theorem d_jdk_42_method_152_code_14 : decode jdk_42_method_152_code 14 = .ok (.ireturn, 1) := by decide +kernel
def Q_coder (Z : State) (cs : Int32) (fm : Value) (a1 : Addr) (u : Bool) (h0 : Heap) (n0 : Nat) (v : Option Value) (h : Heap) (L : List Loc) : Prop := v = some (.int (own_cd u)) ∧ Fr n0 L ∧ h = h0
set_option maxRecDepth 65536 in
set_option maxHeartbeats 40000000 in
theorem rm_coder (l : Launch) (Z : State) (a0 : Array Value) (hw : ∀ d ∈ tables_1, d.before a0 Z = true) (ws : List Jvm.Cond) (cs : Int32) (fm : Value) (a1 : Addr) (u : Bool) (h0 : Heap) (n0 : Nat) (Z0 : n0 ≤ h0.size) (ST : own_ST Z cs fm) (OO : Old Z n0 h0) (FC : Fld Z h0 a1 "java/lang/String" "coder" "B" (.int (own_cd u))) :
    MetFree l (⟨"java/lang/String", "coder", "()B"⟩ : MethodName) (head1 (Jvm.Cond.code (⟨"java/lang/String", "coder", "()B"⟩ : MethodName) jdk_42_method_152_code 1 (some .byte) :: ws) ({ frames := 0, cells := 0, slots := 0, locals := 0 } : Room)) (fun a U => a = #[(.ref a1)] ∧ Z.Warmed39 U.vm ∧ U.heap = h0) (fun _ _ _ _ _ => True) (fun _ U o U' => ∃ v L, o = .returned v ∧ Q_coder Z cs fm a1 u h0 n0 v U'.heap L ∧ FrameEnd U o U' L ({ frames := 0, cells := 0, slots := 0, locals := 0 } : Room).cells ({ frames := 0, cells := 0, slots := 0, locals := 0 } : Room).slots) := by
  refine MetFree.of_bodySF (plainFor_of_name pn_java_lang_String) hisR ?_
  intro p ee s m args below meth cc s₁ Bd hml0 hP hK
  obtain ⟨rfl, hZ, hh⟩ := hP
  have hx := Bd.exec
  have hby := Bd.bytes
  have hml : cc.maxLocals = 1 := hml0
  have hown : s.vm.findClass "java/lang/String" = some m.cls := findClass_of_methodNamed Bd.named
  have hnm := (name_of_methodNamed Bd.named Bd.method).1
  have X0 : Stand p l ee ({ frames := 0, cells := 0, slots := 0, locals := 0 } : Room) s m #[(.ref a1)] below meth cc s₁ [] 0 0 := Stand.of_body Bd
  have e0 : s₁.heap = h0 := by rw [← hh, Bd.state]; rfl
  have N0 := Fr.nil n0
  show Goes p ee below s ({ frames := 0, cells := 0, slots := 0, locals := 0 } : Room).cells ({ frames := 0, cells := 0, slots := 0, locals := 0 } : Room).slots (Q_coder Z cs fm a1 u h0 n0) (s₁.setTop (entryFrame m #[(.ref a1)] 1))
  refine Goes.step (fun _ hr_ => castTop (ef_coder m a1) hr_) ?_
  show Goes p ee below s _ _ _ (s₁.setTop (mkF m 0 #[.val (.ref a1)] []))
  obtain ⟨T1, X1, e1, st1⟩ := getS X0 hx hZ (host := "") hown (hw _ (List.mem_of_getElem? (i := 48) rfl)) Via.refl e0 ((ST.1).ext OO.2) (g := (mkF m 0 #[.val (.ref a1)] [])) rfl (hb hby d_jdk_42_method_152_code_0)
  refine Goes.step st1 ?_
  show Goes p ee below s _ _ _ (T1.setTop (mkF m 3 #[.val (.ref a1)] [(.int cs)]))
  refine Goes.step (fun _ hr_ => XS.ifNo X1.here hx rfl (hb hby d_jdk_42_method_152_code_3) rfl ((if0 _ _).trans (feq (ST.2.1)).1) hr_) ?_
  show Goes p ee below s _ _ _ (T1.setTop (mkF m 6 #[.val (.ref a1)] []))
  refine Goes.step (fun _ hr_ => XS.aloadN X1.here hx rfl (hb hby d_jdk_42_method_152_code_6) rfl rfl hr_) ?_
  show Goes p ee below s _ _ _ (T1.setTop (mkF m 7 #[.val (.ref a1)] [(.ref a1)]))
  obtain ⟨T2, X2, e2, st2⟩ := getF X1 hx hZ hown (host := "") (Or.inl (hw _ (List.mem_of_getElem? (i := 29) rfl))) Via.refl e1 FC (g := (mkF m 7 #[.val (.ref a1)] [(.ref a1)])) rfl rfl (hb hby d_jdk_42_method_152_code_7)
  refine Goes.step st2 ?_
  show Goes p ee below s _ _ _ (T2.setTop (mkF m 10 #[.val (.ref a1)] [(.int (own_cd u))]))
  refine Goes.step (fun _ hr_ => XS.goto X2.here hx rfl (pc0 := 10) (pc' := 14) rfl (hb hby d_jdk_42_method_152_code_10) (by decide) (by decide) hr_) ?_
  show Goes p ee below s _ _ _ (T2.setTop (mkF m 14 #[.val (.ref a1)] [(.int (own_cd u))]))
  refine Goes.retZ X2 hx Bd.notSynchronized Bd.returns (by simp) (own_cd_byte u).1 (hb hby d_jdk_42_method_152_code_14) (by decide) (by decide) ?_
  exact ⟨rfl, N0, e2⟩
theorem ef_isL (m : MethodId) (x0 : Addr) : entryFrame m #[(.ref x0)] 1 = mkF m 0 #[.val (.ref x0)] [] := by first | (simp [entryFrame, mkF, argsToLocals, Value.category]; done) | rfl
theorem d_jdk_42_method_154_code_0 : decode jdk_42_method_154_code 0 = .ok (.getstatic 38, 3) := by decide +kernel
theorem d_jdk_42_method_154_code_3 : decode jdk_42_method_154_code 3 = .ok (.ifCond .eq 14, 3) := by decide +kernel
theorem d_jdk_42_method_154_code_6 : decode jdk_42_method_154_code 6 = .ok (.aload_n 0, 1) := by decide +kernel
theorem d_jdk_42_method_154_code_7 : decode jdk_42_method_154_code 7 = .ok (.getfield 15, 3) := by decide +kernel
theorem d_jdk_42_method_154_code_10 : decode jdk_42_method_154_code 10 = .ok (.ifCond .ne 7, 3) := by decide +kernel
theorem d_jdk_42_method_154_code_13 : decode jdk_42_method_154_code 13 = .ok (.iconst 1, 1) := by decide +kernel
theorem d_jdk_42_method_154_code_14 : decode jdk_42_method_154_code 14 = .ok (.goto 4, 3) := by decide +kernel
theorem d_jdk_42_method_154_code_18 : decode jdk_42_method_154_code 18 = .ok (.ireturn, 1) := by decide +kernel
theorem d_jdk_42_method_154_code_17 : decode jdk_42_method_154_code 17 = .ok (.iconst 0, 1) := by decide +kernel
def Q_isL (Z : State) (cs : Int32) (fm : Value) (a1 : Addr) (u : Bool) (h0 : Heap) (n0 : Nat) (v : Option Value) (h : Heap) (L : List Loc) : Prop := v = some (.int (if u then 0 else 1)) ∧ Fr n0 L ∧ h = h0
set_option maxRecDepth 65536 in
set_option maxHeartbeats 40000000 in
theorem rm_isL (l : Launch) (Z : State) (a0 : Array Value) (hw : ∀ d ∈ tables_1, d.before a0 Z = true) (ws : List Jvm.Cond) (cs : Int32) (fm : Value) (a1 : Addr) (u : Bool) (h0 : Heap) (n0 : Nat) (Z0 : n0 ≤ h0.size) (ST : own_ST Z cs fm) (OO : Old Z n0 h0) (FC : Fld Z h0 a1 "java/lang/String" "coder" "B" (.int (own_cd u))) :
    MetFree l (⟨"java/lang/String", "isLatin1", "()Z"⟩ : MethodName) (head1 (Jvm.Cond.code (⟨"java/lang/String", "isLatin1", "()Z"⟩ : MethodName) jdk_42_method_154_code 1 (some .boolean) :: ws) ({ frames := 0, cells := 0, slots := 0, locals := 0 } : Room)) (fun a U => a = #[(.ref a1)] ∧ Z.Warmed39 U.vm ∧ U.heap = h0) (fun _ _ _ _ _ => True) (fun _ U o U' => ∃ v L, o = .returned v ∧ Q_isL Z cs fm a1 u h0 n0 v U'.heap L ∧ FrameEnd U o U' L ({ frames := 0, cells := 0, slots := 0, locals := 0 } : Room).cells ({ frames := 0, cells := 0, slots := 0, locals := 0 } : Room).slots) := by
  refine MetFree.of_bodySF (plainFor_of_name pn_java_lang_String) hisR ?_
  intro p ee s m args below meth cc s₁ Bd hml0 hP hK
  obtain ⟨rfl, hZ, hh⟩ := hP
  have hx := Bd.exec
  have hby := Bd.bytes
  have hml : cc.maxLocals = 1 := hml0
  have hown : s.vm.findClass "java/lang/String" = some m.cls := findClass_of_methodNamed Bd.named
  have hnm := (name_of_methodNamed Bd.named Bd.method).1
  have X0 : Stand p l ee ({ frames := 0, cells := 0, slots := 0, locals := 0 } : Room) s m #[(.ref a1)] below meth cc s₁ [] 0 0 := Stand.of_body Bd
  have e0 : s₁.heap = h0 := by rw [← hh, Bd.state]; rfl
  have N0 := Fr.nil n0
  show Goes p ee below s ({ frames := 0, cells := 0, slots := 0, locals := 0 } : Room).cells ({ frames := 0, cells := 0, slots := 0, locals := 0 } : Room).slots (Q_isL Z cs fm a1 u h0 n0) (s₁.setTop (entryFrame m #[(.ref a1)] 1))
  refine Goes.step (fun _ hr_ => castTop (ef_isL m a1) hr_) ?_
  show Goes p ee below s _ _ _ (s₁.setTop (mkF m 0 #[.val (.ref a1)] []))
  cases u
  · have FC : Fld Z h0 a1 "java/lang/String" "coder" "B" (.int 0) := FC
    show Goes p ee below s _ _ _ (s₁.setTop (mkF m 0 #[.val (.ref a1)] []))
    obtain ⟨T1, X1, e1, st1⟩ := getS X0 hx hZ (host := "") hown (hw _ (List.mem_of_getElem? (i := 48) rfl)) Via.refl e0 ((ST.1).ext OO.2) (g := (mkF m 0 #[.val (.ref a1)] [])) rfl (hb hby d_jdk_42_method_154_code_0)
    refine Goes.step st1 ?_
    show Goes p ee below s _ _ _ (T1.setTop (mkF m 3 #[.val (.ref a1)] [(.int cs)]))
    refine Goes.step (fun _ hr_ => XS.ifNo X1.here hx rfl (hb hby d_jdk_42_method_154_code_3) rfl ((if0 _ _).trans (feq (ST.2.1)).1) hr_) ?_
    show Goes p ee below s _ _ _ (T1.setTop (mkF m 6 #[.val (.ref a1)] []))
    refine Goes.step (fun _ hr_ => XS.aloadN X1.here hx rfl (hb hby d_jdk_42_method_154_code_6) rfl rfl hr_) ?_
    show Goes p ee below s _ _ _ (T1.setTop (mkF m 7 #[.val (.ref a1)] [(.ref a1)]))
    obtain ⟨T2, X2, e2, st2⟩ := getF X1 hx hZ hown (host := "") (Or.inl (hw _ (List.mem_of_getElem? (i := 29) rfl))) Via.refl e1 FC (g := (mkF m 7 #[.val (.ref a1)] [(.ref a1)])) rfl rfl (hb hby d_jdk_42_method_154_code_7)
    refine Goes.step st2 ?_
    show Goes p ee below s _ _ _ (T2.setTop (mkF m 10 #[.val (.ref a1)] [(.int (0 : Int32))]))
    refine Goes.step (fun _ hr_ => XS.ifNo X2.here hx rfl (hb hby d_jdk_42_method_154_code_10) rfl ((if0 _ _).trans (teq rfl).2) hr_) ?_
    show Goes p ee below s _ _ _ (T2.setTop (mkF m 13 #[.val (.ref a1)] []))
    refine Goes.step (fun _ hr_ => XS.iconst X2.here hx rfl (hb hby d_jdk_42_method_154_code_13) hr_) ?_
    show Goes p ee below s _ _ _ (T2.setTop (mkF m 14 #[.val (.ref a1)] [(.int (1 : Int32))]))
    refine Goes.step (fun _ hr_ => XS.goto X2.here hx rfl (pc0 := 14) (pc' := 18) rfl (hb hby d_jdk_42_method_154_code_14) (by decide) (by decide) hr_) ?_
    show Goes p ee below s _ _ _ (T2.setTop (mkF m 18 #[.val (.ref a1)] [(.int (1 : Int32))]))
    refine Goes.retZ X2 hx Bd.notSynchronized Bd.returns (by simp) rfl (hb hby d_jdk_42_method_154_code_18) (by decide) (by decide) ?_
    exact ⟨rfl, N0, e2⟩
  · have FC : Fld Z h0 a1 "java/lang/String" "coder" "B" (.int 1) := FC
    show Goes p ee below s _ _ _ (s₁.setTop (mkF m 0 #[.val (.ref a1)] []))
    obtain ⟨T3, X3, e3, st3⟩ := getS X0 hx hZ (host := "") hown (hw _ (List.mem_of_getElem? (i := 48) rfl)) Via.refl e0 ((ST.1).ext OO.2) (g := (mkF m 0 #[.val (.ref a1)] [])) rfl (hb hby d_jdk_42_method_154_code_0)
    refine Goes.step st3 ?_
    show Goes p ee below s _ _ _ (T3.setTop (mkF m 3 #[.val (.ref a1)] [(.int cs)]))
    refine Goes.step (fun _ hr_ => XS.ifNo X3.here hx rfl (hb hby d_jdk_42_method_154_code_3) rfl ((if0 _ _).trans (feq (ST.2.1)).1) hr_) ?_
    show Goes p ee below s _ _ _ (T3.setTop (mkF m 6 #[.val (.ref a1)] []))
    refine Goes.step (fun _ hr_ => XS.aloadN X3.here hx rfl (hb hby d_jdk_42_method_154_code_6) rfl rfl hr_) ?_
    show Goes p ee below s _ _ _ (T3.setTop (mkF m 7 #[.val (.ref a1)] [(.ref a1)]))
    obtain ⟨T4, X4, e4, st4⟩ := getF X3 hx hZ hown (host := "") (Or.inl (hw _ (List.mem_of_getElem? (i := 29) rfl))) Via.refl e3 FC (g := (mkF m 7 #[.val (.ref a1)] [(.ref a1)])) rfl rfl (hb hby d_jdk_42_method_154_code_7)
    refine Goes.step st4 ?_
    show Goes p ee below s _ _ _ (T4.setTop (mkF m 10 #[.val (.ref a1)] [(.int (1 : Int32))]))
    refine Goes.step (fun _ hr_ => XS.ifYes X4.here hx rfl (pc0 := 10) (pc' := 17) rfl (hb hby d_jdk_42_method_154_code_10) rfl ((if0 _ _).trans (feq (by decide)).2) (by decide) (by decide) hr_) ?_
    show Goes p ee below s _ _ _ (T4.setTop (mkF m 17 #[.val (.ref a1)] []))
    refine Goes.step (fun _ hr_ => XS.iconst X4.here hx rfl (hb hby d_jdk_42_method_154_code_17) hr_) ?_
    show Goes p ee below s _ _ _ (T4.setTop (mkF m 18 #[.val (.ref a1)] [(.int (0 : Int32))]))
    refine Goes.retZ X4 hx Bd.notSynchronized Bd.returns (by simp) rfl (hb hby d_jdk_42_method_154_code_18) (by decide) (by decide) ?_
    exact ⟨rfl, N0, e4⟩
theorem ef_slen (m : MethodId) (x0 : Addr) : entryFrame m #[(.ref x0)] 1 = mkF m 0 #[.val (.ref x0)] [] := by first | (simp [entryFrame, mkF, argsToLocals, Value.category]; done) | rfl
theorem d_jdk_42_method_54_code_0 : decode jdk_42_method_54_code 0 = .ok (.aload_n 0, 1) := by decide +kernel
theorem d_jdk_42_method_54_code_1 : decode jdk_42_method_54_code 1 = .ok (.getfield 9, 3) := by decide +kernel
theorem d_jdk_42_method_54_code_4 : decode jdk_42_method_54_code 4 = .ok (.arraylength, 1) := by decide +kernel
theorem d_jdk_42_method_54_code_5 : decode jdk_42_method_54_code 5 = .ok (.aload_n 0, 1) := by decide +kernel
theorem pd_5 : parseMethodDescriptor "()B" = some ⟨[], some .byte⟩ := by decide +kernel
theorem d_jdk_42_method_54_code_6 : decode jdk_42_method_54_code 6 = .ok (.invokevirtual 335, 3) := by decide +kernel
theorem d_jdk_42_method_54_code_9 : decode jdk_42_method_54_code 9 = .ok (.ishr, 1) := by decide +kernel
theorem d_jdk_42_method_54_code_10 : decode jdk_42_method_54_code 10 = .ok (.ireturn, 1) := by decide +kernel
def Q_slen (Z : State) (cs : Int32) (fm : Value) (a1 b : Addr) (u : Bool) (n : Nat) (c : Nat → Nat) (h0 : Heap) (n0 : Nat) (v : Option Value) (h : Heap) (L : List Loc) : Prop := v = some (.int (Int32.ofNat n)) ∧ Fr n0 L ∧ h = h0
set_option maxRecDepth 65536 in
set_option maxHeartbeats 40000000 in
theorem rm_slen (l : Launch) (Z : State) (a0 : Array Value) (hw : ∀ d ∈ tables_1, d.before a0 Z = true) (ws : List Jvm.Cond) (cs : Int32) (fm : Value) (a1 b : Addr) (u : Bool) (n : Nat) (c : Nat → Nat) (h0 : Heap) (n0 : Nat) (Z0 : n0 ≤ h0.size) (ST : own_ST Z cs fm) (OO : Old Z n0 h0) (hn : n < 2 ^ 29) (E : Exa Z h0 a1 "java/lang/String") (FV : Fld Z h0 a1 "java/lang/String" "value" "[B" (.ref b)) (FC : Fld Z h0 a1 "java/lang/String" "coder" "B" (.int (own_cd u))) (A : OA Z h0 b .byte (own_len u n) (own_by u c)) :
    MetFree l (⟨"java/lang/String", "length", "()I"⟩ : MethodName) (head1 (Jvm.Cond.code (⟨"java/lang/String", "length", "()I"⟩ : MethodName) jdk_42_method_54_code 1 (some .int) :: ws) ({ frames := 1, cells := 0, slots := 0, locals := 13 } : Room)) (fun a U => a = #[(.ref a1)] ∧ Z.Warmed39 U.vm ∧ U.heap = h0) (fun _ _ _ _ _ => True) (fun _ U o U' => ∃ v L, o = .returned v ∧ Q_slen Z cs fm a1 b u n c h0 n0 v U'.heap L ∧ FrameEnd U o U' L ({ frames := 1, cells := 0, slots := 0, locals := 13 } : Room).cells ({ frames := 1, cells := 0, slots := 0, locals := 13 } : Room).slots) := by
  refine MetFree.of_bodySF (plainFor_of_name pn_java_lang_String) hisR ?_
  intro p ee s m args below meth cc s₁ Bd hml0 hP hK
  obtain ⟨rfl, hZ, hh⟩ := hP
  have hx := Bd.exec
  have hby := Bd.bytes
  have hml : cc.maxLocals = 1 := hml0
  have hown : s.vm.findClass "java/lang/String" = some m.cls := findClass_of_methodNamed Bd.named
  have hnm := (name_of_methodNamed Bd.named Bd.method).1
  have X0 : Stand p l ee ({ frames := 1, cells := 0, slots := 0, locals := 13 } : Room) s m #[(.ref a1)] below meth cc s₁ [] 0 0 := Stand.of_body Bd
  have e0 : s₁.heap = h0 := by rw [← hh, Bd.state]; rfl
  have N0 := Fr.nil n0
  show Goes p ee below s ({ frames := 1, cells := 0, slots := 0, locals := 13 } : Room).cells ({ frames := 1, cells := 0, slots := 0, locals := 13 } : Room).slots (Q_slen Z cs fm a1 b u n c h0 n0) (s₁.setTop (entryFrame m #[(.ref a1)] 1))
  refine Goes.step (fun _ hr_ => castTop (ef_slen m a1) hr_) ?_
  show Goes p ee below s _ _ _ (s₁.setTop (mkF m 0 #[.val (.ref a1)] []))
  cases u
  · have FC : Fld Z h0 a1 "java/lang/String" "coder" "B" (.int 0) := FC
    have A : OA Z h0 b .byte n (own_by false c) := A
    show Goes p ee below s _ _ _ (s₁.setTop (mkF m 0 #[.val (.ref a1)] []))
    refine Goes.step (fun _ hr_ => XS.aloadN X0.here hx rfl (hb hby d_jdk_42_method_54_code_0) rfl rfl hr_) ?_
    show Goes p ee below s _ _ _ (s₁.setTop (mkF m 1 #[.val (.ref a1)] [(.ref a1)]))
    obtain ⟨T1, X1, e1, st1⟩ := getF X0 hx hZ hown (host := "") (Or.inl (hw _ (List.mem_of_getElem? (i := 28) rfl))) Via.refl e0 FV (g := (mkF m 1 #[.val (.ref a1)] [(.ref a1)])) rfl rfl (hb hby d_jdk_42_method_54_code_1)
    refine Goes.step st1 ?_
    show Goes p ee below s _ _ _ (T1.setTop (mkF m 4 #[.val (.ref a1)] [(.ref b)]))
    refine Goes.step (own_alen X1 hx hZ e1 A (z := (Int32.ofNat n)) rfl (g := (mkF m 4 #[.val (.ref a1)] [(.ref b)])) rfl rfl (hb hby d_jdk_42_method_54_code_4)) ?_
    show Goes p ee below s _ _ _ (T1.setTop (mkF m 5 #[.val (.ref a1)] [(.int (Int32.ofNat n))]))
    refine Goes.step (fun _ hr_ => XS.aloadN X1.here hx rfl (hb hby d_jdk_42_method_54_code_5) rfl rfl hr_) ?_
    show Goes p ee below s _ _ _ (T1.setTop (mkF m 6 #[.val (.ref a1)] [(.ref a1), (.int (Int32.ofNat n))]))
    have lt_a1 := E.lt
    have lt_b := A.lt
    obtain ⟨v2, T2, L2, X2, hQ2, st2⟩ := own_callV X1 hx hZ (y := (⟨"java/lang/String", "coder", "()B"⟩ : MethodName)) hown (hw _ (List.mem_of_getElem? (i := 43) rfl)) (hw _ (List.mem_of_getElem? (i := 44) rfl)) (hw _ (List.mem_of_getElem? (i := 46) rfl)) (hw _ (List.mem_of_getElem? (i := 45) rfl)) (hw _ (List.mem_of_getElem? (i := 11) rfl)) (hw _ (List.mem_of_getElem? (i := 47) rfl)) (by decide) (a := a1) (argsL := []) (rm_coder l Z a0 hw [] cs fm a1 false h0 n0 Z0 ST OO FC) e1 E (W := 1) (by decide) (by decide) (by decide) (by decide) (g := (mkF m 6 #[.val (.ref a1)] [(.ref a1), (.int (Int32.ofNat n))])) rfl (by rw [hml]; rfl) (rest := [(.int (Int32.ofNat n))]) (lenOf pd_5 rfl) rfl (by show 2 * 0 + _ ≤ _; exact Nat.le_of_eq rfl) (hb hby d_jdk_42_method_54_code_6)
    refine Goes.step st2 ?_
    obtain ⟨rfl, N2, e2⟩ := hQ2
    have N3 := Fr.app N0 N2
    show Goes p ee below s _ _ _ (T2.setTop (mkF m 9 #[.val (.ref a1)] [(.int (0 : Int32)), (.int (Int32.ofNat n))]))
    refine Goes.step (fun _ hr_ => XT.ishr X2.here hx rfl (hb hby d_jdk_42_method_54_code_9) rfl hr_) ?_
    show Goes p ee below s _ _ _ (T2.setTop (mkF m 10 #[.val (.ref a1)] [(.int ((Int32.ofNat n) >>> ((0 : Int32) &&& 31)))]))
    rw [own_shr0 n (by omega)]
    show Goes p ee below s _ _ _ (T2.setTop (mkF m 10 #[.val (.ref a1)] [(.int (Int32.ofNat n))]))
    refine Goes.retI X2 hx Bd.notSynchronized Bd.returns (hb hby d_jdk_42_method_54_code_10) (by decide) (by decide) ?_
    exact ⟨rfl, N3, e2⟩
  · have FC : Fld Z h0 a1 "java/lang/String" "coder" "B" (.int 1) := FC
    have A : OA Z h0 b .byte (2 * n) (own_by true c) := A
    show Goes p ee below s _ _ _ (s₁.setTop (mkF m 0 #[.val (.ref a1)] []))
    refine Goes.step (fun _ hr_ => XS.aloadN X0.here hx rfl (hb hby d_jdk_42_method_54_code_0) rfl rfl hr_) ?_
    show Goes p ee below s _ _ _ (s₁.setTop (mkF m 1 #[.val (.ref a1)] [(.ref a1)]))
    obtain ⟨T4, X4, e4, st4⟩ := getF X0 hx hZ hown (host := "") (Or.inl (hw _ (List.mem_of_getElem? (i := 28) rfl))) Via.refl e0 FV (g := (mkF m 1 #[.val (.ref a1)] [(.ref a1)])) rfl rfl (hb hby d_jdk_42_method_54_code_1)
    refine Goes.step st4 ?_
    show Goes p ee below s _ _ _ (T4.setTop (mkF m 4 #[.val (.ref a1)] [(.ref b)]))
    refine Goes.step (own_alen X4 hx hZ e4 A (z := (Int32.ofNat (2 * n))) rfl (g := (mkF m 4 #[.val (.ref a1)] [(.ref b)])) rfl rfl (hb hby d_jdk_42_method_54_code_4)) ?_
    show Goes p ee below s _ _ _ (T4.setTop (mkF m 5 #[.val (.ref a1)] [(.int (Int32.ofNat (2 * n)))]))
    refine Goes.step (fun _ hr_ => XS.aloadN X4.here hx rfl (hb hby d_jdk_42_method_54_code_5) rfl rfl hr_) ?_
    show Goes p ee below s _ _ _ (T4.setTop (mkF m 6 #[.val (.ref a1)] [(.ref a1), (.int (Int32.ofNat (2 * n)))]))
    have lt_a1 := E.lt
    have lt_b := A.lt
    obtain ⟨v5, T5, L5, X5, hQ5, st5⟩ := own_callV X4 hx hZ (y := (⟨"java/lang/String", "coder", "()B"⟩ : MethodName)) hown (hw _ (List.mem_of_getElem? (i := 43) rfl)) (hw _ (List.mem_of_getElem? (i := 44) rfl)) (hw _ (List.mem_of_getElem? (i := 46) rfl)) (hw _ (List.mem_of_getElem? (i := 45) rfl)) (hw _ (List.mem_of_getElem? (i := 11) rfl)) (hw _ (List.mem_of_getElem? (i := 47) rfl)) (by decide) (a := a1) (argsL := []) (rm_coder l Z a0 hw [] cs fm a1 true h0 n0 Z0 ST OO FC) e4 E (W := 1) (by decide) (by decide) (by decide) (by decide) (g := (mkF m 6 #[.val (.ref a1)] [(.ref a1), (.int (Int32.ofNat (2 * n)))])) rfl (by rw [hml]; rfl) (rest := [(.int (Int32.ofNat (2 * n)))]) (lenOf pd_5 rfl) rfl (by show 2 * 0 + _ ≤ _; exact Nat.le_of_eq rfl) (hb hby d_jdk_42_method_54_code_6)
    refine Goes.step st5 ?_
    obtain ⟨rfl, N5, e5⟩ := hQ5
    have N6 := Fr.app N0 N5
    show Goes p ee below s _ _ _ (T5.setTop (mkF m 9 #[.val (.ref a1)] [(.int (1 : Int32)), (.int (Int32.ofNat (2 * n)))]))
    refine Goes.step (fun _ hr_ => XT.ishr X5.here hx rfl (hb hby d_jdk_42_method_54_code_9) rfl hr_) ?_
    show Goes p ee below s _ _ _ (T5.setTop (mkF m 10 #[.val (.ref a1)] [(.int ((Int32.ofNat (2 * n)) >>> ((1 : Int32) &&& 31)))]))
    rw [own_shr1 n (by omega)]
    show Goes p ee below s _ _ _ (T5.setTop (mkF m 10 #[.val (.ref a1)] [(.int (Int32.ofNat n))]))
    refine Goes.retI X5 hx Bd.notSynchronized Bd.returns (hb hby d_jdk_42_method_54_code_10) (by decide) (by decide) ?_
    exact ⟨rfl, N6, e5⟩
theorem ef_schar (m : MethodId) (x0 : Addr) (x1 : Int32) : entryFrame m #[(.ref x0), (.int x1)] 2 = mkF m 0 #[.val (.ref x0), .val (.int x1)] [] := by first | (simp [entryFrame, mkF, argsToLocals, Value.category]; done) | rfl
theorem d_jdk_42_method_56_code_0 : decode jdk_42_method_56_code 0 = .ok (.aload_n 0, 1) := by decide +kernel
theorem pd_6 : parseMethodDescriptor "()Z" = some ⟨[], some .boolean⟩ := by decide +kernel
theorem d_jdk_42_method_56_code_1 : decode jdk_42_method_56_code 1 = .ok (.invokevirtual 492, 3) := by decide +kernel
theorem d_jdk_42_method_56_code_4 : decode jdk_42_method_56_code 4 = .ok (.ifCond .eq 12, 3) := by decide +kernel
theorem d_jdk_42_method_56_code_7 : decode jdk_42_method_56_code 7 = .ok (.aload_n 0, 1) := by decide +kernel
theorem d_jdk_42_method_56_code_8 : decode jdk_42_method_56_code 8 = .ok (.getfield 9, 3) := by decide +kernel
theorem d_jdk_42_method_56_code_11 : decode jdk_42_method_56_code 11 = .ok (.iload_n 1, 1) := by decide +kernel
theorem d_jdk_42_method_56_code_12 : decode jdk_42_method_56_code 12 = .ok (.invokestatic 495, 3) := by decide +kernel
theorem d_jdk_42_method_56_code_15 : decode jdk_42_method_56_code 15 = .ok (.ireturn, 1) := by decide +kernel
theorem d_jdk_42_method_56_code_16 : decode jdk_42_method_56_code 16 = .ok (.aload_n 0, 1) := by decide +kernel
theorem d_jdk_42_method_56_code_17 : decode jdk_42_method_56_code 17 = .ok (.getfield 9, 3) := by decide +kernel
theorem d_jdk_42_method_56_code_20 : decode jdk_42_method_56_code 20 = .ok (.iload_n 1, 1) := by decide +kernel
theorem d_jdk_42_method_56_code_21 : decode jdk_42_method_56_code 21 = .ok (.invokestatic 498, 3) := by decide +kernel
theorem d_jdk_42_method_56_code_24 : decode jdk_42_method_56_code 24 = .ok (.ireturn, 1) := by decide +kernel
def Q_schar (Z : State) (cs : Int32) (fm : Value) (a1 b : Addr) (u : Bool) (n : Nat) (c : Nat → Nat) (i : Nat) (h0 : Heap) (n0 : Nat) (v : Option Value) (h : Heap) (L : List Loc) : Prop := v = some (.int (Int32.ofNat (c i))) ∧ Fr n0 L ∧ h = h0
set_option maxRecDepth 65536 in
set_option maxHeartbeats 40000000 in
theorem rm_schar (l : Launch) (Z : State) (a0 : Array Value) (hw : ∀ d ∈ tables_1, d.before a0 Z = true) (ws : List Jvm.Cond) (cs : Int32) (fm : Value) (a1 b : Addr) (u : Bool) (n : Nat) (c : Nat → Nat) (i : Nat) (h0 : Heap) (n0 : Nat) (Z0 : n0 ≤ h0.size) (ST : own_ST Z cs fm) (OO : Old Z n0 h0) (hn : n < 2 ^ 29) (E : Exa Z h0 a1 "java/lang/String") (FV : Fld Z h0 a1 "java/lang/String" "value" "[B" (.ref b)) (FC : Fld Z h0 a1 "java/lang/String" "coder" "B" (.int (own_cd u))) (A : OA Z h0 b .byte (own_len u n) (own_by u c)) (hc : ∀ j, j < n → c j < 65536) (hl : u = false → ∀ j, j < n → c j < 256) (hi : i < n) :
    MetFree l (⟨"java/lang/String", "charAt", "(I)C"⟩ : MethodName) (head1 (Jvm.Cond.code (⟨"java/lang/String", "charAt", "(I)C"⟩ : MethodName) jdk_42_method_56_code 2 (some .char) :: ws) ({ frames := 4, cells := 0, slots := 0, locals := 53 } : Room)) (fun a U => a = #[(.ref a1), (.int (Int32.ofNat i))] ∧ Z.Warmed39 U.vm ∧ U.heap = h0) (fun _ _ _ _ _ => True) (fun _ U o U' => ∃ v L, o = .returned v ∧ Q_schar Z cs fm a1 b u n c i h0 n0 v U'.heap L ∧ FrameEnd U o U' L ({ frames := 4, cells := 0, slots := 0, locals := 53 } : Room).cells ({ frames := 4, cells := 0, slots := 0, locals := 53 } : Room).slots) := by
  refine MetFree.of_bodySF (plainFor_of_name pn_java_lang_String) hisR ?_
  intro p ee s m args below meth cc s₁ Bd hml0 hP hK
  obtain ⟨rfl, hZ, hh⟩ := hP
  have hx := Bd.exec
  have hby := Bd.bytes
  have hml : cc.maxLocals = 2 := hml0
  have hown : s.vm.findClass "java/lang/String" = some m.cls := findClass_of_methodNamed Bd.named
  have hnm := (name_of_methodNamed Bd.named Bd.method).1
  have X0 : Stand p l ee ({ frames := 4, cells := 0, slots := 0, locals := 53 } : Room) s m #[(.ref a1), (.int (Int32.ofNat i))] below meth cc s₁ [] 0 0 := Stand.of_body Bd
  have e0 : s₁.heap = h0 := by rw [← hh, Bd.state]; rfl
  have N0 := Fr.nil n0
  show Goes p ee below s ({ frames := 4, cells := 0, slots := 0, locals := 53 } : Room).cells ({ frames := 4, cells := 0, slots := 0, locals := 53 } : Room).slots (Q_schar Z cs fm a1 b u n c i h0 n0) (s₁.setTop (entryFrame m #[(.ref a1), (.int (Int32.ofNat i))] 2))
  refine Goes.step (fun _ hr_ => castTop (ef_schar m a1 (Int32.ofNat i)) hr_) ?_
  show Goes p ee below s _ _ _ (s₁.setTop (mkF m 0 #[.val (.ref a1), .val (.int (Int32.ofNat i))] []))
  cases u
  · have FC : Fld Z h0 a1 "java/lang/String" "coder" "B" (.int 0) := FC
    have A : OA Z h0 b .byte n (own_by false c) := A
    show Goes p ee below s _ _ _ (s₁.setTop (mkF m 0 #[.val (.ref a1), .val (.int (Int32.ofNat i))] []))
    refine Goes.step (fun _ hr_ => XS.aloadN X0.here hx rfl (hb hby d_jdk_42_method_56_code_0) rfl rfl hr_) ?_
    show Goes p ee below s _ _ _ (s₁.setTop (mkF m 1 #[.val (.ref a1), .val (.int (Int32.ofNat i))] [(.ref a1)]))
    have lt_a1 := E.lt
    have lt_b := A.lt
    obtain ⟨v1, T1, L1, X1, hQ1, st1⟩ := own_callV X0 hx hZ (y := (⟨"java/lang/String", "isLatin1", "()Z"⟩ : MethodName)) hown (hw _ (List.mem_of_getElem? (i := 67) rfl)) (hw _ (List.mem_of_getElem? (i := 68) rfl)) (hw _ (List.mem_of_getElem? (i := 70) rfl)) (hw _ (List.mem_of_getElem? (i := 69) rfl)) (hw _ (List.mem_of_getElem? (i := 11) rfl)) (hw _ (List.mem_of_getElem? (i := 71) rfl)) (by decide) (a := a1) (argsL := []) (rm_isL l Z a0 hw [] cs fm a1 false h0 n0 Z0 ST OO FC) e0 E (W := 0) (by decide) (by decide) (by decide) (by decide) (g := (mkF m 1 #[.val (.ref a1), .val (.int (Int32.ofNat i))] [(.ref a1)])) rfl (by rw [hml]; rfl) (rest := []) (lenOf pd_6 rfl) rfl (by show 2 * 0 + _ ≤ _; exact Nat.le_of_eq rfl) (hb hby d_jdk_42_method_56_code_1)
    refine Goes.step st1 ?_
    obtain ⟨rfl, N1, e1⟩ := hQ1
    have N2 := Fr.app N0 N1
    show Goes p ee below s _ _ _ (T1.setTop (mkF m 4 #[.val (.ref a1), .val (.int (Int32.ofNat i))] [(.int (1 : Int32))]))
    refine Goes.step (fun _ hr_ => XS.ifNo X1.here hx rfl (hb hby d_jdk_42_method_56_code_4) rfl ((if0 _ _).trans (feq (by decide)).1) hr_) ?_
    show Goes p ee below s _ _ _ (T1.setTop (mkF m 7 #[.val (.ref a1), .val (.int (Int32.ofNat i))] []))
    refine Goes.step (fun _ hr_ => XS.aloadN X1.here hx rfl (hb hby d_jdk_42_method_56_code_7) rfl rfl hr_) ?_
    show Goes p ee below s _ _ _ (T1.setTop (mkF m 8 #[.val (.ref a1), .val (.int (Int32.ofNat i))] [(.ref a1)]))
    obtain ⟨T3, X3, e3, st3⟩ := getF X1 hx hZ hown (host := "") (Or.inl (hw _ (List.mem_of_getElem? (i := 28) rfl))) Via.refl e1 FV (g := (mkF m 8 #[.val (.ref a1), .val (.int (Int32.ofNat i))] [(.ref a1)])) rfl rfl (hb hby d_jdk_42_method_56_code_8)
    refine Goes.step st3 ?_
    show Goes p ee below s _ _ _ (T3.setTop (mkF m 11 #[.val (.ref a1), .val (.int (Int32.ofNat i))] [(.ref b)]))
    refine Goes.step (fun _ hr_ => XS.iloadN X3.here hx rfl (hb hby d_jdk_42_method_56_code_11) rfl  hr_) ?_
    show Goes p ee below s _ _ _ (T3.setTop (mkF m 12 #[.val (.ref a1), .val (.int (Int32.ofNat i))] [(.int (Int32.ofNat i)), (.ref b)]))
    have lt_a1 := E.lt
    have lt_b := A.lt
    obtain ⟨v4, T4, L4, X4, hQ4, st4⟩ := own_callS X3 hx hZ (y := (⟨"java/lang/StringLatin1", "charAt", "([BI)C"⟩ : MethodName)) hown (hw _ (List.mem_of_getElem? (i := 72) rfl)) (hw _ (List.mem_of_getElem? (i := 73) rfl)) (hw _ (List.mem_of_getElem? (i := 74) rfl)) (hw _ (List.mem_of_getElem? (i := 75) rfl)) (by decide) (argsL := [(.ref b), (.int (Int32.ofNat i))]) (rm_l1c l Z a0 hw [] cs fm b i n c h0 n0 Z0 ST OO hi (by omega) (hl rfl i hi) A) e3 (W := 0) (by decide) (by decide) (by decide) (by decide) (g := (mkF m 12 #[.val (.ref a1), .val (.int (Int32.ofNat i))] [(.int (Int32.ofNat i)), (.ref b)])) rfl (by rw [hml]; rfl) (rest := []) (lenOf pd_4 rfl) rfl (by show 2 * 0 + _ ≤ _; exact Nat.le_of_eq rfl) (hb hby d_jdk_42_method_56_code_12)
    refine Goes.step st4 ?_
    obtain ⟨rfl, N4, e4⟩ := hQ4
    have N5 := Fr.app N2 N4
    show Goes p ee below s _ _ _ (T4.setTop (mkF m 15 #[.val (.ref a1), .val (.int (Int32.ofNat i))] [(.int (Int32.ofNat (c i)))]))
    refine Goes.retZ X4 hx Bd.notSynchronized Bd.returns (by simp) (own_nchar (c i) (hc i hi)) (hb hby d_jdk_42_method_56_code_15) (by decide) (by decide) ?_
    exact ⟨rfl, N5, e4⟩
  · have FC : Fld Z h0 a1 "java/lang/String" "coder" "B" (.int 1) := FC
    have A : OA Z h0 b .byte (2 * n) (own_by true c) := A
    show Goes p ee below s _ _ _ (s₁.setTop (mkF m 0 #[.val (.ref a1), .val (.int (Int32.ofNat i))] []))
    refine Goes.step (fun _ hr_ => XS.aloadN X0.here hx rfl (hb hby d_jdk_42_method_56_code_0) rfl rfl hr_) ?_
    show Goes p ee below s _ _ _ (s₁.setTop (mkF m 1 #[.val (.ref a1), .val (.int (Int32.ofNat i))] [(.ref a1)]))
    have lt_a1 := E.lt
    have lt_b := A.lt
    obtain ⟨v6, T6, L6, X6, hQ6, st6⟩ := own_callV X0 hx hZ (y := (⟨"java/lang/String", "isLatin1", "()Z"⟩ : MethodName)) hown (hw _ (List.mem_of_getElem? (i := 67) rfl)) (hw _ (List.mem_of_getElem? (i := 68) rfl)) (hw _ (List.mem_of_getElem? (i := 70) rfl)) (hw _ (List.mem_of_getElem? (i := 69) rfl)) (hw _ (List.mem_of_getElem? (i := 11) rfl)) (hw _ (List.mem_of_getElem? (i := 71) rfl)) (by decide) (a := a1) (argsL := []) (rm_isL l Z a0 hw [] cs fm a1 true h0 n0 Z0 ST OO FC) e0 E (W := 0) (by decide) (by decide) (by decide) (by decide) (g := (mkF m 1 #[.val (.ref a1), .val (.int (Int32.ofNat i))] [(.ref a1)])) rfl (by rw [hml]; rfl) (rest := []) (lenOf pd_6 rfl) rfl (by show 2 * 0 + _ ≤ _; exact Nat.le_of_eq rfl) (hb hby d_jdk_42_method_56_code_1)
    refine Goes.step st6 ?_
    obtain ⟨rfl, N6, e6⟩ := hQ6
    have N7 := Fr.app N0 N6
    show Goes p ee below s _ _ _ (T6.setTop (mkF m 4 #[.val (.ref a1), .val (.int (Int32.ofNat i))] [(.int (0 : Int32))]))
    refine Goes.step (fun _ hr_ => XS.ifYes X6.here hx rfl (pc0 := 4) (pc' := 16) rfl (hb hby d_jdk_42_method_56_code_4) rfl ((if0 _ _).trans (teq rfl).1) (by decide) (by decide) hr_) ?_
    show Goes p ee below s _ _ _ (T6.setTop (mkF m 16 #[.val (.ref a1), .val (.int (Int32.ofNat i))] []))
    refine Goes.step (fun _ hr_ => XS.aloadN X6.here hx rfl (hb hby d_jdk_42_method_56_code_16) rfl rfl hr_) ?_
    show Goes p ee below s _ _ _ (T6.setTop (mkF m 17 #[.val (.ref a1), .val (.int (Int32.ofNat i))] [(.ref a1)]))
    obtain ⟨T8, X8, e8, st8⟩ := getF X6 hx hZ hown (host := "") (Or.inl (hw _ (List.mem_of_getElem? (i := 28) rfl))) Via.refl e6 FV (g := (mkF m 17 #[.val (.ref a1), .val (.int (Int32.ofNat i))] [(.ref a1)])) rfl rfl (hb hby d_jdk_42_method_56_code_17)
    refine Goes.step st8 ?_
    show Goes p ee below s _ _ _ (T8.setTop (mkF m 20 #[.val (.ref a1), .val (.int (Int32.ofNat i))] [(.ref b)]))
    refine Goes.step (fun _ hr_ => XS.iloadN X8.here hx rfl (hb hby d_jdk_42_method_56_code_20) rfl  hr_) ?_
    show Goes p ee below s _ _ _ (T8.setTop (mkF m 21 #[.val (.ref a1), .val (.int (Int32.ofNat i))] [(.int (Int32.ofNat i)), (.ref b)]))
    have lt_a1 := E.lt
    have lt_b := A.lt
    obtain ⟨v9, T9, L9, X9, hQ9, st9⟩ := own_callS X8 hx hZ (y := (⟨"java/lang/StringUTF16", "charAt", "([BI)C"⟩ : MethodName)) hown (hw _ (List.mem_of_getElem? (i := 115) rfl)) (hw _ (List.mem_of_getElem? (i := 116) rfl)) (hw _ (List.mem_of_getElem? (i := 51) rfl)) (hw _ (List.mem_of_getElem? (i := 117) rfl)) (by decide) (argsL := [(.ref b), (.int (Int32.ofNat i))]) (rm_u16c l Z a0 hw [] cs fm b i n c h0 n0 Z0 ST OO hi (by omega) (hc i hi) A) e8 (W := 0) (by decide) (by decide) (by decide) (by decide) (g := (mkF m 21 #[.val (.ref a1), .val (.int (Int32.ofNat i))] [(.int (Int32.ofNat i)), (.ref b)])) rfl (by rw [hml]; rfl) (rest := []) (lenOf pd_4 rfl) rfl (by show 2 * 0 + _ ≤ _; exact Nat.le_of_eq rfl) (hb hby d_jdk_42_method_56_code_21)
    refine Goes.step st9 ?_
    obtain ⟨rfl, N9, e9⟩ := hQ9
    have N10 := Fr.app N7 N9
    show Goes p ee below s _ _ _ (T9.setTop (mkF m 24 #[.val (.ref a1), .val (.int (Int32.ofNat i))] [(.int (Int32.ofNat (c i)))]))
    refine Goes.retZ X9 hx Bd.notSynchronized Bd.returns (by simp) (own_nchar (c i) (hc i hi)) (hb hby d_jdk_42_method_56_code_24) (by decide) (by decide) ?_
    exact ⟨rfl, N10, e9⟩
theorem ef_nbl (m : MethodId) (x0 : Int32) : entryFrame m #[(.int x0)] 1 = mkF m 0 #[.val (.int x0)] [] := by first | (simp [entryFrame, mkF, argsToLocals, Value.category]; done) | rfl
theorem d_jdk_52_method_3_code_0 : decode jdk_52_method_3_code 0 = .ok (.iload_n 0, 1) := by decide +kernel
theorem d_jdk_52_method_3_code_1 : decode jdk_52_method_3_code 1 = .ok (.ifCond .ge 11, 3) := by decide +kernel
theorem d_jdk_52_method_3_code_12 : decode jdk_52_method_3_code 12 = .ok (.iload_n 0, 1) := by decide +kernel
theorem d_jdk_52_method_3_code_13 : decode jdk_52_method_3_code 13 = .ok (.ldc 20, 2) := by decide +kernel
theorem d_jdk_52_method_3_code_15 : decode jdk_52_method_3_code 15 = .ok (.if_icmp .lt 40, 3) := by decide +kernel
theorem d_jdk_52_method_3_code_55 : decode jdk_52_method_3_code 55 = .ok (.iload_n 0, 1) := by decide +kernel
theorem d_jdk_52_method_3_code_56 : decode jdk_52_method_3_code 56 = .ok (.iconst 1, 1) := by decide +kernel
theorem d_jdk_52_method_3_code_57 : decode jdk_52_method_3_code 57 = .ok (.ishl, 1) := by decide +kernel
theorem d_jdk_52_method_3_code_58 : decode jdk_52_method_3_code 58 = .ok (.ireturn, 1) := by decide +kernel
def Q_nbl (Z : State) (cs : Int32) (fm : Value) (n : Nat) (h0 : Heap) (n0 : Nat) (v : Option Value) (h : Heap) (L : List Loc) : Prop := v = some (.int (Int32.ofNat (2 * n))) ∧ Fr n0 L ∧ h = h0
set_option maxRecDepth 65536 in
set_option maxHeartbeats 40000000 in
theorem rm_nbl (l : Launch) (Z : State) (a0 : Array Value) (hw : ∀ d ∈ tables_1, d.before a0 Z = true) (ws : List Jvm.Cond) (cs : Int32) (fm : Value) (n : Nat) (h0 : Heap) (n0 : Nat) (Z0 : n0 ≤ h0.size) (ST : own_ST Z cs fm) (OO : Old Z n0 h0) (hn : n < 1073741823) :
    MetFree l (⟨"java/lang/StringUTF16", "newBytesLength", "(I)I"⟩ : MethodName) (head1 (Jvm.Cond.code (⟨"java/lang/StringUTF16", "newBytesLength", "(I)I"⟩ : MethodName) jdk_52_method_3_code 1 (some .int) :: ws) ({ frames := 0, cells := 0, slots := 0, locals := 0 } : Room)) (fun a U => a = #[(.int (Int32.ofNat n))] ∧ Z.Warmed39 U.vm ∧ U.heap = h0) (fun _ _ _ _ _ => True) (fun _ U o U' => ∃ v L, o = .returned v ∧ Q_nbl Z cs fm n h0 n0 v U'.heap L ∧ FrameEnd U o U' L ({ frames := 0, cells := 0, slots := 0, locals := 0 } : Room).cells ({ frames := 0, cells := 0, slots := 0, locals := 0 } : Room).slots) := by
  refine MetFree.of_bodySF (plainFor_of_name pn_java_lang_StringUTF16) hisR ?_
  intro p ee s m args below meth cc s₁ Bd hml0 hP hK
  obtain ⟨rfl, hZ, hh⟩ := hP
  have hx := Bd.exec
  have hby := Bd.bytes
  have hml : cc.maxLocals = 1 := hml0
  have hown : s.vm.findClass "java/lang/StringUTF16" = some m.cls := findClass_of_methodNamed Bd.named
  have hnm := (name_of_methodNamed Bd.named Bd.method).1
  have X0 : Stand p l ee ({ frames := 0, cells := 0, slots := 0, locals := 0 } : Room) s m #[(.int (Int32.ofNat n))] below meth cc s₁ [] 0 0 := Stand.of_body Bd
  have e0 : s₁.heap = h0 := by rw [← hh, Bd.state]; rfl
  have N0 := Fr.nil n0
  show Goes p ee below s ({ frames := 0, cells := 0, slots := 0, locals := 0 } : Room).cells ({ frames := 0, cells := 0, slots := 0, locals := 0 } : Room).slots (Q_nbl Z cs fm n h0 n0) (s₁.setTop (entryFrame m #[(.int (Int32.ofNat n))] 1))
  refine Goes.step (fun _ hr_ => castTop (ef_nbl m (Int32.ofNat n)) hr_) ?_
  show Goes p ee below s _ _ _ (s₁.setTop (mkF m 0 #[.val (.int (Int32.ofNat n))] []))
  refine Goes.step (fun _ hr_ => XS.iloadN X0.here hx rfl (hb hby d_jdk_52_method_3_code_0) rfl  hr_) ?_
  show Goes p ee below s _ _ _ (s₁.setTop (mkF m 1 #[.val (.int (Int32.ofNat n))] [(.int (Int32.ofNat n))]))
  refine Goes.step (fun _ hr_ => XS.ifYes X0.here hx rfl (pc0 := 1) (pc' := 12) rfl (hb hby d_jdk_52_method_3_code_1) rfl ((if0 _ _).trans (flt (own_nneg n (by omega))).2.1) (by decide) (by decide) hr_) ?_
  show Goes p ee below s _ _ _ (s₁.setTop (mkF m 12 #[.val (.int (Int32.ofNat n))] []))
  refine Goes.step (fun _ hr_ => XS.iloadN X0.here hx rfl (hb hby d_jdk_52_method_3_code_12) rfl  hr_) ?_
  show Goes p ee below s _ _ _ (s₁.setTop (mkF m 13 #[.val (.int (Int32.ofNat n))] [(.int (Int32.ofNat n))]))
  refine Goes.step (X0.ldcInt hx hown (mvT hZ (hw _ (List.mem_of_getElem? (i := 105) rfl))) (g := (mkF m 13 #[.val (.int (Int32.ofNat n))] [(.int (Int32.ofNat n))])) rfl (hb hby d_jdk_52_method_3_code_13)) ?_
  show Goes p ee below s _ _ _ (s₁.setTop (mkF m 15 #[.val (.int (Int32.ofNat n))] [(.int (1073741823 : Int32)), (.int (Int32.ofNat n))]))
  refine Goes.step (fun _ hr_ => XS.icmpYes X0.here hx rfl (pc0 := 15) (pc' := 55) rfl (hb hby d_jdk_52_method_3_code_15) rfl (tlt ((own_ltN n 1073741823 (by omega) (by decide)).mpr hn)).1 (by decide) (by decide) hr_) ?_
  show Goes p ee below s _ _ _ (s₁.setTop (mkF m 55 #[.val (.int (Int32.ofNat n))] []))
  refine Goes.step (fun _ hr_ => XS.iloadN X0.here hx rfl (hb hby d_jdk_52_method_3_code_55) rfl  hr_) ?_
  show Goes p ee below s _ _ _ (s₁.setTop (mkF m 56 #[.val (.int (Int32.ofNat n))] [(.int (Int32.ofNat n))]))
  refine Goes.step (fun _ hr_ => XS.iconst X0.here hx rfl (hb hby d_jdk_52_method_3_code_56) hr_) ?_
  show Goes p ee below s _ _ _ (s₁.setTop (mkF m 57 #[.val (.int (Int32.ofNat n))] [(.int (1 : Int32)), (.int (Int32.ofNat n))]))
  refine Goes.step (fun _ hr_ => XT.ishl X0.here hx rfl (hb hby d_jdk_52_method_3_code_57) rfl hr_) ?_
  show Goes p ee below s _ _ _ (s₁.setTop (mkF m 58 #[.val (.int (Int32.ofNat n))] [(.int ((Int32.ofNat n) <<< ((1 : Int32) &&& 31)))]))
  rw [own_shl1 n (by omega)]
  show Goes p ee below s _ _ _ (s₁.setTop (mkF m 58 #[.val (.int (Int32.ofNat n))] [(.int (Int32.ofNat (2 * n)))]))
  refine Goes.retI X0 hx Bd.notSynchronized Bd.returns (hb hby d_jdk_52_method_3_code_58) (by decide) (by decide) ?_
  exact ⟨rfl, N0, e0⟩
theorem ef_nbf (m : MethodId) (x0 : Int32) : entryFrame m #[(.int x0)] 1 = mkF m 0 #[.val (.int x0)] [] := by first | (simp [entryFrame, mkF, argsToLocals, Value.category]; done) | rfl
theorem d_jdk_52_method_2_code_0 : decode jdk_52_method_2_code 0 = .ok (.iload_n 0, 1) := by decide +kernel
theorem pd_7 : parseMethodDescriptor "(I)I" = some ⟨[.int], some .int⟩ := by decide +kernel
theorem d_jdk_52_method_2_code_1 : decode jdk_52_method_2_code 1 = .ok (.invokestatic 11, 3) := by decide +kernel
theorem d_jdk_52_method_2_code_4 : decode jdk_52_method_2_code 4 = .ok (.newarray .byte, 2) := by decide +kernel
theorem d_jdk_52_method_2_code_6 : decode jdk_52_method_2_code 6 = .ok (.areturn, 1) := by decide +kernel
def Q_nbf (Z : State) (cs : Int32) (fm : Value) (n : Nat) (h0 : Heap) (n0 : Nat) (v : Option Value) (h : Heap) (L : List Loc) : Prop := ∃ b : Addr, v = some (.ref b) ∧ Fr n0 L ∧ h0.size ≤ b ∧ Keep h0 h [] ∧ OA Z h b .byte (2 * n) (fun _ => .int 0)
set_option maxRecDepth 65536 in
set_option maxHeartbeats 40000000 in
theorem rm_nbf (l : Launch) (Z : State) (a0 : Array Value) (hw : ∀ d ∈ tables_1, d.before a0 Z = true) (ws : List Jvm.Cond) (cs : Int32) (fm : Value) (n : Nat) (h0 : Heap) (n0 : Nat) (Z0 : n0 ≤ h0.size) (ST : own_ST Z cs fm) (OO : Old Z n0 h0) (hn : n ≤ 6) :
    MetFree l (⟨"java/lang/StringUTF16", "newBytesFor", "(I)[B"⟩ : MethodName) (head1 (Jvm.Cond.code (⟨"java/lang/StringUTF16", "newBytesFor", "(I)[B"⟩ : MethodName) jdk_52_method_2_code 1 (some (.array .byte)) :: ws) ({ frames := 1, cells := 1, slots := 12, locals := 12 } : Room)) (fun a U => a = #[(.int (Int32.ofNat n))] ∧ Z.Warmed39 U.vm ∧ U.heap = h0) (fun _ _ _ _ _ => True) (fun _ U o U' => ∃ v L, o = .returned v ∧ Q_nbf Z cs fm n h0 n0 v U'.heap L ∧ FrameEnd U o U' L ({ frames := 1, cells := 1, slots := 12, locals := 12 } : Room).cells ({ frames := 1, cells := 1, slots := 12, locals := 12 } : Room).slots) := by
  refine MetFree.of_bodySF (plainFor_of_name pn_java_lang_StringUTF16) hisR ?_
  intro p ee s m args below meth cc s₁ Bd hml0 hP hK
  obtain ⟨rfl, hZ, hh⟩ := hP
  have hx := Bd.exec
  have hby := Bd.bytes
  have hml : cc.maxLocals = 1 := hml0
  have hown : s.vm.findClass "java/lang/StringUTF16" = some m.cls := findClass_of_methodNamed Bd.named
  have hnm := (name_of_methodNamed Bd.named Bd.method).1
  have X0 : Stand p l ee ({ frames := 1, cells := 1, slots := 12, locals := 12 } : Room) s m #[(.int (Int32.ofNat n))] below meth cc s₁ [] 0 0 := Stand.of_body Bd
  have e0 : s₁.heap = h0 := by rw [← hh, Bd.state]; rfl
  have N0 := Fr.nil n0
  show Goes p ee below s ({ frames := 1, cells := 1, slots := 12, locals := 12 } : Room).cells ({ frames := 1, cells := 1, slots := 12, locals := 12 } : Room).slots (Q_nbf Z cs fm n h0 n0) (s₁.setTop (entryFrame m #[(.int (Int32.ofNat n))] 1))
  refine Goes.step (fun _ hr_ => castTop (ef_nbf m (Int32.ofNat n)) hr_) ?_
  show Goes p ee below s _ _ _ (s₁.setTop (mkF m 0 #[.val (.int (Int32.ofNat n))] []))
  have K0 := Keep.refl h0 ([] : List Addr)
  refine Goes.step (fun _ hr_ => XS.iloadN X0.here hx rfl (hb hby d_jdk_52_method_2_code_0) rfl  hr_) ?_
  show Goes p ee below s _ _ _ (s₁.setTop (mkF m 1 #[.val (.int (Int32.ofNat n))] [(.int (Int32.ofNat n))]))
  obtain ⟨v1, T1, L1, X1, hQ1, st1⟩ := own_callS X0 hx hZ (y := (⟨"java/lang/StringUTF16", "newBytesLength", "(I)I"⟩ : MethodName)) hown (hw _ (List.mem_of_getElem? (i := 102) rfl)) (hw _ (List.mem_of_getElem? (i := 103) rfl)) (hw _ (List.mem_of_getElem? (i := 51) rfl)) (hw _ (List.mem_of_getElem? (i := 104) rfl)) (by decide) (argsL := [(.int (Int32.ofNat n))]) (rm_nbl l Z a0 hw [] cs fm n h0 n0 Z0 ST OO (by omega)) e0 (W := 0) (by decide) (by decide) (by decide) (by decide) (g := (mkF m 1 #[.val (.int (Int32.ofNat n))] [(.int (Int32.ofNat n))])) rfl (by rw [hml]; rfl) (rest := []) (lenOf pd_7 rfl) rfl (by show 2 * 0 + _ ≤ _; exact Nat.le_of_eq rfl) (hb hby d_jdk_52_method_2_code_1)
  refine Goes.step st1 ?_
  obtain ⟨rfl, N1, e1⟩ := hQ1
  have N2 := Fr.app N0 N1
  show Goes p ee below s _ _ _ (T1.setTop (mkF m 4 #[.val (.int (Int32.ofNat n))] [(.int (Int32.ofNat (2 * n)))]))
  obtain ⟨T3, h3, X3, e3, E3, A3, st3⟩ := own_newP X1 hx hZ (aty := .byte) (hw _ (List.mem_of_getElem? (i := 23) rfl)) e1 (z := (Int32.ofNat (2 * n))) (own_nneg (2 * n) (by omega)) (n := (2 * n)) (own_clamp (2 * n) (by omega)) (cap := 12) (by omega) (by decide) (by decide) (by decide) (g := (mkF m 4 #[.val (.int (Int32.ofNat n))] [(.int (Int32.ofNat (2 * n)))])) rfl rfl (hb hby d_jdk_52_method_2_code_4)
  obtain ⟨b3, g_b3⟩ : ∃ z, z = h0.size := ⟨_, rfl⟩
  have ge_b3 : n0 ≤ b3 := Nat.le_trans Z0 (Nat.le_of_eq g_b3.symm)
  have sz_b3 : h0.size ≤ b3 := Nat.le_trans K0.1 (Nat.le_of_eq g_b3.symm)
  rw [← g_b3] at A3 st3
  have Zp4 := Nat.le_trans Z0 E3.1
  have OO := OO.ext E3
  have K5 := K0.ext E3
  refine Goes.step st3 ?_
  have A_b3 : OA Z h3 b3 .byte (2 * n) (fun _ => (.int 0)) := A3
  show Goes p ee below s _ _ _ (T3.setTop (mkF m 6 #[.val (.int (Int32.ofNat n))] [(.ref b3)]))
  refine Goes.retA X3 hx Bd.notSynchronized Bd.returns rfl rfl (hb hby d_jdk_52_method_2_code_6) (by decide) (by decide) ?_
  rw [e3]
  exact ⟨_, rfl, N2, sz_b3, K5, A_b3⟩
theorem ef_putc (m : MethodId) (x0 : Addr) (x1 : Int32) (x2 : Int32) : entryFrame m #[(.ref x0), (.int x1), (.int x2)] 3 = mkF m 0 #[.val (.ref x0), .val (.int x1), .val (.int x2)] [] := by first | (simp [entryFrame, mkF, argsToLocals, Value.category]; done) | rfl
theorem d_jdk_52_method_4_code_0 : decode jdk_52_method_4_code 0 = .ok (.getstatic 44, 3) := by decide +kernel
theorem d_jdk_52_method_4_code_3 : decode jdk_52_method_4_code 3 = .ok (.ifCond .ne 25, 3) := by decide +kernel
theorem d_jdk_52_method_4_code_28 : decode jdk_52_method_4_code 28 = .ok (.iload_n 1, 1) := by decide +kernel
theorem d_jdk_52_method_4_code_29 : decode jdk_52_method_4_code 29 = .ok (.iconst 1, 1) := by decide +kernel
theorem d_jdk_52_method_4_code_30 : decode jdk_52_method_4_code 30 = .ok (.ishl, 1) := by decide +kernel
theorem d_jdk_52_method_4_code_31 : decode jdk_52_method_4_code 31 = .ok (.istore_n 1, 1) := by decide +kernel
theorem d_jdk_52_method_4_code_32 : decode jdk_52_method_4_code 32 = .ok (.aload_n 0, 1) := by decide +kernel
theorem d_jdk_52_method_4_code_33 : decode jdk_52_method_4_code 33 = .ok (.iload_n 1, 1) := by decide +kernel
theorem d_jdk_52_method_4_code_34 : decode jdk_52_method_4_code 34 = .ok (.iinc 1 1, 3) := by decide +kernel
theorem d_jdk_52_method_4_code_37 : decode jdk_52_method_4_code 37 = .ok (.iload_n 2, 1) := by decide +kernel
theorem d_jdk_52_method_4_code_38 : decode jdk_52_method_4_code 38 = .ok (.getstatic 59, 3) := by decide +kernel
theorem d_jdk_52_method_4_code_41 : decode jdk_52_method_4_code 41 = .ok (.ishr, 1) := by decide +kernel
theorem d_jdk_52_method_4_code_42 : decode jdk_52_method_4_code 42 = .ok (.i2b, 1) := by decide +kernel
theorem d_jdk_52_method_4_code_43 : decode jdk_52_method_4_code 43 = .ok (.bastore, 1) := by decide +kernel
theorem d_jdk_52_method_4_code_44 : decode jdk_52_method_4_code 44 = .ok (.aload_n 0, 1) := by decide +kernel
theorem d_jdk_52_method_4_code_45 : decode jdk_52_method_4_code 45 = .ok (.iload_n 1, 1) := by decide +kernel
theorem d_jdk_52_method_4_code_46 : decode jdk_52_method_4_code 46 = .ok (.iload_n 2, 1) := by decide +kernel
theorem d_jdk_52_method_4_code_47 : decode jdk_52_method_4_code 47 = .ok (.getstatic 63, 3) := by decide +kernel
theorem d_jdk_52_method_4_code_50 : decode jdk_52_method_4_code 50 = .ok (.ishr, 1) := by decide +kernel
theorem d_jdk_52_method_4_code_51 : decode jdk_52_method_4_code 51 = .ok (.i2b, 1) := by decide +kernel
theorem d_jdk_52_method_4_code_52 : decode jdk_52_method_4_code 52 = .ok (.bastore, 1) := by decide +kernel
theorem d_jdk_52_method_4_code_53 : decode jdk_52_method_4_code 53 = .ok (.return_, 1) := by decide +kernel
def Q_putc (Z : State) (cs : Int32) (fm : Value) (a1 : Addr) (i k n : Nat) (f : Nat → Value) (h0 : Heap) (n0 : Nat) (v : Option Value) (h : Heap) (L : List Loc) : Prop := v = none ∧ Fr n0 L ∧ Keep h0 h [a1] ∧ OA Z h a1 .byte (2 * n) (fun j => if j = 2 * i + 1 then .int (own_bt (k / 256)) else if j = 2 * i then .int (own_bt k) else f j)
set_option maxRecDepth 65536 in
set_option maxHeartbeats 40000000 in
theorem rm_putc (l : Launch) (Z : State) (a0 : Array Value) (hw : ∀ d ∈ tables_1, d.before a0 Z = true) (ws : List Jvm.Cond) (cs : Int32) (fm : Value) (a1 : Addr) (i k n : Nat) (f : Nat → Value) (h0 : Heap) (n0 : Nat) (Z0 : n0 ≤ h0.size) (ST : own_ST Z cs fm) (OO : Old Z n0 h0) (hi : i < n) (hk : k < 65536) (hn : n < 2 ^ 30) (ge_a1 : n0 ≤ a1) (A : OA Z h0 a1 .byte (2 * n) f) :
    MetFree l (⟨"java/lang/StringUTF16", "putChar", "([BII)V"⟩ : MethodName) (head1 (Jvm.Cond.code (⟨"java/lang/StringUTF16", "putChar", "([BII)V"⟩ : MethodName) jdk_52_method_4_code 3 none :: ws) ({ frames := 0, cells := 0, slots := 0, locals := 0 } : Room)) (fun a U => a = #[(.ref a1), (.int (Int32.ofNat i)), (.int (Int32.ofNat k))] ∧ Z.Warmed39 U.vm ∧ U.heap = h0) (fun _ _ _ _ _ => True) (fun _ U o U' => ∃ v L, o = .returned v ∧ Q_putc Z cs fm a1 i k n f h0 n0 v U'.heap L ∧ FrameEnd U o U' L ({ frames := 0, cells := 0, slots := 0, locals := 0 } : Room).cells ({ frames := 0, cells := 0, slots := 0, locals := 0 } : Room).slots) := by
  refine MetFree.of_bodySF (plainFor_of_name pn_java_lang_StringUTF16) hisR ?_
  intro p ee s m args below meth cc s₁ Bd hml0 hP hK
  obtain ⟨rfl, hZ, hh⟩ := hP
  have hx := Bd.exec
  have hby := Bd.bytes
  have hml : cc.maxLocals = 3 := hml0
  have hown : s.vm.findClass "java/lang/StringUTF16" = some m.cls := findClass_of_methodNamed Bd.named
  have hnm := (name_of_methodNamed Bd.named Bd.method).1
  have X0 : Stand p l ee ({ frames := 0, cells := 0, slots := 0, locals := 0 } : Room) s m #[(.ref a1), (.int (Int32.ofNat i)), (.int (Int32.ofNat k))] below meth cc s₁ [] 0 0 := Stand.of_body Bd
  have e0 : s₁.heap = h0 := by rw [← hh, Bd.state]; rfl
  have N0 := Fr.nil n0
  show Goes p ee below s ({ frames := 0, cells := 0, slots := 0, locals := 0 } : Room).cells ({ frames := 0, cells := 0, slots := 0, locals := 0 } : Room).slots (Q_putc Z cs fm a1 i k n f h0 n0) (s₁.setTop (entryFrame m #[(.ref a1), (.int (Int32.ofNat i)), (.int (Int32.ofNat k))] 3))
  refine Goes.step (fun _ hr_ => castTop (ef_putc m a1 (Int32.ofNat i) (Int32.ofNat k)) hr_) ?_
  show Goes p ee below s _ _ _ (s₁.setTop (mkF m 0 #[.val (.ref a1), .val (.int (Int32.ofNat i)), .val (.int (Int32.ofNat k))] []))
  have K0 := Keep.refl h0 ([a1] : List Addr)
  obtain ⟨T1, X1, e1, st1⟩ := getS X0 hx hZ (host := "") hown (hw _ (List.mem_of_getElem? (i := 109) rfl)) Via.refl e0 ((ST.2.2.2.2.1).ext OO.2) (g := (mkF m 0 #[.val (.ref a1), .val (.int (Int32.ofNat i)), .val (.int (Int32.ofNat k))] [])) rfl (hb hby d_jdk_52_method_4_code_0)
  refine Goes.step st1 ?_
  show Goes p ee below s _ _ _ (T1.setTop (mkF m 3 #[.val (.ref a1), .val (.int (Int32.ofNat i)), .val (.int (Int32.ofNat k))] [(.int (1 : Int32))]))
  refine Goes.step (fun _ hr_ => XS.ifYes X1.here hx rfl (pc0 := 3) (pc' := 28) rfl (hb hby d_jdk_52_method_4_code_3) rfl ((if0 _ _).trans (feq (by decide)).2) (by decide) (by decide) hr_) ?_
  show Goes p ee below s _ _ _ (T1.setTop (mkF m 28 #[.val (.ref a1), .val (.int (Int32.ofNat i)), .val (.int (Int32.ofNat k))] []))
  refine Goes.step (fun _ hr_ => XS.iloadN X1.here hx rfl (hb hby d_jdk_52_method_4_code_28) rfl  hr_) ?_
  show Goes p ee below s _ _ _ (T1.setTop (mkF m 29 #[.val (.ref a1), .val (.int (Int32.ofNat i)), .val (.int (Int32.ofNat k))] [(.int (Int32.ofNat i))]))
  refine Goes.step (fun _ hr_ => XS.iconst X1.here hx rfl (hb hby d_jdk_52_method_4_code_29) hr_) ?_
  show Goes p ee below s _ _ _ (T1.setTop (mkF m 30 #[.val (.ref a1), .val (.int (Int32.ofNat i)), .val (.int (Int32.ofNat k))] [(.int (1 : Int32)), (.int (Int32.ofNat i))]))
  refine Goes.step (fun _ hr_ => XT.ishl X1.here hx rfl (hb hby d_jdk_52_method_4_code_30) rfl hr_) ?_
  show Goes p ee below s _ _ _ (T1.setTop (mkF m 31 #[.val (.ref a1), .val (.int (Int32.ofNat i)), .val (.int (Int32.ofNat k))] [(.int ((Int32.ofNat i) <<< ((1 : Int32) &&& 31)))]))
  rw [own_shl1 i (by omega)]
  show Goes p ee below s _ _ _ (T1.setTop (mkF m 31 #[.val (.ref a1), .val (.int (Int32.ofNat i)), .val (.int (Int32.ofNat k))] [(.int (Int32.ofNat (2 * i)))]))
  refine Goes.step (fun _ hr_ => XS.istoreN X1.here hx rfl (hb hby d_jdk_52_method_4_code_31) rfl  (l' := #[.val (.ref a1), .val (.int (Int32.ofNat (2 * i))), .val (.int (Int32.ofNat k))]) rfl hr_) ?_
  show Goes p ee below s _ _ _ (T1.setTop (mkF m 32 #[.val (.ref a1), .val (.int (Int32.ofNat (2 * i))), .val (.int (Int32.ofNat k))] []))
  refine Goes.step (fun _ hr_ => XS.aloadN X1.here hx rfl (hb hby d_jdk_52_method_4_code_32) rfl rfl hr_) ?_
  show Goes p ee below s _ _ _ (T1.setTop (mkF m 33 #[.val (.ref a1), .val (.int (Int32.ofNat (2 * i))), .val (.int (Int32.ofNat k))] [(.ref a1)]))
  refine Goes.step (fun _ hr_ => XS.iloadN X1.here hx rfl (hb hby d_jdk_52_method_4_code_33) rfl  hr_) ?_
  show Goes p ee below s _ _ _ (T1.setTop (mkF m 34 #[.val (.ref a1), .val (.int (Int32.ofNat (2 * i))), .val (.int (Int32.ofNat k))] [(.int (Int32.ofNat (2 * i))), (.ref a1)]))
  refine Goes.step (fun _ hr_ => XS.iinc X1.here hx rfl (hb hby d_jdk_52_method_4_code_34) rfl (l' := #[.val (.ref a1), .val (.int ((Int32.ofNat (2 * i)) + (1 : Int32))), .val (.int (Int32.ofNat k))]) rfl hr_) ?_
  show Goes p ee below s _ _ _ (T1.setTop (mkF m 37 #[.val (.ref a1), .val (.int ((Int32.ofNat (2 * i)) + (1 : Int32))), .val (.int (Int32.ofNat k))] [(.int (Int32.ofNat (2 * i))), (.ref a1)]))
  rw [show Int32.ofNat (2 * i) + (1 : Int32) = Int32.ofNat (2 * i + 1) from own_addN (2 * i) 1]
  show Goes p ee below s _ _ _ (T1.setTop (mkF m 37 #[.val (.ref a1), .val (.int (Int32.ofNat (2 * i + 1))), .val (.int (Int32.ofNat k))] [(.int (Int32.ofNat (2 * i))), (.ref a1)]))
  refine Goes.step (fun _ hr_ => XS.iloadN X1.here hx rfl (hb hby d_jdk_52_method_4_code_37) rfl  hr_) ?_
  show Goes p ee below s _ _ _ (T1.setTop (mkF m 38 #[.val (.ref a1), .val (.int (Int32.ofNat (2 * i + 1))), .val (.int (Int32.ofNat k))] [(.int (Int32.ofNat k)), (.int (Int32.ofNat (2 * i))), (.ref a1)]))
  obtain ⟨T2, X2, e2, st2⟩ := getS X1 hx hZ (host := "") hown (hw _ (List.mem_of_getElem? (i := 110) rfl)) Via.refl e1 ((ST.2.2.2.2.2.1).ext OO.2) (g := (mkF m 38 #[.val (.ref a1), .val (.int (Int32.ofNat (2 * i + 1))), .val (.int (Int32.ofNat k))] [(.int (Int32.ofNat k)), (.int (Int32.ofNat (2 * i))), (.ref a1)])) rfl (hb hby d_jdk_52_method_4_code_38)
  refine Goes.step st2 ?_
  show Goes p ee below s _ _ _ (T2.setTop (mkF m 41 #[.val (.ref a1), .val (.int (Int32.ofNat (2 * i + 1))), .val (.int (Int32.ofNat k))] [(.int (0 : Int32)), (.int (Int32.ofNat k)), (.int (Int32.ofNat (2 * i))), (.ref a1)]))
  refine Goes.step (fun _ hr_ => XT.ishr X2.here hx rfl (hb hby d_jdk_52_method_4_code_41) rfl hr_) ?_
  show Goes p ee below s _ _ _ (T2.setTop (mkF m 42 #[.val (.ref a1), .val (.int (Int32.ofNat (2 * i + 1))), .val (.int (Int32.ofNat k))] [(.int ((Int32.ofNat k) >>> ((0 : Int32) &&& 31))), (.int (Int32.ofNat (2 * i))), (.ref a1)]))
  rw [own_shr0 k (by omega)]
  show Goes p ee below s _ _ _ (T2.setTop (mkF m 42 #[.val (.ref a1), .val (.int (Int32.ofNat (2 * i + 1))), .val (.int (Int32.ofNat k))] [(.int (Int32.ofNat k)), (.int (Int32.ofNat (2 * i))), (.ref a1)]))
  refine Goes.step (fun _ hr_ => XT.i2b X2.here hx rfl (hb hby d_jdk_52_method_4_code_42) rfl hr_) ?_
  show Goes p ee below s _ _ _ (T2.setTop (mkF m 43 #[.val (.ref a1), .val (.int (Int32.ofNat (2 * i + 1))), .val (.int (Int32.ofNat k))] [(.int (Int32.ofNat k).toInt8.toInt32), (.int (Int32.ofNat (2 * i))), (.ref a1)]))
  obtain ⟨T3, h3, X3, e3, W3, A3, st3⟩ := own_stB X2 hx hZ e2 A (x := (Int32.ofNat k).toInt8.toInt32) (j := (Int32.ofNat (2 * i))) (own_nneg (2 * i) (by omega)) (k := (2 * i)) (own_clamp (2 * i) (by omega)) (by omega) (g := (mkF m 43 #[.val (.ref a1), .val (.int (Int32.ofNat (2 * i + 1))), .val (.int (Int32.ofNat k))] [(.int (Int32.ofNat k).toInt8.toInt32), (.int (Int32.ofNat (2 * i))), (.ref a1)])) rfl rfl (hb hby d_jdk_52_method_4_code_43)
  refine Goes.step st3 ?_
  have Zp4 := Nat.le_trans Z0 (Keep.of_wr W3).1
  have N5 := Fr.snoc X3 N0 ge_a1
  have OO := OO.wr W3 ge_a1
  have K6 := K0.wr W3 (Or.inl (List.mem_of_getElem? (i := 0) rfl))
  have A : OA Z h3 a1 .byte (2 * n) (fun j => if j = 2 * i then .int (own_bt k) else f j) := A3.congr (fun j hj => by rw [own_bt_nar]; rfl)
  show Goes p ee below s _ _ _ (T3.setTop (mkF m 44 #[.val (.ref a1), .val (.int (Int32.ofNat (2 * i + 1))), .val (.int (Int32.ofNat k))] []))
  refine Goes.step (fun _ hr_ => XS.aloadN X3.here hx rfl (hb hby d_jdk_52_method_4_code_44) rfl rfl hr_) ?_
  show Goes p ee below s _ _ _ (T3.setTop (mkF m 45 #[.val (.ref a1), .val (.int (Int32.ofNat (2 * i + 1))), .val (.int (Int32.ofNat k))] [(.ref a1)]))
  refine Goes.step (fun _ hr_ => XS.iloadN X3.here hx rfl (hb hby d_jdk_52_method_4_code_45) rfl  hr_) ?_
  show Goes p ee below s _ _ _ (T3.setTop (mkF m 46 #[.val (.ref a1), .val (.int (Int32.ofNat (2 * i + 1))), .val (.int (Int32.ofNat k))] [(.int (Int32.ofNat (2 * i + 1))), (.ref a1)]))
  refine Goes.step (fun _ hr_ => XS.iloadN X3.here hx rfl (hb hby d_jdk_52_method_4_code_46) rfl  hr_) ?_
  show Goes p ee below s _ _ _ (T3.setTop (mkF m 47 #[.val (.ref a1), .val (.int (Int32.ofNat (2 * i + 1))), .val (.int (Int32.ofNat k))] [(.int (Int32.ofNat k)), (.int (Int32.ofNat (2 * i + 1))), (.ref a1)]))
  obtain ⟨T7, X7, e7, st7⟩ := getS X3 hx hZ (host := "") hown (hw _ (List.mem_of_getElem? (i := 111) rfl)) Via.refl e3 ((ST.2.2.2.2.2.2.1).ext OO.2) (g := (mkF m 47 #[.val (.ref a1), .val (.int (Int32.ofNat (2 * i + 1))), .val (.int (Int32.ofNat k))] [(.int (Int32.ofNat k)), (.int (Int32.ofNat (2 * i + 1))), (.ref a1)])) rfl (hb hby d_jdk_52_method_4_code_47)
  refine Goes.step st7 ?_
  show Goes p ee below s _ _ _ (T7.setTop (mkF m 50 #[.val (.ref a1), .val (.int (Int32.ofNat (2 * i + 1))), .val (.int (Int32.ofNat k))] [(.int (8 : Int32)), (.int (Int32.ofNat k)), (.int (Int32.ofNat (2 * i + 1))), (.ref a1)]))
  refine Goes.step (fun _ hr_ => XT.ishr X7.here hx rfl (hb hby d_jdk_52_method_4_code_50) rfl hr_) ?_
  show Goes p ee below s _ _ _ (T7.setTop (mkF m 51 #[.val (.ref a1), .val (.int (Int32.ofNat (2 * i + 1))), .val (.int (Int32.ofNat k))] [(.int ((Int32.ofNat k) >>> ((8 : Int32) &&& 31))), (.int (Int32.ofNat (2 * i + 1))), (.ref a1)]))
  rw [own_shr8 k (by omega)]
  show Goes p ee below s _ _ _ (T7.setTop (mkF m 51 #[.val (.ref a1), .val (.int (Int32.ofNat (2 * i + 1))), .val (.int (Int32.ofNat k))] [(.int (Int32.ofNat (k / 256))), (.int (Int32.ofNat (2 * i + 1))), (.ref a1)]))
  refine Goes.step (fun _ hr_ => XT.i2b X7.here hx rfl (hb hby d_jdk_52_method_4_code_51) rfl hr_) ?_
  show Goes p ee below s _ _ _ (T7.setTop (mkF m 52 #[.val (.ref a1), .val (.int (Int32.ofNat (2 * i + 1))), .val (.int (Int32.ofNat k))] [(.int (Int32.ofNat (k / 256)).toInt8.toInt32), (.int (Int32.ofNat (2 * i + 1))), (.ref a1)]))
  obtain ⟨T8, h8, X8, e8, W8, A8, st8⟩ := own_stB X7 hx hZ e7 A (x := (Int32.ofNat (k / 256)).toInt8.toInt32) (j := (Int32.ofNat (2 * i + 1))) (own_nneg (2 * i + 1) (by omega)) (k := (2 * i + 1)) (own_clamp (2 * i + 1) (by omega)) (by omega) (g := (mkF m 52 #[.val (.ref a1), .val (.int (Int32.ofNat (2 * i + 1))), .val (.int (Int32.ofNat k))] [(.int (Int32.ofNat (k / 256)).toInt8.toInt32), (.int (Int32.ofNat (2 * i + 1))), (.ref a1)])) rfl rfl (hb hby d_jdk_52_method_4_code_52)
  refine Goes.step st8 ?_
  have Zp9 := Nat.le_trans Zp4 (Keep.of_wr W8).1
  have N10 := Fr.snoc X8 N5 ge_a1
  have OO := OO.wr W8 ge_a1
  have K11 := K6.wr W8 (Or.inl (List.mem_of_getElem? (i := 0) rfl))
  have A : OA Z h8 a1 .byte (2 * n) (fun j => if j = 2 * i + 1 then .int (own_bt (k / 256)) else if j = 2 * i then .int (own_bt k) else f j) := A8.congr (fun j hj => by rw [own_bt_nar]; rfl)
  show Goes p ee below s _ _ _ (T8.setTop (mkF m 53 #[.val (.ref a1), .val (.int (Int32.ofNat (2 * i + 1))), .val (.int (Int32.ofNat k))] []))
  refine Goes.retV X8 hx Bd.notSynchronized Bd.returns (hb hby d_jdk_52_method_4_code_53) (by decide) (by decide) ?_
  rw [e8]
  exact ⟨rfl, N10, K11, A⟩
theorem ef_tob (m : MethodId) (x0 : Addr) (x1 : Int32) (x2 : Int32) : entryFrame m #[(.ref x0), (.int x1), (.int x2)] 5 = mkF m 0 #[.val (.ref x0), .val (.int x1), .val (.int x2), .unset, .unset] [] := by first | (simp [entryFrame, mkF, argsToLocals, Value.category]; done) | rfl
theorem d_jdk_52_method_14_code_0 : decode jdk_52_method_14_code 0 = .ok (.iload_n 2, 1) := by decide +kernel
theorem pd_8 : parseMethodDescriptor "(I)[B" = some ⟨[.int], some (.array .byte)⟩ := by decide +kernel
theorem d_jdk_52_method_14_code_1 : decode jdk_52_method_14_code 1 = .ok (.invokestatic 107, 3) := by decide +kernel
theorem d_jdk_52_method_14_code_4 : decode jdk_52_method_14_code 4 = .ok (.astore_n 3, 1) := by decide +kernel
theorem d_jdk_52_method_14_code_5 : decode jdk_52_method_14_code 5 = .ok (.iconst 0, 1) := by decide +kernel
theorem d_jdk_52_method_14_code_6 : decode jdk_52_method_14_code 6 = .ok (.istore 4, 2) := by decide +kernel
theorem d_jdk_52_method_14_code_8 : decode jdk_52_method_14_code 8 = .ok (.iload 4, 2) := by decide +kernel
theorem d_jdk_52_method_14_code_10 : decode jdk_52_method_14_code 10 = .ok (.iload_n 2, 1) := by decide +kernel
theorem d_jdk_52_method_14_code_11 : decode jdk_52_method_14_code 11 = .ok (.if_icmp .ge 21, 3) := by decide +kernel
theorem d_jdk_52_method_14_code_14 : decode jdk_52_method_14_code 14 = .ok (.aload_n 3, 1) := by decide +kernel
theorem d_jdk_52_method_14_code_15 : decode jdk_52_method_14_code 15 = .ok (.iload 4, 2) := by decide +kernel
theorem d_jdk_52_method_14_code_17 : decode jdk_52_method_14_code 17 = .ok (.aload_n 0, 1) := by decide +kernel
theorem d_jdk_52_method_14_code_18 : decode jdk_52_method_14_code 18 = .ok (.iload_n 1, 1) := by decide +kernel
theorem d_jdk_52_method_14_code_19 : decode jdk_52_method_14_code 19 = .ok (.caload, 1) := by decide +kernel
theorem pd_9 : parseMethodDescriptor "([BII)V" = some ⟨[(.array .byte), .int, .int], none⟩ := by decide +kernel
theorem d_jdk_52_method_14_code_20 : decode jdk_52_method_14_code 20 = .ok (.invokestatic 111, 3) := by decide +kernel
theorem d_jdk_52_method_14_code_23 : decode jdk_52_method_14_code 23 = .ok (.iinc 1 1, 3) := by decide +kernel
theorem d_jdk_52_method_14_code_26 : decode jdk_52_method_14_code 26 = .ok (.iinc 4 1, 3) := by decide +kernel
theorem d_jdk_52_method_14_code_29 : decode jdk_52_method_14_code 29 = .ok (.goto (-21), 3) := by decide +kernel
theorem d_jdk_52_method_14_code_32 : decode jdk_52_method_14_code 32 = .ok (.aload_n 3, 1) := by decide +kernel
theorem d_jdk_52_method_14_code_33 : decode jdk_52_method_14_code 33 = .ok (.areturn, 1) := by decide +kernel
def Q_tob (Z : State) (cs : Int32) (fm : Value) (a1 : Addr) (n : Nat) (c : Nat → Nat) (h0 : Heap) (n0 : Nat) (v : Option Value) (h : Heap) (L : List Loc) : Prop := ∃ b : Addr, v = some (.ref b) ∧ Fr n0 L ∧ h0.size ≤ b ∧ Keep h0 h [] ∧ OA Z h b .byte (2 * n) (own_by true c)
set_option maxRecDepth 65536 in
set_option maxHeartbeats 40000000 in
theorem rm_tob (l : Launch) (Z : State) (a0 : Array Value) (hw : ∀ d ∈ tables_1, d.before a0 Z = true) (ws : List Jvm.Cond) (cs : Int32) (fm : Value) (a1 : Addr) (n : Nat) (c : Nat → Nat) (h0 : Heap) (n0 : Nat) (Z0 : n0 ≤ h0.size) (ST : own_ST Z cs fm) (OO : Old Z n0 h0) (hn : n ≤ 6) (hc : ∀ j, j < n → c j < 65536) (A : OA Z h0 a1 .char n (fun i => .int (Int32.ofNat (c i)))) :
    MetFree l (⟨"java/lang/StringUTF16", "toBytes", "([CII)[B"⟩ : MethodName) (head1 (Jvm.Cond.code (⟨"java/lang/StringUTF16", "toBytes", "([CII)[B"⟩ : MethodName) jdk_52_method_14_code 5 (some (.array .byte)) :: ws) ({ frames := 2, cells := 1, slots := 12, locals := 24 } : Room)) (fun a U => a = #[(.ref a1), (.int (0 : Int32)), (.int (Int32.ofNat n))] ∧ Z.Warmed39 U.vm ∧ U.heap = h0) (fun _ _ _ _ _ => True) (fun _ U o U' => ∃ v L, o = .returned v ∧ Q_tob Z cs fm a1 n c h0 n0 v U'.heap L ∧ FrameEnd U o U' L ({ frames := 2, cells := 1, slots := 12, locals := 24 } : Room).cells ({ frames := 2, cells := 1, slots := 12, locals := 24 } : Room).slots) := by
  refine MetFree.of_bodySF (plainFor_of_name pn_java_lang_StringUTF16) hisR ?_
  intro p ee s m args below meth cc s₁ Bd hml0 hP hK
  obtain ⟨rfl, hZ, hh⟩ := hP
  have hx := Bd.exec
  have hby := Bd.bytes
  have hml : cc.maxLocals = 5 := hml0
  have hown : s.vm.findClass "java/lang/StringUTF16" = some m.cls := findClass_of_methodNamed Bd.named
  have hnm := (name_of_methodNamed Bd.named Bd.method).1
  have X0 : Stand p l ee ({ frames := 2, cells := 1, slots := 12, locals := 24 } : Room) s m #[(.ref a1), (.int (0 : Int32)), (.int (Int32.ofNat n))] below meth cc s₁ [] 0 0 := Stand.of_body Bd
  have e0 : s₁.heap = h0 := by rw [← hh, Bd.state]; rfl
  have N0 := Fr.nil n0
  show Goes p ee below s ({ frames := 2, cells := 1, slots := 12, locals := 24 } : Room).cells ({ frames := 2, cells := 1, slots := 12, locals := 24 } : Room).slots (Q_tob Z cs fm a1 n c h0 n0) (s₁.setTop (entryFrame m #[(.ref a1), (.int (0 : Int32)), (.int (Int32.ofNat n))] 5))
  refine Goes.step (fun _ hr_ => castTop (ef_tob m a1 (0 : Int32) (Int32.ofNat n)) hr_) ?_
  show Goes p ee below s _ _ _ (s₁.setTop (mkF m 0 #[.val (.ref a1), .val (.int (0 : Int32)), .val (.int (Int32.ofNat n)), .unset, .unset] []))
  have K0 := Keep.refl h0 ([] : List Addr)
  refine Goes.step (fun _ hr_ => XS.iloadN X0.here hx rfl (hb hby d_jdk_52_method_14_code_0) rfl  hr_) ?_
  show Goes p ee below s _ _ _ (s₁.setTop (mkF m 1 #[.val (.ref a1), .val (.int (0 : Int32)), .val (.int (Int32.ofNat n)), .unset, .unset] [(.int (Int32.ofNat n))]))
  have lt_a1 := A.lt
  obtain ⟨v1, T1, L1, X1, hQ1, st1⟩ := own_callS X0 hx hZ (y := (⟨"java/lang/StringUTF16", "newBytesFor", "(I)[B"⟩ : MethodName)) hown (hw _ (List.mem_of_getElem? (i := 99) rfl)) (hw _ (List.mem_of_getElem? (i := 100) rfl)) (hw _ (List.mem_of_getElem? (i := 51) rfl)) (hw _ (List.mem_of_getElem? (i := 101) rfl)) (by decide) (argsL := [(.int (Int32.ofNat n))]) (rm_nbf l Z a0 hw [] cs fm n h0 n0 Z0 ST OO hn) e0 (W := 0) (by decide) (by decide) (by decide) (by decide) (g := (mkF m 1 #[.val (.ref a1), .val (.int (0 : Int32)), .val (.int (Int32.ofNat n)), .unset, .unset] [(.int (Int32.ofNat n))])) rfl (by rw [hml]; rfl) (rest := []) (lenOf pd_8 rfl) rfl (by show 2 * 0 + _ ≤ _; exact Nat.le_of_eq rfl) (hb hby d_jdk_52_method_14_code_1)
  refine Goes.step st1 ?_
  obtain ⟨b1, rfl, N1, sz1, Kc1, A_b1⟩ := hQ1
  have N2 := Fr.app N0 N1
  obtain ⟨h1, e1⟩ : ∃ h', T1.heap = h' := ⟨_, rfl⟩
  rw [e1] at Kc1 A_b1
  have A := A.keep Kc1 nin0
  have OO := OO.keep Kc1 all0
  have K3 := K0.trans Kc1 all0
  have Zp4 := Nat.le_trans Z0 Kc1.1
  have ge_b1 : n0 ≤ b1 := Nat.le_trans Z0 sz1
  have sz_b1 : h0.size ≤ b1 := Nat.le_trans K0.1 sz1
  have ne_a1_b1 : a1 ≠ b1 := Nat.ne_of_lt (Nat.lt_of_lt_of_le lt_a1 sz1)
  show Goes p ee below s _ _ _ (T1.setTop (mkF m 4 #[.val (.ref a1), .val (.int (0 : Int32)), .val (.int (Int32.ofNat n)), .unset, .unset] [(.ref b1)]))
  refine Goes.step (fun _ hr_ => XS.astoreN X1.here hx rfl (hb hby d_jdk_52_method_14_code_4) rfl rfl (l' := #[.val (.ref a1), .val (.int (0 : Int32)), .val (.int (Int32.ofNat n)), .val (.ref b1), .unset]) rfl hr_) ?_
  show Goes p ee below s _ _ _ (T1.setTop (mkF m 5 #[.val (.ref a1), .val (.int (0 : Int32)), .val (.int (Int32.ofNat n)), .val (.ref b1), .unset] []))
  refine Goes.step (fun _ hr_ => XS.iconst X1.here hx rfl (hb hby d_jdk_52_method_14_code_5) hr_) ?_
  show Goes p ee below s _ _ _ (T1.setTop (mkF m 6 #[.val (.ref a1), .val (.int (0 : Int32)), .val (.int (Int32.ofNat n)), .val (.ref b1), .unset] [(.int (0 : Int32))]))
  refine Goes.step (fun _ hr_ => XS.istore X1.here hx rfl (hb hby d_jdk_52_method_14_code_6) rfl  (l' := #[.val (.ref a1), .val (.int (0 : Int32)), .val (.int (Int32.ofNat n)), .val (.ref b1), .val (.int (0 : Int32))]) rfl hr_) ?_
  show Goes p ee below s _ _ _ (T1.setTop (mkF m 8 #[.val (.ref a1), .val (.int (0 : Int32)), .val (.int (Int32.ofNat n)), .val (.ref b1), .val (.int (0 : Int32))] []))
  have loop : ∀ (d i : Nat) (T : State) (locs : List Loc) (hh : Heap), Stand p l ee ({ frames := 2, cells := 1, slots := 12, locals := 24 } : Room) s m #[(.ref a1), (.int (0 : Int32)), (.int (Int32.ofNat n))] below meth cc T locs 1 12 → T.heap = hh → Fr n0 locs → n0 ≤ hh.size → Keep h0 hh [] → Old Z n0 hh → OA Z hh a1 .char n (fun i => .int (Int32.ofNat (c i))) → OA Z hh b1 .byte (2 * n) (fun j => if j < 2 * i then own_by true c j else .int 0) → 0 < d → n < i + d → i ≤ n → Goes p ee below s ({ frames := 2, cells := 1, slots := 12, locals := 24 } : Room).cells ({ frames := 2, cells := 1, slots := 12, locals := 24 } : Room).slots (Q_tob Z cs fm a1 n c h0 n0) (T.setTop (mkF m 8 #[.val (.ref a1), .val (.int (Int32.ofNat i)), .val (.int (Int32.ofNat n)), .val (.ref b1), .val (.int (Int32.ofNat i))] [])) := by
    intro d
    induction d with
    | zero => intro i T locs hh X eT N Zp K OO A A_b1 q1; omega
    | succ d ih =>
      intro i T locs hh X eT N Zp K OO A A_b1 q1 q2 q3
      show Goes p ee below s _ _ _ (T.setTop (mkF m 8 #[.val (.ref a1), .val (.int (Int32.ofNat i)), .val (.int (Int32.ofNat n)), .val (.ref b1), .val (.int (Int32.ofNat i))] []))
      refine Goes.step (fun _ hr_ => XS.iload X.here hx rfl (hb hby d_jdk_52_method_14_code_8) rfl  hr_) ?_
      show Goes p ee below s _ _ _ (T.setTop (mkF m 10 #[.val (.ref a1), .val (.int (Int32.ofNat i)), .val (.int (Int32.ofNat n)), .val (.ref b1), .val (.int (Int32.ofNat i))] [(.int (Int32.ofNat i))]))
      refine Goes.step (fun _ hr_ => XS.iloadN X.here hx rfl (hb hby d_jdk_52_method_14_code_10) rfl  hr_) ?_
      show Goes p ee below s _ _ _ (T.setTop (mkF m 11 #[.val (.ref a1), .val (.int (Int32.ofNat i)), .val (.int (Int32.ofNat n)), .val (.ref b1), .val (.int (Int32.ofNat i))] [(.int (Int32.ofNat n)), (.int (Int32.ofNat i))]))
      by_cases hn11_5 : i < n
      · refine Goes.step (fun _ hr_ => XS.icmpNo X.here hx rfl (hb hby d_jdk_52_method_14_code_11) rfl (tlt ((own_ltN i n (by omega) (by omega)).mpr hn11_5)).2.1 hr_) ?_
        show Goes p ee below s _ _ _ (T.setTop (mkF m 14 #[.val (.ref a1), .val (.int (Int32.ofNat i)), .val (.int (Int32.ofNat n)), .val (.ref b1), .val (.int (Int32.ofNat i))] []))
        refine Goes.step (fun _ hr_ => XS.aloadN X.here hx rfl (hb hby d_jdk_52_method_14_code_14) rfl rfl hr_) ?_
        show Goes p ee below s _ _ _ (T.setTop (mkF m 15 #[.val (.ref a1), .val (.int (Int32.ofNat i)), .val (.int (Int32.ofNat n)), .val (.ref b1), .val (.int (Int32.ofNat i))] [(.ref b1)]))
        refine Goes.step (fun _ hr_ => XS.iload X.here hx rfl (hb hby d_jdk_52_method_14_code_15) rfl  hr_) ?_
        show Goes p ee below s _ _ _ (T.setTop (mkF m 17 #[.val (.ref a1), .val (.int (Int32.ofNat i)), .val (.int (Int32.ofNat n)), .val (.ref b1), .val (.int (Int32.ofNat i))] [(.int (Int32.ofNat i)), (.ref b1)]))
        refine Goes.step (fun _ hr_ => XS.aloadN X.here hx rfl (hb hby d_jdk_52_method_14_code_17) rfl rfl hr_) ?_
        show Goes p ee below s _ _ _ (T.setTop (mkF m 18 #[.val (.ref a1), .val (.int (Int32.ofNat i)), .val (.int (Int32.ofNat n)), .val (.ref b1), .val (.int (Int32.ofNat i))] [(.ref a1), (.int (Int32.ofNat i)), (.ref b1)]))
        refine Goes.step (fun _ hr_ => XS.iloadN X.here hx rfl (hb hby d_jdk_52_method_14_code_18) rfl  hr_) ?_
        show Goes p ee below s _ _ _ (T.setTop (mkF m 19 #[.val (.ref a1), .val (.int (Int32.ofNat i)), .val (.int (Int32.ofNat n)), .val (.ref b1), .val (.int (Int32.ofNat i))] [(.int (Int32.ofNat i)), (.ref a1), (.int (Int32.ofNat i)), (.ref b1)]))
        refine Goes.step (own_caload X hx hZ eT A (j := (Int32.ofNat i)) (own_nneg i (by omega)) (k := i) (own_clamp i (by omega)) hn11_5 (v := (.int (Int32.ofNat (c i)))) rfl (g := (mkF m 19 #[.val (.ref a1), .val (.int (Int32.ofNat i)), .val (.int (Int32.ofNat n)), .val (.ref b1), .val (.int (Int32.ofNat i))] [(.int (Int32.ofNat i)), (.ref a1), (.int (Int32.ofNat i)), (.ref b1)])) rfl rfl (hb hby d_jdk_52_method_14_code_19)) ?_
        show Goes p ee below s _ _ _ (T.setTop (mkF m 20 #[.val (.ref a1), .val (.int (Int32.ofNat i)), .val (.int (Int32.ofNat n)), .val (.ref b1), .val (.int (Int32.ofNat i))] [(.int (Int32.ofNat (c i))), (.int (Int32.ofNat i)), (.ref b1)]))
        have lt_a1 := A.lt
        have lt_b1 := A_b1.lt
        obtain ⟨v6, T6, L6, X6, hQ6, st6⟩ := own_callS X hx hZ (y := (⟨"java/lang/StringUTF16", "putChar", "([BII)V"⟩ : MethodName)) hown (hw _ (List.mem_of_getElem? (i := 106) rfl)) (hw _ (List.mem_of_getElem? (i := 107) rfl)) (hw _ (List.mem_of_getElem? (i := 51) rfl)) (hw _ (List.mem_of_getElem? (i := 108) rfl)) (by decide) (argsL := [(.ref b1), (.int (Int32.ofNat i)), (.int (Int32.ofNat (c i)))]) (rm_putc l Z a0 hw [] cs fm b1 i (c i) n _ hh n0 Zp ST OO hn11_5 (hc i hn11_5) (by omega) ge_b1 A_b1) eT (W := 0) (by decide) (by decide) (by decide) (by decide) (g := (mkF m 20 #[.val (.ref a1), .val (.int (Int32.ofNat i)), .val (.int (Int32.ofNat n)), .val (.ref b1), .val (.int (Int32.ofNat i))] [(.int (Int32.ofNat (c i))), (.int (Int32.ofNat i)), (.ref b1)])) rfl (by rw [hml]; rfl) (rest := []) (lenOf pd_9 rfl) rfl (by show 2 * 0 + _ ≤ _; exact Nat.le_of_eq rfl) (hb hby d_jdk_52_method_14_code_20)
        refine Goes.step st6 ?_
        obtain ⟨rfl, N6, Kc6, A_b1⟩ := hQ6
        have N7 := Fr.app N N6
        obtain ⟨h6, e6⟩ : ∃ h', T6.heap = h' := ⟨_, rfl⟩
        rw [e6] at Kc6 A_b1
        have A := A.keep Kc6 (ninS ne_a1_b1 nin0)
        have OO := OO.keep Kc6 (allS ge_b1 all0)
        have K8 := K.trans Kc6 (allS (Or.inr sz_b1) all0)
        have Zp9 := Nat.le_trans Zp Kc6.1
        show Goes p ee below s _ _ _ (T6.setTop (mkF m 23 #[.val (.ref a1), .val (.int (Int32.ofNat i)), .val (.int (Int32.ofNat n)), .val (.ref b1), .val (.int (Int32.ofNat i))] []))
        refine Goes.step (fun _ hr_ => XS.iinc X6.here hx rfl (hb hby d_jdk_52_method_14_code_23) rfl (l' := #[.val (.ref a1), .val (.int ((Int32.ofNat i) + (1 : Int32))), .val (.int (Int32.ofNat n)), .val (.ref b1), .val (.int (Int32.ofNat i))]) rfl hr_) ?_
        show Goes p ee below s _ _ _ (T6.setTop (mkF m 26 #[.val (.ref a1), .val (.int ((Int32.ofNat i) + (1 : Int32))), .val (.int (Int32.ofNat n)), .val (.ref b1), .val (.int (Int32.ofNat i))] []))
        rw [show Int32.ofNat i + (1 : Int32) = Int32.ofNat (i + 1) from own_addN i 1]
        show Goes p ee below s _ _ _ (T6.setTop (mkF m 26 #[.val (.ref a1), .val (.int (Int32.ofNat (i + 1))), .val (.int (Int32.ofNat n)), .val (.ref b1), .val (.int (Int32.ofNat i))] []))
        refine Goes.step (fun _ hr_ => XS.iinc X6.here hx rfl (hb hby d_jdk_52_method_14_code_26) rfl (l' := #[.val (.ref a1), .val (.int (Int32.ofNat (i + 1))), .val (.int (Int32.ofNat n)), .val (.ref b1), .val (.int ((Int32.ofNat i) + (1 : Int32)))]) rfl hr_) ?_
        show Goes p ee below s _ _ _ (T6.setTop (mkF m 29 #[.val (.ref a1), .val (.int (Int32.ofNat (i + 1))), .val (.int (Int32.ofNat n)), .val (.ref b1), .val (.int ((Int32.ofNat i) + (1 : Int32)))] []))
        rw [show Int32.ofNat i + (1 : Int32) = Int32.ofNat (i + 1) from own_addN i 1]
        show Goes p ee below s _ _ _ (T6.setTop (mkF m 29 #[.val (.ref a1), .val (.int (Int32.ofNat (i + 1))), .val (.int (Int32.ofNat n)), .val (.ref b1), .val (.int (Int32.ofNat (i + 1)))] []))
        refine Goes.step (fun _ hr_ => XS.goto X6.here hx rfl (pc0 := 29) (pc' := 8) rfl (hb hby d_jdk_52_method_14_code_29) (by decide) (by decide) hr_) ?_
        show Goes p ee below s _ _ _ (T6.setTop (mkF m 8 #[.val (.ref a1), .val (.int (Int32.ofNat (i + 1))), .val (.int (Int32.ofNat n)), .val (.ref b1), .val (.int (Int32.ofNat (i + 1)))] []))
        exact ih (i + 1) _ _ _ X6 e6 N7 Zp9 K8 OO A (own_part_next A_b1) (by omega) (by omega) (by omega)
      · refine Goes.step (fun _ hr_ => XS.icmpYes X.here hx rfl (pc0 := 11) (pc' := 32) rfl (hb hby d_jdk_52_method_14_code_11) rfl (flt (fun z => hn11_5 ((own_ltN i n (by omega) (by omega)).mp z))).2.1 (by decide) (by decide) hr_) ?_
        show Goes p ee below s _ _ _ (T.setTop (mkF m 32 #[.val (.ref a1), .val (.int (Int32.ofNat i)), .val (.int (Int32.ofNat n)), .val (.ref b1), .val (.int (Int32.ofNat i))] []))
        refine Goes.step (fun _ hr_ => XS.aloadN X.here hx rfl (hb hby d_jdk_52_method_14_code_32) rfl rfl hr_) ?_
        show Goes p ee below s _ _ _ (T.setTop (mkF m 33 #[.val (.ref a1), .val (.int (Int32.ofNat i)), .val (.int (Int32.ofNat n)), .val (.ref b1), .val (.int (Int32.ofNat i))] [(.ref b1)]))
        refine Goes.retA X hx Bd.notSynchronized Bd.returns rfl rfl (hb hby d_jdk_52_method_14_code_33) (by decide) (by decide) ?_
        rw [eT]
        exact ⟨_, rfl, N, sz_b1, K, A_b1.congr (fun j hj => if_pos (by omega))⟩
  exact loop (n + 1) 0 _ _ _ X1 e1 N2 Zp4 K3 OO A (A_b1.congr (fun j hj => (if_neg (by omega)).symm)) (by omega) (by omega) (by omega)
theorem ef_cmp5 (m : MethodId) (x0 : Addr) (x1 : Int32) (x2 : Addr) (x3 : Int32) (x4 : Int32) : entryFrame m #[(.ref x0), (.int x1), (.ref x2), (.int x3), (.int x4)] 7 = mkF m 0 #[.val (.ref x0), .val (.int x1), .val (.ref x2), .val (.int x3), .val (.int x4), .unset, .unset] [] := by first | (simp [entryFrame, mkF, argsToLocals, Value.category]; done) | rfl
theorem own_os6 {a1 a2 : Addr} {i1 i3 i4 i5 v : Int32} {s6 : Slot} (h : One s6) : storeLocals #[.val (.ref a1), .val (.int i1), .val (.ref a2), .val (.int i3), .val (.int i4), .val (.int i5), s6] 6 (.int v) = some #[.val (.ref a1), .val (.int i1), .val (.ref a2), .val (.int i3), .val (.int i4), .val (.int i5), .val (.int v)] := by
  rcases h with rfl | ⟨w, rfl, hw⟩
  · rfl
  · cases w <;> first | rfl | (simp [Value.category] at hw)
theorem d_jdk_52_method_21_code_0 : decode jdk_52_method_21_code 0 = .ok (.iconst 0, 1) := by decide +kernel
theorem d_jdk_52_method_21_code_1 : decode jdk_52_method_21_code 1 = .ok (.istore 5, 2) := by decide +kernel
theorem d_jdk_52_method_21_code_3 : decode jdk_52_method_21_code 3 = .ok (.iload 5, 2) := by decide +kernel
theorem d_jdk_52_method_21_code_5 : decode jdk_52_method_21_code 5 = .ok (.iload 4, 2) := by decide +kernel
theorem d_jdk_52_method_21_code_7 : decode jdk_52_method_21_code 7 = .ok (.if_icmp .ge 37, 3) := by decide +kernel
theorem d_jdk_52_method_21_code_10 : decode jdk_52_method_21_code 10 = .ok (.aload_n 0, 1) := by decide +kernel
theorem d_jdk_52_method_21_code_11 : decode jdk_52_method_21_code 11 = .ok (.iload_n 1, 1) := by decide +kernel
theorem d_jdk_52_method_21_code_12 : decode jdk_52_method_21_code 12 = .ok (.caload, 1) := by decide +kernel
theorem d_jdk_52_method_21_code_13 : decode jdk_52_method_21_code 13 = .ok (.istore 6, 2) := by decide +kernel
theorem d_jdk_52_method_21_code_15 : decode jdk_52_method_21_code 15 = .ok (.iload 6, 2) := by decide +kernel
theorem d_jdk_52_method_21_code_17 : decode jdk_52_method_21_code 17 = .ok (.sipush 255, 3) := by decide +kernel
theorem d_jdk_52_method_21_code_20 : decode jdk_52_method_21_code 20 = .ok (.if_icmp .le 6, 3) := by decide +kernel
theorem d_jdk_52_method_21_code_23 : decode jdk_52_method_21_code 23 = .ok (.iload 5, 2) := by decide +kernel
theorem d_jdk_52_method_21_code_25 : decode jdk_52_method_21_code 25 = .ok (.ireturn, 1) := by decide +kernel
theorem d_jdk_52_method_21_code_26 : decode jdk_52_method_21_code 26 = .ok (.aload_n 2, 1) := by decide +kernel
theorem d_jdk_52_method_21_code_27 : decode jdk_52_method_21_code 27 = .ok (.iload_n 3, 1) := by decide +kernel
theorem d_jdk_52_method_21_code_28 : decode jdk_52_method_21_code 28 = .ok (.iload 6, 2) := by decide +kernel
theorem d_jdk_52_method_21_code_30 : decode jdk_52_method_21_code 30 = .ok (.i2b, 1) := by decide +kernel
theorem d_jdk_52_method_21_code_31 : decode jdk_52_method_21_code 31 = .ok (.bastore, 1) := by decide +kernel
theorem d_jdk_52_method_21_code_32 : decode jdk_52_method_21_code 32 = .ok (.iinc 1 1, 3) := by decide +kernel
theorem d_jdk_52_method_21_code_35 : decode jdk_52_method_21_code 35 = .ok (.iinc 3 1, 3) := by decide +kernel
theorem d_jdk_52_method_21_code_38 : decode jdk_52_method_21_code 38 = .ok (.iinc 5 1, 3) := by decide +kernel
theorem d_jdk_52_method_21_code_41 : decode jdk_52_method_21_code 41 = .ok (.goto (-38), 3) := by decide +kernel
theorem d_jdk_52_method_21_code_44 : decode jdk_52_method_21_code 44 = .ok (.iload 4, 2) := by decide +kernel
theorem d_jdk_52_method_21_code_46 : decode jdk_52_method_21_code 46 = .ok (.ireturn, 1) := by decide +kernel
def Q_cmp5 (Z : State) (cs : Int32) (fm : Value) (a1 a2 : Addr) (n : Nat) (c : Nat → Nat) (f : Nat → Value) (h0 : Heap) (n0 : Nat) (v : Option Value) (h : Heap) (L : List Loc) : Prop := Fr n0 L ∧ Keep h0 h [a2] ∧ ((v = some (.int (Int32.ofNat n)) ∧ (∀ j, j < n → c j < 256) ∧ OA Z h a2 .byte n (own_by false c)) ∨ ∃ k, k < n ∧ v = some (.int (Int32.ofNat k)) ∧ 255 < c k)
set_option maxRecDepth 65536 in
set_option maxHeartbeats 40000000 in
theorem rm_cmp5 (l : Launch) (Z : State) (a0 : Array Value) (hw : ∀ d ∈ tables_1, d.before a0 Z = true) (ws : List Jvm.Cond) (cs : Int32) (fm : Value) (a1 a2 : Addr) (n : Nat) (c : Nat → Nat) (f : Nat → Value) (h0 : Heap) (n0 : Nat) (Z0 : n0 ≤ h0.size) (ST : own_ST Z cs fm) (OO : Old Z n0 h0) (hn : n ≤ 6) (hc : ∀ j, j < n → c j < 65536) (ne12 : a1 ≠ a2) (ge_a2 : n0 ≤ a2) (A : OA Z h0 a1 .char n (fun i => .int (Int32.ofNat (c i)))) (B : OA Z h0 a2 .byte n f) :
    MetFree l (⟨"java/lang/StringUTF16", "compress", "([CI[BII)I"⟩ : MethodName) (head1 (Jvm.Cond.code (⟨"java/lang/StringUTF16", "compress", "([CI[BII)I"⟩ : MethodName) jdk_52_method_21_code 7 (some .int) :: ws) ({ frames := 0, cells := 0, slots := 0, locals := 0 } : Room)) (fun a U => a = #[(.ref a1), (.int (0 : Int32)), (.ref a2), (.int (0 : Int32)), (.int (Int32.ofNat n))] ∧ Z.Warmed39 U.vm ∧ U.heap = h0) (fun _ _ _ _ _ => True) (fun _ U o U' => ∃ v L, o = .returned v ∧ Q_cmp5 Z cs fm a1 a2 n c f h0 n0 v U'.heap L ∧ FrameEnd U o U' L ({ frames := 0, cells := 0, slots := 0, locals := 0 } : Room).cells ({ frames := 0, cells := 0, slots := 0, locals := 0 } : Room).slots) := by
  refine MetFree.of_bodySF (plainFor_of_name pn_java_lang_StringUTF16) hisR ?_
  intro p ee s m args below meth cc s₁ Bd hml0 hP hK
  obtain ⟨rfl, hZ, hh⟩ := hP
  have hx := Bd.exec
  have hby := Bd.bytes
  have hml : cc.maxLocals = 7 := hml0
  have hown : s.vm.findClass "java/lang/StringUTF16" = some m.cls := findClass_of_methodNamed Bd.named
  have hnm := (name_of_methodNamed Bd.named Bd.method).1
  have X0 : Stand p l ee ({ frames := 0, cells := 0, slots := 0, locals := 0 } : Room) s m #[(.ref a1), (.int (0 : Int32)), (.ref a2), (.int (0 : Int32)), (.int (Int32.ofNat n))] below meth cc s₁ [] 0 0 := Stand.of_body Bd
  have e0 : s₁.heap = h0 := by rw [← hh, Bd.state]; rfl
  have N0 := Fr.nil n0
  show Goes p ee below s ({ frames := 0, cells := 0, slots := 0, locals := 0 } : Room).cells ({ frames := 0, cells := 0, slots := 0, locals := 0 } : Room).slots (Q_cmp5 Z cs fm a1 a2 n c f h0 n0) (s₁.setTop (entryFrame m #[(.ref a1), (.int (0 : Int32)), (.ref a2), (.int (0 : Int32)), (.int (Int32.ofNat n))] 7))
  refine Goes.step (fun _ hr_ => castTop (ef_cmp5 m a1 (0 : Int32) a2 (0 : Int32) (Int32.ofNat n)) hr_) ?_
  show Goes p ee below s _ _ _ (s₁.setTop (mkF m 0 #[.val (.ref a1), .val (.int (0 : Int32)), .val (.ref a2), .val (.int (0 : Int32)), .val (.int (Int32.ofNat n)), .unset, .unset] []))
  have K0 := Keep.refl h0 ([a2] : List Addr)
  refine Goes.step (fun _ hr_ => XS.iconst X0.here hx rfl (hb hby d_jdk_52_method_21_code_0) hr_) ?_
  show Goes p ee below s _ _ _ (s₁.setTop (mkF m 1 #[.val (.ref a1), .val (.int (0 : Int32)), .val (.ref a2), .val (.int (0 : Int32)), .val (.int (Int32.ofNat n)), .unset, .unset] [(.int (0 : Int32))]))
  refine Goes.step (fun _ hr_ => XS.istore X0.here hx rfl (hb hby d_jdk_52_method_21_code_1) rfl  (l' := #[.val (.ref a1), .val (.int (0 : Int32)), .val (.ref a2), .val (.int (0 : Int32)), .val (.int (Int32.ofNat n)), .val (.int (0 : Int32)), .unset]) rfl hr_) ?_
  show Goes p ee below s _ _ _ (s₁.setTop (mkF m 3 #[.val (.ref a1), .val (.int (0 : Int32)), .val (.ref a2), .val (.int (0 : Int32)), .val (.int (Int32.ofNat n)), .val (.int (0 : Int32)), .unset] []))
  have loop : ∀ (d i : Nat) (s6 : Slot) (T : State) (locs : List Loc) (hh : Heap), One s6 → Stand p l ee ({ frames := 0, cells := 0, slots := 0, locals := 0 } : Room) s m #[(.ref a1), (.int (0 : Int32)), (.ref a2), (.int (0 : Int32)), (.int (Int32.ofNat n))] below meth cc T locs 0 0 → T.heap = hh → Fr n0 locs → n0 ≤ hh.size → Keep h0 hh [a2] → Old Z n0 hh → OA Z hh a1 .char n (fun i => .int (Int32.ofNat (c i))) → OA Z hh a2 .byte n (fun j => if j < i then own_by false c j else f j) → (∀ j, j < i → c j < 256) → 0 < d → n < i + d → i ≤ n → Goes p ee below s ({ frames := 0, cells := 0, slots := 0, locals := 0 } : Room).cells ({ frames := 0, cells := 0, slots := 0, locals := 0 } : Room).slots (Q_cmp5 Z cs fm a1 a2 n c f h0 n0) (T.setTop (mkF m 3 #[.val (.ref a1), .val (.int (Int32.ofNat i)), .val (.ref a2), .val (.int (Int32.ofNat i)), .val (.int (Int32.ofNat n)), .val (.int (Int32.ofNat i)), s6] [])) := by
    intro d
    induction d with
    | zero => intro i s6 T locs hh o6 X eT N Zp K OO A B hall q1; omega
    | succ d ih =>
      intro i s6 T locs hh o6 X eT N Zp K OO A B hall q1 q2 q3
      show Goes p ee below s _ _ _ (T.setTop (mkF m 3 #[.val (.ref a1), .val (.int (Int32.ofNat i)), .val (.ref a2), .val (.int (Int32.ofNat i)), .val (.int (Int32.ofNat n)), .val (.int (Int32.ofNat i)), s6] []))
      refine Goes.step (fun _ hr_ => XS.iload X.here hx rfl (hb hby d_jdk_52_method_21_code_3) rfl  hr_) ?_
      show Goes p ee below s _ _ _ (T.setTop (mkF m 5 #[.val (.ref a1), .val (.int (Int32.ofNat i)), .val (.ref a2), .val (.int (Int32.ofNat i)), .val (.int (Int32.ofNat n)), .val (.int (Int32.ofNat i)), s6] [(.int (Int32.ofNat i))]))
      refine Goes.step (fun _ hr_ => XS.iload X.here hx rfl (hb hby d_jdk_52_method_21_code_5) rfl  hr_) ?_
      show Goes p ee below s _ _ _ (T.setTop (mkF m 7 #[.val (.ref a1), .val (.int (Int32.ofNat i)), .val (.ref a2), .val (.int (Int32.ofNat i)), .val (.int (Int32.ofNat n)), .val (.int (Int32.ofNat i)), s6] [(.int (Int32.ofNat n)), (.int (Int32.ofNat i))]))
      by_cases hn7_1 : i < n
      · refine Goes.step (fun _ hr_ => XS.icmpNo X.here hx rfl (hb hby d_jdk_52_method_21_code_7) rfl (tlt ((own_ltN i n (by omega) (by omega)).mpr hn7_1)).2.1 hr_) ?_
        show Goes p ee below s _ _ _ (T.setTop (mkF m 10 #[.val (.ref a1), .val (.int (Int32.ofNat i)), .val (.ref a2), .val (.int (Int32.ofNat i)), .val (.int (Int32.ofNat n)), .val (.int (Int32.ofNat i)), s6] []))
        refine Goes.step (fun _ hr_ => XS.aloadN X.here hx rfl (hb hby d_jdk_52_method_21_code_10) rfl rfl hr_) ?_
        show Goes p ee below s _ _ _ (T.setTop (mkF m 11 #[.val (.ref a1), .val (.int (Int32.ofNat i)), .val (.ref a2), .val (.int (Int32.ofNat i)), .val (.int (Int32.ofNat n)), .val (.int (Int32.ofNat i)), s6] [(.ref a1)]))
        refine Goes.step (fun _ hr_ => XS.iloadN X.here hx rfl (hb hby d_jdk_52_method_21_code_11) rfl  hr_) ?_
        show Goes p ee below s _ _ _ (T.setTop (mkF m 12 #[.val (.ref a1), .val (.int (Int32.ofNat i)), .val (.ref a2), .val (.int (Int32.ofNat i)), .val (.int (Int32.ofNat n)), .val (.int (Int32.ofNat i)), s6] [(.int (Int32.ofNat i)), (.ref a1)]))
        refine Goes.step (own_caload X hx hZ eT A (j := (Int32.ofNat i)) (own_nneg i (by omega)) (k := i) (own_clamp i (by omega)) hn7_1 (v := (.int (Int32.ofNat (c i)))) rfl (g := (mkF m 12 #[.val (.ref a1), .val (.int (Int32.ofNat i)), .val (.ref a2), .val (.int (Int32.ofNat i)), .val (.int (Int32.ofNat n)), .val (.int (Int32.ofNat i)), s6] [(.int (Int32.ofNat i)), (.ref a1)])) rfl rfl (hb hby d_jdk_52_method_21_code_12)) ?_
        show Goes p ee below s _ _ _ (T.setTop (mkF m 13 #[.val (.ref a1), .val (.int (Int32.ofNat i)), .val (.ref a2), .val (.int (Int32.ofNat i)), .val (.int (Int32.ofNat n)), .val (.int (Int32.ofNat i)), s6] [(.int (Int32.ofNat (c i)))]))
        refine Goes.step (fun _ hr_ => XS.istore X.here hx rfl (hb hby d_jdk_52_method_21_code_13) rfl  (l' := #[.val (.ref a1), .val (.int (Int32.ofNat i)), .val (.ref a2), .val (.int (Int32.ofNat i)), .val (.int (Int32.ofNat n)), .val (.int (Int32.ofNat i)), .val (.int (Int32.ofNat (c i)))]) (own_os6 o6) hr_) ?_
        show Goes p ee below s _ _ _ (T.setTop (mkF m 15 #[.val (.ref a1), .val (.int (Int32.ofNat i)), .val (.ref a2), .val (.int (Int32.ofNat i)), .val (.int (Int32.ofNat n)), .val (.int (Int32.ofNat i)), .val (.int (Int32.ofNat (c i)))] []))
        refine Goes.step (fun _ hr_ => XS.iload X.here hx rfl (hb hby d_jdk_52_method_21_code_15) rfl  hr_) ?_
        show Goes p ee below s _ _ _ (T.setTop (mkF m 17 #[.val (.ref a1), .val (.int (Int32.ofNat i)), .val (.ref a2), .val (.int (Int32.ofNat i)), .val (.int (Int32.ofNat n)), .val (.int (Int32.ofNat i)), .val (.int (Int32.ofNat (c i)))] [(.int (Int32.ofNat (c i)))]))
        refine Goes.step (fun _ hr_ => XS.sipush X.here hx rfl (hb hby d_jdk_52_method_21_code_17) hr_) ?_
        show Goes p ee below s _ _ _ (T.setTop (mkF m 20 #[.val (.ref a1), .val (.int (Int32.ofNat i)), .val (.ref a2), .val (.int (Int32.ofNat i)), .val (.int (Int32.ofNat n)), .val (.int (Int32.ofNat i)), .val (.int (Int32.ofNat (c i)))] [(.int (255 : Int32)), (.int (Int32.ofNat (c i)))]))
        by_cases hn20_2 : 255 < c i
        · refine Goes.step (fun _ hr_ => XS.icmpNo X.here hx rfl (hb hby d_jdk_52_method_21_code_20) rfl (tlt ((own_ltN 255 (c i) (by decide) (Nat.lt_trans (hc i hn7_1) (by decide))).mpr hn20_2)).2.2.2 hr_) ?_
          show Goes p ee below s _ _ _ (T.setTop (mkF m 23 #[.val (.ref a1), .val (.int (Int32.ofNat i)), .val (.ref a2), .val (.int (Int32.ofNat i)), .val (.int (Int32.ofNat n)), .val (.int (Int32.ofNat i)), .val (.int (Int32.ofNat (c i)))] []))
          refine Goes.step (fun _ hr_ => XS.iload X.here hx rfl (hb hby d_jdk_52_method_21_code_23) rfl  hr_) ?_
          show Goes p ee below s _ _ _ (T.setTop (mkF m 25 #[.val (.ref a1), .val (.int (Int32.ofNat i)), .val (.ref a2), .val (.int (Int32.ofNat i)), .val (.int (Int32.ofNat n)), .val (.int (Int32.ofNat i)), .val (.int (Int32.ofNat (c i)))] [(.int (Int32.ofNat i))]))
          refine Goes.retI X hx Bd.notSynchronized Bd.returns (hb hby d_jdk_52_method_21_code_25) (by decide) (by decide) ?_
          rw [eT]
          exact ⟨N, K, Or.inr ⟨i, hn7_1, rfl, hn20_2⟩⟩
        · refine Goes.step (fun _ hr_ => XS.icmpYes X.here hx rfl (pc0 := 20) (pc' := 26) rfl (hb hby d_jdk_52_method_21_code_20) rfl (flt (fun z => hn20_2 ((own_ltN 255 (c i) (by decide) (Nat.lt_trans (hc i hn7_1) (by decide))).mp z))).2.2.2 (by decide) (by decide) hr_) ?_
          show Goes p ee below s _ _ _ (T.setTop (mkF m 26 #[.val (.ref a1), .val (.int (Int32.ofNat i)), .val (.ref a2), .val (.int (Int32.ofNat i)), .val (.int (Int32.ofNat n)), .val (.int (Int32.ofNat i)), .val (.int (Int32.ofNat (c i)))] []))
          refine Goes.step (fun _ hr_ => XS.aloadN X.here hx rfl (hb hby d_jdk_52_method_21_code_26) rfl rfl hr_) ?_
          show Goes p ee below s _ _ _ (T.setTop (mkF m 27 #[.val (.ref a1), .val (.int (Int32.ofNat i)), .val (.ref a2), .val (.int (Int32.ofNat i)), .val (.int (Int32.ofNat n)), .val (.int (Int32.ofNat i)), .val (.int (Int32.ofNat (c i)))] [(.ref a2)]))
          refine Goes.step (fun _ hr_ => XS.iloadN X.here hx rfl (hb hby d_jdk_52_method_21_code_27) rfl  hr_) ?_
          show Goes p ee below s _ _ _ (T.setTop (mkF m 28 #[.val (.ref a1), .val (.int (Int32.ofNat i)), .val (.ref a2), .val (.int (Int32.ofNat i)), .val (.int (Int32.ofNat n)), .val (.int (Int32.ofNat i)), .val (.int (Int32.ofNat (c i)))] [(.int (Int32.ofNat i)), (.ref a2)]))
          refine Goes.step (fun _ hr_ => XS.iload X.here hx rfl (hb hby d_jdk_52_method_21_code_28) rfl  hr_) ?_
          show Goes p ee below s _ _ _ (T.setTop (mkF m 30 #[.val (.ref a1), .val (.int (Int32.ofNat i)), .val (.ref a2), .val (.int (Int32.ofNat i)), .val (.int (Int32.ofNat n)), .val (.int (Int32.ofNat i)), .val (.int (Int32.ofNat (c i)))] [(.int (Int32.ofNat (c i))), (.int (Int32.ofNat i)), (.ref a2)]))
          refine Goes.step (fun _ hr_ => XT.i2b X.here hx rfl (hb hby d_jdk_52_method_21_code_30) rfl hr_) ?_
          show Goes p ee below s _ _ _ (T.setTop (mkF m 31 #[.val (.ref a1), .val (.int (Int32.ofNat i)), .val (.ref a2), .val (.int (Int32.ofNat i)), .val (.int (Int32.ofNat n)), .val (.int (Int32.ofNat i)), .val (.int (Int32.ofNat (c i)))] [(.int (Int32.ofNat (c i)).toInt8.toInt32), (.int (Int32.ofNat i)), (.ref a2)]))
          obtain ⟨T3, h3, X3, e3, W3, A3, st3⟩ := own_stB X hx hZ eT B (x := (Int32.ofNat (c i)).toInt8.toInt32) (j := (Int32.ofNat i)) (own_nneg i (by omega)) (k := i) (own_clamp i (by omega)) hn7_1 (g := (mkF m 31 #[.val (.ref a1), .val (.int (Int32.ofNat i)), .val (.ref a2), .val (.int (Int32.ofNat i)), .val (.int (Int32.ofNat n)), .val (.int (Int32.ofNat i)), .val (.int (Int32.ofNat (c i)))] [(.int (Int32.ofNat (c i)).toInt8.toInt32), (.int (Int32.ofNat i)), (.ref a2)])) rfl rfl (hb hby d_jdk_52_method_21_code_31)
          refine Goes.step st3 ?_
          have A := A.other W3 ne12
          have Zp4 := Nat.le_trans Zp (Keep.of_wr W3).1
          have N5 := Fr.snoc X3 N ge_a2
          have OO := OO.wr W3 ge_a2
          have K6 := K.wr W3 (Or.inl (List.mem_of_getElem? (i := 0) rfl))
          have B : OA Z h3 a2 .byte n (fun j => if j = i then .int (own_bt (c i)) else if j < i then own_by false c j else f j) := A3.congr (fun j hj => by rw [own_bt_nar]; rfl)
          show Goes p ee below s _ _ _ (T3.setTop (mkF m 32 #[.val (.ref a1), .val (.int (Int32.ofNat i)), .val (.ref a2), .val (.int (Int32.ofNat i)), .val (.int (Int32.ofNat n)), .val (.int (Int32.ofNat i)), .val (.int (Int32.ofNat (c i)))] []))
          refine Goes.step (fun _ hr_ => XS.iinc X3.here hx rfl (hb hby d_jdk_52_method_21_code_32) rfl (l' := #[.val (.ref a1), .val (.int ((Int32.ofNat i) + (1 : Int32))), .val (.ref a2), .val (.int (Int32.ofNat i)), .val (.int (Int32.ofNat n)), .val (.int (Int32.ofNat i)), .val (.int (Int32.ofNat (c i)))]) rfl hr_) ?_
          show Goes p ee below s _ _ _ (T3.setTop (mkF m 35 #[.val (.ref a1), .val (.int ((Int32.ofNat i) + (1 : Int32))), .val (.ref a2), .val (.int (Int32.ofNat i)), .val (.int (Int32.ofNat n)), .val (.int (Int32.ofNat i)), .val (.int (Int32.ofNat (c i)))] []))
          refine Goes.step (fun _ hr_ => XS.iinc X3.here hx rfl (hb hby d_jdk_52_method_21_code_35) rfl (l' := #[.val (.ref a1), .val (.int ((Int32.ofNat i) + (1 : Int32))), .val (.ref a2), .val (.int ((Int32.ofNat i) + (1 : Int32))), .val (.int (Int32.ofNat n)), .val (.int (Int32.ofNat i)), .val (.int (Int32.ofNat (c i)))]) rfl hr_) ?_
          show Goes p ee below s _ _ _ (T3.setTop (mkF m 38 #[.val (.ref a1), .val (.int ((Int32.ofNat i) + (1 : Int32))), .val (.ref a2), .val (.int ((Int32.ofNat i) + (1 : Int32))), .val (.int (Int32.ofNat n)), .val (.int (Int32.ofNat i)), .val (.int (Int32.ofNat (c i)))] []))
          refine Goes.step (fun _ hr_ => XS.iinc X3.here hx rfl (hb hby d_jdk_52_method_21_code_38) rfl (l' := #[.val (.ref a1), .val (.int ((Int32.ofNat i) + (1 : Int32))), .val (.ref a2), .val (.int ((Int32.ofNat i) + (1 : Int32))), .val (.int (Int32.ofNat n)), .val (.int ((Int32.ofNat i) + (1 : Int32))), .val (.int (Int32.ofNat (c i)))]) rfl hr_) ?_
          show Goes p ee below s _ _ _ (T3.setTop (mkF m 41 #[.val (.ref a1), .val (.int ((Int32.ofNat i) + (1 : Int32))), .val (.ref a2), .val (.int ((Int32.ofNat i) + (1 : Int32))), .val (.int (Int32.ofNat n)), .val (.int ((Int32.ofNat i) + (1 : Int32))), .val (.int (Int32.ofNat (c i)))] []))
          rw [show Int32.ofNat i + (1 : Int32) = Int32.ofNat (i + 1) from own_addN i 1]
          show Goes p ee below s _ _ _ (T3.setTop (mkF m 41 #[.val (.ref a1), .val (.int (Int32.ofNat (i + 1))), .val (.ref a2), .val (.int (Int32.ofNat (i + 1))), .val (.int (Int32.ofNat n)), .val (.int (Int32.ofNat (i + 1))), .val (.int (Int32.ofNat (c i)))] []))
          refine Goes.step (fun _ hr_ => XS.goto X3.here hx rfl (pc0 := 41) (pc' := 3) rfl (hb hby d_jdk_52_method_21_code_41) (by decide) (by decide) hr_) ?_
          show Goes p ee below s _ _ _ (T3.setTop (mkF m 3 #[.val (.ref a1), .val (.int (Int32.ofNat (i + 1))), .val (.ref a2), .val (.int (Int32.ofNat (i + 1))), .val (.int (Int32.ofNat n)), .val (.int (Int32.ofNat (i + 1))), .val (.int (Int32.ofNat (c i)))] []))
          exact ih (i + 1) _ _ _ _ (One.val rfl) X3 e3 N5 Zp4 K6 OO A (own_lat_next B) (fun j hj => by
            by_cases q : j = i
            · rw [q]; omega
            · exact hall j (by omega)) (by omega) (by omega) (by omega)
      · refine Goes.step (fun _ hr_ => XS.icmpYes X.here hx rfl (pc0 := 7) (pc' := 44) rfl (hb hby d_jdk_52_method_21_code_7) rfl (flt (fun z => hn7_1 ((own_ltN i n (by omega) (by omega)).mp z))).2.1 (by decide) (by decide) hr_) ?_
        show Goes p ee below s _ _ _ (T.setTop (mkF m 44 #[.val (.ref a1), .val (.int (Int32.ofNat i)), .val (.ref a2), .val (.int (Int32.ofNat i)), .val (.int (Int32.ofNat n)), .val (.int (Int32.ofNat i)), s6] []))
        refine Goes.step (fun _ hr_ => XS.iload X.here hx rfl (hb hby d_jdk_52_method_21_code_44) rfl  hr_) ?_
        show Goes p ee below s _ _ _ (T.setTop (mkF m 46 #[.val (.ref a1), .val (.int (Int32.ofNat i)), .val (.ref a2), .val (.int (Int32.ofNat i)), .val (.int (Int32.ofNat n)), .val (.int (Int32.ofNat i)), s6] [(.int (Int32.ofNat n))]))
        refine Goes.retI X hx Bd.notSynchronized Bd.returns (hb hby d_jdk_52_method_21_code_46) (by decide) (by decide) ?_
        rw [eT]
        exact ⟨N, K, Or.inl ⟨rfl, fun j hj => hall j (by omega), B.congr (fun j hj => if_pos (by omega))⟩⟩
  exact loop (n + 1) 0 _ _ _ _ One.u X0 e0 N0 Z0 K0 OO A (B.congr (fun j hj => (if_neg (by omega)).symm)) (fun j hj => by omega) (by omega) (by omega) (by omega)
theorem ef_cmp3 (m : MethodId) (x0 : Addr) (x1 : Int32) (x2 : Int32) : entryFrame m #[(.ref x0), (.int x1), (.int x2)] 6 = mkF m 0 #[.val (.ref x0), .val (.int x1), .val (.int x2), .unset, .unset, .unset] [] := by first | (simp [entryFrame, mkF, argsToLocals, Value.category]; done) | rfl
theorem d_jdk_52_method_16_code_0 : decode jdk_52_method_16_code 0 = .ok (.iload_n 2, 1) := by decide +kernel
theorem d_jdk_52_method_16_code_1 : decode jdk_52_method_16_code 1 = .ok (.newarray .byte, 2) := by decide +kernel
theorem d_jdk_52_method_16_code_3 : decode jdk_52_method_16_code 3 = .ok (.astore_n 3, 1) := by decide +kernel
theorem d_jdk_52_method_16_code_4 : decode jdk_52_method_16_code 4 = .ok (.aload_n 0, 1) := by decide +kernel
theorem d_jdk_52_method_16_code_5 : decode jdk_52_method_16_code 5 = .ok (.iload_n 1, 1) := by decide +kernel
theorem d_jdk_52_method_16_code_6 : decode jdk_52_method_16_code 6 = .ok (.aload_n 3, 1) := by decide +kernel
theorem d_jdk_52_method_16_code_7 : decode jdk_52_method_16_code 7 = .ok (.iconst 0, 1) := by decide +kernel
theorem d_jdk_52_method_16_code_8 : decode jdk_52_method_16_code 8 = .ok (.iload_n 2, 1) := by decide +kernel
theorem pd_10 : parseMethodDescriptor "([CI[BII)I" = some ⟨[(.array .char), .int, (.array .byte), .int, .int], some .int⟩ := by decide +kernel
theorem d_jdk_52_method_16_code_9 : decode jdk_52_method_16_code 9 = .ok (.invokestatic 115, 3) := by decide +kernel
theorem d_jdk_52_method_16_code_12 : decode jdk_52_method_16_code 12 = .ok (.istore 4, 2) := by decide +kernel
theorem d_jdk_52_method_16_code_14 : decode jdk_52_method_16_code 14 = .ok (.iload 4, 2) := by decide +kernel
theorem d_jdk_52_method_16_code_16 : decode jdk_52_method_16_code 16 = .ok (.iload_n 2, 1) := by decide +kernel
theorem d_jdk_52_method_16_code_17 : decode jdk_52_method_16_code 17 = .ok (.if_icmp .eq 40, 3) := by decide +kernel
theorem d_jdk_52_method_16_code_57 : decode jdk_52_method_16_code 57 = .ok (.aload_n 3, 1) := by decide +kernel
theorem d_jdk_52_method_16_code_58 : decode jdk_52_method_16_code 58 = .ok (.areturn, 1) := by decide +kernel
theorem d_jdk_52_method_16_code_20 : decode jdk_52_method_16_code 20 = .ok (.aload_n 0, 1) := by decide +kernel
theorem d_jdk_52_method_16_code_21 : decode jdk_52_method_16_code 21 = .ok (.iload_n 1, 1) := by decide +kernel
theorem d_jdk_52_method_16_code_22 : decode jdk_52_method_16_code 22 = .ok (.iload_n 2, 1) := by decide +kernel
theorem pd_11 : parseMethodDescriptor "([CII)[B" = some ⟨[(.array .char), .int, .int], some (.array .byte)⟩ := by decide +kernel
theorem d_jdk_52_method_16_code_23 : decode jdk_52_method_16_code 23 = .ok (.invokestatic 119, 3) := by decide +kernel
theorem d_jdk_52_method_16_code_26 : decode jdk_52_method_16_code 26 = .ok (.astore 5, 2) := by decide +kernel
theorem d_jdk_52_method_16_code_28 : decode jdk_52_method_16_code 28 = .ok (.aload 5, 2) := by decide +kernel
theorem d_jdk_52_method_16_code_30 : decode jdk_52_method_16_code 30 = .ok (.iload 4, 2) := by decide +kernel
theorem d_jdk_52_method_16_code_32 : decode jdk_52_method_16_code 32 = .ok (.invokestatic 71, 3) := by decide +kernel
theorem d_jdk_52_method_16_code_35 : decode jdk_52_method_16_code 35 = .ok (.sipush 255, 3) := by decide +kernel
theorem d_jdk_52_method_16_code_38 : decode jdk_52_method_16_code 38 = .ok (.if_icmp .gt 16, 3) := by decide +kernel
theorem d_jdk_52_method_16_code_54 : decode jdk_52_method_16_code 54 = .ok (.aload 5, 2) := by decide +kernel
theorem d_jdk_52_method_16_code_56 : decode jdk_52_method_16_code 56 = .ok (.areturn, 1) := by decide +kernel
def Q_cmp3 (Z : State) (cs : Int32) (fm : Value) (a1 : Addr) (n : Nat) (c : Nat → Nat) (h0 : Heap) (n0 : Nat) (v : Option Value) (h : Heap) (L : List Loc) : Prop := ∃ (b : Addr) (u : Bool), v = some (.ref b) ∧ Fr n0 L ∧ h0.size ≤ b ∧ Keep h0 h [] ∧ OA Z h b .byte (own_len u n) (own_by u c) ∧ (u = false → ∀ j, j < n → c j < 256) ∧ (u = true → ∃ j, j < n ∧ 255 < c j)
set_option maxRecDepth 65536 in
set_option maxHeartbeats 40000000 in
theorem rm_cmp3 (l : Launch) (Z : State) (a0 : Array Value) (hw : ∀ d ∈ tables_1, d.before a0 Z = true) (ws : List Jvm.Cond) (cs : Int32) (fm : Value) (a1 : Addr) (n : Nat) (c : Nat → Nat) (h0 : Heap) (n0 : Nat) (Z0 : n0 ≤ h0.size) (ST : own_ST Z cs fm) (OO : Old Z n0 h0) (hn0 : 0 < n) (hn : n ≤ 6) (hc : ∀ j, j < n → c j < 65536) (A : OA Z h0 a1 .char n (fun i => .int (Int32.ofNat (c i)))) :
    MetFree l (⟨"java/lang/StringUTF16", "compress", "([CII)[B"⟩ : MethodName) (head1 (Jvm.Cond.code (⟨"java/lang/StringUTF16", "compress", "([CII)[B"⟩ : MethodName) jdk_52_method_16_code 6 (some (.array .byte)) :: ws) ({ frames := 3, cells := 2, slots := 18, locals := 40 } : Room)) (fun a U => a = #[(.ref a1), (.int (0 : Int32)), (.int (Int32.ofNat n))] ∧ Z.Warmed39 U.vm ∧ U.heap = h0) (fun _ _ _ _ _ => True) (fun _ U o U' => ∃ v L, o = .returned v ∧ Q_cmp3 Z cs fm a1 n c h0 n0 v U'.heap L ∧ FrameEnd U o U' L ({ frames := 3, cells := 2, slots := 18, locals := 40 } : Room).cells ({ frames := 3, cells := 2, slots := 18, locals := 40 } : Room).slots) := by
  refine MetFree.of_bodySF (plainFor_of_name pn_java_lang_StringUTF16) hisR ?_
  intro p ee s m args below meth cc s₁ Bd hml0 hP hK
  obtain ⟨rfl, hZ, hh⟩ := hP
  have hx := Bd.exec
  have hby := Bd.bytes
  have hml : cc.maxLocals = 6 := hml0
  have hown : s.vm.findClass "java/lang/StringUTF16" = some m.cls := findClass_of_methodNamed Bd.named
  have hnm := (name_of_methodNamed Bd.named Bd.method).1
  have X0 : Stand p l ee ({ frames := 3, cells := 2, slots := 18, locals := 40 } : Room) s m #[(.ref a1), (.int (0 : Int32)), (.int (Int32.ofNat n))] below meth cc s₁ [] 0 0 := Stand.of_body Bd
  have e0 : s₁.heap = h0 := by rw [← hh, Bd.state]; rfl
  have N0 := Fr.nil n0
  show Goes p ee below s ({ frames := 3, cells := 2, slots := 18, locals := 40 } : Room).cells ({ frames := 3, cells := 2, slots := 18, locals := 40 } : Room).slots (Q_cmp3 Z cs fm a1 n c h0 n0) (s₁.setTop (entryFrame m #[(.ref a1), (.int (0 : Int32)), (.int (Int32.ofNat n))] 6))
  refine Goes.step (fun _ hr_ => castTop (ef_cmp3 m a1 (0 : Int32) (Int32.ofNat n)) hr_) ?_
  show Goes p ee below s _ _ _ (s₁.setTop (mkF m 0 #[.val (.ref a1), .val (.int (0 : Int32)), .val (.int (Int32.ofNat n)), .unset, .unset, .unset] []))
  have K0 := Keep.refl h0 ([] : List Addr)
  refine Goes.step (fun _ hr_ => XS.iloadN X0.here hx rfl (hb hby d_jdk_52_method_16_code_0) rfl  hr_) ?_
  show Goes p ee below s _ _ _ (s₁.setTop (mkF m 1 #[.val (.ref a1), .val (.int (0 : Int32)), .val (.int (Int32.ofNat n)), .unset, .unset, .unset] [(.int (Int32.ofNat n))]))
  obtain ⟨T1, h1, X1, e1, E1, A1, st1⟩ := own_newP X0 hx hZ (aty := .byte) (hw _ (List.mem_of_getElem? (i := 23) rfl)) e0 (z := (Int32.ofNat n)) (own_nneg n (by omega)) (n := n) (own_clamp n (by omega)) (cap := 6) hn (by decide) (by decide) (by decide) (g := (mkF m 1 #[.val (.ref a1), .val (.int (0 : Int32)), .val (.int (Int32.ofNat n)), .unset, .unset, .unset] [(.int (Int32.ofNat n))])) rfl rfl (hb hby d_jdk_52_method_16_code_1)
  obtain ⟨b1, g_b1⟩ : ∃ z, z = h0.size := ⟨_, rfl⟩
  have ne_a1_b1 : a1 ≠ b1 := Nat.ne_of_lt (Nat.lt_of_lt_of_le A.lt (Nat.le_of_eq g_b1.symm))
  have ge_b1 : n0 ≤ b1 := Nat.le_trans Z0 (Nat.le_of_eq g_b1.symm)
  have sz_b1 : h0.size ≤ b1 := Nat.le_trans K0.1 (Nat.le_of_eq g_b1.symm)
  rw [← g_b1] at A1 st1
  have A := A.ext E1
  have Zp2 := Nat.le_trans Z0 E1.1
  have OO := OO.ext E1
  have K3 := K0.ext E1
  refine Goes.step st1 ?_
  have A_b1 : OA Z h1 b1 .byte n (fun _ => (.int 0)) := A1
  show Goes p ee below s _ _ _ (T1.setTop (mkF m 3 #[.val (.ref a1), .val (.int (0 : Int32)), .val (.int (Int32.ofNat n)), .unset, .unset, .unset] [(.ref b1)]))
  refine Goes.step (fun _ hr_ => XS.astoreN X1.here hx rfl (hb hby d_jdk_52_method_16_code_3) rfl rfl (l' := #[.val (.ref a1), .val (.int (0 : Int32)), .val (.int (Int32.ofNat n)), .val (.ref b1), .unset, .unset]) rfl hr_) ?_
  show Goes p ee below s _ _ _ (T1.setTop (mkF m 4 #[.val (.ref a1), .val (.int (0 : Int32)), .val (.int (Int32.ofNat n)), .val (.ref b1), .unset, .unset] []))
  refine Goes.step (fun _ hr_ => XS.aloadN X1.here hx rfl (hb hby d_jdk_52_method_16_code_4) rfl rfl hr_) ?_
  show Goes p ee below s _ _ _ (T1.setTop (mkF m 5 #[.val (.ref a1), .val (.int (0 : Int32)), .val (.int (Int32.ofNat n)), .val (.ref b1), .unset, .unset] [(.ref a1)]))
  refine Goes.step (fun _ hr_ => XS.iloadN X1.here hx rfl (hb hby d_jdk_52_method_16_code_5) rfl  hr_) ?_
  show Goes p ee below s _ _ _ (T1.setTop (mkF m 6 #[.val (.ref a1), .val (.int (0 : Int32)), .val (.int (Int32.ofNat n)), .val (.ref b1), .unset, .unset] [(.int (0 : Int32)), (.ref a1)]))
  refine Goes.step (fun _ hr_ => XS.aloadN X1.here hx rfl (hb hby d_jdk_52_method_16_code_6) rfl rfl hr_) ?_
  show Goes p ee below s _ _ _ (T1.setTop (mkF m 7 #[.val (.ref a1), .val (.int (0 : Int32)), .val (.int (Int32.ofNat n)), .val (.ref b1), .unset, .unset] [(.ref b1), (.int (0 : Int32)), (.ref a1)]))
  refine Goes.step (fun _ hr_ => XS.iconst X1.here hx rfl (hb hby d_jdk_52_method_16_code_7) hr_) ?_
  show Goes p ee below s _ _ _ (T1.setTop (mkF m 8 #[.val (.ref a1), .val (.int (0 : Int32)), .val (.int (Int32.ofNat n)), .val (.ref b1), .unset, .unset] [(.int (0 : Int32)), (.ref b1), (.int (0 : Int32)), (.ref a1)]))
  refine Goes.step (fun _ hr_ => XS.iloadN X1.here hx rfl (hb hby d_jdk_52_method_16_code_8) rfl  hr_) ?_
  show Goes p ee below s _ _ _ (T1.setTop (mkF m 9 #[.val (.ref a1), .val (.int (0 : Int32)), .val (.int (Int32.ofNat n)), .val (.ref b1), .unset, .unset] [(.int (Int32.ofNat n)), (.int (0 : Int32)), (.ref b1), (.int (0 : Int32)), (.ref a1)]))
  have lt_a1 := A.lt
  have lt_b1 := A_b1.lt
  obtain ⟨v4, T4, L4, X4, hQ4, st4⟩ := own_callS X1 hx hZ (y := (⟨"java/lang/StringUTF16", "compress", "([CI[BII)I"⟩ : MethodName)) hown (hw _ (List.mem_of_getElem? (i := 53) rfl)) (hw _ (List.mem_of_getElem? (i := 54) rfl)) (hw _ (List.mem_of_getElem? (i := 51) rfl)) (hw _ (List.mem_of_getElem? (i := 55) rfl)) (by decide) (argsL := [(.ref a1), (.int (0 : Int32)), (.ref b1), (.int (0 : Int32)), (.int (Int32.ofNat n))]) (rm_cmp5 l Z a0 hw [] cs fm a1 b1 n c _ h1 n0 Zp2 ST OO hn hc ne_a1_b1 ge_b1 A A_b1) e1 (W := 0) (by decide) (by decide) (by decide) (by decide) (g := (mkF m 9 #[.val (.ref a1), .val (.int (0 : Int32)), .val (.int (Int32.ofNat n)), .val (.ref b1), .unset, .unset] [(.int (Int32.ofNat n)), (.int (0 : Int32)), (.ref b1), (.int (0 : Int32)), (.ref a1)])) rfl (by rw [hml]; rfl) (rest := []) (lenOf pd_10 rfl) rfl (by show 2 * 0 + _ ≤ _; exact Nat.le_of_eq rfl) (hb hby d_jdk_52_method_16_code_9)
  refine Goes.step st4 ?_
  obtain ⟨N4, Kc4, hv4⟩ := hQ4
  have N5 := Fr.app N0 N4
  obtain ⟨h4, e4⟩ : ∃ h', T4.heap = h' := ⟨_, rfl⟩
  rw [e4] at Kc4 hv4
  have A := A.keep Kc4 (ninS ne_a1_b1 nin0)
  have OO := OO.keep Kc4 (allS ge_b1 all0)
  have K6 := K3.trans Kc4 (allS (Or.inr sz_b1) all0)
  have Zp7 := Nat.le_trans Zp2 Kc4.1
  rcases hv4 with ⟨rfl, hall, A_b1⟩ | ⟨k, hk, rfl, hk255⟩
  · show Goes p ee below s _ _ _ (T4.setTop (mkF m 12 #[.val (.ref a1), .val (.int (0 : Int32)), .val (.int (Int32.ofNat n)), .val (.ref b1), .unset, .unset] [(.int (Int32.ofNat n))]))
    refine Goes.step (fun _ hr_ => XS.istore X4.here hx rfl (hb hby d_jdk_52_method_16_code_12) rfl  (l' := #[.val (.ref a1), .val (.int (0 : Int32)), .val (.int (Int32.ofNat n)), .val (.ref b1), .val (.int (Int32.ofNat n)), .unset]) rfl hr_) ?_
    show Goes p ee below s _ _ _ (T4.setTop (mkF m 14 #[.val (.ref a1), .val (.int (0 : Int32)), .val (.int (Int32.ofNat n)), .val (.ref b1), .val (.int (Int32.ofNat n)), .unset] []))
    refine Goes.step (fun _ hr_ => XS.iload X4.here hx rfl (hb hby d_jdk_52_method_16_code_14) rfl  hr_) ?_
    show Goes p ee below s _ _ _ (T4.setTop (mkF m 16 #[.val (.ref a1), .val (.int (0 : Int32)), .val (.int (Int32.ofNat n)), .val (.ref b1), .val (.int (Int32.ofNat n)), .unset] [(.int (Int32.ofNat n))]))
    refine Goes.step (fun _ hr_ => XS.iloadN X4.here hx rfl (hb hby d_jdk_52_method_16_code_16) rfl  hr_) ?_
    show Goes p ee below s _ _ _ (T4.setTop (mkF m 17 #[.val (.ref a1), .val (.int (0 : Int32)), .val (.int (Int32.ofNat n)), .val (.ref b1), .val (.int (Int32.ofNat n)), .unset] [(.int (Int32.ofNat n)), (.int (Int32.ofNat n))]))
    refine Goes.step (fun _ hr_ => XS.icmpYes X4.here hx rfl (pc0 := 17) (pc' := 57) rfl (hb hby d_jdk_52_method_16_code_17) rfl (teq rfl).1 (by decide) (by decide) hr_) ?_
    show Goes p ee below s _ _ _ (T4.setTop (mkF m 57 #[.val (.ref a1), .val (.int (0 : Int32)), .val (.int (Int32.ofNat n)), .val (.ref b1), .val (.int (Int32.ofNat n)), .unset] []))
    refine Goes.step (fun _ hr_ => XS.aloadN X4.here hx rfl (hb hby d_jdk_52_method_16_code_57) rfl rfl hr_) ?_
    show Goes p ee below s _ _ _ (T4.setTop (mkF m 58 #[.val (.ref a1), .val (.int (0 : Int32)), .val (.int (Int32.ofNat n)), .val (.ref b1), .val (.int (Int32.ofNat n)), .unset] [(.ref b1)]))
    refine Goes.retA X4 hx Bd.notSynchronized Bd.returns rfl rfl (hb hby d_jdk_52_method_16_code_58) (by decide) (by decide) ?_
    rw [e4]
    exact ⟨_, false, rfl, N5, sz_b1, K6, A_b1, fun _ => hall, nofun⟩
  · show Goes p ee below s _ _ _ (T4.setTop (mkF m 12 #[.val (.ref a1), .val (.int (0 : Int32)), .val (.int (Int32.ofNat n)), .val (.ref b1), .unset, .unset] [(.int (Int32.ofNat k))]))
    refine Goes.step (fun _ hr_ => XS.istore X4.here hx rfl (hb hby d_jdk_52_method_16_code_12) rfl  (l' := #[.val (.ref a1), .val (.int (0 : Int32)), .val (.int (Int32.ofNat n)), .val (.ref b1), .val (.int (Int32.ofNat k)), .unset]) rfl hr_) ?_
    show Goes p ee below s _ _ _ (T4.setTop (mkF m 14 #[.val (.ref a1), .val (.int (0 : Int32)), .val (.int (Int32.ofNat n)), .val (.ref b1), .val (.int (Int32.ofNat k)), .unset] []))
    refine Goes.step (fun _ hr_ => XS.iload X4.here hx rfl (hb hby d_jdk_52_method_16_code_14) rfl  hr_) ?_
    show Goes p ee below s _ _ _ (T4.setTop (mkF m 16 #[.val (.ref a1), .val (.int (0 : Int32)), .val (.int (Int32.ofNat n)), .val (.ref b1), .val (.int (Int32.ofNat k)), .unset] [(.int (Int32.ofNat k))]))
    refine Goes.step (fun _ hr_ => XS.iloadN X4.here hx rfl (hb hby d_jdk_52_method_16_code_16) rfl  hr_) ?_
    show Goes p ee below s _ _ _ (T4.setTop (mkF m 17 #[.val (.ref a1), .val (.int (0 : Int32)), .val (.int (Int32.ofNat n)), .val (.ref b1), .val (.int (Int32.ofNat k)), .unset] [(.int (Int32.ofNat n)), (.int (Int32.ofNat k))]))
    refine Goes.step (fun _ hr_ => XS.icmpNo X4.here hx rfl (hb hby d_jdk_52_method_16_code_17) rfl (feq (fun z => absurd ((own_eqN k n (by omega) (by omega)).mp z) (by omega))).1 hr_) ?_
    show Goes p ee below s _ _ _ (T4.setTop (mkF m 20 #[.val (.ref a1), .val (.int (0 : Int32)), .val (.int (Int32.ofNat n)), .val (.ref b1), .val (.int (Int32.ofNat k)), .unset] []))
    refine Goes.step (fun _ hr_ => XS.aloadN X4.here hx rfl (hb hby d_jdk_52_method_16_code_20) rfl rfl hr_) ?_
    show Goes p ee below s _ _ _ (T4.setTop (mkF m 21 #[.val (.ref a1), .val (.int (0 : Int32)), .val (.int (Int32.ofNat n)), .val (.ref b1), .val (.int (Int32.ofNat k)), .unset] [(.ref a1)]))
    refine Goes.step (fun _ hr_ => XS.iloadN X4.here hx rfl (hb hby d_jdk_52_method_16_code_21) rfl  hr_) ?_
    show Goes p ee below s _ _ _ (T4.setTop (mkF m 22 #[.val (.ref a1), .val (.int (0 : Int32)), .val (.int (Int32.ofNat n)), .val (.ref b1), .val (.int (Int32.ofNat k)), .unset] [(.int (0 : Int32)), (.ref a1)]))
    refine Goes.step (fun _ hr_ => XS.iloadN X4.here hx rfl (hb hby d_jdk_52_method_16_code_22) rfl  hr_) ?_
    show Goes p ee below s _ _ _ (T4.setTop (mkF m 23 #[.val (.ref a1), .val (.int (0 : Int32)), .val (.int (Int32.ofNat n)), .val (.ref b1), .val (.int (Int32.ofNat k)), .unset] [(.int (Int32.ofNat n)), (.int (0 : Int32)), (.ref a1)]))
    have lt_a1 := A.lt
    obtain ⟨v8, T8, L8, X8, hQ8, st8⟩ := own_callS X4 hx hZ (y := (⟨"java/lang/StringUTF16", "toBytes", "([CII)[B"⟩ : MethodName)) hown (hw _ (List.mem_of_getElem? (i := 96) rfl)) (hw _ (List.mem_of_getElem? (i := 97) rfl)) (hw _ (List.mem_of_getElem? (i := 51) rfl)) (hw _ (List.mem_of_getElem? (i := 98) rfl)) (by decide) (argsL := [(.ref a1), (.int (0 : Int32)), (.int (Int32.ofNat n))]) (rm_tob l Z a0 hw [] cs fm a1 n c h4 n0 Zp7 ST OO hn hc A) e4 (W := 0) (by decide) (by decide) (by decide) (by decide) (g := (mkF m 23 #[.val (.ref a1), .val (.int (0 : Int32)), .val (.int (Int32.ofNat n)), .val (.ref b1), .val (.int (Int32.ofNat k)), .unset] [(.int (Int32.ofNat n)), (.int (0 : Int32)), (.ref a1)])) rfl (by rw [hml]; rfl) (rest := []) (lenOf pd_11 rfl) rfl (by show 2 * 0 + _ ≤ _; exact Nat.le_of_eq rfl) (hb hby d_jdk_52_method_16_code_23)
    refine Goes.step st8 ?_
    obtain ⟨b8, rfl, N8, sz8, Kc8, A_b8⟩ := hQ8
    have N9 := Fr.app N5 N8
    obtain ⟨h8, e8⟩ : ∃ h', T8.heap = h' := ⟨_, rfl⟩
    rw [e8] at Kc8 A_b8
    have A := A.keep Kc8 nin0
    have OO := OO.keep Kc8 all0
    have K10 := K6.trans Kc8 all0
    have Zp11 := Nat.le_trans Zp7 Kc8.1
    have ge_b8 : n0 ≤ b8 := Nat.le_trans Zp7 sz8
    have sz_b8 : h0.size ≤ b8 := Nat.le_trans K6.1 sz8
    have ne_a1_b8 : a1 ≠ b8 := Nat.ne_of_lt (Nat.lt_of_lt_of_le lt_a1 sz8)
    show Goes p ee below s _ _ _ (T8.setTop (mkF m 26 #[.val (.ref a1), .val (.int (0 : Int32)), .val (.int (Int32.ofNat n)), .val (.ref b1), .val (.int (Int32.ofNat k)), .unset] [(.ref b8)]))
    refine Goes.step (fun _ hr_ => XS.astore X8.here hx rfl (hb hby d_jdk_52_method_16_code_26) rfl rfl (l' := #[.val (.ref a1), .val (.int (0 : Int32)), .val (.int (Int32.ofNat n)), .val (.ref b1), .val (.int (Int32.ofNat k)), .val (.ref b8)]) rfl hr_) ?_
    show Goes p ee below s _ _ _ (T8.setTop (mkF m 28 #[.val (.ref a1), .val (.int (0 : Int32)), .val (.int (Int32.ofNat n)), .val (.ref b1), .val (.int (Int32.ofNat k)), .val (.ref b8)] []))
    refine Goes.step (fun _ hr_ => XS.aload X8.here hx rfl (hb hby d_jdk_52_method_16_code_28) rfl rfl hr_) ?_
    show Goes p ee below s _ _ _ (T8.setTop (mkF m 30 #[.val (.ref a1), .val (.int (0 : Int32)), .val (.int (Int32.ofNat n)), .val (.ref b1), .val (.int (Int32.ofNat k)), .val (.ref b8)] [(.ref b8)]))
    refine Goes.step (fun _ hr_ => XS.iload X8.here hx rfl (hb hby d_jdk_52_method_16_code_30) rfl  hr_) ?_
    show Goes p ee below s _ _ _ (T8.setTop (mkF m 32 #[.val (.ref a1), .val (.int (0 : Int32)), .val (.int (Int32.ofNat n)), .val (.ref b1), .val (.int (Int32.ofNat k)), .val (.ref b8)] [(.int (Int32.ofNat k)), (.ref b8)]))
    have lt_a1 := A.lt
    have lt_b8 := A_b8.lt
    obtain ⟨v12, T12, L12, X12, hQ12, st12⟩ := own_callS X8 hx hZ (y := (⟨"java/lang/StringUTF16", "getChar", "([BI)C"⟩ : MethodName)) hown (hw _ (List.mem_of_getElem? (i := 112) rfl)) (hw _ (List.mem_of_getElem? (i := 113) rfl)) (hw _ (List.mem_of_getElem? (i := 51) rfl)) (hw _ (List.mem_of_getElem? (i := 114) rfl)) (by decide) (argsL := [(.ref b8), (.int (Int32.ofNat k))]) (rm_getc l Z a0 hw [] cs fm b8 k n c h8 n0 Zp11 ST OO hk (by omega) (hc k hk) A_b8) e8 (W := 0) (by decide) (by decide) (by decide) (by decide) (g := (mkF m 32 #[.val (.ref a1), .val (.int (0 : Int32)), .val (.int (Int32.ofNat n)), .val (.ref b1), .val (.int (Int32.ofNat k)), .val (.ref b8)] [(.int (Int32.ofNat k)), (.ref b8)])) rfl (by rw [hml]; rfl) (rest := []) (lenOf pd_4 rfl) rfl (by show 2 * 0 + _ ≤ _; exact Nat.le_of_eq rfl) (hb hby d_jdk_52_method_16_code_32)
    refine Goes.step st12 ?_
    obtain ⟨rfl, N12, e12⟩ := hQ12
    have N13 := Fr.app N9 N12
    show Goes p ee below s _ _ _ (T12.setTop (mkF m 35 #[.val (.ref a1), .val (.int (0 : Int32)), .val (.int (Int32.ofNat n)), .val (.ref b1), .val (.int (Int32.ofNat k)), .val (.ref b8)] [(.int (Int32.ofNat (c k)))]))
    refine Goes.step (fun _ hr_ => XS.sipush X12.here hx rfl (hb hby d_jdk_52_method_16_code_35) hr_) ?_
    show Goes p ee below s _ _ _ (T12.setTop (mkF m 38 #[.val (.ref a1), .val (.int (0 : Int32)), .val (.int (Int32.ofNat n)), .val (.ref b1), .val (.int (Int32.ofNat k)), .val (.ref b8)] [(.int (255 : Int32)), (.int (Int32.ofNat (c k)))]))
    refine Goes.step (fun _ hr_ => XS.icmpYes X12.here hx rfl (pc0 := 38) (pc' := 54) rfl (hb hby d_jdk_52_method_16_code_38) rfl (tlt ((own_ltN 255 (c k) (by decide) (Nat.lt_trans (hc k hk) (by decide))).mpr hk255)).2.2.1 (by decide) (by decide) hr_) ?_
    show Goes p ee below s _ _ _ (T12.setTop (mkF m 54 #[.val (.ref a1), .val (.int (0 : Int32)), .val (.int (Int32.ofNat n)), .val (.ref b1), .val (.int (Int32.ofNat k)), .val (.ref b8)] []))
    refine Goes.step (fun _ hr_ => XS.aload X12.here hx rfl (hb hby d_jdk_52_method_16_code_54) rfl rfl hr_) ?_
    show Goes p ee below s _ _ _ (T12.setTop (mkF m 56 #[.val (.ref a1), .val (.int (0 : Int32)), .val (.int (Int32.ofNat n)), .val (.ref b1), .val (.int (Int32.ofNat k)), .val (.ref b8)] [(.ref b8)]))
    refine Goes.retA X12 hx Bd.notSynchronized Bd.returns rfl rfl (hb hby d_jdk_52_method_16_code_56) (by decide) (by decide) ?_
    rw [e12]
    exact ⟨_, true, rfl, N13, sz_b8, K10, A_b8, nofun, fun _ => ⟨k, hk, hk255⟩⟩
theorem ef_cfa (m : MethodId) (x0 : Addr) (x1 : Int32) : entryFrame m #[(.ref x0), (.int x1)] 2 = mkF m 0 #[.val (.ref x0), .val (.int x1)] [] := by first | (simp [entryFrame, mkF, argsToLocals, Value.category]; done) | rfl
theorem d_jdk_52_method_15_code_0 : decode jdk_52_method_15_code 0 = .ok (.iload_n 1, 1) := by decide +kernel
theorem d_jdk_52_method_15_code_1 : decode jdk_52_method_15_code 1 = .ok (.aload_n 0, 1) := by decide +kernel
theorem d_jdk_52_method_15_code_2 : decode jdk_52_method_15_code 2 = .ok (.arraylength, 1) := by decide +kernel
theorem d_jdk_52_method_15_code_3 : decode jdk_52_method_15_code 3 = .ok (.isub, 1) := by decide +kernel
theorem d_jdk_52_method_15_code_4 : decode jdk_52_method_15_code 4 = .ok (.bipush 31, 2) := by decide +kernel
theorem d_jdk_52_method_15_code_6 : decode jdk_52_method_15_code 6 = .ok (.iushr, 1) := by decide +kernel
theorem d_jdk_52_method_15_code_7 : decode jdk_52_method_15_code 7 = .ok (.i2b, 1) := by decide +kernel
theorem d_jdk_52_method_15_code_8 : decode jdk_52_method_15_code 8 = .ok (.ireturn, 1) := by decide +kernel
def Q_cfa (Z : State) (cs : Int32) (fm : Value) (a1 : Addr) (n : Nat) (u : Bool) (f : Nat → Value) (h0 : Heap) (n0 : Nat) (v : Option Value) (h : Heap) (L : List Loc) : Prop := v = some (.int (own_cd u)) ∧ Fr n0 L ∧ h = h0
set_option maxRecDepth 65536 in
set_option maxHeartbeats 40000000 in
theorem rm_cfa (l : Launch) (Z : State) (a0 : Array Value) (hw : ∀ d ∈ tables_1, d.before a0 Z = true) (ws : List Jvm.Cond) (cs : Int32) (fm : Value) (a1 : Addr) (n : Nat) (u : Bool) (f : Nat → Value) (h0 : Heap) (n0 : Nat) (Z0 : n0 ≤ h0.size) (ST : own_ST Z cs fm) (OO : Old Z n0 h0) (hn0 : 0 < n) (hn : n < 2 ^ 30) (A : OA Z h0 a1 .byte (own_len u n) f) :
    MetFree l (⟨"java/lang/StringUTF16", "coderFromArrayLen", "([BI)B"⟩ : MethodName) (head1 (Jvm.Cond.code (⟨"java/lang/StringUTF16", "coderFromArrayLen", "([BI)B"⟩ : MethodName) jdk_52_method_15_code 2 (some .byte) :: ws) ({ frames := 0, cells := 0, slots := 0, locals := 0 } : Room)) (fun a U => a = #[(.ref a1), (.int (Int32.ofNat n))] ∧ Z.Warmed39 U.vm ∧ U.heap = h0) (fun _ _ _ _ _ => True) (fun _ U o U' => ∃ v L, o = .returned v ∧ Q_cfa Z cs fm a1 n u f h0 n0 v U'.heap L ∧ FrameEnd U o U' L ({ frames := 0, cells := 0, slots := 0, locals := 0 } : Room).cells ({ frames := 0, cells := 0, slots := 0, locals := 0 } : Room).slots) := by
  refine MetFree.of_bodySF (plainFor_of_name pn_java_lang_StringUTF16) hisR ?_
  intro p ee s m args below meth cc s₁ Bd hml0 hP hK
  obtain ⟨rfl, hZ, hh⟩ := hP
  have hx := Bd.exec
  have hby := Bd.bytes
  have hml : cc.maxLocals = 2 := hml0
  have hown : s.vm.findClass "java/lang/StringUTF16" = some m.cls := findClass_of_methodNamed Bd.named
  have hnm := (name_of_methodNamed Bd.named Bd.method).1
  have X0 : Stand p l ee ({ frames := 0, cells := 0, slots := 0, locals := 0 } : Room) s m #[(.ref a1), (.int (Int32.ofNat n))] below meth cc s₁ [] 0 0 := Stand.of_body Bd
  have e0 : s₁.heap = h0 := by rw [← hh, Bd.state]; rfl
  have N0 := Fr.nil n0
  show Goes p ee below s ({ frames := 0, cells := 0, slots := 0, locals := 0 } : Room).cells ({ frames := 0, cells := 0, slots := 0, locals := 0 } : Room).slots (Q_cfa Z cs fm a1 n u f h0 n0) (s₁.setTop (entryFrame m #[(.ref a1), (.int (Int32.ofNat n))] 2))
  refine Goes.step (fun _ hr_ => castTop (ef_cfa m a1 (Int32.ofNat n)) hr_) ?_
  show Goes p ee below s _ _ _ (s₁.setTop (mkF m 0 #[.val (.ref a1), .val (.int (Int32.ofNat n))] []))
  cases u
  · have A : OA Z h0 a1 .byte n f := A
    show Goes p ee below s _ _ _ (s₁.setTop (mkF m 0 #[.val (.ref a1), .val (.int (Int32.ofNat n))] []))
    refine Goes.step (fun _ hr_ => XS.iloadN X0.here hx rfl (hb hby d_jdk_52_method_15_code_0) rfl  hr_) ?_
    show Goes p ee below s _ _ _ (s₁.setTop (mkF m 1 #[.val (.ref a1), .val (.int (Int32.ofNat n))] [(.int (Int32.ofNat n))]))
    refine Goes.step (fun _ hr_ => XS.aloadN X0.here hx rfl (hb hby d_jdk_52_method_15_code_1) rfl rfl hr_) ?_
    show Goes p ee below s _ _ _ (s₁.setTop (mkF m 2 #[.val (.ref a1), .val (.int (Int32.ofNat n))] [(.ref a1), (.int (Int32.ofNat n))]))
    refine Goes.step (own_alen X0 hx hZ e0 A (z := (Int32.ofNat n)) rfl (g := (mkF m 2 #[.val (.ref a1), .val (.int (Int32.ofNat n))] [(.ref a1), (.int (Int32.ofNat n))])) rfl rfl (hb hby d_jdk_52_method_15_code_2)) ?_
    show Goes p ee below s _ _ _ (s₁.setTop (mkF m 3 #[.val (.ref a1), .val (.int (Int32.ofNat n))] [(.int (Int32.ofNat n)), (.int (Int32.ofNat n))]))
    refine Goes.step (fun _ hr_ => XS.isub X0.here hx rfl (hb hby d_jdk_52_method_15_code_3) rfl hr_) ?_
    show Goes p ee below s _ _ _ (s₁.setTop (mkF m 4 #[.val (.ref a1), .val (.int (Int32.ofNat n))] [(.int ((Int32.ofNat n) - (Int32.ofNat n)))]))
    refine Goes.step (fun _ hr_ => XS.bipush X0.here hx rfl (hb hby d_jdk_52_method_15_code_4) hr_) ?_
    show Goes p ee below s _ _ _ (s₁.setTop (mkF m 6 #[.val (.ref a1), .val (.int (Int32.ofNat n))] [(.int (31 : Int32)), (.int ((Int32.ofNat n) - (Int32.ofNat n)))]))
    refine Goes.step (fun _ hr_ => XT.iushr X0.here hx rfl (hb hby d_jdk_52_method_15_code_6) rfl hr_) ?_
    show Goes p ee below s _ _ _ (s₁.setTop (mkF m 7 #[.val (.ref a1), .val (.int (Int32.ofNat n))] [(.int (XT.ushr ((Int32.ofNat n) - (Int32.ofNat n)) (31 : Int32)))]))
    refine Goes.step (fun _ hr_ => XT.i2b X0.here hx rfl (hb hby d_jdk_52_method_15_code_7) rfl hr_) ?_
    show Goes p ee below s _ _ _ (s₁.setTop (mkF m 8 #[.val (.ref a1), .val (.int (Int32.ofNat n))] [(.int (XT.ushr ((Int32.ofNat n) - (Int32.ofNat n)) (31 : Int32)).toInt8.toInt32)]))
    rw [own_cd0 n]
    show Goes p ee below s _ _ _ (s₁.setTop (mkF m 8 #[.val (.ref a1), .val (.int (Int32.ofNat n))] [(.int (0 : Int32))]))
    refine Goes.retZ X0 hx Bd.notSynchronized Bd.returns (by simp) rfl (hb hby d_jdk_52_method_15_code_8) (by decide) (by decide) ?_
    exact ⟨rfl, N0, e0⟩
  · have A : OA Z h0 a1 .byte (2 * n) f := A
    show Goes p ee below s _ _ _ (s₁.setTop (mkF m 0 #[.val (.ref a1), .val (.int (Int32.ofNat n))] []))
    refine Goes.step (fun _ hr_ => XS.iloadN X0.here hx rfl (hb hby d_jdk_52_method_15_code_0) rfl  hr_) ?_
    show Goes p ee below s _ _ _ (s₁.setTop (mkF m 1 #[.val (.ref a1), .val (.int (Int32.ofNat n))] [(.int (Int32.ofNat n))]))
    refine Goes.step (fun _ hr_ => XS.aloadN X0.here hx rfl (hb hby d_jdk_52_method_15_code_1) rfl rfl hr_) ?_
    show Goes p ee below s _ _ _ (s₁.setTop (mkF m 2 #[.val (.ref a1), .val (.int (Int32.ofNat n))] [(.ref a1), (.int (Int32.ofNat n))]))
    refine Goes.step (own_alen X0 hx hZ e0 A (z := (Int32.ofNat (2 * n))) rfl (g := (mkF m 2 #[.val (.ref a1), .val (.int (Int32.ofNat n))] [(.ref a1), (.int (Int32.ofNat n))])) rfl rfl (hb hby d_jdk_52_method_15_code_2)) ?_
    show Goes p ee below s _ _ _ (s₁.setTop (mkF m 3 #[.val (.ref a1), .val (.int (Int32.ofNat n))] [(.int (Int32.ofNat (2 * n))), (.int (Int32.ofNat n))]))
    refine Goes.step (fun _ hr_ => XS.isub X0.here hx rfl (hb hby d_jdk_52_method_15_code_3) rfl hr_) ?_
    show Goes p ee below s _ _ _ (s₁.setTop (mkF m 4 #[.val (.ref a1), .val (.int (Int32.ofNat n))] [(.int ((Int32.ofNat n) - (Int32.ofNat (2 * n))))]))
    refine Goes.step (fun _ hr_ => XS.bipush X0.here hx rfl (hb hby d_jdk_52_method_15_code_4) hr_) ?_
    show Goes p ee below s _ _ _ (s₁.setTop (mkF m 6 #[.val (.ref a1), .val (.int (Int32.ofNat n))] [(.int (31 : Int32)), (.int ((Int32.ofNat n) - (Int32.ofNat (2 * n))))]))
    refine Goes.step (fun _ hr_ => XT.iushr X0.here hx rfl (hb hby d_jdk_52_method_15_code_6) rfl hr_) ?_
    show Goes p ee below s _ _ _ (s₁.setTop (mkF m 7 #[.val (.ref a1), .val (.int (Int32.ofNat n))] [(.int (XT.ushr ((Int32.ofNat n) - (Int32.ofNat (2 * n))) (31 : Int32)))]))
    refine Goes.step (fun _ hr_ => XT.i2b X0.here hx rfl (hb hby d_jdk_52_method_15_code_7) rfl hr_) ?_
    show Goes p ee below s _ _ _ (s₁.setTop (mkF m 8 #[.val (.ref a1), .val (.int (Int32.ofNat n))] [(.int (XT.ushr ((Int32.ofNat n) - (Int32.ofNat (2 * n))) (31 : Int32)).toInt8.toInt32)]))
    rw [own_cd1 n hn0 hn]
    show Goes p ee below s _ _ _ (s₁.setTop (mkF m 8 #[.val (.ref a1), .val (.int (Int32.ofNat n))] [(.int (1 : Int32))]))
    refine Goes.retZ X0 hx Bd.notSynchronized Bd.returns (by simp) rfl (hb hby d_jdk_52_method_15_code_8) (by decide) (by decide) ?_
    exact ⟨rfl, N0, e0⟩
theorem ef_sin5 (m : MethodId) (x0 : Addr) (x1 : Addr) (x2 : Int32) (x3 : Int32) : entryFrame m #[(.ref x0), (.ref x1), (.int x2), (.int x3), .null] 6 = mkF m 0 #[.val (.ref x0), .val (.ref x1), .val (.int x2), .val (.int x3), .val .null, .unset] [] := by first | (simp [entryFrame, mkF, argsToLocals, Value.category]; done) | rfl
theorem d_jdk_42_method_149_code_0 : decode jdk_42_method_149_code 0 = .ok (.aload_n 0, 1) := by decide +kernel
theorem d_jdk_42_method_149_code_1 : decode jdk_42_method_149_code 1 = .ok (.invokespecial 1, 3) := by decide +kernel
theorem d_jdk_42_method_149_code_4 : decode jdk_42_method_149_code 4 = .ok (.iload_n 3, 1) := by decide +kernel
theorem d_jdk_42_method_149_code_5 : decode jdk_42_method_149_code 5 = .ok (.ifCond .ne 22, 3) := by decide +kernel
theorem d_jdk_42_method_149_code_27 : decode jdk_42_method_149_code 27 = .ok (.getstatic 38, 3) := by decide +kernel
theorem d_jdk_42_method_149_code_30 : decode jdk_42_method_149_code 30 = .ok (.ifCond .eq 28, 3) := by decide +kernel
theorem d_jdk_42_method_149_code_33 : decode jdk_42_method_149_code 33 = .ok (.aload_n 1, 1) := by decide +kernel
theorem d_jdk_42_method_149_code_34 : decode jdk_42_method_149_code 34 = .ok (.iload_n 2, 1) := by decide +kernel
theorem d_jdk_42_method_149_code_35 : decode jdk_42_method_149_code 35 = .ok (.iload_n 3, 1) := by decide +kernel
theorem d_jdk_42_method_149_code_36 : decode jdk_42_method_149_code 36 = .ok (.invokestatic 177, 3) := by decide +kernel
theorem d_jdk_42_method_149_code_39 : decode jdk_42_method_149_code 39 = .ok (.astore 5, 2) := by decide +kernel
theorem d_jdk_42_method_149_code_41 : decode jdk_42_method_149_code 41 = .ok (.aload_n 0, 1) := by decide +kernel
theorem d_jdk_42_method_149_code_42 : decode jdk_42_method_149_code 42 = .ok (.aload 5, 2) := by decide +kernel
theorem d_jdk_42_method_149_code_44 : decode jdk_42_method_149_code 44 = .ok (.iload_n 3, 1) := by decide +kernel
theorem pd_12 : parseMethodDescriptor "([BI)B" = some ⟨[(.array .byte), .int], some .byte⟩ := by decide +kernel
theorem d_jdk_42_method_149_code_45 : decode jdk_42_method_149_code 45 = .ok (.invokestatic 47, 3) := by decide +kernel
theorem d_jdk_42_method_149_code_48 : decode jdk_42_method_149_code 48 = .ok (.putfield 15, 3) := by decide +kernel
theorem d_jdk_42_method_149_code_51 : decode jdk_42_method_149_code 51 = .ok (.aload_n 0, 1) := by decide +kernel
theorem d_jdk_42_method_149_code_52 : decode jdk_42_method_149_code 52 = .ok (.aload 5, 2) := by decide +kernel
theorem d_jdk_42_method_149_code_54 : decode jdk_42_method_149_code 54 = .ok (.putfield 9, 3) := by decide +kernel
theorem d_jdk_42_method_149_code_57 : decode jdk_42_method_149_code 57 = .ok (.return_, 1) := by decide +kernel
def Q_sin5 (Z : State) (cs : Int32) (fm : Value) (a1 a2 : Addr) (n : Nat) (c : Nat → Nat) (uv uc : Value) (h0 : Heap) (n0 : Nat) (v : Option Value) (h : Heap) (L : List Loc) : Prop := v = none ∧ Fr n0 L ∧ Keep h0 h [a1] ∧ ∃ (b : Addr) (u : Bool), h0.size ≤ b ∧ Exa Z h a1 "java/lang/String" ∧ Fld Z h a1 "java/lang/String" "value" "[B" (.ref b) ∧ Fld Z h a1 "java/lang/String" "coder" "B" (.int (own_cd u)) ∧ OA Z h b .byte (own_len u n) (own_by u c) ∧ (u = false → ∀ j, j < n → c j < 256) ∧ (u = true → ∃ j, j < n ∧ 255 < c j)
set_option maxRecDepth 65536 in
set_option maxHeartbeats 40000000 in
theorem rm_sin5 (l : Launch) (Z : State) (a0 : Array Value) (hw : ∀ d ∈ tables_1, d.before a0 Z = true) (ws : List Jvm.Cond) (cs : Int32) (fm : Value) (a1 a2 : Addr) (n : Nat) (c : Nat → Nat) (uv uc : Value) (h0 : Heap) (n0 : Nat) (Z0 : n0 ≤ h0.size) (ST : own_ST Z cs fm) (OO : Old Z n0 h0) (hn0 : 0 < n) (hn : n ≤ 6) (hc : ∀ j, j < n → c j < 65536) (ge_a1 : n0 ≤ a1) (ne12 : a1 ≠ a2) (E : Exa Z h0 a1 "java/lang/String") (FV : Fld Z h0 a1 "java/lang/String" "value" "[B" uv) (FC : Fld Z h0 a1 "java/lang/String" "coder" "B" uc) (A : OA Z h0 a2 .char n (fun i => .int (Int32.ofNat (c i)))) :
    MetFree l (⟨"java/lang/String", "<init>", "([CIILjava/lang/Void;)V"⟩ : MethodName) (head1 (Jvm.Cond.code (⟨"java/lang/String", "<init>", "([CIILjava/lang/Void;)V"⟩ : MethodName) jdk_42_method_149_code 6 none :: ws) ({ frames := 4, cells := 2, slots := 18, locals := 57 } : Room)) (fun a U => a = #[(.ref a1), (.ref a2), (.int (0 : Int32)), (.int (Int32.ofNat n)), .null] ∧ Z.Warmed39 U.vm ∧ U.heap = h0) (fun _ _ _ _ _ => True) (fun _ U o U' => ∃ v L, o = .returned v ∧ Q_sin5 Z cs fm a1 a2 n c uv uc h0 n0 v U'.heap L ∧ FrameEnd U o U' L ({ frames := 4, cells := 2, slots := 18, locals := 57 } : Room).cells ({ frames := 4, cells := 2, slots := 18, locals := 57 } : Room).slots) := by
  refine MetFree.of_bodySF (plainFor_of_name pn_java_lang_String) hisR ?_
  intro p ee s m args below meth cc s₁ Bd hml0 hP hK
  obtain ⟨rfl, hZ, hh⟩ := hP
  have hx := Bd.exec
  have hby := Bd.bytes
  have hml : cc.maxLocals = 6 := hml0
  have hown : s.vm.findClass "java/lang/String" = some m.cls := findClass_of_methodNamed Bd.named
  have hnm := (name_of_methodNamed Bd.named Bd.method).1
  have X0 : Stand p l ee ({ frames := 4, cells := 2, slots := 18, locals := 57 } : Room) s m #[(.ref a1), (.ref a2), (.int (0 : Int32)), (.int (Int32.ofNat n)), .null] below meth cc s₁ [] 0 0 := Stand.of_body Bd
  have e0 : s₁.heap = h0 := by rw [← hh, Bd.state]; rfl
  have N0 := Fr.nil n0
  show Goes p ee below s ({ frames := 4, cells := 2, slots := 18, locals := 57 } : Room).cells ({ frames := 4, cells := 2, slots := 18, locals := 57 } : Room).slots (Q_sin5 Z cs fm a1 a2 n c uv uc h0 n0) (s₁.setTop (entryFrame m #[(.ref a1), (.ref a2), (.int (0 : Int32)), (.int (Int32.ofNat n)), .null] 6))
  refine Goes.step (fun _ hr_ => castTop (ef_sin5 m a1 a2 (0 : Int32) (Int32.ofNat n)) hr_) ?_
  show Goes p ee below s _ _ _ (s₁.setTop (mkF m 0 #[.val (.ref a1), .val (.ref a2), .val (.int (0 : Int32)), .val (.int (Int32.ofNat n)), .val .null, .unset] []))
  have K0 := Keep.refl h0 ([a1] : List Addr)
  refine Goes.step (fun _ hr_ => XS.aloadN X0.here hx rfl (hb hby d_jdk_42_method_149_code_0) rfl rfl hr_) ?_
  show Goes p ee below s _ _ _ (s₁.setTop (mkF m 1 #[.val (.ref a1), .val (.ref a2), .val (.int (0 : Int32)), .val (.int (Int32.ofNat n)), .val .null, .unset] [(.ref a1)]))
  obtain ⟨T1, X1, e1, st1⟩ := initO X0 hx hZ hown (hw _ (List.mem_of_getElem? (i := 19) rfl)) (hw _ (List.mem_of_getElem? (i := 20) rfl)) (hw _ (List.mem_of_getElem? (i := 21) rfl)) e0 (g := (mkF m 1 #[.val (.ref a1), .val (.ref a2), .val (.int (0 : Int32)), .val (.int (Int32.ofNat n)), .val .null, .unset] [(.ref a1)])) rfl (by rw [hml]; rfl) rfl (hb hby d_jdk_42_method_149_code_1) (by decide) (W := 0) (by show 2 * 0 + _ ≤ _; exact Nat.le_of_eq rfl) (by decide)
  refine Goes.step st1 ?_
  show Goes p ee below s _ _ _ (T1.setTop (mkF m 4 #[.val (.ref a1), .val (.ref a2), .val (.int (0 : Int32)), .val (.int (Int32.ofNat n)), .val .null, .unset] []))
  refine Goes.step (fun _ hr_ => XS.iloadN X1.here hx rfl (hb hby d_jdk_42_method_149_code_4) rfl  hr_) ?_
  show Goes p ee below s _ _ _ (T1.setTop (mkF m 5 #[.val (.ref a1), .val (.ref a2), .val (.int (0 : Int32)), .val (.int (Int32.ofNat n)), .val .null, .unset] [(.int (Int32.ofNat n))]))
  refine Goes.step (fun _ hr_ => XS.ifYes X1.here hx rfl (pc0 := 5) (pc' := 27) rfl (hb hby d_jdk_42_method_149_code_5) rfl ((if0 _ _).trans (feq (fun z => absurd ((own_eqN n 0 (by omega) (by decide)).mp z) (by omega))).2) (by decide) (by decide) hr_) ?_
  show Goes p ee below s _ _ _ (T1.setTop (mkF m 27 #[.val (.ref a1), .val (.ref a2), .val (.int (0 : Int32)), .val (.int (Int32.ofNat n)), .val .null, .unset] []))
  obtain ⟨T2, X2, e2, st2⟩ := getS X1 hx hZ (host := "") hown (hw _ (List.mem_of_getElem? (i := 48) rfl)) Via.refl e1 ((ST.1).ext OO.2) (g := (mkF m 27 #[.val (.ref a1), .val (.ref a2), .val (.int (0 : Int32)), .val (.int (Int32.ofNat n)), .val .null, .unset] [])) rfl (hb hby d_jdk_42_method_149_code_27)
  refine Goes.step st2 ?_
  show Goes p ee below s _ _ _ (T2.setTop (mkF m 30 #[.val (.ref a1), .val (.ref a2), .val (.int (0 : Int32)), .val (.int (Int32.ofNat n)), .val .null, .unset] [(.int cs)]))
  refine Goes.step (fun _ hr_ => XS.ifNo X2.here hx rfl (hb hby d_jdk_42_method_149_code_30) rfl ((if0 _ _).trans (feq (ST.2.1)).1) hr_) ?_
  show Goes p ee below s _ _ _ (T2.setTop (mkF m 33 #[.val (.ref a1), .val (.ref a2), .val (.int (0 : Int32)), .val (.int (Int32.ofNat n)), .val .null, .unset] []))
  refine Goes.step (fun _ hr_ => XS.aloadN X2.here hx rfl (hb hby d_jdk_42_method_149_code_33) rfl rfl hr_) ?_
  show Goes p ee below s _ _ _ (T2.setTop (mkF m 34 #[.val (.ref a1), .val (.ref a2), .val (.int (0 : Int32)), .val (.int (Int32.ofNat n)), .val .null, .unset] [(.ref a2)]))
  refine Goes.step (fun _ hr_ => XS.iloadN X2.here hx rfl (hb hby d_jdk_42_method_149_code_34) rfl  hr_) ?_
  show Goes p ee below s _ _ _ (T2.setTop (mkF m 35 #[.val (.ref a1), .val (.ref a2), .val (.int (0 : Int32)), .val (.int (Int32.ofNat n)), .val .null, .unset] [(.int (0 : Int32)), (.ref a2)]))
  refine Goes.step (fun _ hr_ => XS.iloadN X2.here hx rfl (hb hby d_jdk_42_method_149_code_35) rfl  hr_) ?_
  show Goes p ee below s _ _ _ (T2.setTop (mkF m 36 #[.val (.ref a1), .val (.ref a2), .val (.int (0 : Int32)), .val (.int (Int32.ofNat n)), .val .null, .unset] [(.int (Int32.ofNat n)), (.int (0 : Int32)), (.ref a2)]))
  have lt_a1 := E.lt
  have lt_a2 := A.lt
  obtain ⟨v3, T3, L3, X3, hQ3, st3⟩ := own_callS X2 hx hZ (y := (⟨"java/lang/StringUTF16", "compress", "([CII)[B"⟩ : MethodName)) hown (hw _ (List.mem_of_getElem? (i := 49) rfl)) (hw _ (List.mem_of_getElem? (i := 50) rfl)) (hw _ (List.mem_of_getElem? (i := 51) rfl)) (hw _ (List.mem_of_getElem? (i := 52) rfl)) (by decide) (argsL := [(.ref a2), (.int (0 : Int32)), (.int (Int32.ofNat n))]) (rm_cmp3 l Z a0 hw [] cs fm a2 n c h0 n0 Z0 ST OO hn0 hn hc A) e2 (W := 0) (by decide) (by decide) (by decide) (by decide) (g := (mkF m 36 #[.val (.ref a1), .val (.ref a2), .val (.int (0 : Int32)), .val (.int (Int32.ofNat n)), .val .null, .unset] [(.int (Int32.ofNat n)), (.int (0 : Int32)), (.ref a2)])) rfl (by rw [hml]; rfl) (rest := []) (lenOf pd_11 rfl) rfl (by show 2 * 0 + _ ≤ _; exact Nat.le_of_eq rfl) (hb hby d_jdk_42_method_149_code_36)
  refine Goes.step st3 ?_
  obtain ⟨b3, u, rfl, N3, sz3, Kc3, A_b3, hlu, hlu2⟩ := hQ3
  have N4 := Fr.app N0 N3
  obtain ⟨h3, e3⟩ : ∃ h', T3.heap = h' := ⟨_, rfl⟩
  rw [e3] at Kc3 A_b3
  have E := E.keep Kc3
  have FV := FV.keep Kc3 nin0
  have FC := FC.keep Kc3 nin0
  have A := A.keep Kc3 nin0
  have OO := OO.keep Kc3 all0
  have K5 := K0.trans Kc3 all0
  have Zp6 := Nat.le_trans Z0 Kc3.1
  have ge_b3 : n0 ≤ b3 := Nat.le_trans Z0 sz3
  have sz_b3 : h0.size ≤ b3 := Nat.le_trans K0.1 sz3
  have ne_a1_b3 : a1 ≠ b3 := Nat.ne_of_lt (Nat.lt_of_lt_of_le lt_a1 sz3)
  have ne_a2_b3 : a2 ≠ b3 := Nat.ne_of_lt (Nat.lt_of_lt_of_le lt_a2 sz3)
  show Goes p ee below s _ _ _ (T3.setTop (mkF m 39 #[.val (.ref a1), .val (.ref a2), .val (.int (0 : Int32)), .val (.int (Int32.ofNat n)), .val .null, .unset] [(.ref b3)]))
  refine Goes.step (fun _ hr_ => XS.astore X3.here hx rfl (hb hby d_jdk_42_method_149_code_39) rfl rfl (l' := #[.val (.ref a1), .val (.ref a2), .val (.int (0 : Int32)), .val (.int (Int32.ofNat n)), .val .null, .val (.ref b3)]) rfl hr_) ?_
  show Goes p ee below s _ _ _ (T3.setTop (mkF m 41 #[.val (.ref a1), .val (.ref a2), .val (.int (0 : Int32)), .val (.int (Int32.ofNat n)), .val .null, .val (.ref b3)] []))
  refine Goes.step (fun _ hr_ => XS.aloadN X3.here hx rfl (hb hby d_jdk_42_method_149_code_41) rfl rfl hr_) ?_
  show Goes p ee below s _ _ _ (T3.setTop (mkF m 42 #[.val (.ref a1), .val (.ref a2), .val (.int (0 : Int32)), .val (.int (Int32.ofNat n)), .val .null, .val (.ref b3)] [(.ref a1)]))
  refine Goes.step (fun _ hr_ => XS.aload X3.here hx rfl (hb hby d_jdk_42_method_149_code_42) rfl rfl hr_) ?_
  show Goes p ee below s _ _ _ (T3.setTop (mkF m 44 #[.val (.ref a1), .val (.ref a2), .val (.int (0 : Int32)), .val (.int (Int32.ofNat n)), .val .null, .val (.ref b3)] [(.ref b3), (.ref a1)]))
  refine Goes.step (fun _ hr_ => XS.iloadN X3.here hx rfl (hb hby d_jdk_42_method_149_code_44) rfl  hr_) ?_
  show Goes p ee below s _ _ _ (T3.setTop (mkF m 45 #[.val (.ref a1), .val (.ref a2), .val (.int (0 : Int32)), .val (.int (Int32.ofNat n)), .val .null, .val (.ref b3)] [(.int (Int32.ofNat n)), (.ref b3), (.ref a1)]))
  have lt_a1 := E.lt
  have lt_a2 := A.lt
  have lt_b3 := A_b3.lt
  obtain ⟨v7, T7, L7, X7, hQ7, st7⟩ := own_callS X3 hx hZ (y := (⟨"java/lang/StringUTF16", "coderFromArrayLen", "([BI)B"⟩ : MethodName)) hown (hw _ (List.mem_of_getElem? (i := 56) rfl)) (hw _ (List.mem_of_getElem? (i := 57) rfl)) (hw _ (List.mem_of_getElem? (i := 51) rfl)) (hw _ (List.mem_of_getElem? (i := 58) rfl)) (by decide) (argsL := [(.ref b3), (.int (Int32.ofNat n))]) (rm_cfa l Z a0 hw [] cs fm b3 n u _ h3 n0 Zp6 ST OO hn0 (by omega) A_b3) e3 (W := 1) (by decide) (by decide) (by decide) (by decide) (g := (mkF m 45 #[.val (.ref a1), .val (.ref a2), .val (.int (0 : Int32)), .val (.int (Int32.ofNat n)), .val .null, .val (.ref b3)] [(.int (Int32.ofNat n)), (.ref b3), (.ref a1)])) rfl (by rw [hml]; rfl) (rest := [(.ref a1)]) (lenOf pd_12 rfl) rfl (by show 2 * 0 + _ ≤ _; exact Nat.le_of_eq rfl) (hb hby d_jdk_42_method_149_code_45)
  refine Goes.step st7 ?_
  obtain ⟨rfl, N7, e7⟩ := hQ7
  have N8 := Fr.app N4 N7
  show Goes p ee below s _ _ _ (T7.setTop (mkF m 48 #[.val (.ref a1), .val (.ref a2), .val (.int (0 : Int32)), .val (.int (Int32.ofNat n)), .val .null, .val (.ref b3)] [(.int (own_cd u)), (.ref a1)]))
  obtain ⟨T9, h9, X9, e9, W9, st9⟩ := putFN X7 hx hZ hown (hw _ (List.mem_of_getElem? (i := 29) rfl)) Via.refl e7 FC E (Or.inr ⟨(hw _ (List.mem_of_getElem? (i := 25) rfl)), rfl, hnm⟩) (hw _ (List.mem_of_getElem? (i := 10) rfl)) (ty := .byte) (v' := (.int (own_cd u))) (by decide) (own_cd_byte u).1 (own_cd_byte u).2 (g := (mkF m 48 #[.val (.ref a1), .val (.ref a2), .val (.int (0 : Int32)), .val (.int (Int32.ofNat n)), .val .null, .val (.ref b3)] [(.int (own_cd u)), (.ref a1)])) rfl rfl (hb hby d_jdk_42_method_149_code_48)
  refine Goes.step st9 ?_
  have E := E.wr W9
  have FV := FV.other W9 (Or.inr (slot_ne (Or.inr (hw _ (List.mem_of_getElem? (i := 24) rfl))) (Or.inr (hw _ (List.mem_of_getElem? (i := 25) rfl))) (by decide) (t := (.array .byte)) (t' := .byte) (by decide) (by decide)))
  have A := A.other W9 (Ne.symm ne12)
  have A_b3 := A_b3.other W9 (Ne.symm ne_a1_b3)
  have Zp10 := Nat.le_trans Zp6 (Keep.of_wr W9).1
  have FC := FC.same W9
  have N11 := Fr.snoc X9 N8 ge_a1
  have OO := OO.wr W9 ge_a1
  have K12 := K5.wr W9 (Or.inl (List.mem_of_getElem? (i := 0) rfl))
  show Goes p ee below s _ _ _ (T9.setTop (mkF m 51 #[.val (.ref a1), .val (.ref a2), .val (.int (0 : Int32)), .val (.int (Int32.ofNat n)), .val .null, .val (.ref b3)] []))
  refine Goes.step (fun _ hr_ => XS.aloadN X9.here hx rfl (hb hby d_jdk_42_method_149_code_51) rfl rfl hr_) ?_
  show Goes p ee below s _ _ _ (T9.setTop (mkF m 52 #[.val (.ref a1), .val (.ref a2), .val (.int (0 : Int32)), .val (.int (Int32.ofNat n)), .val .null, .val (.ref b3)] [(.ref a1)]))
  refine Goes.step (fun _ hr_ => XS.aload X9.here hx rfl (hb hby d_jdk_42_method_149_code_52) rfl rfl hr_) ?_
  show Goes p ee below s _ _ _ (T9.setTop (mkF m 54 #[.val (.ref a1), .val (.ref a2), .val (.int (0 : Int32)), .val (.int (Int32.ofNat n)), .val .null, .val (.ref b3)] [(.ref b3), (.ref a1)]))
  obtain ⟨T13, h13, X13, e13, W13, st13⟩ := putF X9 hx hZ hown (host := "") (Or.inl (hw _ (List.mem_of_getElem? (i := 28) rfl))) Via.refl e9 FV E (Or.inr ⟨(hw _ (List.mem_of_getElem? (i := 24) rfl)), rfl, hnm⟩) (hw _ (List.mem_of_getElem? (i := 10) rfl)) (ty := (.array .byte)) (by decide) rfl rfl (g := (mkF m 54 #[.val (.ref a1), .val (.ref a2), .val (.int (0 : Int32)), .val (.int (Int32.ofNat n)), .val .null, .val (.ref b3)] [(.ref b3), (.ref a1)])) rfl rfl (hb hby d_jdk_42_method_149_code_54)
  refine Goes.step st13 ?_
  have E := E.wr W13
  have FC := FC.other W13 (Or.inr (slot_ne (Or.inr (hw _ (List.mem_of_getElem? (i := 25) rfl))) (Or.inr (hw _ (List.mem_of_getElem? (i := 24) rfl))) (by decide) (t := .byte) (t' := (.array .byte)) (by decide) (by decide)))
  have A := A.other W13 (Ne.symm ne12)
  have A_b3 := A_b3.other W13 (Ne.symm ne_a1_b3)
  have Zp14 := Nat.le_trans Zp10 (Keep.of_wr W13).1
  have FV := FV.same W13
  have N15 := Fr.snoc X13 N11 ge_a1
  have OO := OO.wr W13 ge_a1
  have K16 := K12.wr W13 (Or.inl (List.mem_of_getElem? (i := 0) rfl))
  show Goes p ee below s _ _ _ (T13.setTop (mkF m 57 #[.val (.ref a1), .val (.ref a2), .val (.int (0 : Int32)), .val (.int (Int32.ofNat n)), .val .null, .val (.ref b3)] []))
  refine Goes.retV X13 hx Bd.notSynchronized Bd.returns (hb hby d_jdk_42_method_149_code_57) (by decide) (by decide) ?_
  rw [e13]
  exact ⟨rfl, N15, K16, b3, u, sz_b3, E, FV, FC, A_b3, hlu, hlu2⟩
theorem ef_sin1 (m : MethodId) (x0 : Addr) (x1 : Addr) : entryFrame m #[(.ref x0), (.ref x1)] 2 = mkF m 0 #[.val (.ref x0), .val (.ref x1)] [] := by first | (simp [entryFrame, mkF, argsToLocals, Value.category]; done) | rfl
theorem d_jdk_42_method_3_code_0 : decode jdk_42_method_3_code 0 = .ok (.aload_n 0, 1) := by decide +kernel
theorem d_jdk_42_method_3_code_1 : decode jdk_42_method_3_code 1 = .ok (.aload_n 1, 1) := by decide +kernel
theorem d_jdk_42_method_3_code_2 : decode jdk_42_method_3_code 2 = .ok (.iconst 0, 1) := by decide +kernel
theorem d_jdk_42_method_3_code_3 : decode jdk_42_method_3_code 3 = .ok (.aload_n 1, 1) := by decide +kernel
theorem d_jdk_42_method_3_code_4 : decode jdk_42_method_3_code 4 = .ok (.arraylength, 1) := by decide +kernel
theorem d_jdk_42_method_3_code_5 : decode jdk_42_method_3_code 5 = .ok (.aconst_null, 1) := by decide +kernel
theorem pd_13 : parseMethodDescriptor "([CIILjava/lang/Void;)V" = some ⟨[(.array .char), .int, .int, (.object "java/lang/Void")], none⟩ := by decide +kernel
theorem d_jdk_42_method_3_code_6 : decode jdk_42_method_3_code 6 = .ok (.invokespecial 27, 3) := by decide +kernel
theorem d_jdk_42_method_3_code_9 : decode jdk_42_method_3_code 9 = .ok (.return_, 1) := by decide +kernel
def Q_sin1 (Z : State) (cs : Int32) (fm : Value) (a1 a2 : Addr) (n : Nat) (c : Nat → Nat) (uv uc : Value) (h0 : Heap) (n0 : Nat) (v : Option Value) (h : Heap) (L : List Loc) : Prop := v = none ∧ Fr n0 L ∧ Keep h0 h [a1] ∧ ∃ (b : Addr) (u : Bool), h0.size ≤ b ∧ Exa Z h a1 "java/lang/String" ∧ Fld Z h a1 "java/lang/String" "value" "[B" (.ref b) ∧ Fld Z h a1 "java/lang/String" "coder" "B" (.int (own_cd u)) ∧ OA Z h b .byte (own_len u n) (own_by u c) ∧ (u = false → ∀ j, j < n → c j < 256) ∧ (u = true → ∃ j, j < n ∧ 255 < c j)
set_option maxRecDepth 65536 in
set_option maxHeartbeats 40000000 in
theorem rm_sin1 (l : Launch) (Z : State) (a0 : Array Value) (hw : ∀ d ∈ tables_1, d.before a0 Z = true) (ws : List Jvm.Cond) (cs : Int32) (fm : Value) (a1 a2 : Addr) (n : Nat) (c : Nat → Nat) (uv uc : Value) (h0 : Heap) (n0 : Nat) (Z0 : n0 ≤ h0.size) (ST : own_ST Z cs fm) (OO : Old Z n0 h0) (hn0 : 0 < n) (hn : n ≤ 6) (hc : ∀ j, j < n → c j < 65536) (ge_a1 : n0 ≤ a1) (ne12 : a1 ≠ a2) (E : Exa Z h0 a1 "java/lang/String") (FV : Fld Z h0 a1 "java/lang/String" "value" "[B" uv) (FC : Fld Z h0 a1 "java/lang/String" "coder" "B" uc) (A : OA Z h0 a2 .char n (fun i => .int (Int32.ofNat (c i)))) :
    MetFree l (⟨"java/lang/String", "<init>", "([C)V"⟩ : MethodName) (head1 (Jvm.Cond.code (⟨"java/lang/String", "<init>", "([C)V"⟩ : MethodName) jdk_42_method_3_code 2 none :: ws) ({ frames := 5, cells := 2, slots := 18, locals := 74 } : Room)) (fun a U => a = #[(.ref a1), (.ref a2)] ∧ Z.Warmed39 U.vm ∧ U.heap = h0) (fun _ _ _ _ _ => True) (fun _ U o U' => ∃ v L, o = .returned v ∧ Q_sin1 Z cs fm a1 a2 n c uv uc h0 n0 v U'.heap L ∧ FrameEnd U o U' L ({ frames := 5, cells := 2, slots := 18, locals := 74 } : Room).cells ({ frames := 5, cells := 2, slots := 18, locals := 74 } : Room).slots) := by
  refine MetFree.of_bodySF (plainFor_of_name pn_java_lang_String) hisR ?_
  intro p ee s m args below meth cc s₁ Bd hml0 hP hK
  obtain ⟨rfl, hZ, hh⟩ := hP
  have hx := Bd.exec
  have hby := Bd.bytes
  have hml : cc.maxLocals = 2 := hml0
  have hown : s.vm.findClass "java/lang/String" = some m.cls := findClass_of_methodNamed Bd.named
  have hnm := (name_of_methodNamed Bd.named Bd.method).1
  have X0 : Stand p l ee ({ frames := 5, cells := 2, slots := 18, locals := 74 } : Room) s m #[(.ref a1), (.ref a2)] below meth cc s₁ [] 0 0 := Stand.of_body Bd
  have e0 : s₁.heap = h0 := by rw [← hh, Bd.state]; rfl
  have N0 := Fr.nil n0
  show Goes p ee below s ({ frames := 5, cells := 2, slots := 18, locals := 74 } : Room).cells ({ frames := 5, cells := 2, slots := 18, locals := 74 } : Room).slots (Q_sin1 Z cs fm a1 a2 n c uv uc h0 n0) (s₁.setTop (entryFrame m #[(.ref a1), (.ref a2)] 2))
  refine Goes.step (fun _ hr_ => castTop (ef_sin1 m a1 a2) hr_) ?_
  show Goes p ee below s _ _ _ (s₁.setTop (mkF m 0 #[.val (.ref a1), .val (.ref a2)] []))
  have K0 := Keep.refl h0 ([a1] : List Addr)
  refine Goes.step (fun _ hr_ => XS.aloadN X0.here hx rfl (hb hby d_jdk_42_method_3_code_0) rfl rfl hr_) ?_
  show Goes p ee below s _ _ _ (s₁.setTop (mkF m 1 #[.val (.ref a1), .val (.ref a2)] [(.ref a1)]))
  refine Goes.step (fun _ hr_ => XS.aloadN X0.here hx rfl (hb hby d_jdk_42_method_3_code_1) rfl rfl hr_) ?_
  show Goes p ee below s _ _ _ (s₁.setTop (mkF m 2 #[.val (.ref a1), .val (.ref a2)] [(.ref a2), (.ref a1)]))
  refine Goes.step (fun _ hr_ => XS.iconst X0.here hx rfl (hb hby d_jdk_42_method_3_code_2) hr_) ?_
  show Goes p ee below s _ _ _ (s₁.setTop (mkF m 3 #[.val (.ref a1), .val (.ref a2)] [(.int (0 : Int32)), (.ref a2), (.ref a1)]))
  refine Goes.step (fun _ hr_ => XS.aloadN X0.here hx rfl (hb hby d_jdk_42_method_3_code_3) rfl rfl hr_) ?_
  show Goes p ee below s _ _ _ (s₁.setTop (mkF m 4 #[.val (.ref a1), .val (.ref a2)] [(.ref a2), (.int (0 : Int32)), (.ref a2), (.ref a1)]))
  refine Goes.step (own_alen X0 hx hZ e0 A (z := (Int32.ofNat n)) rfl (g := (mkF m 4 #[.val (.ref a1), .val (.ref a2)] [(.ref a2), (.int (0 : Int32)), (.ref a2), (.ref a1)])) rfl rfl (hb hby d_jdk_42_method_3_code_4)) ?_
  show Goes p ee below s _ _ _ (s₁.setTop (mkF m 5 #[.val (.ref a1), .val (.ref a2)] [(.int (Int32.ofNat n)), (.int (0 : Int32)), (.ref a2), (.ref a1)]))
  refine Goes.step (fun _ hr_ => XS.aconstNull X0.here hx rfl (hb hby d_jdk_42_method_3_code_5) hr_) ?_
  show Goes p ee below s _ _ _ (s₁.setTop (mkF m 6 #[.val (.ref a1), .val (.ref a2)] [.null, (.int (Int32.ofNat n)), (.int (0 : Int32)), (.ref a2), (.ref a1)]))
  have lt_a1 := E.lt
  have lt_a2 := A.lt
  obtain ⟨v1, T1, L1, X1, hQ1, st1⟩ := own_callN X0 hx hZ (y := (⟨"java/lang/String", "<init>", "([CIILjava/lang/Void;)V"⟩ : MethodName)) rfl hown (hw _ (List.mem_of_getElem? (i := 15) rfl)) (hw _ (List.mem_of_getElem? (i := 16) rfl)) (hw _ (List.mem_of_getElem? (i := 11) rfl)) (hw _ (List.mem_of_getElem? (i := 18) rfl)) (by decide) (a := a1) (argsL := [(.ref a2), (.int (0 : Int32)), (.int (Int32.ofNat n)), .null]) (rm_sin5 l Z a0 hw [] cs fm a1 a2 n c uv uc h0 n0 Z0 ST OO hn0 hn hc ge_a1 ne12 E FV FC A) e0 (W := 0) (by decide) (by decide) (by decide) (by decide) (g := (mkF m 6 #[.val (.ref a1), .val (.ref a2)] [.null, (.int (Int32.ofNat n)), (.int (0 : Int32)), (.ref a2), (.ref a1)])) rfl (by rw [hml]; rfl) (rest := []) (lenOf pd_13 rfl) rfl (by show 2 * 0 + _ ≤ _; exact Nat.le_of_eq rfl) (hb hby d_jdk_42_method_3_code_6)
  refine Goes.step st1 ?_
  obtain ⟨rfl, N1, Kc1, b1, u, sz1, Ei1, Fv1, Fc1, A_b1, hlu, hlu2⟩ := hQ1
  have N2 := Fr.app N0 N1
  obtain ⟨h1, e1⟩ : ∃ h', T1.heap = h' := ⟨_, rfl⟩
  rw [e1] at Kc1 Ei1 Fv1 Fc1 A_b1
  have A := A.keep Kc1 (ninS (Ne.symm ne12) nin0)
  have OO := OO.keep Kc1 (allS ge_a1 all0)
  have K3 := K0.trans Kc1 (allS (Or.inl (List.mem_of_getElem? (i := 0) rfl)) all0)
  have Zp4 := Nat.le_trans Z0 Kc1.1
  have ge_b1 : n0 ≤ b1 := Nat.le_trans Z0 sz1
  have sz_b1 : h0.size ≤ b1 := Nat.le_trans K0.1 sz1
  have ne_a1_b1 : a1 ≠ b1 := Nat.ne_of_lt (Nat.lt_of_lt_of_le lt_a1 sz1)
  have ne_a2_b1 : a2 ≠ b1 := Nat.ne_of_lt (Nat.lt_of_lt_of_le lt_a2 sz1)
  show Goes p ee below s _ _ _ (T1.setTop (mkF m 9 #[.val (.ref a1), .val (.ref a2)] []))
  refine Goes.retV X1 hx Bd.notSynchronized Bd.returns (hb hby d_jdk_42_method_3_code_9) (by decide) (by decide) ?_
  rw [e1]
  exact ⟨rfl, N2, K3, b1, u, sz_b1, Ei1, Fv1, Fc1, A_b1, hlu, hlu2⟩
theorem ef_sin5w (m : MethodId) (x0 : Addr) (x1 : Addr) (x2 : Int32) (x3 : Int32) : entryFrame m #[(.ref x0), (.ref x1), (.int x2), (.int x3), .null] 6 = mkF m 0 #[.val (.ref x0), .val (.ref x1), .val (.int x2), .val (.int x3), .val .null, .unset] [] := by first | (simp [entryFrame, mkF, argsToLocals, Value.category]; done) | rfl
theorem d_jdk_42_method_149_code_8 : decode jdk_42_method_149_code 8 = .ok (.aload_n 0, 1) := by decide +kernel
theorem d_jdk_42_method_149_code_9 : decode jdk_42_method_149_code 9 = .ok (.ldc 7, 2) := by decide +kernel
theorem d_jdk_42_method_149_code_11 : decode jdk_42_method_149_code 11 = .ok (.getfield 9, 3) := by decide +kernel
theorem d_jdk_42_method_149_code_14 : decode jdk_42_method_149_code 14 = .ok (.putfield 9, 3) := by decide +kernel
theorem d_jdk_42_method_149_code_17 : decode jdk_42_method_149_code 17 = .ok (.aload_n 0, 1) := by decide +kernel
theorem d_jdk_42_method_149_code_18 : decode jdk_42_method_149_code 18 = .ok (.ldc 7, 2) := by decide +kernel
theorem d_jdk_42_method_149_code_20 : decode jdk_42_method_149_code 20 = .ok (.getfield 15, 3) := by decide +kernel
theorem d_jdk_42_method_149_code_23 : decode jdk_42_method_149_code 23 = .ok (.putfield 15, 3) := by decide +kernel
theorem d_jdk_42_method_149_code_26 : decode jdk_42_method_149_code 26 = .ok (.return_, 1) := by decide +kernel
def Q_sin5w (Z : State) (cs : Int32) (fm : Value) (a1 a2 : Addr) (uv uc : Value) (h0 : Heap) (n0 : Nat) (v : Option Value) (h : Heap) (L : List Loc) : Prop := v = none ∧ Fr n0 L ∧ Keep h0 h [a1] ∧ ∃ b : Addr, Exa Z h a1 "java/lang/String" ∧ Fld Z h a1 "java/lang/String" "value" "[B" (.ref b) ∧ Fld Z h a1 "java/lang/String" "coder" "B" (.int (own_cd false)) ∧ ∀ c, OA Z h b .byte (own_len false 0) (own_by false c)
set_option maxRecDepth 65536 in
set_option maxHeartbeats 40000000 in
theorem rm_sin5w (l : Launch) (Z : State) (a0 : Array Value) (hw : ∀ d ∈ tables_1, d.before a0 Z = true) (ws : List Jvm.Cond) (cs : Int32) (fm : Value) (a1 a2 : Addr) (uv uc : Value) (h0 : Heap) (n0 : Nat) (Z0 : n0 ≤ h0.size) (ST : own_ST Z cs fm) (OO : Old Z n0 h0) (ge_a1 : n0 ≤ a1) (E : Exa Z h0 a1 "java/lang/String") (FV : Fld Z h0 a1 "java/lang/String" "value" "[B" uv) (FC : Fld Z h0 a1 "java/lang/String" "coder" "B" uc) :
    MetFree l (⟨"java/lang/String", "<init>", "([CIILjava/lang/Void;)V"⟩ : MethodName) (head1 (Jvm.Cond.code (⟨"java/lang/String", "<init>", "([CIILjava/lang/Void;)V"⟩ : MethodName) jdk_42_method_149_code 6 none :: ws) ({ frames := 1, cells := 2, slots := 4, locals := 12 } : Room)) (fun a U => a = #[(.ref a1), (.ref a2), (.int (0 : Int32)), (.int (0 : Int32)), .null] ∧ Z.Warmed39 U.vm ∧ U.heap = h0 ∧ CHv Z consts_1 U.vm h0 ∧ ∀ x ∈ ([a1] : List Addr), Safe Z consts_1 U.vm h0 x) (fun _ _ _ _ _ => True) (fun _ U o U' => ∃ v L, o = .returned v ∧ Q_sin5w Z cs fm a1 a2 uv uc h0 n0 v U'.heap L ∧ CHr Z consts_1 U.vm U.heap U'.vm U'.heap ∧ ReturnedEndW U o U' L ({ frames := 1, cells := 2, slots := 4, locals := 12 } : Room).cells ({ frames := 1, cells := 2, slots := 4, locals := 12 } : Room).slots) := by
  refine MetFree.of_bodySF (plainFor_of_name pn_java_lang_String) hisR ?_
  intro p ee s m args below meth cc s₁ Bd hml0 hP hK
  obtain ⟨rfl, hZ, hh, H, hsf⟩ := hP
  have hx := Bd.exec
  have hby := Bd.bytes
  have hml : cc.maxLocals = 6 := hml0
  have hown : (s.setVm s.vm).vm.findClass "java/lang/String" = some m.cls := findClass_of_methodNamed Bd.named
  have hnm := (name_of_methodNamed Bd.named Bd.method).1
  have X0 : Stand p l ee ({ frames := 1, cells := 2, slots := 4, locals := 12 } : Room) (s.setVm s.vm) m #[(.ref a1), (.ref a2), (.int (0 : Int32)), (.int (0 : Int32)), .null] below meth cc s₁ [] 0 0 := Stand.of_body Bd
  have e0 : s₁.heap = h0 := by rw [← hh, Bd.state]; rfl
  have N0 := Fr.nil n0
  have hEL := own_EW hw
  have hZ : Z.Warmed39 (s.setVm s.vm).vm := hZ
  have C : Cold Z consts_1 s s.vm h0 := by rw [← hh]; exact Cold.start (by rw [hh]; exact H)
  have sf_a1 := hsf a1 (List.mem_of_getElem? (i := 0) rfl)
  show GoesW p ee below s ({ frames := 1, cells := 2, slots := 4, locals := 12 } : Room).cells ({ frames := 1, cells := 2, slots := 4, locals := 12 } : Room).slots Z consts_1 (Q_sin5w Z cs fm a1 a2 uv uc h0 n0) (s₁.setTop (entryFrame m #[(.ref a1), (.ref a2), (.int (0 : Int32)), (.int (0 : Int32)), .null] 6))
  refine GoesW.step (fun _ hr_ => castTop (ef_sin5w m a1 a2 (0 : Int32) (0 : Int32)) hr_) ?_
  show GoesW p ee below s _ _ _ _ _ (s₁.setTop (mkF m 0 #[.val (.ref a1), .val (.ref a2), .val (.int (0 : Int32)), .val (.int (0 : Int32)), .val .null, .unset] []))
  have K0 := Keep.refl h0 ([a1] : List Addr)
  refine GoesW.step (fun _ hr_ => XS.aloadN X0.here hx rfl (hb hby d_jdk_42_method_149_code_0) rfl rfl hr_) ?_
  show GoesW p ee below s _ _ _ _ _ (s₁.setTop (mkF m 1 #[.val (.ref a1), .val (.ref a2), .val (.int (0 : Int32)), .val (.int (0 : Int32)), .val .null, .unset] [(.ref a1)]))
  obtain ⟨T1, X1, e1, st1⟩ := initO X0 hx hZ hown (hw _ (List.mem_of_getElem? (i := 19) rfl)) (hw _ (List.mem_of_getElem? (i := 20) rfl)) (hw _ (List.mem_of_getElem? (i := 21) rfl)) e0 (g := (mkF m 1 #[.val (.ref a1), .val (.ref a2), .val (.int (0 : Int32)), .val (.int (0 : Int32)), .val .null, .unset] [(.ref a1)])) rfl (by rw [hml]; rfl) rfl (hb hby d_jdk_42_method_149_code_1) (by decide) (W := 0) (by show 2 * 0 + _ ≤ _; exact Nat.le_of_eq rfl) (by decide)
  refine GoesW.step st1 ?_
  show GoesW p ee below s _ _ _ _ _ (T1.setTop (mkF m 4 #[.val (.ref a1), .val (.ref a2), .val (.int (0 : Int32)), .val (.int (0 : Int32)), .val .null, .unset] []))
  refine GoesW.step (fun _ hr_ => XS.iloadN X1.here hx rfl (hb hby d_jdk_42_method_149_code_4) rfl  hr_) ?_
  show GoesW p ee below s _ _ _ _ _ (T1.setTop (mkF m 5 #[.val (.ref a1), .val (.ref a2), .val (.int (0 : Int32)), .val (.int (0 : Int32)), .val .null, .unset] [(.int (0 : Int32))]))
  refine GoesW.step (fun _ hr_ => XS.ifNo X1.here hx rfl (hb hby d_jdk_42_method_149_code_5) rfl ((if0 _ _).trans (teq rfl).2) hr_) ?_
  show GoesW p ee below s _ _ _ _ _ (T1.setTop (mkF m 8 #[.val (.ref a1), .val (.ref a2), .val (.int (0 : Int32)), .val (.int (0 : Int32)), .val .null, .unset] []))
  refine GoesW.step (fun _ hr_ => XS.aloadN X1.here hx rfl (hb hby d_jdk_42_method_149_code_8) rfl rfl hr_) ?_
  show GoesW p ee below s _ _ _ _ _ (T1.setTop (mkF m 9 #[.val (.ref a1), .val (.ref a2), .val (.int (0 : Int32)), .val (.int (0 : Int32)), .val .null, .unset] [(.ref a1)]))
  have lt_a1 := E.lt
  obtain ⟨la2, lb2, vm2, T2, h2, ⟨X2, Cn2, hZ, hown, hsaf2⟩, e2, E2, Ei2, Fv2, Fc2, A_lb2, Lit2, hlit2, st2⟩ := own_ldcW X1 hx hZ hEL C hown (hw _ (List.mem_of_getElem? (i := 22) rfl)) (own_wS hw) e1 (List.mem_of_getElem? (i := 0) rfl) (vs := []) (k := 0) ⟨by decide, by decide⟩ rfl (by decide) (g := (mkF m 9 #[.val (.ref a1), .val (.ref a2), .val (.int (0 : Int32)), .val (.int (0 : Int32)), .val .null, .unset] [(.ref a1)])) rfl (hb hby d_jdk_42_method_149_code_9) (n := 0) (by decide) (by decide) (by decide) (by decide)
  refine GoesW.step st2 ?_
  rw [e2] at Cn2 hsaf2
  have sf_a1 := hsaf2 a1 lt_a1 sf_a1
  have C := Cn2
  have E := E.ext E2
  have FV := FV.ext E2
  have FC := FC.ext E2
  have Zp3 := Nat.le_trans Z0 E2.1
  have OO := OO.ext E2
  have K4 := K0.ext E2
  have ne_a1_la2 := (hlit2 a1 sf_a1).1
  have ne_a1_lb2 := (hlit2 a1 sf_a1).2
  show GoesW p ee below s _ _ _ _ _ (T2.setTop (mkF m 11 #[.val (.ref a1), .val (.ref a2), .val (.int (0 : Int32)), .val (.int (0 : Int32)), .val .null, .unset] [(.ref la2), (.ref a1)]))
  obtain ⟨T5, X5, e5, st5⟩ := getF X2 hx hZ hown (host := "") (Or.inl (hw _ (List.mem_of_getElem? (i := 28) rfl))) Via.refl e2 Fv2 (g := (mkF m 11 #[.val (.ref a1), .val (.ref a2), .val (.int (0 : Int32)), .val (.int (0 : Int32)), .val .null, .unset] [(.ref la2), (.ref a1)])) rfl rfl (hb hby d_jdk_42_method_149_code_11)
  refine GoesW.step st5 ?_
  show GoesW p ee below s _ _ _ _ _ (T5.setTop (mkF m 14 #[.val (.ref a1), .val (.ref a2), .val (.int (0 : Int32)), .val (.int (0 : Int32)), .val .null, .unset] [(.ref lb2), (.ref a1)]))
  obtain ⟨T6, h6, X6, e6, W6, st6⟩ := putF X5 hx hZ hown (host := "") (Or.inl (hw _ (List.mem_of_getElem? (i := 28) rfl))) Via.refl e5 FV E (Or.inr ⟨(hw _ (List.mem_of_getElem? (i := 24) rfl)), rfl, hnm⟩) (hw _ (List.mem_of_getElem? (i := 10) rfl)) (ty := (.array .byte)) (by decide) rfl rfl (g := (mkF m 14 #[.val (.ref a1), .val (.ref a2), .val (.int (0 : Int32)), .val (.int (0 : Int32)), .val .null, .unset] [(.ref lb2), (.ref a1)])) rfl rfl (hb hby d_jdk_42_method_149_code_14)
  refine GoesW.step st6 ?_
  have E := E.wr W6
  have FC := FC.other W6 (Or.inr (slot_ne (Or.inr (hw _ (List.mem_of_getElem? (i := 25) rfl))) (Or.inr (hw _ (List.mem_of_getElem? (i := 24) rfl))) (by decide) (t := .byte) (t' := (.array .byte)) (by decide) (by decide)))
  have Ei2 := Ei2.wr W6
  have Fv2 := Fv2.other W6 (Or.inl (Ne.symm ne_a1_la2))
  have Fc2 := Fc2.other W6 (Or.inl (Ne.symm ne_a1_la2))
  have A_lb2 := A_lb2.other W6 (Ne.symm ne_a1_lb2)
  have Zp7 := Nat.le_trans Zp3 (Keep.of_wr W6).1
  have FV := FV.same W6
  have N8 := Fr.snoc X6 N0 ge_a1
  have sfw := sf_a1
  have sf_a1 := Safe.wr W6 sfw C.chv sf_a1
  have C := C.wr W6 sfw
  have OO := OO.wr W6 ge_a1
  have K9 := K4.wr W6 (Or.inl (List.mem_of_getElem? (i := 0) rfl))
  show GoesW p ee below s _ _ _ _ _ (T6.setTop (mkF m 17 #[.val (.ref a1), .val (.ref a2), .val (.int (0 : Int32)), .val (.int (0 : Int32)), .val .null, .unset] []))
  refine GoesW.step (fun _ hr_ => XS.aloadN X6.here hx rfl (hb hby d_jdk_42_method_149_code_17) rfl rfl hr_) ?_
  show GoesW p ee below s _ _ _ _ _ (T6.setTop (mkF m 18 #[.val (.ref a1), .val (.ref a2), .val (.int (0 : Int32)), .val (.int (0 : Int32)), .val .null, .unset] [(.ref a1)]))
  refine GoesW.step (own_ldcAgainW X6 hx hZ hown (hw _ (List.mem_of_getElem? (i := 22) rfl)) Lit2 (g := (mkF m 18 #[.val (.ref a1), .val (.ref a2), .val (.int (0 : Int32)), .val (.int (0 : Int32)), .val .null, .unset] [(.ref a1)])) rfl (hb hby d_jdk_42_method_149_code_18)) ?_
  show GoesW p ee below s _ _ _ _ _ (T6.setTop (mkF m 20 #[.val (.ref a1), .val (.ref a2), .val (.int (0 : Int32)), .val (.int (0 : Int32)), .val .null, .unset] [(.ref la2), (.ref a1)]))
  obtain ⟨T11, X11, e11, st11⟩ := getF X6 hx hZ hown (host := "") (Or.inl (hw _ (List.mem_of_getElem? (i := 29) rfl))) Via.refl e6 Fc2 (g := (mkF m 20 #[.val (.ref a1), .val (.ref a2), .val (.int (0 : Int32)), .val (.int (0 : Int32)), .val .null, .unset] [(.ref la2), (.ref a1)])) rfl rfl (hb hby d_jdk_42_method_149_code_20)
  refine GoesW.step st11 ?_
  show GoesW p ee below s _ _ _ _ _ (T11.setTop (mkF m 23 #[.val (.ref a1), .val (.ref a2), .val (.int (0 : Int32)), .val (.int (0 : Int32)), .val .null, .unset] [(.int (0 : Int32)), (.ref a1)]))
  obtain ⟨T12, h12, X12, e12, W12, st12⟩ := putFN X11 hx hZ hown (hw _ (List.mem_of_getElem? (i := 29) rfl)) Via.refl e11 FC E (Or.inr ⟨(hw _ (List.mem_of_getElem? (i := 25) rfl)), rfl, hnm⟩) (hw _ (List.mem_of_getElem? (i := 10) rfl)) (ty := .byte) (v' := (.int (0 : Int32))) (by decide) rfl rfl (g := (mkF m 23 #[.val (.ref a1), .val (.ref a2), .val (.int (0 : Int32)), .val (.int (0 : Int32)), .val .null, .unset] [(.int (0 : Int32)), (.ref a1)])) rfl rfl (hb hby d_jdk_42_method_149_code_23)
  refine GoesW.step st12 ?_
  have E := E.wr W12
  have FV := FV.other W12 (Or.inr (slot_ne (Or.inr (hw _ (List.mem_of_getElem? (i := 24) rfl))) (Or.inr (hw _ (List.mem_of_getElem? (i := 25) rfl))) (by decide) (t := (.array .byte)) (t' := .byte) (by decide) (by decide)))
  have Ei2 := Ei2.wr W12
  have Fv2 := Fv2.other W12 (Or.inl (Ne.symm ne_a1_la2))
  have Fc2 := Fc2.other W12 (Or.inl (Ne.symm ne_a1_la2))
  have A_lb2 := A_lb2.other W12 (Ne.symm ne_a1_lb2)
  have Zp13 := Nat.le_trans Zp7 (Keep.of_wr W12).1
  have FC := FC.same W12
  have N14 := Fr.snoc X12 N8 ge_a1
  have sfw := sf_a1
  have sf_a1 := Safe.wr W12 sfw C.chv sf_a1
  have C := C.wr W12 sfw
  have OO := OO.wr W12 ge_a1
  have K15 := K9.wr W12 (Or.inl (List.mem_of_getElem? (i := 0) rfl))
  show GoesW p ee below s _ _ _ _ _ (T12.setTop (mkF m 26 #[.val (.ref a1), .val (.ref a2), .val (.int (0 : Int32)), .val (.int (0 : Int32)), .val .null, .unset] []))
  refine GoesW.retV X12 hx hZ hEL C e12 Bd.notSynchronized Bd.returns (hb hby d_jdk_42_method_149_code_26) (by decide) (by decide) ?_
  rw [e12]
  exact ⟨rfl, N14, K15, lb2, E, FV, FC, fun c => A_lb2.congr (fun j hj => absurd hj (Nat.not_lt_zero j))⟩
theorem ef_sin1w (m : MethodId) (x0 : Addr) (x1 : Addr) : entryFrame m #[(.ref x0), (.ref x1)] 2 = mkF m 0 #[.val (.ref x0), .val (.ref x1)] [] := by first | (simp [entryFrame, mkF, argsToLocals, Value.category]; done) | rfl
def Q_sin1w (Z : State) (cs : Int32) (fm : Value) (a1 a2 : Addr) (uv uc : Value) (f : Nat → Value) (h0 : Heap) (n0 : Nat) (v : Option Value) (h : Heap) (L : List Loc) : Prop := v = none ∧ Fr n0 L ∧ Keep h0 h [a1] ∧ ∃ b : Addr, Exa Z h a1 "java/lang/String" ∧ Fld Z h a1 "java/lang/String" "value" "[B" (.ref b) ∧ Fld Z h a1 "java/lang/String" "coder" "B" (.int (own_cd false)) ∧ ∀ c, OA Z h b .byte (own_len false 0) (own_by false c)
set_option maxRecDepth 65536 in
set_option maxHeartbeats 40000000 in
theorem rm_sin1w (l : Launch) (Z : State) (a0 : Array Value) (hw : ∀ d ∈ tables_1, d.before a0 Z = true) (ws : List Jvm.Cond) (cs : Int32) (fm : Value) (a1 a2 : Addr) (uv uc : Value) (f : Nat → Value) (h0 : Heap) (n0 : Nat) (Z0 : n0 ≤ h0.size) (ST : own_ST Z cs fm) (OO : Old Z n0 h0) (ge_a1 : n0 ≤ a1) (ne12 : a1 ≠ a2) (E : Exa Z h0 a1 "java/lang/String") (FV : Fld Z h0 a1 "java/lang/String" "value" "[B" uv) (FC : Fld Z h0 a1 "java/lang/String" "coder" "B" uc) (A : OA Z h0 a2 .char 0 f) :
    MetFree l (⟨"java/lang/String", "<init>", "([C)V"⟩ : MethodName) (head1 (Jvm.Cond.code (⟨"java/lang/String", "<init>", "([C)V"⟩ : MethodName) jdk_42_method_3_code 2 none :: ws) ({ frames := 2, cells := 2, slots := 4, locals := 29 } : Room)) (fun a U => a = #[(.ref a1), (.ref a2)] ∧ Z.Warmed39 U.vm ∧ U.heap = h0 ∧ CHv Z consts_1 U.vm h0 ∧ ∀ x ∈ ([a1] : List Addr), Safe Z consts_1 U.vm h0 x) (fun _ _ _ _ _ => True) (fun _ U o U' => ∃ v L, o = .returned v ∧ Q_sin1w Z cs fm a1 a2 uv uc f h0 n0 v U'.heap L ∧ CHr Z consts_1 U.vm U.heap U'.vm U'.heap ∧ ReturnedEndW U o U' L ({ frames := 2, cells := 2, slots := 4, locals := 29 } : Room).cells ({ frames := 2, cells := 2, slots := 4, locals := 29 } : Room).slots) := by
  refine MetFree.of_bodySF (plainFor_of_name pn_java_lang_String) hisR ?_
  intro p ee s m args below meth cc s₁ Bd hml0 hP hK
  obtain ⟨rfl, hZ, hh, H, hsf⟩ := hP
  have hx := Bd.exec
  have hby := Bd.bytes
  have hml : cc.maxLocals = 2 := hml0
  have hown : (s.setVm s.vm).vm.findClass "java/lang/String" = some m.cls := findClass_of_methodNamed Bd.named
  have hnm := (name_of_methodNamed Bd.named Bd.method).1
  have X0 : Stand p l ee ({ frames := 2, cells := 2, slots := 4, locals := 29 } : Room) (s.setVm s.vm) m #[(.ref a1), (.ref a2)] below meth cc s₁ [] 0 0 := Stand.of_body Bd
  have e0 : s₁.heap = h0 := by rw [← hh, Bd.state]; rfl
  have N0 := Fr.nil n0
  have hEL := own_EW hw
  have hZ : Z.Warmed39 (s.setVm s.vm).vm := hZ
  have C : Cold Z consts_1 s s.vm h0 := by rw [← hh]; exact Cold.start (by rw [hh]; exact H)
  have sf_a1 := hsf a1 (List.mem_of_getElem? (i := 0) rfl)
  show GoesW p ee below s ({ frames := 2, cells := 2, slots := 4, locals := 29 } : Room).cells ({ frames := 2, cells := 2, slots := 4, locals := 29 } : Room).slots Z consts_1 (Q_sin1w Z cs fm a1 a2 uv uc f h0 n0) (s₁.setTop (entryFrame m #[(.ref a1), (.ref a2)] 2))
  refine GoesW.step (fun _ hr_ => castTop (ef_sin1w m a1 a2) hr_) ?_
  show GoesW p ee below s _ _ _ _ _ (s₁.setTop (mkF m 0 #[.val (.ref a1), .val (.ref a2)] []))
  have K0 := Keep.refl h0 ([a1] : List Addr)
  refine GoesW.step (fun _ hr_ => XS.aloadN X0.here hx rfl (hb hby d_jdk_42_method_3_code_0) rfl rfl hr_) ?_
  show GoesW p ee below s _ _ _ _ _ (s₁.setTop (mkF m 1 #[.val (.ref a1), .val (.ref a2)] [(.ref a1)]))
  refine GoesW.step (fun _ hr_ => XS.aloadN X0.here hx rfl (hb hby d_jdk_42_method_3_code_1) rfl rfl hr_) ?_
  show GoesW p ee below s _ _ _ _ _ (s₁.setTop (mkF m 2 #[.val (.ref a1), .val (.ref a2)] [(.ref a2), (.ref a1)]))
  refine GoesW.step (fun _ hr_ => XS.iconst X0.here hx rfl (hb hby d_jdk_42_method_3_code_2) hr_) ?_
  show GoesW p ee below s _ _ _ _ _ (s₁.setTop (mkF m 3 #[.val (.ref a1), .val (.ref a2)] [(.int (0 : Int32)), (.ref a2), (.ref a1)]))
  refine GoesW.step (fun _ hr_ => XS.aloadN X0.here hx rfl (hb hby d_jdk_42_method_3_code_3) rfl rfl hr_) ?_
  show GoesW p ee below s _ _ _ _ _ (s₁.setTop (mkF m 4 #[.val (.ref a1), .val (.ref a2)] [(.ref a2), (.int (0 : Int32)), (.ref a2), (.ref a1)]))
  refine GoesW.step (own_alen X0 hx hZ e0 A (z := (0 : Int32)) rfl (g := (mkF m 4 #[.val (.ref a1), .val (.ref a2)] [(.ref a2), (.int (0 : Int32)), (.ref a2), (.ref a1)])) rfl rfl (hb hby d_jdk_42_method_3_code_4)) ?_
  show GoesW p ee below s _ _ _ _ _ (s₁.setTop (mkF m 5 #[.val (.ref a1), .val (.ref a2)] [(.int (0 : Int32)), (.int (0 : Int32)), (.ref a2), (.ref a1)]))
  refine GoesW.step (fun _ hr_ => XS.aconstNull X0.here hx rfl (hb hby d_jdk_42_method_3_code_5) hr_) ?_
  show GoesW p ee below s _ _ _ _ _ (s₁.setTop (mkF m 6 #[.val (.ref a1), .val (.ref a2)] [.null, (.int (0 : Int32)), (.int (0 : Int32)), (.ref a2), (.ref a1)]))
  have lt_a1 := E.lt
  have lt_a2 := A.lt
  obtain ⟨v1, vm1, T1, L1, ⟨X1, Cn1, hZ, hown, hsaf1⟩, hQ1, st1⟩ := own_callNW X0 hx hZ hEL C (y := (⟨"java/lang/String", "<init>", "([CIILjava/lang/Void;)V"⟩ : MethodName)) rfl hown (hw _ (List.mem_of_getElem? (i := 15) rfl)) (hw _ (List.mem_of_getElem? (i := 16) rfl)) (hw _ (List.mem_of_getElem? (i := 11) rfl)) (hw _ (List.mem_of_getElem? (i := 18) rfl)) (by decide) (a := a1) (argsL := [(.ref a2), (.int (0 : Int32)), (.int (0 : Int32)), .null]) (ws := [a1]) (own_allS ⟨lt_a1, sf_a1⟩ (fun _ q => nomatch q)) (rm_sin5w l Z a0 hw [] cs fm a1 a2 _ _ h0 n0 Z0 ST OO ge_a1 E FV FC) e0 (W := 0) (by decide) (by decide) (by decide) (by decide) (g := (mkF m 6 #[.val (.ref a1), .val (.ref a2)] [.null, (.int (0 : Int32)), (.int (0 : Int32)), (.ref a2), (.ref a1)])) rfl (by rw [hml]; rfl) (rest := []) (lenOf pd_13 rfl) rfl (by show 2 * 0 + _ ≤ _; exact Nat.le_of_eq rfl) (hb hby d_jdk_42_method_3_code_6)
  refine GoesW.step st1 ?_
  obtain ⟨rfl, N1, Kc1, b1, Ei1, Fv1, Fc1, AE_b1⟩ := hQ1
  have N2 := Fr.app N0 N1
  obtain ⟨h1, e1⟩ : ∃ h', T1.heap = h' := ⟨_, rfl⟩
  rw [e1] at Kc1 Cn1 hsaf1 Ei1 Fv1 Fc1 AE_b1
  have sf_a1 := hsaf1 a1 lt_a1 sf_a1
  have C := Cn1
  have A := A.keep Kc1 (ninS (Ne.symm ne12) nin0)
  have OO := OO.keep Kc1 (allS ge_a1 all0)
  have K3 := K0.trans Kc1 (allS (Or.inl (List.mem_of_getElem? (i := 0) rfl)) all0)
  have Zp4 := Nat.le_trans Z0 Kc1.1
  have A_b1 := AE_b1 (fun _ => 0)
  show GoesW p ee below s _ _ _ _ _ (T1.setTop (mkF m 9 #[.val (.ref a1), .val (.ref a2)] []))
  refine GoesW.retV X1 hx hZ hEL C e1 Bd.notSynchronized Bd.returns (hb hby d_jdk_42_method_3_code_9) (by decide) (by decide) ?_
  rw [e1]
  exact ⟨rfl, N2, K3, b1, Ei1, Fv1, Fc1, AE_b1⟩
abbrev own_dig (k : Nat) : Prop := 48 ≤ k ∧ k ≤ 57
def own_PD (n : Nat) (c : Nat → Nat) (k : Nat) : Prop := ∃ j, k < j ∧ j ≤ n ∧ (∀ i, k ≤ i → i < j → own_dig (c i)) ∧ (j = n ∨ (c j = 46 ∧ j + 1 < n ∧ ∀ i, j < i → i < n → own_dig (c i)))
def own_k (n : Nat) (c : Nat → Nat) : Nat := if 0 < n ∧ c 0 = 45 then 1 else 0
theorem own_pd_at {n : Nat} {c : Nat → Nat} {k i : Nat} (h : own_PD n c k) (hA : ∀ t, k ≤ t → t < i → own_dig (c t)) (hi : i < n) (hn : ¬ own_dig (c i)) (hk : k ≤ i) : k < i ∧ c i = 46 ∧ i + 1 < n ∧ ∀ t, i < t → t < n → own_dig (c t) := by
  obtain ⟨j, h1, h2, h3, h4⟩ := h
  have hji : j ≤ i := Nat.le_of_not_lt fun q => hn (h3 i hk q)
  rcases h4 with rfl | ⟨h4, h5, h6⟩
  · omega
  · by_cases q : j = i
    · subst q; exact ⟨h1, h4, h5, h6⟩
    · have := hA j (by omega) (by omega)
      omega
theorem own_more {c : Nat → Nat} {k i : Nat} (hA : ∀ t, k ≤ t → t < i → own_dig (c t)) (h : own_dig (c i)) : ∀ t, k ≤ t → t < i + 1 → own_dig (c t) := fun t h1 h2 => by
  by_cases q : t = i
  · rw [q]; exact h
  · exact hA t h1 (by omega)
theorem ef_draw (m : MethodId) (x0 : Int32) : entryFrame m #[(.int x0)] 2 = mkF m 0 #[.val (.int x0), .unset] [] := by first | (simp [entryFrame, mkF, argsToLocals, Value.category]; done) | rfl
theorem pn_com_example_strikeshift_strikeshift_formats_TextValuesIsPlainDecimalPinLaw : plainName "com/example/strikeshift/strikeshift/formats/TextValuesIsPlainDecimalPinLaw" = true := by first | (simp [plainName, overriddenIn]; done) | decide +kernel
theorem d_method_3_code_0 : decode method_3_code 0 = .ok (.iload_n 0, 1) := by decide +kernel
theorem d_method_3_code_1 : decode method_3_code 1 = .ok (.bipush 7, 2) := by decide +kernel
theorem d_method_3_code_3 : decode method_3_code 3 = .ok (.iand, 1) := by decide +kernel
theorem d_method_3_code_4 : decode method_3_code 4 = .ok (.istore_n 1, 1) := by decide +kernel
theorem d_method_3_code_5 : decode method_3_code 5 = .ok (.iload_n 1, 1) := by decide +kernel
theorem d_method_3_code_6 : decode method_3_code 6 = .ok (.iconst 2, 1) := by decide +kernel
theorem d_method_3_code_7 : decode method_3_code 7 = .ok (.if_icmp .gt 14, 3) := by decide +kernel
theorem d_method_3_code_21 : decode method_3_code 21 = .ok (.iload_n 1, 1) := by decide +kernel
theorem d_method_3_code_22 : decode method_3_code 22 = .ok (.iconst 3, 1) := by decide +kernel
theorem d_method_3_code_23 : decode method_3_code 23 = .ok (.if_icmp .ne 6, 3) := by decide +kernel
theorem d_method_3_code_26 : decode method_3_code 26 = .ok (.bipush 45, 2) := by decide +kernel
theorem d_method_3_code_28 : decode method_3_code 28 = .ok (.ireturn, 1) := by decide +kernel
theorem d_method_3_code_29 : decode method_3_code 29 = .ok (.iload_n 1, 1) := by decide +kernel
theorem d_method_3_code_30 : decode method_3_code 30 = .ok (.iconst 4, 1) := by decide +kernel
theorem d_method_3_code_31 : decode method_3_code 31 = .ok (.if_icmp .ne 6, 3) := by decide +kernel
theorem d_method_3_code_34 : decode method_3_code 34 = .ok (.bipush 46, 2) := by decide +kernel
theorem d_method_3_code_36 : decode method_3_code 36 = .ok (.ireturn, 1) := by decide +kernel
theorem d_method_3_code_37 : decode method_3_code 37 = .ok (.iload_n 1, 1) := by decide +kernel
theorem d_method_3_code_38 : decode method_3_code 38 = .ok (.iconst 5, 1) := by decide +kernel
theorem d_method_3_code_39 : decode method_3_code 39 = .ok (.if_icmp .ne 6, 3) := by decide +kernel
theorem d_method_3_code_42 : decode method_3_code 42 = .ok (.bipush 47, 2) := by decide +kernel
theorem d_method_3_code_44 : decode method_3_code 44 = .ok (.ireturn, 1) := by decide +kernel
theorem d_method_3_code_45 : decode method_3_code 45 = .ok (.iload_n 1, 1) := by decide +kernel
theorem d_method_3_code_46 : decode method_3_code 46 = .ok (.bipush 6, 2) := by decide +kernel
theorem d_method_3_code_48 : decode method_3_code 48 = .ok (.if_icmp .ne 6, 3) := by decide +kernel
theorem d_method_3_code_51 : decode method_3_code 51 = .ok (.bipush 58, 2) := by decide +kernel
theorem d_method_3_code_53 : decode method_3_code 53 = .ok (.ireturn, 1) := by decide +kernel
theorem d_method_3_code_54 : decode method_3_code 54 = .ok (.iload_n 0, 1) := by decide +kernel
theorem d_method_3_code_55 : decode method_3_code 55 = .ok (.bipush 16, 2) := by decide +kernel
theorem d_method_3_code_57 : decode method_3_code 57 = .ok (.iushr, 1) := by decide +kernel
theorem d_method_3_code_58 : decode method_3_code 58 = .ok (.i2c, 1) := by decide +kernel
theorem d_method_3_code_59 : decode method_3_code 59 = .ok (.ireturn, 1) := by decide +kernel
theorem d_method_3_code_10 : decode method_3_code 10 = .ok (.bipush 48, 2) := by decide +kernel
theorem d_method_3_code_12 : decode method_3_code 12 = .ok (.iload_n 0, 1) := by decide +kernel
theorem d_method_3_code_13 : decode method_3_code 13 = .ok (.iconst 3, 1) := by decide +kernel
theorem d_method_3_code_14 : decode method_3_code 14 = .ok (.iushr, 1) := by decide +kernel
theorem d_method_3_code_15 : decode method_3_code 15 = .ok (.bipush 10, 2) := by decide +kernel
theorem d_method_3_code_17 : decode method_3_code 17 = .ok (.irem, 1) := by decide +kernel
theorem d_method_3_code_18 : decode method_3_code 18 = .ok (.iadd, 1) := by decide +kernel
theorem d_method_3_code_19 : decode method_3_code 19 = .ok (.i2c, 1) := by decide +kernel
theorem d_method_3_code_20 : decode method_3_code 20 = .ok (.ireturn, 1) := by decide +kernel
def Q_draw (Z : State) (p1 : Int32) (h0 : Heap) (n0 : Nat) (v : Option Value) (h : Heap) (L : List Loc) : Prop := (∃ k : Nat, k < 65536 ∧ v = some (.int (Int32.ofNat k))) ∧ Fr n0 L ∧ h = h0
set_option maxRecDepth 65536 in
set_option maxHeartbeats 40000000 in
theorem rm_draw (l : Launch) (Z : State) (a0 : Array Value) (hw : ∀ d ∈ tables_1, d.before a0 Z = true) (ws : List Jvm.Cond) (p1 : Int32) (h0 : Heap) (n0 : Nat) (Z0 : n0 ≤ h0.size)  :
    MetFree l (⟨"com/example/strikeshift/strikeshift/formats/TextValuesIsPlainDecimalPinLaw", "draw", "(I)C"⟩ : MethodName) (head1 (Jvm.Cond.code (⟨"com/example/strikeshift/strikeshift/formats/TextValuesIsPlainDecimalPinLaw", "draw", "(I)C"⟩ : MethodName) method_3_code 2 (some .char) :: ws) ({ frames := 0, cells := 0, slots := 0, locals := 0 } : Room)) (fun a U => a = #[(.int p1)] ∧ Z.Warmed39 U.vm ∧ U.heap = h0) (fun _ _ _ _ _ => True) (fun _ U o U' => ∃ v L, o = .returned v ∧ Q_draw Z p1 h0 n0 v U'.heap L ∧ FrameEnd U o U' L ({ frames := 0, cells := 0, slots := 0, locals := 0 } : Room).cells ({ frames := 0, cells := 0, slots := 0, locals := 0 } : Room).slots) := by
  refine MetFree.of_bodySF (plainFor_of_name pn_com_example_strikeshift_strikeshift_formats_TextValuesIsPlainDecimalPinLaw) hisR ?_
  intro p ee s m args below meth cc s₁ Bd hml0 hP hK
  obtain ⟨rfl, hZ, hh⟩ := hP
  have hx := Bd.exec
  have hby := Bd.bytes
  have hml : cc.maxLocals = 2 := hml0
  have hown : s.vm.findClass "com/example/strikeshift/strikeshift/formats/TextValuesIsPlainDecimalPinLaw" = some m.cls := findClass_of_methodNamed Bd.named
  have hnm := (name_of_methodNamed Bd.named Bd.method).1
  have X0 : Stand p l ee ({ frames := 0, cells := 0, slots := 0, locals := 0 } : Room) s m #[(.int p1)] below meth cc s₁ [] 0 0 := Stand.of_body Bd
  have e0 : s₁.heap = h0 := by rw [← hh, Bd.state]; rfl
  have N0 := Fr.nil n0
  show Goes p ee below s ({ frames := 0, cells := 0, slots := 0, locals := 0 } : Room).cells ({ frames := 0, cells := 0, slots := 0, locals := 0 } : Room).slots (Q_draw Z p1 h0 n0) (s₁.setTop (entryFrame m #[(.int p1)] 2))
  refine Goes.step (fun _ hr_ => castTop (ef_draw m p1) hr_) ?_
  show Goes p ee below s _ _ _ (s₁.setTop (mkF m 0 #[.val (.int p1), .unset] []))
  refine Goes.step (fun _ hr_ => XS.iloadN X0.here hx rfl (hb hby d_method_3_code_0) rfl  hr_) ?_
  show Goes p ee below s _ _ _ (s₁.setTop (mkF m 1 #[.val (.int p1), .unset] [(.int p1)]))
  refine Goes.step (fun _ hr_ => XS.bipush X0.here hx rfl (hb hby d_method_3_code_1) hr_) ?_
  show Goes p ee below s _ _ _ (s₁.setTop (mkF m 3 #[.val (.int p1), .unset] [(.int (7 : Int32)), (.int p1)]))
  refine Goes.step (fun _ hr_ => XS.iand X0.here hx rfl (hb hby d_method_3_code_3) rfl hr_) ?_
  show Goes p ee below s _ _ _ (s₁.setTop (mkF m 4 #[.val (.int p1), .unset] [(.int (p1 &&& (7 : Int32)))]))
  refine Goes.step (fun _ hr_ => XS.istoreN X0.here hx rfl (hb hby d_method_3_code_4) rfl  (l' := #[.val (.int p1), .val (.int (p1 &&& (7 : Int32)))]) rfl hr_) ?_
  show Goes p ee below s _ _ _ (s₁.setTop (mkF m 5 #[.val (.int p1), .val (.int (p1 &&& (7 : Int32)))] []))
  refine Goes.step (fun _ hr_ => XS.iloadN X0.here hx rfl (hb hby d_method_3_code_5) rfl  hr_) ?_
  show Goes p ee below s _ _ _ (s₁.setTop (mkF m 6 #[.val (.int p1), .val (.int (p1 &&& (7 : Int32)))] [(.int (p1 &&& (7 : Int32)))]))
  refine Goes.step (fun _ hr_ => XS.iconst X0.here hx rfl (hb hby d_method_3_code_6) hr_) ?_
  show Goes p ee below s _ _ _ (s₁.setTop (mkF m 7 #[.val (.int p1), .val (.int (p1 &&& (7 : Int32)))] [(.int (2 : Int32)), (.int (p1 &&& (7 : Int32)))]))
  by_cases hc7_1 : (2 : Int32) < (p1 &&& (7 : Int32))
  · refine Goes.step (fun _ hr_ => XS.icmpYes X0.here hx rfl (pc0 := 7) (pc' := 21) rfl (hb hby d_method_3_code_7) rfl (tlt hc7_1).2.2.1 (by decide) (by decide) hr_) ?_
    show Goes p ee below s _ _ _ (s₁.setTop (mkF m 21 #[.val (.int p1), .val (.int (p1 &&& (7 : Int32)))] []))
    refine Goes.step (fun _ hr_ => XS.iloadN X0.here hx rfl (hb hby d_method_3_code_21) rfl  hr_) ?_
    show Goes p ee below s _ _ _ (s₁.setTop (mkF m 22 #[.val (.int p1), .val (.int (p1 &&& (7 : Int32)))] [(.int (p1 &&& (7 : Int32)))]))
    refine Goes.step (fun _ hr_ => XS.iconst X0.here hx rfl (hb hby d_method_3_code_22) hr_) ?_
    show Goes p ee below s _ _ _ (s₁.setTop (mkF m 23 #[.val (.int p1), .val (.int (p1 &&& (7 : Int32)))] [(.int (3 : Int32)), (.int (p1 &&& (7 : Int32)))]))
    by_cases hc23_2 : (p1 &&& (7 : Int32)) = (3 : Int32)
    · refine Goes.step (fun _ hr_ => XS.icmpNo X0.here hx rfl (hb hby d_method_3_code_23) rfl (teq hc23_2).2 hr_) ?_
      show Goes p ee below s _ _ _ (s₁.setTop (mkF m 26 #[.val (.int p1), .val (.int (p1 &&& (7 : Int32)))] []))
      refine Goes.step (fun _ hr_ => XS.bipush X0.here hx rfl (hb hby d_method_3_code_26) hr_) ?_
      show Goes p ee below s _ _ _ (s₁.setTop (mkF m 28 #[.val (.int p1), .val (.int (p1 &&& (7 : Int32)))] [(.int (45 : Int32))]))
      refine Goes.retZ X0 hx Bd.notSynchronized Bd.returns (by simp) rfl (hb hby d_method_3_code_28) (by decide) (by decide) ?_
      exact ⟨⟨45, by decide, rfl⟩, N0, e0⟩
    · refine Goes.step (fun _ hr_ => XS.icmpYes X0.here hx rfl (pc0 := 23) (pc' := 29) rfl (hb hby d_method_3_code_23) rfl (feq hc23_2).2 (by decide) (by decide) hr_) ?_
      show Goes p ee below s _ _ _ (s₁.setTop (mkF m 29 #[.val (.int p1), .val (.int (p1 &&& (7 : Int32)))] []))
      refine Goes.step (fun _ hr_ => XS.iloadN X0.here hx rfl (hb hby d_method_3_code_29) rfl  hr_) ?_
      show Goes p ee below s _ _ _ (s₁.setTop (mkF m 30 #[.val (.int p1), .val (.int (p1 &&& (7 : Int32)))] [(.int (p1 &&& (7 : Int32)))]))
      refine Goes.step (fun _ hr_ => XS.iconst X0.here hx rfl (hb hby d_method_3_code_30) hr_) ?_
      show Goes p ee below s _ _ _ (s₁.setTop (mkF m 31 #[.val (.int p1), .val (.int (p1 &&& (7 : Int32)))] [(.int (4 : Int32)), (.int (p1 &&& (7 : Int32)))]))
      by_cases hc31_3 : (p1 &&& (7 : Int32)) = (4 : Int32)
      · refine Goes.step (fun _ hr_ => XS.icmpNo X0.here hx rfl (hb hby d_method_3_code_31) rfl (teq hc31_3).2 hr_) ?_
        show Goes p ee below s _ _ _ (s₁.setTop (mkF m 34 #[.val (.int p1), .val (.int (p1 &&& (7 : Int32)))] []))
        refine Goes.step (fun _ hr_ => XS.bipush X0.here hx rfl (hb hby d_method_3_code_34) hr_) ?_
        show Goes p ee below s _ _ _ (s₁.setTop (mkF m 36 #[.val (.int p1), .val (.int (p1 &&& (7 : Int32)))] [(.int (46 : Int32))]))
        refine Goes.retZ X0 hx Bd.notSynchronized Bd.returns (by simp) rfl (hb hby d_method_3_code_36) (by decide) (by decide) ?_
        exact ⟨⟨46, by decide, rfl⟩, N0, e0⟩
      · refine Goes.step (fun _ hr_ => XS.icmpYes X0.here hx rfl (pc0 := 31) (pc' := 37) rfl (hb hby d_method_3_code_31) rfl (feq hc31_3).2 (by decide) (by decide) hr_) ?_
        show Goes p ee below s _ _ _ (s₁.setTop (mkF m 37 #[.val (.int p1), .val (.int (p1 &&& (7 : Int32)))] []))
        refine Goes.step (fun _ hr_ => XS.iloadN X0.here hx rfl (hb hby d_method_3_code_37) rfl  hr_) ?_
        show Goes p ee below s _ _ _ (s₁.setTop (mkF m 38 #[.val (.int p1), .val (.int (p1 &&& (7 : Int32)))] [(.int (p1 &&& (7 : Int32)))]))
        refine Goes.step (fun _ hr_ => XS.iconst X0.here hx rfl (hb hby d_method_3_code_38) hr_) ?_
        show Goes p ee below s _ _ _ (s₁.setTop (mkF m 39 #[.val (.int p1), .val (.int (p1 &&& (7 : Int32)))] [(.int (5 : Int32)), (.int (p1 &&& (7 : Int32)))]))
        by_cases hc39_4 : (p1 &&& (7 : Int32)) = (5 : Int32)
        · refine Goes.step (fun _ hr_ => XS.icmpNo X0.here hx rfl (hb hby d_method_3_code_39) rfl (teq hc39_4).2 hr_) ?_
          show Goes p ee below s _ _ _ (s₁.setTop (mkF m 42 #[.val (.int p1), .val (.int (p1 &&& (7 : Int32)))] []))
          refine Goes.step (fun _ hr_ => XS.bipush X0.here hx rfl (hb hby d_method_3_code_42) hr_) ?_
          show Goes p ee below s _ _ _ (s₁.setTop (mkF m 44 #[.val (.int p1), .val (.int (p1 &&& (7 : Int32)))] [(.int (47 : Int32))]))
          refine Goes.retZ X0 hx Bd.notSynchronized Bd.returns (by simp) rfl (hb hby d_method_3_code_44) (by decide) (by decide) ?_
          exact ⟨⟨47, by decide, rfl⟩, N0, e0⟩
        · refine Goes.step (fun _ hr_ => XS.icmpYes X0.here hx rfl (pc0 := 39) (pc' := 45) rfl (hb hby d_method_3_code_39) rfl (feq hc39_4).2 (by decide) (by decide) hr_) ?_
          show Goes p ee below s _ _ _ (s₁.setTop (mkF m 45 #[.val (.int p1), .val (.int (p1 &&& (7 : Int32)))] []))
          refine Goes.step (fun _ hr_ => XS.iloadN X0.here hx rfl (hb hby d_method_3_code_45) rfl  hr_) ?_
          show Goes p ee below s _ _ _ (s₁.setTop (mkF m 46 #[.val (.int p1), .val (.int (p1 &&& (7 : Int32)))] [(.int (p1 &&& (7 : Int32)))]))
          refine Goes.step (fun _ hr_ => XS.bipush X0.here hx rfl (hb hby d_method_3_code_46) hr_) ?_
          show Goes p ee below s _ _ _ (s₁.setTop (mkF m 48 #[.val (.int p1), .val (.int (p1 &&& (7 : Int32)))] [(.int (6 : Int32)), (.int (p1 &&& (7 : Int32)))]))
          by_cases hc48_5 : (p1 &&& (7 : Int32)) = (6 : Int32)
          · refine Goes.step (fun _ hr_ => XS.icmpNo X0.here hx rfl (hb hby d_method_3_code_48) rfl (teq hc48_5).2 hr_) ?_
            show Goes p ee below s _ _ _ (s₁.setTop (mkF m 51 #[.val (.int p1), .val (.int (p1 &&& (7 : Int32)))] []))
            refine Goes.step (fun _ hr_ => XS.bipush X0.here hx rfl (hb hby d_method_3_code_51) hr_) ?_
            show Goes p ee below s _ _ _ (s₁.setTop (mkF m 53 #[.val (.int p1), .val (.int (p1 &&& (7 : Int32)))] [(.int (58 : Int32))]))
            refine Goes.retZ X0 hx Bd.notSynchronized Bd.returns (by simp) rfl (hb hby d_method_3_code_53) (by decide) (by decide) ?_
            exact ⟨⟨58, by decide, rfl⟩, N0, e0⟩
          · refine Goes.step (fun _ hr_ => XS.icmpYes X0.here hx rfl (pc0 := 48) (pc' := 54) rfl (hb hby d_method_3_code_48) rfl (feq hc48_5).2 (by decide) (by decide) hr_) ?_
            show Goes p ee below s _ _ _ (s₁.setTop (mkF m 54 #[.val (.int p1), .val (.int (p1 &&& (7 : Int32)))] []))
            refine Goes.step (fun _ hr_ => XS.iloadN X0.here hx rfl (hb hby d_method_3_code_54) rfl  hr_) ?_
            show Goes p ee below s _ _ _ (s₁.setTop (mkF m 55 #[.val (.int p1), .val (.int (p1 &&& (7 : Int32)))] [(.int p1)]))
            refine Goes.step (fun _ hr_ => XS.bipush X0.here hx rfl (hb hby d_method_3_code_55) hr_) ?_
            show Goes p ee below s _ _ _ (s₁.setTop (mkF m 57 #[.val (.int p1), .val (.int (p1 &&& (7 : Int32)))] [(.int (16 : Int32)), (.int p1)]))
            refine Goes.step (fun _ hr_ => XT.iushr X0.here hx rfl (hb hby d_method_3_code_57) rfl hr_) ?_
            show Goes p ee below s _ _ _ (s₁.setTop (mkF m 58 #[.val (.int p1), .val (.int (p1 &&& (7 : Int32)))] [(.int (XT.ushr p1 (16 : Int32)))]))
            refine Goes.step (fun _ hr_ => XT.i2c X0.here hx rfl (hb hby d_method_3_code_58) rfl hr_) ?_
            show Goes p ee below s _ _ _ (s₁.setTop (mkF m 59 #[.val (.int p1), .val (.int (p1 &&& (7 : Int32)))] [(.int (XT.ushr p1 (16 : Int32)).toUInt32.toUInt16.toUInt32.toInt32)]))
            obtain ⟨k, hk, ek⟩ := own_char (XT.ushr p1 (16 : Int32))
            rw [ek]
            show Goes p ee below s _ _ _ (s₁.setTop (mkF m 59 #[.val (.int p1), .val (.int (p1 &&& (7 : Int32)))] [(.int (Int32.ofNat k))]))
            refine Goes.retZ X0 hx Bd.notSynchronized Bd.returns (by simp) (own_nchar k hk) (hb hby d_method_3_code_59) (by decide) (by decide) ?_
            exact ⟨⟨k, hk, rfl⟩, N0, e0⟩
  · refine Goes.step (fun _ hr_ => XS.icmpNo X0.here hx rfl (hb hby d_method_3_code_7) rfl (flt hc7_1).2.2.1 hr_) ?_
    show Goes p ee below s _ _ _ (s₁.setTop (mkF m 10 #[.val (.int p1), .val (.int (p1 &&& (7 : Int32)))] []))
    refine Goes.step (fun _ hr_ => XS.bipush X0.here hx rfl (hb hby d_method_3_code_10) hr_) ?_
    show Goes p ee below s _ _ _ (s₁.setTop (mkF m 12 #[.val (.int p1), .val (.int (p1 &&& (7 : Int32)))] [(.int (48 : Int32))]))
    refine Goes.step (fun _ hr_ => XS.iloadN X0.here hx rfl (hb hby d_method_3_code_12) rfl  hr_) ?_
    show Goes p ee below s _ _ _ (s₁.setTop (mkF m 13 #[.val (.int p1), .val (.int (p1 &&& (7 : Int32)))] [(.int p1), (.int (48 : Int32))]))
    refine Goes.step (fun _ hr_ => XS.iconst X0.here hx rfl (hb hby d_method_3_code_13) hr_) ?_
    show Goes p ee below s _ _ _ (s₁.setTop (mkF m 14 #[.val (.int p1), .val (.int (p1 &&& (7 : Int32)))] [(.int (3 : Int32)), (.int p1), (.int (48 : Int32))]))
    refine Goes.step (fun _ hr_ => XT.iushr X0.here hx rfl (hb hby d_method_3_code_14) rfl hr_) ?_
    show Goes p ee below s _ _ _ (s₁.setTop (mkF m 15 #[.val (.int p1), .val (.int (p1 &&& (7 : Int32)))] [(.int (XT.ushr p1 (3 : Int32))), (.int (48 : Int32))]))
    refine Goes.step (fun _ hr_ => XS.bipush X0.here hx rfl (hb hby d_method_3_code_15) hr_) ?_
    show Goes p ee below s _ _ _ (s₁.setTop (mkF m 17 #[.val (.int p1), .val (.int (p1 &&& (7 : Int32)))] [(.int (10 : Int32)), (.int (XT.ushr p1 (3 : Int32))), (.int (48 : Int32))]))
    refine Goes.step (fun _ hr_ => iremM (g := (mkF m 17 #[.val (.int p1), .val (.int (p1 &&& (7 : Int32)))] [(.int (10 : Int32)), (.int (XT.ushr p1 (3 : Int32))), (.int (48 : Int32))])) X0 hx rfl (hb hby d_method_3_code_17) rfl (by decide) hr_) ?_
    show Goes p ee below s _ _ _ (s₁.setTop (mkF m 18 #[.val (.int p1), .val (.int (p1 &&& (7 : Int32)))] [(.int ((XT.ushr p1 (3 : Int32)) % (10 : Int32))), (.int (48 : Int32))]))
    refine Goes.step (fun _ hr_ => XS.iadd X0.here hx rfl (hb hby d_method_3_code_18) rfl hr_) ?_
    show Goes p ee below s _ _ _ (s₁.setTop (mkF m 19 #[.val (.int p1), .val (.int (p1 &&& (7 : Int32)))] [(.int ((48 : Int32) + ((XT.ushr p1 (3 : Int32)) % (10 : Int32))))]))
    refine Goes.step (fun _ hr_ => XT.i2c X0.here hx rfl (hb hby d_method_3_code_19) rfl hr_) ?_
    show Goes p ee below s _ _ _ (s₁.setTop (mkF m 20 #[.val (.int p1), .val (.int (p1 &&& (7 : Int32)))] [(.int ((48 : Int32) + ((XT.ushr p1 (3 : Int32)) % (10 : Int32))).toUInt32.toUInt16.toUInt32.toInt32)]))
    obtain ⟨k, hk, ek⟩ := own_char ((48 : Int32) + ((XT.ushr p1 (3 : Int32)) % (10 : Int32)))
    rw [ek]
    show Goes p ee below s _ _ _ (s₁.setTop (mkF m 20 #[.val (.int p1), .val (.int (p1 &&& (7 : Int32)))] [(.int (Int32.ofNat k))]))
    refine Goes.retZ X0 hx Bd.notSynchronized Bd.returns (by simp) (own_nchar k hk) (hb hby d_method_3_code_20) (by decide) (by decide) ?_
    exact ⟨⟨k, hk, rfl⟩, N0, e0⟩
theorem ef_isdig (m : MethodId) (x0 : Int32) : entryFrame m #[(.int x0)] 1 = mkF m 0 #[.val (.int x0)] [] := by first | (simp [entryFrame, mkF, argsToLocals, Value.category]; done) | rfl
theorem pn_com_example_strikeshift_strikeshift_formats_TextValues : plainName "com/example/strikeshift/strikeshift/formats/TextValues" = true := by first | (simp [plainName, overriddenIn]; done) | decide +kernel
theorem d_prog_47_method_9_code_0 : decode prog_47_method_9_code 0 = .ok (.iload_n 0, 1) := by decide +kernel
theorem d_prog_47_method_9_code_1 : decode prog_47_method_9_code 1 = .ok (.bipush 48, 2) := by decide +kernel
theorem d_prog_47_method_9_code_3 : decode prog_47_method_9_code 3 = .ok (.if_icmp .lt 13, 3) := by decide +kernel
theorem d_prog_47_method_9_code_16 : decode prog_47_method_9_code 16 = .ok (.iconst 0, 1) := by decide +kernel
theorem d_prog_47_method_9_code_17 : decode prog_47_method_9_code 17 = .ok (.ireturn, 1) := by decide +kernel
theorem d_prog_47_method_9_code_6 : decode prog_47_method_9_code 6 = .ok (.iload_n 0, 1) := by decide +kernel
theorem d_prog_47_method_9_code_7 : decode prog_47_method_9_code 7 = .ok (.bipush 57, 2) := by decide +kernel
theorem d_prog_47_method_9_code_9 : decode prog_47_method_9_code 9 = .ok (.if_icmp .gt 7, 3) := by decide +kernel
theorem d_prog_47_method_9_code_12 : decode prog_47_method_9_code 12 = .ok (.iconst 1, 1) := by decide +kernel
theorem d_prog_47_method_9_code_13 : decode prog_47_method_9_code 13 = .ok (.goto 4, 3) := by decide +kernel
def Q_isdig (Z : State) (k : Nat) (h0 : Heap) (n0 : Nat) (v : Option Value) (h : Heap) (L : List Loc) : Prop := v = some (.int (if own_dig k then 1 else 0)) ∧ Fr n0 L ∧ h = h0
set_option maxRecDepth 65536 in
set_option maxHeartbeats 40000000 in
theorem rm_isdig (l : Launch) (Z : State) (a0 : Array Value) (hw : ∀ d ∈ tables_1, d.before a0 Z = true) (ws : List Jvm.Cond) (k : Nat) (h0 : Heap) (n0 : Nat) (Z0 : n0 ≤ h0.size) (hk : k < 65536) :
    MetFree l (⟨"com/example/strikeshift/strikeshift/formats/TextValues", "isDigit", "(C)Z"⟩ : MethodName) (head1 (Jvm.Cond.code (⟨"com/example/strikeshift/strikeshift/formats/TextValues", "isDigit", "(C)Z"⟩ : MethodName) prog_47_method_9_code 1 (some .boolean) :: ws) ({ frames := 0, cells := 0, slots := 0, locals := 0 } : Room)) (fun a U => a = #[(.int (Int32.ofNat k))] ∧ Z.Warmed39 U.vm ∧ U.heap = h0) (fun _ _ _ _ _ => True) (fun _ U o U' => ∃ v L, o = .returned v ∧ Q_isdig Z k h0 n0 v U'.heap L ∧ FrameEnd U o U' L ({ frames := 0, cells := 0, slots := 0, locals := 0 } : Room).cells ({ frames := 0, cells := 0, slots := 0, locals := 0 } : Room).slots) := by
  refine MetFree.of_bodySF (plainFor_of_name pn_com_example_strikeshift_strikeshift_formats_TextValues) hisR ?_
  intro p ee s m args below meth cc s₁ Bd hml0 hP hK
  obtain ⟨rfl, hZ, hh⟩ := hP
  have hx := Bd.exec
  have hby := Bd.bytes
  have hml : cc.maxLocals = 1 := hml0
  have hown : s.vm.findClass "com/example/strikeshift/strikeshift/formats/TextValues" = some m.cls := findClass_of_methodNamed Bd.named
  have hnm := (name_of_methodNamed Bd.named Bd.method).1
  have X0 : Stand p l ee ({ frames := 0, cells := 0, slots := 0, locals := 0 } : Room) s m #[(.int (Int32.ofNat k))] below meth cc s₁ [] 0 0 := Stand.of_body Bd
  have e0 : s₁.heap = h0 := by rw [← hh, Bd.state]; rfl
  have N0 := Fr.nil n0
  show Goes p ee below s ({ frames := 0, cells := 0, slots := 0, locals := 0 } : Room).cells ({ frames := 0, cells := 0, slots := 0, locals := 0 } : Room).slots (Q_isdig Z k h0 n0) (s₁.setTop (entryFrame m #[(.int (Int32.ofNat k))] 1))
  refine Goes.step (fun _ hr_ => castTop (ef_isdig m (Int32.ofNat k)) hr_) ?_
  show Goes p ee below s _ _ _ (s₁.setTop (mkF m 0 #[.val (.int (Int32.ofNat k))] []))
  refine Goes.step (fun _ hr_ => XS.iloadN X0.here hx rfl (hb hby d_prog_47_method_9_code_0) rfl  hr_) ?_
  show Goes p ee below s _ _ _ (s₁.setTop (mkF m 1 #[.val (.int (Int32.ofNat k))] [(.int (Int32.ofNat k))]))
  refine Goes.step (fun _ hr_ => XS.bipush X0.here hx rfl (hb hby d_prog_47_method_9_code_1) hr_) ?_
  show Goes p ee below s _ _ _ (s₁.setTop (mkF m 3 #[.val (.int (Int32.ofNat k))] [(.int (48 : Int32)), (.int (Int32.ofNat k))]))
  by_cases hn3_1 : k < 48
  · refine Goes.step (fun _ hr_ => XS.icmpYes X0.here hx rfl (pc0 := 3) (pc' := 16) rfl (hb hby d_prog_47_method_9_code_3) rfl (tlt ((own_ltN k 48 (by omega) (by decide)).mpr hn3_1)).1 (by decide) (by decide) hr_) ?_
    show Goes p ee below s _ _ _ (s₁.setTop (mkF m 16 #[.val (.int (Int32.ofNat k))] []))
    refine Goes.step (fun _ hr_ => XS.iconst X0.here hx rfl (hb hby d_prog_47_method_9_code_16) hr_) ?_
    show Goes p ee below s _ _ _ (s₁.setTop (mkF m 17 #[.val (.int (Int32.ofNat k))] [(.int (0 : Int32))]))
    refine Goes.retZ X0 hx Bd.notSynchronized Bd.returns (by simp) rfl (hb hby d_prog_47_method_9_code_17) (by decide) (by decide) ?_
    exact ⟨own_f (by omega), N0, e0⟩
  · refine Goes.step (fun _ hr_ => XS.icmpNo X0.here hx rfl (hb hby d_prog_47_method_9_code_3) rfl (flt (fun z => hn3_1 ((own_ltN k 48 (by omega) (by decide)).mp z))).1 hr_) ?_
    show Goes p ee below s _ _ _ (s₁.setTop (mkF m 6 #[.val (.int (Int32.ofNat k))] []))
    refine Goes.step (fun _ hr_ => XS.iloadN X0.here hx rfl (hb hby d_prog_47_method_9_code_6) rfl  hr_) ?_
    show Goes p ee below s _ _ _ (s₁.setTop (mkF m 7 #[.val (.int (Int32.ofNat k))] [(.int (Int32.ofNat k))]))
    refine Goes.step (fun _ hr_ => XS.bipush X0.here hx rfl (hb hby d_prog_47_method_9_code_7) hr_) ?_
    show Goes p ee below s _ _ _ (s₁.setTop (mkF m 9 #[.val (.int (Int32.ofNat k))] [(.int (57 : Int32)), (.int (Int32.ofNat k))]))
    by_cases hn9_2 : 57 < k
    · refine Goes.step (fun _ hr_ => XS.icmpYes X0.here hx rfl (pc0 := 9) (pc' := 16) rfl (hb hby d_prog_47_method_9_code_9) rfl (tlt ((own_ltN 57 k (by decide) (by omega)).mpr hn9_2)).2.2.1 (by decide) (by decide) hr_) ?_
      show Goes p ee below s _ _ _ (s₁.setTop (mkF m 16 #[.val (.int (Int32.ofNat k))] []))
      refine Goes.step (fun _ hr_ => XS.iconst X0.here hx rfl (hb hby d_prog_47_method_9_code_16) hr_) ?_
      show Goes p ee below s _ _ _ (s₁.setTop (mkF m 17 #[.val (.int (Int32.ofNat k))] [(.int (0 : Int32))]))
      refine Goes.retZ X0 hx Bd.notSynchronized Bd.returns (by simp) rfl (hb hby d_prog_47_method_9_code_17) (by decide) (by decide) ?_
      exact ⟨own_f (by omega), N0, e0⟩
    · refine Goes.step (fun _ hr_ => XS.icmpNo X0.here hx rfl (hb hby d_prog_47_method_9_code_9) rfl (flt (fun z => hn9_2 ((own_ltN 57 k (by decide) (by omega)).mp z))).2.2.1 hr_) ?_
      show Goes p ee below s _ _ _ (s₁.setTop (mkF m 12 #[.val (.int (Int32.ofNat k))] []))
      refine Goes.step (fun _ hr_ => XS.iconst X0.here hx rfl (hb hby d_prog_47_method_9_code_12) hr_) ?_
      show Goes p ee below s _ _ _ (s₁.setTop (mkF m 13 #[.val (.int (Int32.ofNat k))] [(.int (1 : Int32))]))
      refine Goes.step (fun _ hr_ => XS.goto X0.here hx rfl (pc0 := 13) (pc' := 17) rfl (hb hby d_prog_47_method_9_code_13) (by decide) (by decide) hr_) ?_
      show Goes p ee below s _ _ _ (s₁.setTop (mkF m 17 #[.val (.int (Int32.ofNat k))] [(.int (1 : Int32))]))
      refine Goes.retZ X0 hx Bd.notSynchronized Bd.returns (by simp) rfl (hb hby d_prog_47_method_9_code_17) (by decide) (by decide) ?_
      exact ⟨own_t (by omega), N0, e0⟩
theorem ef_dig (m : MethodId) (x0 : Int32) : entryFrame m #[(.int x0)] 1 = mkF m 0 #[.val (.int x0)] [] := by first | (simp [entryFrame, mkF, argsToLocals, Value.category]; done) | rfl
theorem d_method_5_code_0 : decode method_5_code 0 = .ok (.iload_n 0, 1) := by decide +kernel
theorem d_method_5_code_1 : decode method_5_code 1 = .ok (.bipush 48, 2) := by decide +kernel
theorem d_method_5_code_3 : decode method_5_code 3 = .ok (.if_icmp .lt 13, 3) := by decide +kernel
theorem d_method_5_code_16 : decode method_5_code 16 = .ok (.iconst 0, 1) := by decide +kernel
theorem d_method_5_code_17 : decode method_5_code 17 = .ok (.ireturn, 1) := by decide +kernel
theorem d_method_5_code_6 : decode method_5_code 6 = .ok (.iload_n 0, 1) := by decide +kernel
theorem d_method_5_code_7 : decode method_5_code 7 = .ok (.bipush 57, 2) := by decide +kernel
theorem d_method_5_code_9 : decode method_5_code 9 = .ok (.if_icmp .gt 7, 3) := by decide +kernel
theorem d_method_5_code_12 : decode method_5_code 12 = .ok (.iconst 1, 1) := by decide +kernel
theorem d_method_5_code_13 : decode method_5_code 13 = .ok (.goto 4, 3) := by decide +kernel
def Q_dig (Z : State) (k : Nat) (h0 : Heap) (n0 : Nat) (v : Option Value) (h : Heap) (L : List Loc) : Prop := v = some (.int (if own_dig k then 1 else 0)) ∧ Fr n0 L ∧ h = h0
set_option maxRecDepth 65536 in
set_option maxHeartbeats 40000000 in
theorem rm_dig (l : Launch) (Z : State) (a0 : Array Value) (hw : ∀ d ∈ tables_1, d.before a0 Z = true) (ws : List Jvm.Cond) (k : Nat) (h0 : Heap) (n0 : Nat) (Z0 : n0 ≤ h0.size) (hk : k < 65536) :
    MetFree l (⟨"com/example/strikeshift/strikeshift/formats/TextValuesIsPlainDecimalPinLaw", "dig", "(C)Z"⟩ : MethodName) (head1 (Jvm.Cond.code (⟨"com/example/strikeshift/strikeshift/formats/TextValuesIsPlainDecimalPinLaw", "dig", "(C)Z"⟩ : MethodName) method_5_code 1 (some .boolean) :: ws) ({ frames := 0, cells := 0, slots := 0, locals := 0 } : Room)) (fun a U => a = #[(.int (Int32.ofNat k))] ∧ Z.Warmed39 U.vm ∧ U.heap = h0) (fun _ _ _ _ _ => True) (fun _ U o U' => ∃ v L, o = .returned v ∧ Q_dig Z k h0 n0 v U'.heap L ∧ FrameEnd U o U' L ({ frames := 0, cells := 0, slots := 0, locals := 0 } : Room).cells ({ frames := 0, cells := 0, slots := 0, locals := 0 } : Room).slots) := by
  refine MetFree.of_bodySF (plainFor_of_name pn_com_example_strikeshift_strikeshift_formats_TextValuesIsPlainDecimalPinLaw) hisR ?_
  intro p ee s m args below meth cc s₁ Bd hml0 hP hK
  obtain ⟨rfl, hZ, hh⟩ := hP
  have hx := Bd.exec
  have hby := Bd.bytes
  have hml : cc.maxLocals = 1 := hml0
  have hown : s.vm.findClass "com/example/strikeshift/strikeshift/formats/TextValuesIsPlainDecimalPinLaw" = some m.cls := findClass_of_methodNamed Bd.named
  have hnm := (name_of_methodNamed Bd.named Bd.method).1
  have X0 : Stand p l ee ({ frames := 0, cells := 0, slots := 0, locals := 0 } : Room) s m #[(.int (Int32.ofNat k))] below meth cc s₁ [] 0 0 := Stand.of_body Bd
  have e0 : s₁.heap = h0 := by rw [← hh, Bd.state]; rfl
  have N0 := Fr.nil n0
  show Goes p ee below s ({ frames := 0, cells := 0, slots := 0, locals := 0 } : Room).cells ({ frames := 0, cells := 0, slots := 0, locals := 0 } : Room).slots (Q_dig Z k h0 n0) (s₁.setTop (entryFrame m #[(.int (Int32.ofNat k))] 1))
  refine Goes.step (fun _ hr_ => castTop (ef_dig m (Int32.ofNat k)) hr_) ?_
  show Goes p ee below s _ _ _ (s₁.setTop (mkF m 0 #[.val (.int (Int32.ofNat k))] []))
  refine Goes.step (fun _ hr_ => XS.iloadN X0.here hx rfl (hb hby d_method_5_code_0) rfl  hr_) ?_
  show Goes p ee below s _ _ _ (s₁.setTop (mkF m 1 #[.val (.int (Int32.ofNat k))] [(.int (Int32.ofNat k))]))
  refine Goes.step (fun _ hr_ => XS.bipush X0.here hx rfl (hb hby d_method_5_code_1) hr_) ?_
  show Goes p ee below s _ _ _ (s₁.setTop (mkF m 3 #[.val (.int (Int32.ofNat k))] [(.int (48 : Int32)), (.int (Int32.ofNat k))]))
  by_cases hn3_1 : k < 48
  · refine Goes.step (fun _ hr_ => XS.icmpYes X0.here hx rfl (pc0 := 3) (pc' := 16) rfl (hb hby d_method_5_code_3) rfl (tlt ((own_ltN k 48 (by omega) (by decide)).mpr hn3_1)).1 (by decide) (by decide) hr_) ?_
    show Goes p ee below s _ _ _ (s₁.setTop (mkF m 16 #[.val (.int (Int32.ofNat k))] []))
    refine Goes.step (fun _ hr_ => XS.iconst X0.here hx rfl (hb hby d_method_5_code_16) hr_) ?_
    show Goes p ee below s _ _ _ (s₁.setTop (mkF m 17 #[.val (.int (Int32.ofNat k))] [(.int (0 : Int32))]))
    refine Goes.retZ X0 hx Bd.notSynchronized Bd.returns (by simp) rfl (hb hby d_method_5_code_17) (by decide) (by decide) ?_
    exact ⟨own_f (by omega), N0, e0⟩
  · refine Goes.step (fun _ hr_ => XS.icmpNo X0.here hx rfl (hb hby d_method_5_code_3) rfl (flt (fun z => hn3_1 ((own_ltN k 48 (by omega) (by decide)).mp z))).1 hr_) ?_
    show Goes p ee below s _ _ _ (s₁.setTop (mkF m 6 #[.val (.int (Int32.ofNat k))] []))
    refine Goes.step (fun _ hr_ => XS.iloadN X0.here hx rfl (hb hby d_method_5_code_6) rfl  hr_) ?_
    show Goes p ee below s _ _ _ (s₁.setTop (mkF m 7 #[.val (.int (Int32.ofNat k))] [(.int (Int32.ofNat k))]))
    refine Goes.step (fun _ hr_ => XS.bipush X0.here hx rfl (hb hby d_method_5_code_7) hr_) ?_
    show Goes p ee below s _ _ _ (s₁.setTop (mkF m 9 #[.val (.int (Int32.ofNat k))] [(.int (57 : Int32)), (.int (Int32.ofNat k))]))
    by_cases hn9_2 : 57 < k
    · refine Goes.step (fun _ hr_ => XS.icmpYes X0.here hx rfl (pc0 := 9) (pc' := 16) rfl (hb hby d_method_5_code_9) rfl (tlt ((own_ltN 57 k (by decide) (by omega)).mpr hn9_2)).2.2.1 (by decide) (by decide) hr_) ?_
      show Goes p ee below s _ _ _ (s₁.setTop (mkF m 16 #[.val (.int (Int32.ofNat k))] []))
      refine Goes.step (fun _ hr_ => XS.iconst X0.here hx rfl (hb hby d_method_5_code_16) hr_) ?_
      show Goes p ee below s _ _ _ (s₁.setTop (mkF m 17 #[.val (.int (Int32.ofNat k))] [(.int (0 : Int32))]))
      refine Goes.retZ X0 hx Bd.notSynchronized Bd.returns (by simp) rfl (hb hby d_method_5_code_17) (by decide) (by decide) ?_
      exact ⟨own_f (by omega), N0, e0⟩
    · refine Goes.step (fun _ hr_ => XS.icmpNo X0.here hx rfl (hb hby d_method_5_code_9) rfl (flt (fun z => hn9_2 ((own_ltN 57 k (by decide) (by omega)).mp z))).2.2.1 hr_) ?_
      show Goes p ee below s _ _ _ (s₁.setTop (mkF m 12 #[.val (.int (Int32.ofNat k))] []))
      refine Goes.step (fun _ hr_ => XS.iconst X0.here hx rfl (hb hby d_method_5_code_12) hr_) ?_
      show Goes p ee below s _ _ _ (s₁.setTop (mkF m 13 #[.val (.int (Int32.ofNat k))] [(.int (1 : Int32))]))
      refine Goes.step (fun _ hr_ => XS.goto X0.here hx rfl (pc0 := 13) (pc' := 17) rfl (hb hby d_method_5_code_13) (by decide) (by decide) hr_) ?_
      show Goes p ee below s _ _ _ (s₁.setTop (mkF m 17 #[.val (.int (Int32.ofNat k))] [(.int (1 : Int32))]))
      refine Goes.retZ X0 hx Bd.notSynchronized Bd.returns (by simp) rfl (hb hby d_method_5_code_17) (by decide) (by decide) ?_
      exact ⟨own_t (by omega), N0, e0⟩
theorem ef_ok (m : MethodId) (x0 : Addr) (x1 : Int32) (x2 : Int32) (x3 : Int32) : entryFrame m #[(.ref x0), (.int x1), (.int x2), (.int x3)] 4 = mkF m 0 #[.val (.ref x0), .val (.int x1), .val (.int x2), .val (.int x3)] [] := by first | (simp [entryFrame, mkF, argsToLocals, Value.category]; done) | rfl
theorem d_method_6_code_0 : decode method_6_code 0 = .ok (.iload_n 1, 1) := by decide +kernel
theorem d_method_6_code_1 : decode method_6_code 1 = .ok (.iload_n 2, 1) := by decide +kernel
theorem d_method_6_code_2 : decode method_6_code 2 = .ok (.if_icmp .lt 25, 3) := by decide +kernel
theorem d_method_6_code_27 : decode method_6_code 27 = .ok (.iconst 1, 1) := by decide +kernel
theorem d_method_6_code_28 : decode method_6_code 28 = .ok (.goto 4, 3) := by decide +kernel
theorem d_method_6_code_32 : decode method_6_code 32 = .ok (.ireturn, 1) := by decide +kernel
theorem d_method_6_code_5 : decode method_6_code 5 = .ok (.iload_n 1, 1) := by decide +kernel
theorem d_method_6_code_6 : decode method_6_code 6 = .ok (.iload_n 3, 1) := by decide +kernel
theorem d_method_6_code_7 : decode method_6_code 7 = .ok (.if_icmp .ge 20, 3) := by decide +kernel
theorem d_method_6_code_10 : decode method_6_code 10 = .ok (.aload_n 0, 1) := by decide +kernel
theorem d_method_6_code_11 : decode method_6_code 11 = .ok (.iload_n 1, 1) := by decide +kernel
theorem d_method_6_code_12 : decode method_6_code 12 = .ok (.caload, 1) := by decide +kernel
theorem pd_14 : parseMethodDescriptor "(C)Z" = some ⟨[.char], some .boolean⟩ := by decide +kernel
theorem d_method_6_code_13 : decode method_6_code 13 = .ok (.invokestatic 37, 3) := by decide +kernel
theorem d_method_6_code_16 : decode method_6_code 16 = .ok (.ifCond .ne 11, 3) := by decide +kernel
theorem d_method_6_code_19 : decode method_6_code 19 = .ok (.aload_n 0, 1) := by decide +kernel
theorem d_method_6_code_20 : decode method_6_code 20 = .ok (.iload_n 1, 1) := by decide +kernel
theorem d_method_6_code_21 : decode method_6_code 21 = .ok (.caload, 1) := by decide +kernel
theorem d_method_6_code_22 : decode method_6_code 22 = .ok (.bipush 46, 2) := by decide +kernel
theorem d_method_6_code_24 : decode method_6_code 24 = .ok (.if_icmp .ne 7, 3) := by decide +kernel
theorem d_method_6_code_31 : decode method_6_code 31 = .ok (.iconst 0, 1) := by decide +kernel
def Q_ok (Z : State) (a1 : Addr) (i k n : Nat) (c : Nat → Nat) (h0 : Heap) (n0 : Nat) (v : Option Value) (h : Heap) (L : List Loc) : Prop := v = some (.int (if (i < k ∨ n ≤ i ∨ own_dig (c i) ∨ c i = 46) then 1 else 0)) ∧ Fr n0 L ∧ h = h0
set_option maxRecDepth 65536 in
set_option maxHeartbeats 40000000 in
theorem rm_ok (l : Launch) (Z : State) (a0 : Array Value) (hw : ∀ d ∈ tables_1, d.before a0 Z = true) (ws : List Jvm.Cond) (a1 : Addr) (i k n : Nat) (c : Nat → Nat) (h0 : Heap) (n0 : Nat) (Z0 : n0 ≤ h0.size) (hi : i < 6) (hk : k ≤ 1) (hn : n ≤ 6) (hc : ∀ j, j < 6 → c j < 65536) (A : OA Z h0 a1 .char 6 (fun i => .int (Int32.ofNat (c i)))) :
    MetFree l (⟨"com/example/strikeshift/strikeshift/formats/TextValuesIsPlainDecimalPinLaw", "ok", "([CIII)Z"⟩ : MethodName) (head1 (Jvm.Cond.code (⟨"com/example/strikeshift/strikeshift/formats/TextValuesIsPlainDecimalPinLaw", "ok", "([CIII)Z"⟩ : MethodName) method_6_code 4 (some .boolean) :: ws) ({ frames := 1, cells := 0, slots := 0, locals := 12 } : Room)) (fun a U => a = #[(.ref a1), (.int (Int32.ofNat i)), (.int (Int32.ofNat k)), (.int (Int32.ofNat n))] ∧ Z.Warmed39 U.vm ∧ U.heap = h0) (fun _ _ _ _ _ => True) (fun _ U o U' => ∃ v L, o = .returned v ∧ Q_ok Z a1 i k n c h0 n0 v U'.heap L ∧ FrameEnd U o U' L ({ frames := 1, cells := 0, slots := 0, locals := 12 } : Room).cells ({ frames := 1, cells := 0, slots := 0, locals := 12 } : Room).slots) := by
  refine MetFree.of_bodySF (plainFor_of_name pn_com_example_strikeshift_strikeshift_formats_TextValuesIsPlainDecimalPinLaw) hisR ?_
  intro p ee s m args below meth cc s₁ Bd hml0 hP hK
  obtain ⟨rfl, hZ, hh⟩ := hP
  have hx := Bd.exec
  have hby := Bd.bytes
  have hml : cc.maxLocals = 4 := hml0
  have hown : s.vm.findClass "com/example/strikeshift/strikeshift/formats/TextValuesIsPlainDecimalPinLaw" = some m.cls := findClass_of_methodNamed Bd.named
  have hnm := (name_of_methodNamed Bd.named Bd.method).1
  have X0 : Stand p l ee ({ frames := 1, cells := 0, slots := 0, locals := 12 } : Room) s m #[(.ref a1), (.int (Int32.ofNat i)), (.int (Int32.ofNat k)), (.int (Int32.ofNat n))] below meth cc s₁ [] 0 0 := Stand.of_body Bd
  have e0 : s₁.heap = h0 := by rw [← hh, Bd.state]; rfl
  have N0 := Fr.nil n0
  show Goes p ee below s ({ frames := 1, cells := 0, slots := 0, locals := 12 } : Room).cells ({ frames := 1, cells := 0, slots := 0, locals := 12 } : Room).slots (Q_ok Z a1 i k n c h0 n0) (s₁.setTop (entryFrame m #[(.ref a1), (.int (Int32.ofNat i)), (.int (Int32.ofNat k)), (.int (Int32.ofNat n))] 4))
  refine Goes.step (fun _ hr_ => castTop (ef_ok m a1 (Int32.ofNat i) (Int32.ofNat k) (Int32.ofNat n)) hr_) ?_
  show Goes p ee below s _ _ _ (s₁.setTop (mkF m 0 #[.val (.ref a1), .val (.int (Int32.ofNat i)), .val (.int (Int32.ofNat k)), .val (.int (Int32.ofNat n))] []))
  have hci := hc i hi
  refine Goes.step (fun _ hr_ => XS.iloadN X0.here hx rfl (hb hby d_method_6_code_0) rfl  hr_) ?_
  show Goes p ee below s _ _ _ (s₁.setTop (mkF m 1 #[.val (.ref a1), .val (.int (Int32.ofNat i)), .val (.int (Int32.ofNat k)), .val (.int (Int32.ofNat n))] [(.int (Int32.ofNat i))]))
  refine Goes.step (fun _ hr_ => XS.iloadN X0.here hx rfl (hb hby d_method_6_code_1) rfl  hr_) ?_
  show Goes p ee below s _ _ _ (s₁.setTop (mkF m 2 #[.val (.ref a1), .val (.int (Int32.ofNat i)), .val (.int (Int32.ofNat k)), .val (.int (Int32.ofNat n))] [(.int (Int32.ofNat k)), (.int (Int32.ofNat i))]))
  by_cases hn2_1 : i < k
  · refine Goes.step (fun _ hr_ => XS.icmpYes X0.here hx rfl (pc0 := 2) (pc' := 27) rfl (hb hby d_method_6_code_2) rfl (tlt ((own_ltN i k (by omega) (by omega)).mpr hn2_1)).1 (by decide) (by decide) hr_) ?_
    show Goes p ee below s _ _ _ (s₁.setTop (mkF m 27 #[.val (.ref a1), .val (.int (Int32.ofNat i)), .val (.int (Int32.ofNat k)), .val (.int (Int32.ofNat n))] []))
    refine Goes.step (fun _ hr_ => XS.iconst X0.here hx rfl (hb hby d_method_6_code_27) hr_) ?_
    show Goes p ee below s _ _ _ (s₁.setTop (mkF m 28 #[.val (.ref a1), .val (.int (Int32.ofNat i)), .val (.int (Int32.ofNat k)), .val (.int (Int32.ofNat n))] [(.int (1 : Int32))]))
    refine Goes.step (fun _ hr_ => XS.goto X0.here hx rfl (pc0 := 28) (pc' := 32) rfl (hb hby d_method_6_code_28) (by decide) (by decide) hr_) ?_
    show Goes p ee below s _ _ _ (s₁.setTop (mkF m 32 #[.val (.ref a1), .val (.int (Int32.ofNat i)), .val (.int (Int32.ofNat k)), .val (.int (Int32.ofNat n))] [(.int (1 : Int32))]))
    refine Goes.retZ X0 hx Bd.notSynchronized Bd.returns (by simp) rfl (hb hby d_method_6_code_32) (by decide) (by decide) ?_
    exact ⟨own_t (by omega), N0, e0⟩
  · refine Goes.step (fun _ hr_ => XS.icmpNo X0.here hx rfl (hb hby d_method_6_code_2) rfl (flt (fun z => hn2_1 ((own_ltN i k (by omega) (by omega)).mp z))).1 hr_) ?_
    show Goes p ee below s _ _ _ (s₁.setTop (mkF m 5 #[.val (.ref a1), .val (.int (Int32.ofNat i)), .val (.int (Int32.ofNat k)), .val (.int (Int32.ofNat n))] []))
    refine Goes.step (fun _ hr_ => XS.iloadN X0.here hx rfl (hb hby d_method_6_code_5) rfl  hr_) ?_
    show Goes p ee below s _ _ _ (s₁.setTop (mkF m 6 #[.val (.ref a1), .val (.int (Int32.ofNat i)), .val (.int (Int32.ofNat k)), .val (.int (Int32.ofNat n))] [(.int (Int32.ofNat i))]))
    refine Goes.step (fun _ hr_ => XS.iloadN X0.here hx rfl (hb hby d_method_6_code_6) rfl  hr_) ?_
    show Goes p ee below s _ _ _ (s₁.setTop (mkF m 7 #[.val (.ref a1), .val (.int (Int32.ofNat i)), .val (.int (Int32.ofNat k)), .val (.int (Int32.ofNat n))] [(.int (Int32.ofNat n)), (.int (Int32.ofNat i))]))
    by_cases hn7_2 : i < n
    · refine Goes.step (fun _ hr_ => XS.icmpNo X0.here hx rfl (hb hby d_method_6_code_7) rfl (tlt ((own_ltN i n (by omega) (by omega)).mpr hn7_2)).2.1 hr_) ?_
      show Goes p ee below s _ _ _ (s₁.setTop (mkF m 10 #[.val (.ref a1), .val (.int (Int32.ofNat i)), .val (.int (Int32.ofNat k)), .val (.int (Int32.ofNat n))] []))
      refine Goes.step (fun _ hr_ => XS.aloadN X0.here hx rfl (hb hby d_method_6_code_10) rfl rfl hr_) ?_
      show Goes p ee below s _ _ _ (s₁.setTop (mkF m 11 #[.val (.ref a1), .val (.int (Int32.ofNat i)), .val (.int (Int32.ofNat k)), .val (.int (Int32.ofNat n))] [(.ref a1)]))
      refine Goes.step (fun _ hr_ => XS.iloadN X0.here hx rfl (hb hby d_method_6_code_11) rfl  hr_) ?_
      show Goes p ee below s _ _ _ (s₁.setTop (mkF m 12 #[.val (.ref a1), .val (.int (Int32.ofNat i)), .val (.int (Int32.ofNat k)), .val (.int (Int32.ofNat n))] [(.int (Int32.ofNat i)), (.ref a1)]))
      refine Goes.step (own_caload X0 hx hZ e0 A (j := (Int32.ofNat i)) (own_nneg i (by omega)) (k := i) (own_clamp i (by omega)) hi (v := (.int (Int32.ofNat (c i)))) rfl (g := (mkF m 12 #[.val (.ref a1), .val (.int (Int32.ofNat i)), .val (.int (Int32.ofNat k)), .val (.int (Int32.ofNat n))] [(.int (Int32.ofNat i)), (.ref a1)])) rfl rfl (hb hby d_method_6_code_12)) ?_
      show Goes p ee below s _ _ _ (s₁.setTop (mkF m 13 #[.val (.ref a1), .val (.int (Int32.ofNat i)), .val (.int (Int32.ofNat k)), .val (.int (Int32.ofNat n))] [(.int (Int32.ofNat (c i)))]))
      have lt_a1 := A.lt
      obtain ⟨v3, T3, L3, X3, hQ3, st3⟩ := own_callS X0 hx hZ (y := (⟨"com/example/strikeshift/strikeshift/formats/TextValuesIsPlainDecimalPinLaw", "dig", "(C)Z"⟩ : MethodName)) hown (hw _ (List.mem_of_getElem? (i := 90) rfl)) (hw _ (List.mem_of_getElem? (i := 91) rfl)) (hw _ (List.mem_of_getElem? (i := 4) rfl)) (hw _ (List.mem_of_getElem? (i := 92) rfl)) (by decide) (argsL := [(.int (Int32.ofNat (c i)))]) (rm_dig l Z a0 hw [] (c i) h0 n0 Z0 hci) e0 (W := 0) (by decide) (by decide) (by decide) (by decide) (g := (mkF m 13 #[.val (.ref a1), .val (.int (Int32.ofNat i)), .val (.int (Int32.ofNat k)), .val (.int (Int32.ofNat n))] [(.int (Int32.ofNat (c i)))])) rfl (by rw [hml]; rfl) (rest := []) (lenOf pd_14 rfl) rfl (by show 2 * 0 + _ ≤ _; exact Nat.le_of_eq rfl) (hb hby d_method_6_code_13)
      refine Goes.step st3 ?_
      obtain ⟨rfl, N3, e3⟩ := hQ3
      have N4 := Fr.app N0 N3
      show Goes p ee below s _ _ _ (T3.setTop (mkF m 16 #[.val (.ref a1), .val (.int (Int32.ofNat i)), .val (.int (Int32.ofNat k)), .val (.int (Int32.ofNat n))] [(.int (if own_dig (c i) then (1 : Int32) else 0))]))
      by_cases hn16_5 : ¬ own_dig (c i)
      · refine Goes.step (fun _ hr_ => XS.ifNo X3.here hx rfl (hb hby d_method_6_code_16) rfl ((if0 _ _).trans (teq (own_if0.mpr hn16_5)).2) hr_) ?_
        show Goes p ee below s _ _ _ (T3.setTop (mkF m 19 #[.val (.ref a1), .val (.int (Int32.ofNat i)), .val (.int (Int32.ofNat k)), .val (.int (Int32.ofNat n))] []))
        refine Goes.step (fun _ hr_ => XS.aloadN X3.here hx rfl (hb hby d_method_6_code_19) rfl rfl hr_) ?_
        show Goes p ee below s _ _ _ (T3.setTop (mkF m 20 #[.val (.ref a1), .val (.int (Int32.ofNat i)), .val (.int (Int32.ofNat k)), .val (.int (Int32.ofNat n))] [(.ref a1)]))
        refine Goes.step (fun _ hr_ => XS.iloadN X3.here hx rfl (hb hby d_method_6_code_20) rfl  hr_) ?_
        show Goes p ee below s _ _ _ (T3.setTop (mkF m 21 #[.val (.ref a1), .val (.int (Int32.ofNat i)), .val (.int (Int32.ofNat k)), .val (.int (Int32.ofNat n))] [(.int (Int32.ofNat i)), (.ref a1)]))
        refine Goes.step (own_caload X3 hx hZ e3 A (j := (Int32.ofNat i)) (own_nneg i (by omega)) (k := i) (own_clamp i (by omega)) hi (v := (.int (Int32.ofNat (c i)))) rfl (g := (mkF m 21 #[.val (.ref a1), .val (.int (Int32.ofNat i)), .val (.int (Int32.ofNat k)), .val (.int (Int32.ofNat n))] [(.int (Int32.ofNat i)), (.ref a1)])) rfl rfl (hb hby d_method_6_code_21)) ?_
        show Goes p ee below s _ _ _ (T3.setTop (mkF m 22 #[.val (.ref a1), .val (.int (Int32.ofNat i)), .val (.int (Int32.ofNat k)), .val (.int (Int32.ofNat n))] [(.int (Int32.ofNat (c i)))]))
        refine Goes.step (fun _ hr_ => XS.bipush X3.here hx rfl (hb hby d_method_6_code_22) hr_) ?_
        show Goes p ee below s _ _ _ (T3.setTop (mkF m 24 #[.val (.ref a1), .val (.int (Int32.ofNat i)), .val (.int (Int32.ofNat k)), .val (.int (Int32.ofNat n))] [(.int (46 : Int32)), (.int (Int32.ofNat (c i)))]))
        by_cases hn24_6 : c i = 46
        · refine Goes.step (fun _ hr_ => XS.icmpNo X3.here hx rfl (hb hby d_method_6_code_24) rfl (teq ((own_eqN (c i) 46 (by omega) (by decide)).mpr hn24_6)).2 hr_) ?_
          show Goes p ee below s _ _ _ (T3.setTop (mkF m 27 #[.val (.ref a1), .val (.int (Int32.ofNat i)), .val (.int (Int32.ofNat k)), .val (.int (Int32.ofNat n))] []))
          refine Goes.step (fun _ hr_ => XS.iconst X3.here hx rfl (hb hby d_method_6_code_27) hr_) ?_
          show Goes p ee below s _ _ _ (T3.setTop (mkF m 28 #[.val (.ref a1), .val (.int (Int32.ofNat i)), .val (.int (Int32.ofNat k)), .val (.int (Int32.ofNat n))] [(.int (1 : Int32))]))
          refine Goes.step (fun _ hr_ => XS.goto X3.here hx rfl (pc0 := 28) (pc' := 32) rfl (hb hby d_method_6_code_28) (by decide) (by decide) hr_) ?_
          show Goes p ee below s _ _ _ (T3.setTop (mkF m 32 #[.val (.ref a1), .val (.int (Int32.ofNat i)), .val (.int (Int32.ofNat k)), .val (.int (Int32.ofNat n))] [(.int (1 : Int32))]))
          refine Goes.retZ X3 hx Bd.notSynchronized Bd.returns (by simp) rfl (hb hby d_method_6_code_32) (by decide) (by decide) ?_
          exact ⟨own_t (by omega), N4, e3⟩
        · refine Goes.step (fun _ hr_ => XS.icmpYes X3.here hx rfl (pc0 := 24) (pc' := 31) rfl (hb hby d_method_6_code_24) rfl (feq (fun z => hn24_6 ((own_eqN (c i) 46 (by omega) (by decide)).mp z))).2 (by decide) (by decide) hr_) ?_
          show Goes p ee below s _ _ _ (T3.setTop (mkF m 31 #[.val (.ref a1), .val (.int (Int32.ofNat i)), .val (.int (Int32.ofNat k)), .val (.int (Int32.ofNat n))] []))
          refine Goes.step (fun _ hr_ => XS.iconst X3.here hx rfl (hb hby d_method_6_code_31) hr_) ?_
          show Goes p ee below s _ _ _ (T3.setTop (mkF m 32 #[.val (.ref a1), .val (.int (Int32.ofNat i)), .val (.int (Int32.ofNat k)), .val (.int (Int32.ofNat n))] [(.int (0 : Int32))]))
          refine Goes.retZ X3 hx Bd.notSynchronized Bd.returns (by simp) rfl (hb hby d_method_6_code_32) (by decide) (by decide) ?_
          exact ⟨own_f (by omega), N4, e3⟩
      · refine Goes.step (fun _ hr_ => XS.ifYes X3.here hx rfl (pc0 := 16) (pc' := 27) rfl (hb hby d_method_6_code_16) rfl ((if0 _ _).trans (feq (fun z => hn16_5 (own_if0.mp z))).2) (by decide) (by decide) hr_) ?_
        show Goes p ee below s _ _ _ (T3.setTop (mkF m 27 #[.val (.ref a1), .val (.int (Int32.ofNat i)), .val (.int (Int32.ofNat k)), .val (.int (Int32.ofNat n))] []))
        refine Goes.step (fun _ hr_ => XS.iconst X3.here hx rfl (hb hby d_method_6_code_27) hr_) ?_
        show Goes p ee below s _ _ _ (T3.setTop (mkF m 28 #[.val (.ref a1), .val (.int (Int32.ofNat i)), .val (.int (Int32.ofNat k)), .val (.int (Int32.ofNat n))] [(.int (1 : Int32))]))
        refine Goes.step (fun _ hr_ => XS.goto X3.here hx rfl (pc0 := 28) (pc' := 32) rfl (hb hby d_method_6_code_28) (by decide) (by decide) hr_) ?_
        show Goes p ee below s _ _ _ (T3.setTop (mkF m 32 #[.val (.ref a1), .val (.int (Int32.ofNat i)), .val (.int (Int32.ofNat k)), .val (.int (Int32.ofNat n))] [(.int (1 : Int32))]))
        refine Goes.retZ X3 hx Bd.notSynchronized Bd.returns (by simp) rfl (hb hby d_method_6_code_32) (by decide) (by decide) ?_
        exact ⟨own_t (by omega), N4, e3⟩
    · refine Goes.step (fun _ hr_ => XS.icmpYes X0.here hx rfl (pc0 := 7) (pc' := 27) rfl (hb hby d_method_6_code_7) rfl (flt (fun z => hn7_2 ((own_ltN i n (by omega) (by omega)).mp z))).2.1 (by decide) (by decide) hr_) ?_
      show Goes p ee below s _ _ _ (s₁.setTop (mkF m 27 #[.val (.ref a1), .val (.int (Int32.ofNat i)), .val (.int (Int32.ofNat k)), .val (.int (Int32.ofNat n))] []))
      refine Goes.step (fun _ hr_ => XS.iconst X0.here hx rfl (hb hby d_method_6_code_27) hr_) ?_
      show Goes p ee below s _ _ _ (s₁.setTop (mkF m 28 #[.val (.ref a1), .val (.int (Int32.ofNat i)), .val (.int (Int32.ofNat k)), .val (.int (Int32.ofNat n))] [(.int (1 : Int32))]))
      refine Goes.step (fun _ hr_ => XS.goto X0.here hx rfl (pc0 := 28) (pc' := 32) rfl (hb hby d_method_6_code_28) (by decide) (by decide) hr_) ?_
      show Goes p ee below s _ _ _ (s₁.setTop (mkF m 32 #[.val (.ref a1), .val (.int (Int32.ofNat i)), .val (.int (Int32.ofNat k)), .val (.int (Int32.ofNat n))] [(.int (1 : Int32))]))
      refine Goes.retZ X0 hx Bd.notSynchronized Bd.returns (by simp) rfl (hb hby d_method_6_code_32) (by decide) (by decide) ?_
      exact ⟨own_t (by omega), N0, e0⟩
theorem ef_dot (m : MethodId) (x0 : Addr) (x1 : Int32) (x2 : Int32) (x3 : Int32) : entryFrame m #[(.ref x0), (.int x1), (.int x2), (.int x3)] 4 = mkF m 0 #[.val (.ref x0), .val (.int x1), .val (.int x2), .val (.int x3)] [] := by first | (simp [entryFrame, mkF, argsToLocals, Value.category]; done) | rfl
theorem d_method_7_code_0 : decode method_7_code 0 = .ok (.iload_n 1, 1) := by decide +kernel
theorem d_method_7_code_1 : decode method_7_code 1 = .ok (.iload_n 2, 1) := by decide +kernel
theorem d_method_7_code_2 : decode method_7_code 2 = .ok (.if_icmp .lt 20, 3) := by decide +kernel
theorem d_method_7_code_22 : decode method_7_code 22 = .ok (.iconst 0, 1) := by decide +kernel
theorem d_method_7_code_23 : decode method_7_code 23 = .ok (.ireturn, 1) := by decide +kernel
theorem d_method_7_code_5 : decode method_7_code 5 = .ok (.iload_n 1, 1) := by decide +kernel
theorem d_method_7_code_6 : decode method_7_code 6 = .ok (.iload_n 3, 1) := by decide +kernel
theorem d_method_7_code_7 : decode method_7_code 7 = .ok (.if_icmp .ge 15, 3) := by decide +kernel
theorem d_method_7_code_10 : decode method_7_code 10 = .ok (.aload_n 0, 1) := by decide +kernel
theorem d_method_7_code_11 : decode method_7_code 11 = .ok (.iload_n 1, 1) := by decide +kernel
theorem d_method_7_code_12 : decode method_7_code 12 = .ok (.caload, 1) := by decide +kernel
theorem d_method_7_code_13 : decode method_7_code 13 = .ok (.bipush 46, 2) := by decide +kernel
theorem d_method_7_code_15 : decode method_7_code 15 = .ok (.if_icmp .ne 7, 3) := by decide +kernel
theorem d_method_7_code_18 : decode method_7_code 18 = .ok (.iconst 1, 1) := by decide +kernel
theorem d_method_7_code_19 : decode method_7_code 19 = .ok (.goto 4, 3) := by decide +kernel
def Q_dot (Z : State) (a1 : Addr) (i k n : Nat) (c : Nat → Nat) (h0 : Heap) (n0 : Nat) (v : Option Value) (h : Heap) (L : List Loc) : Prop := v = some (.int (Int32.ofNat (if (k ≤ i ∧ i < n ∧ c i = 46) then 1 else 0))) ∧ Fr n0 L ∧ h = h0
set_option maxRecDepth 65536 in
set_option maxHeartbeats 40000000 in
theorem rm_dot (l : Launch) (Z : State) (a0 : Array Value) (hw : ∀ d ∈ tables_1, d.before a0 Z = true) (ws : List Jvm.Cond) (a1 : Addr) (i k n : Nat) (c : Nat → Nat) (h0 : Heap) (n0 : Nat) (Z0 : n0 ≤ h0.size) (hi : i < 6) (hk : k ≤ 1) (hn : n ≤ 6) (hc : ∀ j, j < 6 → c j < 65536) (A : OA Z h0 a1 .char 6 (fun i => .int (Int32.ofNat (c i)))) :
    MetFree l (⟨"com/example/strikeshift/strikeshift/formats/TextValuesIsPlainDecimalPinLaw", "dot", "([CIII)I"⟩ : MethodName) (head1 (Jvm.Cond.code (⟨"com/example/strikeshift/strikeshift/formats/TextValuesIsPlainDecimalPinLaw", "dot", "([CIII)I"⟩ : MethodName) method_7_code 4 (some .int) :: ws) ({ frames := 0, cells := 0, slots := 0, locals := 0 } : Room)) (fun a U => a = #[(.ref a1), (.int (Int32.ofNat i)), (.int (Int32.ofNat k)), (.int (Int32.ofNat n))] ∧ Z.Warmed39 U.vm ∧ U.heap = h0) (fun _ _ _ _ _ => True) (fun _ U o U' => ∃ v L, o = .returned v ∧ Q_dot Z a1 i k n c h0 n0 v U'.heap L ∧ FrameEnd U o U' L ({ frames := 0, cells := 0, slots := 0, locals := 0 } : Room).cells ({ frames := 0, cells := 0, slots := 0, locals := 0 } : Room).slots) := by
  refine MetFree.of_bodySF (plainFor_of_name pn_com_example_strikeshift_strikeshift_formats_TextValuesIsPlainDecimalPinLaw) hisR ?_
  intro p ee s m args below meth cc s₁ Bd hml0 hP hK
  obtain ⟨rfl, hZ, hh⟩ := hP
  have hx := Bd.exec
  have hby := Bd.bytes
  have hml : cc.maxLocals = 4 := hml0
  have hown : s.vm.findClass "com/example/strikeshift/strikeshift/formats/TextValuesIsPlainDecimalPinLaw" = some m.cls := findClass_of_methodNamed Bd.named
  have hnm := (name_of_methodNamed Bd.named Bd.method).1
  have X0 : Stand p l ee ({ frames := 0, cells := 0, slots := 0, locals := 0 } : Room) s m #[(.ref a1), (.int (Int32.ofNat i)), (.int (Int32.ofNat k)), (.int (Int32.ofNat n))] below meth cc s₁ [] 0 0 := Stand.of_body Bd
  have e0 : s₁.heap = h0 := by rw [← hh, Bd.state]; rfl
  have N0 := Fr.nil n0
  show Goes p ee below s ({ frames := 0, cells := 0, slots := 0, locals := 0 } : Room).cells ({ frames := 0, cells := 0, slots := 0, locals := 0 } : Room).slots (Q_dot Z a1 i k n c h0 n0) (s₁.setTop (entryFrame m #[(.ref a1), (.int (Int32.ofNat i)), (.int (Int32.ofNat k)), (.int (Int32.ofNat n))] 4))
  refine Goes.step (fun _ hr_ => castTop (ef_dot m a1 (Int32.ofNat i) (Int32.ofNat k) (Int32.ofNat n)) hr_) ?_
  show Goes p ee below s _ _ _ (s₁.setTop (mkF m 0 #[.val (.ref a1), .val (.int (Int32.ofNat i)), .val (.int (Int32.ofNat k)), .val (.int (Int32.ofNat n))] []))
  have hci := hc i hi
  refine Goes.step (fun _ hr_ => XS.iloadN X0.here hx rfl (hb hby d_method_7_code_0) rfl  hr_) ?_
  show Goes p ee below s _ _ _ (s₁.setTop (mkF m 1 #[.val (.ref a1), .val (.int (Int32.ofNat i)), .val (.int (Int32.ofNat k)), .val (.int (Int32.ofNat n))] [(.int (Int32.ofNat i))]))
  refine Goes.step (fun _ hr_ => XS.iloadN X0.here hx rfl (hb hby d_method_7_code_1) rfl  hr_) ?_
  show Goes p ee below s _ _ _ (s₁.setTop (mkF m 2 #[.val (.ref a1), .val (.int (Int32.ofNat i)), .val (.int (Int32.ofNat k)), .val (.int (Int32.ofNat n))] [(.int (Int32.ofNat k)), (.int (Int32.ofNat i))]))
  by_cases hn2_1 : i < k
  · refine Goes.step (fun _ hr_ => XS.icmpYes X0.here hx rfl (pc0 := 2) (pc' := 22) rfl (hb hby d_method_7_code_2) rfl (tlt ((own_ltN i k (by omega) (by omega)).mpr hn2_1)).1 (by decide) (by decide) hr_) ?_
    show Goes p ee below s _ _ _ (s₁.setTop (mkF m 22 #[.val (.ref a1), .val (.int (Int32.ofNat i)), .val (.int (Int32.ofNat k)), .val (.int (Int32.ofNat n))] []))
    refine Goes.step (fun _ hr_ => XS.iconst X0.here hx rfl (hb hby d_method_7_code_22) hr_) ?_
    show Goes p ee below s _ _ _ (s₁.setTop (mkF m 23 #[.val (.ref a1), .val (.int (Int32.ofNat i)), .val (.int (Int32.ofNat k)), .val (.int (Int32.ofNat n))] [(.int (0 : Int32))]))
    refine Goes.retI X0 hx Bd.notSynchronized Bd.returns (hb hby d_method_7_code_23) (by decide) (by decide) ?_
    refine ⟨?_, N0, e0⟩
    rw [if_neg (by omega)]
    rfl
  · refine Goes.step (fun _ hr_ => XS.icmpNo X0.here hx rfl (hb hby d_method_7_code_2) rfl (flt (fun z => hn2_1 ((own_ltN i k (by omega) (by omega)).mp z))).1 hr_) ?_
    show Goes p ee below s _ _ _ (s₁.setTop (mkF m 5 #[.val (.ref a1), .val (.int (Int32.ofNat i)), .val (.int (Int32.ofNat k)), .val (.int (Int32.ofNat n))] []))
    refine Goes.step (fun _ hr_ => XS.iloadN X0.here hx rfl (hb hby d_method_7_code_5) rfl  hr_) ?_
    show Goes p ee below s _ _ _ (s₁.setTop (mkF m 6 #[.val (.ref a1), .val (.int (Int32.ofNat i)), .val (.int (Int32.ofNat k)), .val (.int (Int32.ofNat n))] [(.int (Int32.ofNat i))]))
    refine Goes.step (fun _ hr_ => XS.iloadN X0.here hx rfl (hb hby d_method_7_code_6) rfl  hr_) ?_
    show Goes p ee below s _ _ _ (s₁.setTop (mkF m 7 #[.val (.ref a1), .val (.int (Int32.ofNat i)), .val (.int (Int32.ofNat k)), .val (.int (Int32.ofNat n))] [(.int (Int32.ofNat n)), (.int (Int32.ofNat i))]))
    by_cases hn7_2 : i < n
    · refine Goes.step (fun _ hr_ => XS.icmpNo X0.here hx rfl (hb hby d_method_7_code_7) rfl (tlt ((own_ltN i n (by omega) (by omega)).mpr hn7_2)).2.1 hr_) ?_
      show Goes p ee below s _ _ _ (s₁.setTop (mkF m 10 #[.val (.ref a1), .val (.int (Int32.ofNat i)), .val (.int (Int32.ofNat k)), .val (.int (Int32.ofNat n))] []))
      refine Goes.step (fun _ hr_ => XS.aloadN X0.here hx rfl (hb hby d_method_7_code_10) rfl rfl hr_) ?_
      show Goes p ee below s _ _ _ (s₁.setTop (mkF m 11 #[.val (.ref a1), .val (.int (Int32.ofNat i)), .val (.int (Int32.ofNat k)), .val (.int (Int32.ofNat n))] [(.ref a1)]))
      refine Goes.step (fun _ hr_ => XS.iloadN X0.here hx rfl (hb hby d_method_7_code_11) rfl  hr_) ?_
      show Goes p ee below s _ _ _ (s₁.setTop (mkF m 12 #[.val (.ref a1), .val (.int (Int32.ofNat i)), .val (.int (Int32.ofNat k)), .val (.int (Int32.ofNat n))] [(.int (Int32.ofNat i)), (.ref a1)]))
      refine Goes.step (own_caload X0 hx hZ e0 A (j := (Int32.ofNat i)) (own_nneg i (by omega)) (k := i) (own_clamp i (by omega)) hi (v := (.int (Int32.ofNat (c i)))) rfl (g := (mkF m 12 #[.val (.ref a1), .val (.int (Int32.ofNat i)), .val (.int (Int32.ofNat k)), .val (.int (Int32.ofNat n))] [(.int (Int32.ofNat i)), (.ref a1)])) rfl rfl (hb hby d_method_7_code_12)) ?_
      show Goes p ee below s _ _ _ (s₁.setTop (mkF m 13 #[.val (.ref a1), .val (.int (Int32.ofNat i)), .val (.int (Int32.ofNat k)), .val (.int (Int32.ofNat n))] [(.int (Int32.ofNat (c i)))]))
      refine Goes.step (fun _ hr_ => XS.bipush X0.here hx rfl (hb hby d_method_7_code_13) hr_) ?_
      show Goes p ee below s _ _ _ (s₁.setTop (mkF m 15 #[.val (.ref a1), .val (.int (Int32.ofNat i)), .val (.int (Int32.ofNat k)), .val (.int (Int32.ofNat n))] [(.int (46 : Int32)), (.int (Int32.ofNat (c i)))]))
      by_cases hn15_3 : c i = 46
      · refine Goes.step (fun _ hr_ => XS.icmpNo X0.here hx rfl (hb hby d_method_7_code_15) rfl (teq ((own_eqN (c i) 46 (by omega) (by decide)).mpr hn15_3)).2 hr_) ?_
        show Goes p ee below s _ _ _ (s₁.setTop (mkF m 18 #[.val (.ref a1), .val (.int (Int32.ofNat i)), .val (.int (Int32.ofNat k)), .val (.int (Int32.ofNat n))] []))
        refine Goes.step (fun _ hr_ => XS.iconst X0.here hx rfl (hb hby d_method_7_code_18) hr_) ?_
        show Goes p ee below s _ _ _ (s₁.setTop (mkF m 19 #[.val (.ref a1), .val (.int (Int32.ofNat i)), .val (.int (Int32.ofNat k)), .val (.int (Int32.ofNat n))] [(.int (1 : Int32))]))
        refine Goes.step (fun _ hr_ => XS.goto X0.here hx rfl (pc0 := 19) (pc' := 23) rfl (hb hby d_method_7_code_19) (by decide) (by decide) hr_) ?_
        show Goes p ee below s _ _ _ (s₁.setTop (mkF m 23 #[.val (.ref a1), .val (.int (Int32.ofNat i)), .val (.int (Int32.ofNat k)), .val (.int (Int32.ofNat n))] [(.int (1 : Int32))]))
        refine Goes.retI X0 hx Bd.notSynchronized Bd.returns (hb hby d_method_7_code_23) (by decide) (by decide) ?_
        refine ⟨?_, N0, e0⟩
        rw [if_pos (by omega)]
        rfl
      · refine Goes.step (fun _ hr_ => XS.icmpYes X0.here hx rfl (pc0 := 15) (pc' := 22) rfl (hb hby d_method_7_code_15) rfl (feq (fun z => hn15_3 ((own_eqN (c i) 46 (by omega) (by decide)).mp z))).2 (by decide) (by decide) hr_) ?_
        show Goes p ee below s _ _ _ (s₁.setTop (mkF m 22 #[.val (.ref a1), .val (.int (Int32.ofNat i)), .val (.int (Int32.ofNat k)), .val (.int (Int32.ofNat n))] []))
        refine Goes.step (fun _ hr_ => XS.iconst X0.here hx rfl (hb hby d_method_7_code_22) hr_) ?_
        show Goes p ee below s _ _ _ (s₁.setTop (mkF m 23 #[.val (.ref a1), .val (.int (Int32.ofNat i)), .val (.int (Int32.ofNat k)), .val (.int (Int32.ofNat n))] [(.int (0 : Int32))]))
        refine Goes.retI X0 hx Bd.notSynchronized Bd.returns (hb hby d_method_7_code_23) (by decide) (by decide) ?_
        refine ⟨?_, N0, e0⟩
        rw [if_neg (by omega)]
        rfl
    · refine Goes.step (fun _ hr_ => XS.icmpYes X0.here hx rfl (pc0 := 7) (pc' := 22) rfl (hb hby d_method_7_code_7) rfl (flt (fun z => hn7_2 ((own_ltN i n (by omega) (by omega)).mp z))).2.1 (by decide) (by decide) hr_) ?_
      show Goes p ee below s _ _ _ (s₁.setTop (mkF m 22 #[.val (.ref a1), .val (.int (Int32.ofNat i)), .val (.int (Int32.ofNat k)), .val (.int (Int32.ofNat n))] []))
      refine Goes.step (fun _ hr_ => XS.iconst X0.here hx rfl (hb hby d_method_7_code_22) hr_) ?_
      show Goes p ee below s _ _ _ (s₁.setTop (mkF m 23 #[.val (.ref a1), .val (.int (Int32.ofNat i)), .val (.int (Int32.ofNat k)), .val (.int (Int32.ofNat n))] [(.int (0 : Int32))]))
      refine Goes.retI X0 hx Bd.notSynchronized Bd.returns (hb hby d_method_7_code_23) (by decide) (by decide) ?_
      refine ⟨?_, N0, e0⟩
      rw [if_neg (by omega)]
      rfl
theorem ef_ipd (m : MethodId) (x0 : Addr) : entryFrame m #[(.ref x0)] 4 = mkF m 0 #[.val (.ref x0), .unset, .unset, .unset] [] := by first | (simp [entryFrame, mkF, argsToLocals, Value.category]; done) | rfl
theorem d_prog_47_method_2_code_26 : decode prog_47_method_2_code 26 = .ok (.istore_n 1, 1) := by decide +kernel
theorem d_prog_47_method_2_code_27 : decode prog_47_method_2_code 27 = .ok (.iload_n 1, 1) := by decide +kernel
theorem d_prog_47_method_2_code_28 : decode prog_47_method_2_code 28 = .ok (.istore_n 2, 1) := by decide +kernel
theorem d_prog_47_method_2_code_29 : decode prog_47_method_2_code 29 = .ok (.iload_n 1, 1) := by decide +kernel
theorem d_prog_47_method_2_code_30 : decode prog_47_method_2_code 30 = .ok (.aload_n 0, 1) := by decide +kernel
theorem pd_15 : parseMethodDescriptor "()I" = some ⟨[], some .int⟩ := by decide +kernel
theorem d_prog_47_method_2_code_31 : decode prog_47_method_2_code 31 = .ok (.invokeinterface 9 1, 5) := by decide +kernel
theorem d_prog_47_method_2_code_36 : decode prog_47_method_2_code 36 = .ok (.if_icmp .ge 22, 3) := by decide +kernel
theorem d_prog_47_method_2_code_39 : decode prog_47_method_2_code 39 = .ok (.aload_n 0, 1) := by decide +kernel
theorem d_prog_47_method_2_code_40 : decode prog_47_method_2_code 40 = .ok (.iload_n 1, 1) := by decide +kernel
theorem pd_16 : parseMethodDescriptor "(I)C" = some ⟨[.int], some .char⟩ := by decide +kernel
theorem d_prog_47_method_2_code_41 : decode prog_47_method_2_code 41 = .ok (.invokeinterface 15 2, 5) := by decide +kernel
theorem d_prog_47_method_2_code_46 : decode prog_47_method_2_code 46 = .ok (.invokestatic 19, 3) := by decide +kernel
theorem d_prog_47_method_2_code_49 : decode prog_47_method_2_code 49 = .ok (.ifCond .eq 9, 3) := by decide +kernel
theorem d_prog_47_method_2_code_58 : decode prog_47_method_2_code 58 = .ok (.iload_n 1, 1) := by decide +kernel
theorem d_prog_47_method_2_code_59 : decode prog_47_method_2_code 59 = .ok (.iload_n 2, 1) := by decide +kernel
theorem d_prog_47_method_2_code_60 : decode prog_47_method_2_code 60 = .ok (.if_icmp .ne 5, 3) := by decide +kernel
theorem d_prog_47_method_2_code_63 : decode prog_47_method_2_code 63 = .ok (.iconst 0, 1) := by decide +kernel
theorem d_prog_47_method_2_code_64 : decode prog_47_method_2_code 64 = .ok (.ireturn, 1) := by decide +kernel
theorem d_prog_47_method_2_code_65 : decode prog_47_method_2_code 65 = .ok (.iload_n 1, 1) := by decide +kernel
theorem d_prog_47_method_2_code_66 : decode prog_47_method_2_code 66 = .ok (.aload_n 0, 1) := by decide +kernel
theorem d_prog_47_method_2_code_67 : decode prog_47_method_2_code 67 = .ok (.invokeinterface 9 1, 5) := by decide +kernel
theorem d_prog_47_method_2_code_72 : decode prog_47_method_2_code 72 = .ok (.if_icmp .ne 5, 3) := by decide +kernel
theorem d_prog_47_method_2_code_77 : decode prog_47_method_2_code 77 = .ok (.aload_n 0, 1) := by decide +kernel
theorem d_prog_47_method_2_code_78 : decode prog_47_method_2_code 78 = .ok (.iload_n 1, 1) := by decide +kernel
theorem d_prog_47_method_2_code_79 : decode prog_47_method_2_code 79 = .ok (.invokeinterface 15 2, 5) := by decide +kernel
theorem d_prog_47_method_2_code_84 : decode prog_47_method_2_code 84 = .ok (.bipush 46, 2) := by decide +kernel
theorem d_prog_47_method_2_code_86 : decode prog_47_method_2_code 86 = .ok (.if_icmp .eq 5, 3) := by decide +kernel
theorem d_prog_47_method_2_code_91 : decode prog_47_method_2_code 91 = .ok (.iinc 1 1, 3) := by decide +kernel
theorem d_prog_47_method_2_code_94 : decode prog_47_method_2_code 94 = .ok (.iload_n 1, 1) := by decide +kernel
theorem d_prog_47_method_2_code_95 : decode prog_47_method_2_code 95 = .ok (.istore_n 3, 1) := by decide +kernel
theorem d_prog_47_method_2_code_96 : decode prog_47_method_2_code 96 = .ok (.iload_n 1, 1) := by decide +kernel
theorem d_prog_47_method_2_code_97 : decode prog_47_method_2_code 97 = .ok (.aload_n 0, 1) := by decide +kernel
theorem d_prog_47_method_2_code_98 : decode prog_47_method_2_code 98 = .ok (.invokeinterface 9 1, 5) := by decide +kernel
theorem d_prog_47_method_2_code_103 : decode prog_47_method_2_code 103 = .ok (.if_icmp .ge 22, 3) := by decide +kernel
theorem d_prog_47_method_2_code_106 : decode prog_47_method_2_code 106 = .ok (.aload_n 0, 1) := by decide +kernel
theorem d_prog_47_method_2_code_107 : decode prog_47_method_2_code 107 = .ok (.iload_n 1, 1) := by decide +kernel
theorem d_prog_47_method_2_code_108 : decode prog_47_method_2_code 108 = .ok (.invokeinterface 15 2, 5) := by decide +kernel
theorem d_prog_47_method_2_code_113 : decode prog_47_method_2_code 113 = .ok (.invokestatic 19, 3) := by decide +kernel
theorem d_prog_47_method_2_code_116 : decode prog_47_method_2_code 116 = .ok (.ifCond .eq 9, 3) := by decide +kernel
theorem d_prog_47_method_2_code_125 : decode prog_47_method_2_code 125 = .ok (.iload_n 1, 1) := by decide +kernel
theorem d_prog_47_method_2_code_126 : decode prog_47_method_2_code 126 = .ok (.iload_n 3, 1) := by decide +kernel
theorem d_prog_47_method_2_code_127 : decode prog_47_method_2_code 127 = .ok (.if_icmp .le 17, 3) := by decide +kernel
theorem d_prog_47_method_2_code_130 : decode prog_47_method_2_code 130 = .ok (.iload_n 1, 1) := by decide +kernel
theorem d_prog_47_method_2_code_131 : decode prog_47_method_2_code 131 = .ok (.aload_n 0, 1) := by decide +kernel
theorem d_prog_47_method_2_code_132 : decode prog_47_method_2_code 132 = .ok (.invokeinterface 9 1, 5) := by decide +kernel
theorem d_prog_47_method_2_code_137 : decode prog_47_method_2_code 137 = .ok (.if_icmp .ne 7, 3) := by decide +kernel
theorem d_prog_47_method_2_code_140 : decode prog_47_method_2_code 140 = .ok (.iconst 1, 1) := by decide +kernel
theorem d_prog_47_method_2_code_141 : decode prog_47_method_2_code 141 = .ok (.goto 4, 3) := by decide +kernel
theorem d_prog_47_method_2_code_145 : decode prog_47_method_2_code 145 = .ok (.ireturn, 1) := by decide +kernel
theorem d_prog_47_method_2_code_144 : decode prog_47_method_2_code 144 = .ok (.iconst 0, 1) := by decide +kernel
theorem d_prog_47_method_2_code_119 : decode prog_47_method_2_code 119 = .ok (.iinc 1 1, 3) := by decide +kernel
theorem d_prog_47_method_2_code_122 : decode prog_47_method_2_code 122 = .ok (.goto (-26), 3) := by decide +kernel
theorem d_prog_47_method_2_code_89 : decode prog_47_method_2_code 89 = .ok (.iconst 0, 1) := by decide +kernel
theorem d_prog_47_method_2_code_90 : decode prog_47_method_2_code 90 = .ok (.ireturn, 1) := by decide +kernel
theorem d_prog_47_method_2_code_52 : decode prog_47_method_2_code 52 = .ok (.iinc 1 1, 3) := by decide +kernel
theorem d_prog_47_method_2_code_55 : decode prog_47_method_2_code 55 = .ok (.goto (-26), 3) := by decide +kernel
theorem d_prog_47_method_2_code_75 : decode prog_47_method_2_code 75 = .ok (.iconst 1, 1) := by decide +kernel
theorem d_prog_47_method_2_code_76 : decode prog_47_method_2_code 76 = .ok (.ireturn, 1) := by decide +kernel
theorem d_prog_47_method_2_code_0 : decode prog_47_method_2_code 0 = .ok (.aload_n 0, 1) := by decide +kernel
theorem d_prog_47_method_2_code_1 : decode prog_47_method_2_code 1 = .ok (.invokeinterface 9 1, 5) := by decide +kernel
theorem d_prog_47_method_2_code_6 : decode prog_47_method_2_code 6 = .ok (.ifCond .le 19, 3) := by decide +kernel
theorem d_prog_47_method_2_code_9 : decode prog_47_method_2_code 9 = .ok (.aload_n 0, 1) := by decide +kernel
theorem d_prog_47_method_2_code_10 : decode prog_47_method_2_code 10 = .ok (.iconst 0, 1) := by decide +kernel
theorem d_prog_47_method_2_code_11 : decode prog_47_method_2_code 11 = .ok (.invokeinterface 15 2, 5) := by decide +kernel
theorem d_prog_47_method_2_code_16 : decode prog_47_method_2_code 16 = .ok (.bipush 45, 2) := by decide +kernel
theorem d_prog_47_method_2_code_18 : decode prog_47_method_2_code 18 = .ok (.if_icmp .ne 7, 3) := by decide +kernel
theorem d_prog_47_method_2_code_21 : decode prog_47_method_2_code 21 = .ok (.iconst 1, 1) := by decide +kernel
theorem d_prog_47_method_2_code_22 : decode prog_47_method_2_code 22 = .ok (.goto 4, 3) := by decide +kernel
theorem d_prog_47_method_2_code_25 : decode prog_47_method_2_code 25 = .ok (.iconst 0, 1) := by decide +kernel
def Q_ipd (Z : State) (cs : Int32) (fm : Value) (a1 b : Addr) (u : Bool) (n : Nat) (c : Nat → Nat) (h0 : Heap) (n0 : Nat) (v : Option Value) (h : Heap) (L : List Loc) : Prop := (∃ r : Int32, v = some (.int r) ∧ ((r = 1 ∧ own_PD n c (own_k n c)) ∨ (r = 0 ∧ ¬ own_PD n c (own_k n c)))) ∧ Fr n0 L ∧ h = h0
set_option maxRecDepth 65536 in
set_option maxHeartbeats 40000000 in
theorem rm_ipd (l : Launch) (Z : State) (a0 : Array Value) (hw : ∀ d ∈ tables_1, d.before a0 Z = true) (ws : List Jvm.Cond) (cs : Int32) (fm : Value) (a1 b : Addr) (u : Bool) (n : Nat) (c : Nat → Nat) (h0 : Heap) (n0 : Nat) (Z0 : n0 ≤ h0.size) (ST : own_ST Z cs fm) (OO : Old Z n0 h0) (hn : n < 2 ^ 29) (E : Exa Z h0 a1 "java/lang/String") (FV : Fld Z h0 a1 "java/lang/String" "value" "[B" (.ref b)) (FC : Fld Z h0 a1 "java/lang/String" "coder" "B" (.int (own_cd u))) (A : OA Z h0 b .byte (own_len u n) (own_by u c)) (hc : ∀ j, j < n → c j < 65536) (hl : u = false → ∀ j, j < n → c j < 256) :
    MetFree l (⟨"com/example/strikeshift/strikeshift/formats/TextValues", "isPlainDecimal", "(Ljava/lang/CharSequence;)Z"⟩ : MethodName) (head1 (Jvm.Cond.code (⟨"com/example/strikeshift/strikeshift/formats/TextValues", "isPlainDecimal", "(Ljava/lang/CharSequence;)Z"⟩ : MethodName) prog_47_method_2_code 4 (some .boolean) :: ws) ({ frames := 5, cells := 0, slots := 0, locals := 66 } : Room)) (fun a U => a = #[(.ref a1)] ∧ Z.Warmed39 U.vm ∧ U.heap = h0) (fun _ _ _ _ _ => True) (fun _ U o U' => ∃ v L, o = .returned v ∧ Q_ipd Z cs fm a1 b u n c h0 n0 v U'.heap L ∧ FrameEnd U o U' L ({ frames := 5, cells := 0, slots := 0, locals := 66 } : Room).cells ({ frames := 5, cells := 0, slots := 0, locals := 66 } : Room).slots) := by
  refine MetFree.of_bodySF (plainFor_of_name pn_com_example_strikeshift_strikeshift_formats_TextValues) hisR ?_
  intro p ee s m args below meth cc s₁ Bd hml0 hP hK
  obtain ⟨rfl, hZ, hh⟩ := hP
  have hx := Bd.exec
  have hby := Bd.bytes
  have hml : cc.maxLocals = 4 := hml0
  have hown : s.vm.findClass "com/example/strikeshift/strikeshift/formats/TextValues" = some m.cls := findClass_of_methodNamed Bd.named
  have hnm := (name_of_methodNamed Bd.named Bd.method).1
  have X0 : Stand p l ee ({ frames := 5, cells := 0, slots := 0, locals := 66 } : Room) s m #[(.ref a1)] below meth cc s₁ [] 0 0 := Stand.of_body Bd
  have e0 : s₁.heap = h0 := by rw [← hh, Bd.state]; rfl
  have N0 := Fr.nil n0
  show Goes p ee below s ({ frames := 5, cells := 0, slots := 0, locals := 66 } : Room).cells ({ frames := 5, cells := 0, slots := 0, locals := 66 } : Room).slots (Q_ipd Z cs fm a1 b u n c h0 n0) (s₁.setTop (entryFrame m #[(.ref a1)] 4))
  refine Goes.step (fun _ hr_ => castTop (ef_ipd m a1) hr_) ?_
  show Goes p ee below s _ _ _ (s₁.setTop (mkF m 0 #[.val (.ref a1), .unset, .unset, .unset] []))
  have J26 : ∀ (kk : Nat) (T : State) (locs : List Loc), Stand p l ee ({ frames := 5, cells := 0, slots := 0, locals := 66 } : Room) s m #[(.ref a1)] below meth cc T locs 0 0 → T.heap = h0 → Fr n0 locs → kk = own_k n c → kk ≤ n → kk ≤ 1 → Goes p ee below s ({ frames := 5, cells := 0, slots := 0, locals := 66 } : Room).cells ({ frames := 5, cells := 0, slots := 0, locals := 66 } : Room).slots (Q_ipd Z cs fm a1 b u n c h0 n0) (T.setTop (mkF m 26 #[.val (.ref a1), .unset, .unset, .unset] [(.int (Int32.ofNat kk))])) := by
    intro kk T locs X eT N hkk hkn hk1
    show Goes p ee below s _ _ _ (T.setTop (mkF m 26 #[.val (.ref a1), .unset, .unset, .unset] [(.int (Int32.ofNat kk))]))
    refine Goes.step (fun _ hr_ => XS.istoreN X.here hx rfl (hb hby d_prog_47_method_2_code_26) rfl  (l' := #[.val (.ref a1), .val (.int (Int32.ofNat kk)), .unset, .unset]) rfl hr_) ?_
    show Goes p ee below s _ _ _ (T.setTop (mkF m 27 #[.val (.ref a1), .val (.int (Int32.ofNat kk)), .unset, .unset] []))
    refine Goes.step (fun _ hr_ => XS.iloadN X.here hx rfl (hb hby d_prog_47_method_2_code_27) rfl  hr_) ?_
    show Goes p ee below s _ _ _ (T.setTop (mkF m 28 #[.val (.ref a1), .val (.int (Int32.ofNat kk)), .unset, .unset] [(.int (Int32.ofNat kk))]))
    refine Goes.step (fun _ hr_ => XS.istoreN X.here hx rfl (hb hby d_prog_47_method_2_code_28) rfl  (l' := #[.val (.ref a1), .val (.int (Int32.ofNat kk)), .val (.int (Int32.ofNat kk)), .unset]) rfl hr_) ?_
    show Goes p ee below s _ _ _ (T.setTop (mkF m 29 #[.val (.ref a1), .val (.int (Int32.ofNat kk)), .val (.int (Int32.ofNat kk)), .unset] []))
    have loop1 : ∀ (d i : Nat) (T : State) (locs : List Loc), Stand p l ee ({ frames := 5, cells := 0, slots := 0, locals := 66 } : Room) s m #[(.ref a1)] below meth cc T locs 0 0 → T.heap = h0 → Fr n0 locs → 0 < d → n < i + d → i ≤ n → (∀ t, kk ≤ t → t < i → own_dig (c t)) → kk ≤ i → Goes p ee below s ({ frames := 5, cells := 0, slots := 0, locals := 66 } : Room).cells ({ frames := 5, cells := 0, slots := 0, locals := 66 } : Room).slots (Q_ipd Z cs fm a1 b u n c h0 n0) (T.setTop (mkF m 29 #[.val (.ref a1), .val (.int (Int32.ofNat i)), .val (.int (Int32.ofNat kk)), .unset] [])) := by
      intro d
      induction d with
      | zero => intro i T locs X eT N q1; omega
      | succ d ih =>
        intro i T locs X eT N q1 q2 q3 hA hki
        show Goes p ee below s _ _ _ (T.setTop (mkF m 29 #[.val (.ref a1), .val (.int (Int32.ofNat i)), .val (.int (Int32.ofNat kk)), .unset] []))
        refine Goes.step (fun _ hr_ => XS.iloadN X.here hx rfl (hb hby d_prog_47_method_2_code_29) rfl  hr_) ?_
        show Goes p ee below s _ _ _ (T.setTop (mkF m 30 #[.val (.ref a1), .val (.int (Int32.ofNat i)), .val (.int (Int32.ofNat kk)), .unset] [(.int (Int32.ofNat i))]))
        refine Goes.step (fun _ hr_ => XS.aloadN X.here hx rfl (hb hby d_prog_47_method_2_code_30) rfl rfl hr_) ?_
        show Goes p ee below s _ _ _ (T.setTop (mkF m 31 #[.val (.ref a1), .val (.int (Int32.ofNat i)), .val (.int (Int32.ofNat kk)), .unset] [(.ref a1), (.int (Int32.ofNat i))]))
        have lt_a1 := E.lt
        have lt_b := A.lt
        obtain ⟨v1, T1, L1, X1, hQ1, st1⟩ := own_callI X hx hZ (xi := (⟨"java/lang/CharSequence", "length", "()I"⟩ : MethodName)) (z := (⟨"java/lang/String", "length", "()I"⟩ : MethodName)) hown (hw _ (List.mem_of_getElem? (i := 34) rfl)) (hw _ (List.mem_of_getElem? (i := 35) rfl)) (hw _ (List.mem_of_getElem? (i := 36) rfl)) (hw _ (List.mem_of_getElem? (i := 37) rfl)) (hw _ (List.mem_of_getElem? (i := 38) rfl)) (hw _ (List.mem_of_getElem? (i := 39) rfl)) (hw _ (List.mem_of_getElem? (i := 40) rfl)) (hw _ (List.mem_of_getElem? (i := 41) rfl)) (by first | rfl | decide) (hw _ (List.mem_of_getElem? (i := 11) rfl)) (hw _ (List.mem_of_getElem? (i := 42) rfl)) (by decide) (a := a1) (argsL := []) (rm_slen l Z a0 hw [] cs fm a1 b u n c h0 n0 Z0 ST OO hn E FV FC A) eT E (W := 1) (by decide) (by decide) (by decide) (by decide) (g := (mkF m 31 #[.val (.ref a1), .val (.int (Int32.ofNat i)), .val (.int (Int32.ofNat kk)), .unset] [(.ref a1), (.int (Int32.ofNat i))])) rfl (by rw [hml]; rfl) (rest := [(.int (Int32.ofNat i))]) (lenOf pd_15 rfl) rfl (by show 2 * 0 + _ ≤ _; exact Nat.le_of_eq rfl) (hb hby d_prog_47_method_2_code_31)
        refine Goes.step st1 ?_
        obtain ⟨rfl, N1, e1⟩ := hQ1
        have N2 := Fr.app N N1
        show Goes p ee below s _ _ _ (T1.setTop (mkF m 36 #[.val (.ref a1), .val (.int (Int32.ofNat i)), .val (.int (Int32.ofNat kk)), .unset] [(.int (Int32.ofNat n)), (.int (Int32.ofNat i))]))
        by_cases hn36_3 : i < n
        · refine Goes.step (fun _ hr_ => XS.icmpNo X1.here hx rfl (hb hby d_prog_47_method_2_code_36) rfl (tlt ((own_ltN i n (by omega) (by omega)).mpr hn36_3)).2.1 hr_) ?_
          show Goes p ee below s _ _ _ (T1.setTop (mkF m 39 #[.val (.ref a1), .val (.int (Int32.ofNat i)), .val (.int (Int32.ofNat kk)), .unset] []))
          refine Goes.step (fun _ hr_ => XS.aloadN X1.here hx rfl (hb hby d_prog_47_method_2_code_39) rfl rfl hr_) ?_
          show Goes p ee below s _ _ _ (T1.setTop (mkF m 40 #[.val (.ref a1), .val (.int (Int32.ofNat i)), .val (.int (Int32.ofNat kk)), .unset] [(.ref a1)]))
          refine Goes.step (fun _ hr_ => XS.iloadN X1.here hx rfl (hb hby d_prog_47_method_2_code_40) rfl  hr_) ?_
          show Goes p ee below s _ _ _ (T1.setTop (mkF m 41 #[.val (.ref a1), .val (.int (Int32.ofNat i)), .val (.int (Int32.ofNat kk)), .unset] [(.int (Int32.ofNat i)), (.ref a1)]))
          have lt_a1 := E.lt
          have lt_b := A.lt
          obtain ⟨v4, T4, L4, X4, hQ4, st4⟩ := own_callI X1 hx hZ (xi := (⟨"java/lang/CharSequence", "charAt", "(I)C"⟩ : MethodName)) (z := (⟨"java/lang/String", "charAt", "(I)C"⟩ : MethodName)) hown (hw _ (List.mem_of_getElem? (i := 59) rfl)) (hw _ (List.mem_of_getElem? (i := 60) rfl)) (hw _ (List.mem_of_getElem? (i := 61) rfl)) (hw _ (List.mem_of_getElem? (i := 62) rfl)) (hw _ (List.mem_of_getElem? (i := 63) rfl)) (hw _ (List.mem_of_getElem? (i := 64) rfl)) (hw _ (List.mem_of_getElem? (i := 65) rfl)) (hw _ (List.mem_of_getElem? (i := 41) rfl)) (by first | rfl | decide) (hw _ (List.mem_of_getElem? (i := 11) rfl)) (hw _ (List.mem_of_getElem? (i := 66) rfl)) (by decide) (a := a1) (argsL := [(.int (Int32.ofNat i))]) (rm_schar l Z a0 hw [] cs fm a1 b u n c i h0 n0 Z0 ST OO hn E FV FC A hc hl hn36_3) e1 E (W := 0) (by decide) (by decide) (by decide) (by decide) (g := (mkF m 41 #[.val (.ref a1), .val (.int (Int32.ofNat i)), .val (.int (Int32.ofNat kk)), .unset] [(.int (Int32.ofNat i)), (.ref a1)])) rfl (by rw [hml]; rfl) (rest := []) (lenOf pd_16 rfl) rfl (by show 2 * 0 + _ ≤ _; exact Nat.le_of_eq rfl) (hb hby d_prog_47_method_2_code_41)
          refine Goes.step st4 ?_
          obtain ⟨rfl, N4, e4⟩ := hQ4
          have N5 := Fr.app N2 N4
          show Goes p ee below s _ _ _ (T4.setTop (mkF m 46 #[.val (.ref a1), .val (.int (Int32.ofNat i)), .val (.int (Int32.ofNat kk)), .unset] [(.int (Int32.ofNat (c i)))]))
          have lt_a1 := E.lt
          have lt_b := A.lt
          obtain ⟨v6, T6, L6, X6, hQ6, st6⟩ := own_callS X4 hx hZ (y := (⟨"com/example/strikeshift/strikeshift/formats/TextValues", "isDigit", "(C)Z"⟩ : MethodName)) hown (hw _ (List.mem_of_getElem? (i := 84) rfl)) (hw _ (List.mem_of_getElem? (i := 85) rfl)) (hw _ (List.mem_of_getElem? (i := 32) rfl)) (hw _ (List.mem_of_getElem? (i := 86) rfl)) (by decide) (argsL := [(.int (Int32.ofNat (c i)))]) (rm_isdig l Z a0 hw [] (c i) h0 n0 Z0 (hc i hn36_3)) e4 (W := 0) (by decide) (by decide) (by decide) (by decide) (g := (mkF m 46 #[.val (.ref a1), .val (.int (Int32.ofNat i)), .val (.int (Int32.ofNat kk)), .unset] [(.int (Int32.ofNat (c i)))])) rfl (by rw [hml]; rfl) (rest := []) (lenOf pd_14 rfl) rfl (by show 2 * 0 + _ ≤ _; exact Nat.le_of_eq rfl) (hb hby d_prog_47_method_2_code_46)
          refine Goes.step st6 ?_
          obtain ⟨rfl, N6, e6⟩ := hQ6
          have N7 := Fr.app N5 N6
          show Goes p ee below s _ _ _ (T6.setTop (mkF m 49 #[.val (.ref a1), .val (.int (Int32.ofNat i)), .val (.int (Int32.ofNat kk)), .unset] [(.int (if own_dig (c i) then (1 : Int32) else 0))]))
          by_cases hn49_8 : ¬ own_dig (c i)
          · refine Goes.step (fun _ hr_ => XS.ifYes X6.here hx rfl (pc0 := 49) (pc' := 58) rfl (hb hby d_prog_47_method_2_code_49) rfl ((if0 _ _).trans (teq (own_if0.mpr hn49_8)).1) (by decide) (by decide) hr_) ?_
            show Goes p ee below s _ _ _ (T6.setTop (mkF m 58 #[.val (.ref a1), .val (.int (Int32.ofNat i)), .val (.int (Int32.ofNat kk)), .unset] []))
            refine Goes.step (fun _ hr_ => XS.iloadN X6.here hx rfl (hb hby d_prog_47_method_2_code_58) rfl  hr_) ?_
            show Goes p ee below s _ _ _ (T6.setTop (mkF m 59 #[.val (.ref a1), .val (.int (Int32.ofNat i)), .val (.int (Int32.ofNat kk)), .unset] [(.int (Int32.ofNat i))]))
            refine Goes.step (fun _ hr_ => XS.iloadN X6.here hx rfl (hb hby d_prog_47_method_2_code_59) rfl  hr_) ?_
            show Goes p ee below s _ _ _ (T6.setTop (mkF m 60 #[.val (.ref a1), .val (.int (Int32.ofNat i)), .val (.int (Int32.ofNat kk)), .unset] [(.int (Int32.ofNat kk)), (.int (Int32.ofNat i))]))
            by_cases hn60_9 : i = kk
            · refine Goes.step (fun _ hr_ => XS.icmpNo X6.here hx rfl (hb hby d_prog_47_method_2_code_60) rfl (teq ((own_eqN i kk (by omega) (by omega)).mpr hn60_9)).2 hr_) ?_
              show Goes p ee below s _ _ _ (T6.setTop (mkF m 63 #[.val (.ref a1), .val (.int (Int32.ofNat i)), .val (.int (Int32.ofNat kk)), .unset] []))
              refine Goes.step (fun _ hr_ => XS.iconst X6.here hx rfl (hb hby d_prog_47_method_2_code_63) hr_) ?_
              show Goes p ee below s _ _ _ (T6.setTop (mkF m 64 #[.val (.ref a1), .val (.int (Int32.ofNat i)), .val (.int (Int32.ofNat kk)), .unset] [(.int (0 : Int32))]))
              refine Goes.retZ X6 hx Bd.notSynchronized Bd.returns (by simp) rfl (hb hby d_prog_47_method_2_code_64) (by decide) (by decide) ?_
              refine ⟨⟨_, rfl, Or.inr ⟨rfl, fun q => ?_⟩⟩, N7, e6⟩
              rw [← hkk] at q
              have := (own_pd_at q hA hn36_3 hn49_8 hki).1
              omega
            · refine Goes.step (fun _ hr_ => XS.icmpYes X6.here hx rfl (pc0 := 60) (pc' := 65) rfl (hb hby d_prog_47_method_2_code_60) rfl (feq (fun z => hn60_9 ((own_eqN i kk (by omega) (by omega)).mp z))).2 (by decide) (by decide) hr_) ?_
              show Goes p ee below s _ _ _ (T6.setTop (mkF m 65 #[.val (.ref a1), .val (.int (Int32.ofNat i)), .val (.int (Int32.ofNat kk)), .unset] []))
              refine Goes.step (fun _ hr_ => XS.iloadN X6.here hx rfl (hb hby d_prog_47_method_2_code_65) rfl  hr_) ?_
              show Goes p ee below s _ _ _ (T6.setTop (mkF m 66 #[.val (.ref a1), .val (.int (Int32.ofNat i)), .val (.int (Int32.ofNat kk)), .unset] [(.int (Int32.ofNat i))]))
              refine Goes.step (fun _ hr_ => XS.aloadN X6.here hx rfl (hb hby d_prog_47_method_2_code_66) rfl rfl hr_) ?_
              show Goes p ee below s _ _ _ (T6.setTop (mkF m 67 #[.val (.ref a1), .val (.int (Int32.ofNat i)), .val (.int (Int32.ofNat kk)), .unset] [(.ref a1), (.int (Int32.ofNat i))]))
              have lt_a1 := E.lt
              have lt_b := A.lt
              obtain ⟨v10, T10, L10, X10, hQ10, st10⟩ := own_callI X6 hx hZ (xi := (⟨"java/lang/CharSequence", "length", "()I"⟩ : MethodName)) (z := (⟨"java/lang/String", "length", "()I"⟩ : MethodName)) hown (hw _ (List.mem_of_getElem? (i := 34) rfl)) (hw _ (List.mem_of_getElem? (i := 35) rfl)) (hw _ (List.mem_of_getElem? (i := 36) rfl)) (hw _ (List.mem_of_getElem? (i := 37) rfl)) (hw _ (List.mem_of_getElem? (i := 38) rfl)) (hw _ (List.mem_of_getElem? (i := 39) rfl)) (hw _ (List.mem_of_getElem? (i := 40) rfl)) (hw _ (List.mem_of_getElem? (i := 41) rfl)) (by first | rfl | decide) (hw _ (List.mem_of_getElem? (i := 11) rfl)) (hw _ (List.mem_of_getElem? (i := 42) rfl)) (by decide) (a := a1) (argsL := []) (rm_slen l Z a0 hw [] cs fm a1 b u n c h0 n0 Z0 ST OO hn E FV FC A) e6 E (W := 1) (by decide) (by decide) (by decide) (by decide) (g := (mkF m 67 #[.val (.ref a1), .val (.int (Int32.ofNat i)), .val (.int (Int32.ofNat kk)), .unset] [(.ref a1), (.int (Int32.ofNat i))])) rfl (by rw [hml]; rfl) (rest := [(.int (Int32.ofNat i))]) (lenOf pd_15 rfl) rfl (by show 2 * 0 + _ ≤ _; exact Nat.le_of_eq rfl) (hb hby d_prog_47_method_2_code_67)
              refine Goes.step st10 ?_
              obtain ⟨rfl, N10, e10⟩ := hQ10
              have N11 := Fr.app N7 N10
              show Goes p ee below s _ _ _ (T10.setTop (mkF m 72 #[.val (.ref a1), .val (.int (Int32.ofNat i)), .val (.int (Int32.ofNat kk)), .unset] [(.int (Int32.ofNat n)), (.int (Int32.ofNat i))]))
              refine Goes.step (fun _ hr_ => XS.icmpYes X10.here hx rfl (pc0 := 72) (pc' := 77) rfl (hb hby d_prog_47_method_2_code_72) rfl (feq (fun z => absurd ((own_eqN i n (by omega) (by omega)).mp z) (by omega))).2 (by decide) (by decide) hr_) ?_
              show Goes p ee below s _ _ _ (T10.setTop (mkF m 77 #[.val (.ref a1), .val (.int (Int32.ofNat i)), .val (.int (Int32.ofNat kk)), .unset] []))
              refine Goes.step (fun _ hr_ => XS.aloadN X10.here hx rfl (hb hby d_prog_47_method_2_code_77) rfl rfl hr_) ?_
              show Goes p ee below s _ _ _ (T10.setTop (mkF m 78 #[.val (.ref a1), .val (.int (Int32.ofNat i)), .val (.int (Int32.ofNat kk)), .unset] [(.ref a1)]))
              refine Goes.step (fun _ hr_ => XS.iloadN X10.here hx rfl (hb hby d_prog_47_method_2_code_78) rfl  hr_) ?_
              show Goes p ee below s _ _ _ (T10.setTop (mkF m 79 #[.val (.ref a1), .val (.int (Int32.ofNat i)), .val (.int (Int32.ofNat kk)), .unset] [(.int (Int32.ofNat i)), (.ref a1)]))
              have lt_a1 := E.lt
              have lt_b := A.lt
              obtain ⟨v12, T12, L12, X12, hQ12, st12⟩ := own_callI X10 hx hZ (xi := (⟨"java/lang/CharSequence", "charAt", "(I)C"⟩ : MethodName)) (z := (⟨"java/lang/String", "charAt", "(I)C"⟩ : MethodName)) hown (hw _ (List.mem_of_getElem? (i := 59) rfl)) (hw _ (List.mem_of_getElem? (i := 60) rfl)) (hw _ (List.mem_of_getElem? (i := 61) rfl)) (hw _ (List.mem_of_getElem? (i := 62) rfl)) (hw _ (List.mem_of_getElem? (i := 63) rfl)) (hw _ (List.mem_of_getElem? (i := 64) rfl)) (hw _ (List.mem_of_getElem? (i := 65) rfl)) (hw _ (List.mem_of_getElem? (i := 41) rfl)) (by first | rfl | decide) (hw _ (List.mem_of_getElem? (i := 11) rfl)) (hw _ (List.mem_of_getElem? (i := 66) rfl)) (by decide) (a := a1) (argsL := [(.int (Int32.ofNat i))]) (rm_schar l Z a0 hw [] cs fm a1 b u n c i h0 n0 Z0 ST OO hn E FV FC A hc hl hn36_3) e10 E (W := 0) (by decide) (by decide) (by decide) (by decide) (g := (mkF m 79 #[.val (.ref a1), .val (.int (Int32.ofNat i)), .val (.int (Int32.ofNat kk)), .unset] [(.int (Int32.ofNat i)), (.ref a1)])) rfl (by rw [hml]; rfl) (rest := []) (lenOf pd_16 rfl) rfl (by show 2 * 0 + _ ≤ _; exact Nat.le_of_eq rfl) (hb hby d_prog_47_method_2_code_79)
              refine Goes.step st12 ?_
              obtain ⟨rfl, N12, e12⟩ := hQ12
              have N13 := Fr.app N11 N12
              show Goes p ee below s _ _ _ (T12.setTop (mkF m 84 #[.val (.ref a1), .val (.int (Int32.ofNat i)), .val (.int (Int32.ofNat kk)), .unset] [(.int (Int32.ofNat (c i)))]))
              refine Goes.step (fun _ hr_ => XS.bipush X12.here hx rfl (hb hby d_prog_47_method_2_code_84) hr_) ?_
              show Goes p ee below s _ _ _ (T12.setTop (mkF m 86 #[.val (.ref a1), .val (.int (Int32.ofNat i)), .val (.int (Int32.ofNat kk)), .unset] [(.int (46 : Int32)), (.int (Int32.ofNat (c i)))]))
              by_cases hn86_14 : c i = 46
              · refine Goes.step (fun _ hr_ => XS.icmpYes X12.here hx rfl (pc0 := 86) (pc' := 91) rfl (hb hby d_prog_47_method_2_code_86) rfl (teq ((own_eqN (c i) 46 (Nat.lt_trans (hc i hn36_3) (by decide)) (by decide)).mpr hn86_14)).1 (by decide) (by decide) hr_) ?_
                show Goes p ee below s _ _ _ (T12.setTop (mkF m 91 #[.val (.ref a1), .val (.int (Int32.ofNat i)), .val (.int (Int32.ofNat kk)), .unset] []))
                refine Goes.step (fun _ hr_ => XS.iinc X12.here hx rfl (hb hby d_prog_47_method_2_code_91) rfl (l' := #[.val (.ref a1), .val (.int ((Int32.ofNat i) + (1 : Int32))), .val (.int (Int32.ofNat kk)), .unset]) rfl hr_) ?_
                show Goes p ee below s _ _ _ (T12.setTop (mkF m 94 #[.val (.ref a1), .val (.int ((Int32.ofNat i) + (1 : Int32))), .val (.int (Int32.ofNat kk)), .unset] []))
                rw [show Int32.ofNat i + (1 : Int32) = Int32.ofNat (i + 1) from own_addN i 1]
                show Goes p ee below s _ _ _ (T12.setTop (mkF m 94 #[.val (.ref a1), .val (.int (Int32.ofNat (i + 1))), .val (.int (Int32.ofNat kk)), .unset] []))
                refine Goes.step (fun _ hr_ => XS.iloadN X12.here hx rfl (hb hby d_prog_47_method_2_code_94) rfl  hr_) ?_
                show Goes p ee below s _ _ _ (T12.setTop (mkF m 95 #[.val (.ref a1), .val (.int (Int32.ofNat (i + 1))), .val (.int (Int32.ofNat kk)), .unset] [(.int (Int32.ofNat (i + 1)))]))
                refine Goes.step (fun _ hr_ => XS.istoreN X12.here hx rfl (hb hby d_prog_47_method_2_code_95) rfl  (l' := #[.val (.ref a1), .val (.int (Int32.ofNat (i + 1))), .val (.int (Int32.ofNat kk)), .val (.int (Int32.ofNat (i + 1)))]) rfl hr_) ?_
                show Goes p ee below s _ _ _ (T12.setTop (mkF m 96 #[.val (.ref a1), .val (.int (Int32.ofNat (i + 1))), .val (.int (Int32.ofNat kk)), .val (.int (Int32.ofNat (i + 1)))] []))
                have hin : i < n := hn36_3
                have hnd : ¬ own_dig (c i) := hn49_8
                have hdot : c i = 46 := hn86_14
                have hik : ¬ i = kk := hn60_9
                have loop2 : ∀ (d i2 : Nat) (T : State) (locs : List Loc), Stand p l ee ({ frames := 5, cells := 0, slots := 0, locals := 66 } : Room) s m #[(.ref a1)] below meth cc T locs 0 0 → T.heap = h0 → Fr n0 locs → 0 < d → n < i2 + d → i2 ≤ n → (∀ t, i + 1 ≤ t → t < i2 → own_dig (c t)) → i + 1 ≤ i2 → Goes p ee below s ({ frames := 5, cells := 0, slots := 0, locals := 66 } : Room).cells ({ frames := 5, cells := 0, slots := 0, locals := 66 } : Room).slots (Q_ipd Z cs fm a1 b u n c h0 n0) (T.setTop (mkF m 96 #[.val (.ref a1), .val (.int (Int32.ofNat i2)), .val (.int (Int32.ofNat kk)), .val (.int (Int32.ofNat (i + 1)))] [])) := by
                  intro d
                  induction d with
                  | zero => intro i2 T locs X eT N q1; omega
                  | succ d ih =>
                    intro i2 T locs X eT N q1 q2 q3 hB hfs
                    show Goes p ee below s _ _ _ (T.setTop (mkF m 96 #[.val (.ref a1), .val (.int (Int32.ofNat i2)), .val (.int (Int32.ofNat kk)), .val (.int (Int32.ofNat (i + 1)))] []))
                    refine Goes.step (fun _ hr_ => XS.iloadN X.here hx rfl (hb hby d_prog_47_method_2_code_96) rfl  hr_) ?_
                    show Goes p ee below s _ _ _ (T.setTop (mkF m 97 #[.val (.ref a1), .val (.int (Int32.ofNat i2)), .val (.int (Int32.ofNat kk)), .val (.int (Int32.ofNat (i + 1)))] [(.int (Int32.ofNat i2))]))
                    refine Goes.step (fun _ hr_ => XS.aloadN X.here hx rfl (hb hby d_prog_47_method_2_code_97) rfl rfl hr_) ?_
                    show Goes p ee below s _ _ _ (T.setTop (mkF m 98 #[.val (.ref a1), .val (.int (Int32.ofNat i2)), .val (.int (Int32.ofNat kk)), .val (.int (Int32.ofNat (i + 1)))] [(.ref a1), (.int (Int32.ofNat i2))]))
                    have lt_a1 := E.lt
                    have lt_b := A.lt
                    obtain ⟨v15, T15, L15, X15, hQ15, st15⟩ := own_callI X hx hZ (xi := (⟨"java/lang/CharSequence", "length", "()I"⟩ : MethodName)) (z := (⟨"java/lang/String", "length", "()I"⟩ : MethodName)) hown (hw _ (List.mem_of_getElem? (i := 34) rfl)) (hw _ (List.mem_of_getElem? (i := 35) rfl)) (hw _ (List.mem_of_getElem? (i := 36) rfl)) (hw _ (List.mem_of_getElem? (i := 37) rfl)) (hw _ (List.mem_of_getElem? (i := 38) rfl)) (hw _ (List.mem_of_getElem? (i := 39) rfl)) (hw _ (List.mem_of_getElem? (i := 40) rfl)) (hw _ (List.mem_of_getElem? (i := 41) rfl)) (by first | rfl | decide) (hw _ (List.mem_of_getElem? (i := 11) rfl)) (hw _ (List.mem_of_getElem? (i := 42) rfl)) (by decide) (a := a1) (argsL := []) (rm_slen l Z a0 hw [] cs fm a1 b u n c h0 n0 Z0 ST OO hn E FV FC A) eT E (W := 1) (by decide) (by decide) (by decide) (by decide) (g := (mkF m 98 #[.val (.ref a1), .val (.int (Int32.ofNat i2)), .val (.int (Int32.ofNat kk)), .val (.int (Int32.ofNat (i + 1)))] [(.ref a1), (.int (Int32.ofNat i2))])) rfl (by rw [hml]; rfl) (rest := [(.int (Int32.ofNat i2))]) (lenOf pd_15 rfl) rfl (by show 2 * 0 + _ ≤ _; exact Nat.le_of_eq rfl) (hb hby d_prog_47_method_2_code_98)
                    refine Goes.step st15 ?_
                    obtain ⟨rfl, N15, e15⟩ := hQ15
                    have N16 := Fr.app N N15
                    show Goes p ee below s _ _ _ (T15.setTop (mkF m 103 #[.val (.ref a1), .val (.int (Int32.ofNat i2)), .val (.int (Int32.ofNat kk)), .val (.int (Int32.ofNat (i + 1)))] [(.int (Int32.ofNat n)), (.int (Int32.ofNat i2))]))
                    by_cases hn103_17 : i2 < n
                    · refine Goes.step (fun _ hr_ => XS.icmpNo X15.here hx rfl (hb hby d_prog_47_method_2_code_103) rfl (tlt ((own_ltN i2 n (by omega) (by omega)).mpr hn103_17)).2.1 hr_) ?_
                      show Goes p ee below s _ _ _ (T15.setTop (mkF m 106 #[.val (.ref a1), .val (.int (Int32.ofNat i2)), .val (.int (Int32.ofNat kk)), .val (.int (Int32.ofNat (i + 1)))] []))
                      refine Goes.step (fun _ hr_ => XS.aloadN X15.here hx rfl (hb hby d_prog_47_method_2_code_106) rfl rfl hr_) ?_
                      show Goes p ee below s _ _ _ (T15.setTop (mkF m 107 #[.val (.ref a1), .val (.int (Int32.ofNat i2)), .val (.int (Int32.ofNat kk)), .val (.int (Int32.ofNat (i + 1)))] [(.ref a1)]))
                      refine Goes.step (fun _ hr_ => XS.iloadN X15.here hx rfl (hb hby d_prog_47_method_2_code_107) rfl  hr_) ?_
                      show Goes p ee below s _ _ _ (T15.setTop (mkF m 108 #[.val (.ref a1), .val (.int (Int32.ofNat i2)), .val (.int (Int32.ofNat kk)), .val (.int (Int32.ofNat (i + 1)))] [(.int (Int32.ofNat i2)), (.ref a1)]))
                      have lt_a1 := E.lt
                      have lt_b := A.lt
                      obtain ⟨v18, T18, L18, X18, hQ18, st18⟩ := own_callI X15 hx hZ (xi := (⟨"java/lang/CharSequence", "charAt", "(I)C"⟩ : MethodName)) (z := (⟨"java/lang/String", "charAt", "(I)C"⟩ : MethodName)) hown (hw _ (List.mem_of_getElem? (i := 59) rfl)) (hw _ (List.mem_of_getElem? (i := 60) rfl)) (hw _ (List.mem_of_getElem? (i := 61) rfl)) (hw _ (List.mem_of_getElem? (i := 62) rfl)) (hw _ (List.mem_of_getElem? (i := 63) rfl)) (hw _ (List.mem_of_getElem? (i := 64) rfl)) (hw _ (List.mem_of_getElem? (i := 65) rfl)) (hw _ (List.mem_of_getElem? (i := 41) rfl)) (by first | rfl | decide) (hw _ (List.mem_of_getElem? (i := 11) rfl)) (hw _ (List.mem_of_getElem? (i := 66) rfl)) (by decide) (a := a1) (argsL := [(.int (Int32.ofNat i2))]) (rm_schar l Z a0 hw [] cs fm a1 b u n c i2 h0 n0 Z0 ST OO hn E FV FC A hc hl hn103_17) e15 E (W := 0) (by decide) (by decide) (by decide) (by decide) (g := (mkF m 108 #[.val (.ref a1), .val (.int (Int32.ofNat i2)), .val (.int (Int32.ofNat kk)), .val (.int (Int32.ofNat (i + 1)))] [(.int (Int32.ofNat i2)), (.ref a1)])) rfl (by rw [hml]; rfl) (rest := []) (lenOf pd_16 rfl) rfl (by show 2 * 0 + _ ≤ _; exact Nat.le_of_eq rfl) (hb hby d_prog_47_method_2_code_108)
                      refine Goes.step st18 ?_
                      obtain ⟨rfl, N18, e18⟩ := hQ18
                      have N19 := Fr.app N16 N18
                      show Goes p ee below s _ _ _ (T18.setTop (mkF m 113 #[.val (.ref a1), .val (.int (Int32.ofNat i2)), .val (.int (Int32.ofNat kk)), .val (.int (Int32.ofNat (i + 1)))] [(.int (Int32.ofNat (c i2)))]))
                      have lt_a1 := E.lt
                      have lt_b := A.lt
                      obtain ⟨v20, T20, L20, X20, hQ20, st20⟩ := own_callS X18 hx hZ (y := (⟨"com/example/strikeshift/strikeshift/formats/TextValues", "isDigit", "(C)Z"⟩ : MethodName)) hown (hw _ (List.mem_of_getElem? (i := 84) rfl)) (hw _ (List.mem_of_getElem? (i := 85) rfl)) (hw _ (List.mem_of_getElem? (i := 32) rfl)) (hw _ (List.mem_of_getElem? (i := 86) rfl)) (by decide) (argsL := [(.int (Int32.ofNat (c i2)))]) (rm_isdig l Z a0 hw [] (c i2) h0 n0 Z0 (hc i2 hn103_17)) e18 (W := 0) (by decide) (by decide) (by decide) (by decide) (g := (mkF m 113 #[.val (.ref a1), .val (.int (Int32.ofNat i2)), .val (.int (Int32.ofNat kk)), .val (.int (Int32.ofNat (i + 1)))] [(.int (Int32.ofNat (c i2)))])) rfl (by rw [hml]; rfl) (rest := []) (lenOf pd_14 rfl) rfl (by show 2 * 0 + _ ≤ _; exact Nat.le_of_eq rfl) (hb hby d_prog_47_method_2_code_113)
                      refine Goes.step st20 ?_
                      obtain ⟨rfl, N20, e20⟩ := hQ20
                      have N21 := Fr.app N19 N20
                      show Goes p ee below s _ _ _ (T20.setTop (mkF m 116 #[.val (.ref a1), .val (.int (Int32.ofNat i2)), .val (.int (Int32.ofNat kk)), .val (.int (Int32.ofNat (i + 1)))] [(.int (if own_dig (c i2) then (1 : Int32) else 0))]))
                      by_cases hn116_22 : ¬ own_dig (c i2)
                      · refine Goes.step (fun _ hr_ => XS.ifYes X20.here hx rfl (pc0 := 116) (pc' := 125) rfl (hb hby d_prog_47_method_2_code_116) rfl ((if0 _ _).trans (teq (own_if0.mpr hn116_22)).1) (by decide) (by decide) hr_) ?_
                        show Goes p ee below s _ _ _ (T20.setTop (mkF m 125 #[.val (.ref a1), .val (.int (Int32.ofNat i2)), .val (.int (Int32.ofNat kk)), .val (.int (Int32.ofNat (i + 1)))] []))
                        refine Goes.step (fun _ hr_ => XS.iloadN X20.here hx rfl (hb hby d_prog_47_method_2_code_125) rfl  hr_) ?_
                        show Goes p ee below s _ _ _ (T20.setTop (mkF m 126 #[.val (.ref a1), .val (.int (Int32.ofNat i2)), .val (.int (Int32.ofNat kk)), .val (.int (Int32.ofNat (i + 1)))] [(.int (Int32.ofNat i2))]))
                        refine Goes.step (fun _ hr_ => XS.iloadN X20.here hx rfl (hb hby d_prog_47_method_2_code_126) rfl  hr_) ?_
                        show Goes p ee below s _ _ _ (T20.setTop (mkF m 127 #[.val (.ref a1), .val (.int (Int32.ofNat i2)), .val (.int (Int32.ofNat kk)), .val (.int (Int32.ofNat (i + 1)))] [(.int (Int32.ofNat (i + 1))), (.int (Int32.ofNat i2))]))
                        by_cases hn127_23 : i + 1 < i2
                        · refine Goes.step (fun _ hr_ => XS.icmpNo X20.here hx rfl (hb hby d_prog_47_method_2_code_127) rfl (tlt ((own_ltN (i + 1) i2 (by omega) (by omega)).mpr hn127_23)).2.2.2 hr_) ?_
                          show Goes p ee below s _ _ _ (T20.setTop (mkF m 130 #[.val (.ref a1), .val (.int (Int32.ofNat i2)), .val (.int (Int32.ofNat kk)), .val (.int (Int32.ofNat (i + 1)))] []))
                          refine Goes.step (fun _ hr_ => XS.iloadN X20.here hx rfl (hb hby d_prog_47_method_2_code_130) rfl  hr_) ?_
                          show Goes p ee below s _ _ _ (T20.setTop (mkF m 131 #[.val (.ref a1), .val (.int (Int32.ofNat i2)), .val (.int (Int32.ofNat kk)), .val (.int (Int32.ofNat (i + 1)))] [(.int (Int32.ofNat i2))]))
                          refine Goes.step (fun _ hr_ => XS.aloadN X20.here hx rfl (hb hby d_prog_47_method_2_code_131) rfl rfl hr_) ?_
                          show Goes p ee below s _ _ _ (T20.setTop (mkF m 132 #[.val (.ref a1), .val (.int (Int32.ofNat i2)), .val (.int (Int32.ofNat kk)), .val (.int (Int32.ofNat (i + 1)))] [(.ref a1), (.int (Int32.ofNat i2))]))
                          have lt_a1 := E.lt
                          have lt_b := A.lt
                          obtain ⟨v24, T24, L24, X24, hQ24, st24⟩ := own_callI X20 hx hZ (xi := (⟨"java/lang/CharSequence", "length", "()I"⟩ : MethodName)) (z := (⟨"java/lang/String", "length", "()I"⟩ : MethodName)) hown (hw _ (List.mem_of_getElem? (i := 34) rfl)) (hw _ (List.mem_of_getElem? (i := 35) rfl)) (hw _ (List.mem_of_getElem? (i := 36) rfl)) (hw _ (List.mem_of_getElem? (i := 37) rfl)) (hw _ (List.mem_of_getElem? (i := 38) rfl)) (hw _ (List.mem_of_getElem? (i := 39) rfl)) (hw _ (List.mem_of_getElem? (i := 40) rfl)) (hw _ (List.mem_of_getElem? (i := 41) rfl)) (by first | rfl | decide) (hw _ (List.mem_of_getElem? (i := 11) rfl)) (hw _ (List.mem_of_getElem? (i := 42) rfl)) (by decide) (a := a1) (argsL := []) (rm_slen l Z a0 hw [] cs fm a1 b u n c h0 n0 Z0 ST OO hn E FV FC A) e20 E (W := 1) (by decide) (by decide) (by decide) (by decide) (g := (mkF m 132 #[.val (.ref a1), .val (.int (Int32.ofNat i2)), .val (.int (Int32.ofNat kk)), .val (.int (Int32.ofNat (i + 1)))] [(.ref a1), (.int (Int32.ofNat i2))])) rfl (by rw [hml]; rfl) (rest := [(.int (Int32.ofNat i2))]) (lenOf pd_15 rfl) rfl (by show 2 * 0 + _ ≤ _; exact Nat.le_of_eq rfl) (hb hby d_prog_47_method_2_code_132)
                          refine Goes.step st24 ?_
                          obtain ⟨rfl, N24, e24⟩ := hQ24
                          have N25 := Fr.app N21 N24
                          show Goes p ee below s _ _ _ (T24.setTop (mkF m 137 #[.val (.ref a1), .val (.int (Int32.ofNat i2)), .val (.int (Int32.ofNat kk)), .val (.int (Int32.ofNat (i + 1)))] [(.int (Int32.ofNat n)), (.int (Int32.ofNat i2))]))
                          by_cases hn137_26 : i2 = n
                          · refine Goes.step (fun _ hr_ => XS.icmpNo X24.here hx rfl (hb hby d_prog_47_method_2_code_137) rfl (teq ((own_eqN i2 n (by omega) (by omega)).mpr hn137_26)).2 hr_) ?_
                            show Goes p ee below s _ _ _ (T24.setTop (mkF m 140 #[.val (.ref a1), .val (.int (Int32.ofNat i2)), .val (.int (Int32.ofNat kk)), .val (.int (Int32.ofNat (i + 1)))] []))
                            refine Goes.step (fun _ hr_ => XS.iconst X24.here hx rfl (hb hby d_prog_47_method_2_code_140) hr_) ?_
                            show Goes p ee below s _ _ _ (T24.setTop (mkF m 141 #[.val (.ref a1), .val (.int (Int32.ofNat i2)), .val (.int (Int32.ofNat kk)), .val (.int (Int32.ofNat (i + 1)))] [(.int (1 : Int32))]))
                            refine Goes.step (fun _ hr_ => XS.goto X24.here hx rfl (pc0 := 141) (pc' := 145) rfl (hb hby d_prog_47_method_2_code_141) (by decide) (by decide) hr_) ?_
                            show Goes p ee below s _ _ _ (T24.setTop (mkF m 145 #[.val (.ref a1), .val (.int (Int32.ofNat i2)), .val (.int (Int32.ofNat kk)), .val (.int (Int32.ofNat (i + 1)))] [(.int (1 : Int32))]))
                            refine Goes.retZ X24 hx Bd.notSynchronized Bd.returns (by simp) rfl (hb hby d_prog_47_method_2_code_145) (by decide) (by decide) ?_
                            refine ⟨⟨_, rfl, Or.inl ⟨rfl, ?_⟩⟩, N25, e24⟩
                            rw [← hkk]
                            exact ⟨i, by omega, by omega, hA, Or.inr ⟨hdot, by omega, fun t h1 h2 => hB t (by omega) (by omega)⟩⟩
                          · refine Goes.step (fun _ hr_ => XS.icmpYes X24.here hx rfl (pc0 := 137) (pc' := 144) rfl (hb hby d_prog_47_method_2_code_137) rfl (feq (fun z => hn137_26 ((own_eqN i2 n (by omega) (by omega)).mp z))).2 (by decide) (by decide) hr_) ?_
                            show Goes p ee below s _ _ _ (T24.setTop (mkF m 144 #[.val (.ref a1), .val (.int (Int32.ofNat i2)), .val (.int (Int32.ofNat kk)), .val (.int (Int32.ofNat (i + 1)))] []))
                            refine Goes.step (fun _ hr_ => XS.iconst X24.here hx rfl (hb hby d_prog_47_method_2_code_144) hr_) ?_
                            show Goes p ee below s _ _ _ (T24.setTop (mkF m 145 #[.val (.ref a1), .val (.int (Int32.ofNat i2)), .val (.int (Int32.ofNat kk)), .val (.int (Int32.ofNat (i + 1)))] [(.int (0 : Int32))]))
                            refine Goes.retZ X24 hx Bd.notSynchronized Bd.returns (by simp) rfl (hb hby d_prog_47_method_2_code_145) (by decide) (by decide) ?_
                            refine ⟨⟨_, rfl, Or.inr ⟨rfl, fun q => ?_⟩⟩, N25, e24⟩
                            rw [← hkk] at q
                            obtain ⟨g1, g2, g3, g4⟩ := own_pd_at q hA hin hnd hki
                            exact absurd (g4 i2 (by omega) hn103_17) hn116_22
                        · refine Goes.step (fun _ hr_ => XS.icmpYes X20.here hx rfl (pc0 := 127) (pc' := 144) rfl (hb hby d_prog_47_method_2_code_127) rfl (flt (fun z => hn127_23 ((own_ltN (i + 1) i2 (by omega) (by omega)).mp z))).2.2.2 (by decide) (by decide) hr_) ?_
                          show Goes p ee below s _ _ _ (T20.setTop (mkF m 144 #[.val (.ref a1), .val (.int (Int32.ofNat i2)), .val (.int (Int32.ofNat kk)), .val (.int (Int32.ofNat (i + 1)))] []))
                          refine Goes.step (fun _ hr_ => XS.iconst X20.here hx rfl (hb hby d_prog_47_method_2_code_144) hr_) ?_
                          show Goes p ee below s _ _ _ (T20.setTop (mkF m 145 #[.val (.ref a1), .val (.int (Int32.ofNat i2)), .val (.int (Int32.ofNat kk)), .val (.int (Int32.ofNat (i + 1)))] [(.int (0 : Int32))]))
                          refine Goes.retZ X20 hx Bd.notSynchronized Bd.returns (by simp) rfl (hb hby d_prog_47_method_2_code_145) (by decide) (by decide) ?_
                          refine ⟨⟨_, rfl, Or.inr ⟨rfl, fun q => ?_⟩⟩, N21, e20⟩
                          rw [← hkk] at q
                          obtain ⟨g1, g2, g3, g4⟩ := own_pd_at q hA hin hnd hki
                          exact absurd (g4 i2 (by omega) hn103_17) hn116_22
                      · refine Goes.step (fun _ hr_ => XS.ifNo X20.here hx rfl (hb hby d_prog_47_method_2_code_116) rfl ((if0 _ _).trans (feq (fun z => hn116_22 (own_if0.mp z))).1) hr_) ?_
                        show Goes p ee below s _ _ _ (T20.setTop (mkF m 119 #[.val (.ref a1), .val (.int (Int32.ofNat i2)), .val (.int (Int32.ofNat kk)), .val (.int (Int32.ofNat (i + 1)))] []))
                        refine Goes.step (fun _ hr_ => XS.iinc X20.here hx rfl (hb hby d_prog_47_method_2_code_119) rfl (l' := #[.val (.ref a1), .val (.int ((Int32.ofNat i2) + (1 : Int32))), .val (.int (Int32.ofNat kk)), .val (.int (Int32.ofNat (i + 1)))]) rfl hr_) ?_
                        show Goes p ee below s _ _ _ (T20.setTop (mkF m 122 #[.val (.ref a1), .val (.int ((Int32.ofNat i2) + (1 : Int32))), .val (.int (Int32.ofNat kk)), .val (.int (Int32.ofNat (i + 1)))] []))
                        rw [show Int32.ofNat i2 + (1 : Int32) = Int32.ofNat (i2 + 1) from own_addN i2 1]
                        show Goes p ee below s _ _ _ (T20.setTop (mkF m 122 #[.val (.ref a1), .val (.int (Int32.ofNat (i2 + 1))), .val (.int (Int32.ofNat kk)), .val (.int (Int32.ofNat (i + 1)))] []))
                        refine Goes.step (fun _ hr_ => XS.goto X20.here hx rfl (pc0 := 122) (pc' := 96) rfl (hb hby d_prog_47_method_2_code_122) (by decide) (by decide) hr_) ?_
                        show Goes p ee below s _ _ _ (T20.setTop (mkF m 96 #[.val (.ref a1), .val (.int (Int32.ofNat (i2 + 1))), .val (.int (Int32.ofNat kk)), .val (.int (Int32.ofNat (i + 1)))] []))
                        exact ih (i2 + 1) _ _ X20 e20 N21 (by omega) (by omega) (by omega) (own_more hB (Decidable.not_not.mp hn116_22)) (by omega)
                    · refine Goes.step (fun _ hr_ => XS.icmpYes X15.here hx rfl (pc0 := 103) (pc' := 125) rfl (hb hby d_prog_47_method_2_code_103) rfl (flt (fun z => hn103_17 ((own_ltN i2 n (by omega) (by omega)).mp z))).2.1 (by decide) (by decide) hr_) ?_
                      show Goes p ee below s _ _ _ (T15.setTop (mkF m 125 #[.val (.ref a1), .val (.int (Int32.ofNat i2)), .val (.int (Int32.ofNat kk)), .val (.int (Int32.ofNat (i + 1)))] []))
                      refine Goes.step (fun _ hr_ => XS.iloadN X15.here hx rfl (hb hby d_prog_47_method_2_code_125) rfl  hr_) ?_
                      show Goes p ee below s _ _ _ (T15.setTop (mkF m 126 #[.val (.ref a1), .val (.int (Int32.ofNat i2)), .val (.int (Int32.ofNat kk)), .val (.int (Int32.ofNat (i + 1)))] [(.int (Int32.ofNat i2))]))
                      refine Goes.step (fun _ hr_ => XS.iloadN X15.here hx rfl (hb hby d_prog_47_method_2_code_126) rfl  hr_) ?_
                      show Goes p ee below s _ _ _ (T15.setTop (mkF m 127 #[.val (.ref a1), .val (.int (Int32.ofNat i2)), .val (.int (Int32.ofNat kk)), .val (.int (Int32.ofNat (i + 1)))] [(.int (Int32.ofNat (i + 1))), (.int (Int32.ofNat i2))]))
                      by_cases hn127_27 : i + 1 < i2
                      · refine Goes.step (fun _ hr_ => XS.icmpNo X15.here hx rfl (hb hby d_prog_47_method_2_code_127) rfl (tlt ((own_ltN (i + 1) i2 (by omega) (by omega)).mpr hn127_27)).2.2.2 hr_) ?_
                        show Goes p ee below s _ _ _ (T15.setTop (mkF m 130 #[.val (.ref a1), .val (.int (Int32.ofNat i2)), .val (.int (Int32.ofNat kk)), .val (.int (Int32.ofNat (i + 1)))] []))
                        refine Goes.step (fun _ hr_ => XS.iloadN X15.here hx rfl (hb hby d_prog_47_method_2_code_130) rfl  hr_) ?_
                        show Goes p ee below s _ _ _ (T15.setTop (mkF m 131 #[.val (.ref a1), .val (.int (Int32.ofNat i2)), .val (.int (Int32.ofNat kk)), .val (.int (Int32.ofNat (i + 1)))] [(.int (Int32.ofNat i2))]))
                        refine Goes.step (fun _ hr_ => XS.aloadN X15.here hx rfl (hb hby d_prog_47_method_2_code_131) rfl rfl hr_) ?_
                        show Goes p ee below s _ _ _ (T15.setTop (mkF m 132 #[.val (.ref a1), .val (.int (Int32.ofNat i2)), .val (.int (Int32.ofNat kk)), .val (.int (Int32.ofNat (i + 1)))] [(.ref a1), (.int (Int32.ofNat i2))]))
                        have lt_a1 := E.lt
                        have lt_b := A.lt
                        obtain ⟨v28, T28, L28, X28, hQ28, st28⟩ := own_callI X15 hx hZ (xi := (⟨"java/lang/CharSequence", "length", "()I"⟩ : MethodName)) (z := (⟨"java/lang/String", "length", "()I"⟩ : MethodName)) hown (hw _ (List.mem_of_getElem? (i := 34) rfl)) (hw _ (List.mem_of_getElem? (i := 35) rfl)) (hw _ (List.mem_of_getElem? (i := 36) rfl)) (hw _ (List.mem_of_getElem? (i := 37) rfl)) (hw _ (List.mem_of_getElem? (i := 38) rfl)) (hw _ (List.mem_of_getElem? (i := 39) rfl)) (hw _ (List.mem_of_getElem? (i := 40) rfl)) (hw _ (List.mem_of_getElem? (i := 41) rfl)) (by first | rfl | decide) (hw _ (List.mem_of_getElem? (i := 11) rfl)) (hw _ (List.mem_of_getElem? (i := 42) rfl)) (by decide) (a := a1) (argsL := []) (rm_slen l Z a0 hw [] cs fm a1 b u n c h0 n0 Z0 ST OO hn E FV FC A) e15 E (W := 1) (by decide) (by decide) (by decide) (by decide) (g := (mkF m 132 #[.val (.ref a1), .val (.int (Int32.ofNat i2)), .val (.int (Int32.ofNat kk)), .val (.int (Int32.ofNat (i + 1)))] [(.ref a1), (.int (Int32.ofNat i2))])) rfl (by rw [hml]; rfl) (rest := [(.int (Int32.ofNat i2))]) (lenOf pd_15 rfl) rfl (by show 2 * 0 + _ ≤ _; exact Nat.le_of_eq rfl) (hb hby d_prog_47_method_2_code_132)
                        refine Goes.step st28 ?_
                        obtain ⟨rfl, N28, e28⟩ := hQ28
                        have N29 := Fr.app N16 N28
                        show Goes p ee below s _ _ _ (T28.setTop (mkF m 137 #[.val (.ref a1), .val (.int (Int32.ofNat i2)), .val (.int (Int32.ofNat kk)), .val (.int (Int32.ofNat (i + 1)))] [(.int (Int32.ofNat n)), (.int (Int32.ofNat i2))]))
                        by_cases hn137_30 : i2 = n
                        · refine Goes.step (fun _ hr_ => XS.icmpNo X28.here hx rfl (hb hby d_prog_47_method_2_code_137) rfl (teq ((own_eqN i2 n (by omega) (by omega)).mpr hn137_30)).2 hr_) ?_
                          show Goes p ee below s _ _ _ (T28.setTop (mkF m 140 #[.val (.ref a1), .val (.int (Int32.ofNat i2)), .val (.int (Int32.ofNat kk)), .val (.int (Int32.ofNat (i + 1)))] []))
                          refine Goes.step (fun _ hr_ => XS.iconst X28.here hx rfl (hb hby d_prog_47_method_2_code_140) hr_) ?_
                          show Goes p ee below s _ _ _ (T28.setTop (mkF m 141 #[.val (.ref a1), .val (.int (Int32.ofNat i2)), .val (.int (Int32.ofNat kk)), .val (.int (Int32.ofNat (i + 1)))] [(.int (1 : Int32))]))
                          refine Goes.step (fun _ hr_ => XS.goto X28.here hx rfl (pc0 := 141) (pc' := 145) rfl (hb hby d_prog_47_method_2_code_141) (by decide) (by decide) hr_) ?_
                          show Goes p ee below s _ _ _ (T28.setTop (mkF m 145 #[.val (.ref a1), .val (.int (Int32.ofNat i2)), .val (.int (Int32.ofNat kk)), .val (.int (Int32.ofNat (i + 1)))] [(.int (1 : Int32))]))
                          refine Goes.retZ X28 hx Bd.notSynchronized Bd.returns (by simp) rfl (hb hby d_prog_47_method_2_code_145) (by decide) (by decide) ?_
                          refine ⟨⟨_, rfl, Or.inl ⟨rfl, ?_⟩⟩, N29, e28⟩
                          rw [← hkk]
                          exact ⟨i, by omega, by omega, hA, Or.inr ⟨hdot, by omega, fun t h1 h2 => hB t (by omega) (by omega)⟩⟩
                        · refine Goes.step (fun _ hr_ => XS.icmpYes X28.here hx rfl (pc0 := 137) (pc' := 144) rfl (hb hby d_prog_47_method_2_code_137) rfl (feq (fun z => hn137_30 ((own_eqN i2 n (by omega) (by omega)).mp z))).2 (by decide) (by decide) hr_) ?_
                          show Goes p ee below s _ _ _ (T28.setTop (mkF m 144 #[.val (.ref a1), .val (.int (Int32.ofNat i2)), .val (.int (Int32.ofNat kk)), .val (.int (Int32.ofNat (i + 1)))] []))
                          refine Goes.step (fun _ hr_ => XS.iconst X28.here hx rfl (hb hby d_prog_47_method_2_code_144) hr_) ?_
                          show Goes p ee below s _ _ _ (T28.setTop (mkF m 145 #[.val (.ref a1), .val (.int (Int32.ofNat i2)), .val (.int (Int32.ofNat kk)), .val (.int (Int32.ofNat (i + 1)))] [(.int (0 : Int32))]))
                          refine Goes.retZ X28 hx Bd.notSynchronized Bd.returns (by simp) rfl (hb hby d_prog_47_method_2_code_145) (by decide) (by decide) ?_
                          refine ⟨⟨_, rfl, Or.inr ⟨rfl, fun q => ?_⟩⟩, N29, e28⟩
                          rw [← hkk] at q
                          obtain ⟨g1, g2, g3, g4⟩ := own_pd_at q hA hin hnd hki
                          omega
                      · refine Goes.step (fun _ hr_ => XS.icmpYes X15.here hx rfl (pc0 := 127) (pc' := 144) rfl (hb hby d_prog_47_method_2_code_127) rfl (flt (fun z => hn127_27 ((own_ltN (i + 1) i2 (by omega) (by omega)).mp z))).2.2.2 (by decide) (by decide) hr_) ?_
                        show Goes p ee below s _ _ _ (T15.setTop (mkF m 144 #[.val (.ref a1), .val (.int (Int32.ofNat i2)), .val (.int (Int32.ofNat kk)), .val (.int (Int32.ofNat (i + 1)))] []))
                        refine Goes.step (fun _ hr_ => XS.iconst X15.here hx rfl (hb hby d_prog_47_method_2_code_144) hr_) ?_
                        show Goes p ee below s _ _ _ (T15.setTop (mkF m 145 #[.val (.ref a1), .val (.int (Int32.ofNat i2)), .val (.int (Int32.ofNat kk)), .val (.int (Int32.ofNat (i + 1)))] [(.int (0 : Int32))]))
                        refine Goes.retZ X15 hx Bd.notSynchronized Bd.returns (by simp) rfl (hb hby d_prog_47_method_2_code_145) (by decide) (by decide) ?_
                        refine ⟨⟨_, rfl, Or.inr ⟨rfl, fun q => ?_⟩⟩, N16, e15⟩
                        rw [← hkk] at q
                        obtain ⟨g1, g2, g3, g4⟩ := own_pd_at q hA hin hnd hki
                        omega
                exact loop2 (n + 1) (i + 1) _ _ X12 e12 N13 (by omega) (by omega) (by omega) (fun t h1 h2 => by omega) (Nat.le_refl _)
              · refine Goes.step (fun _ hr_ => XS.icmpNo X12.here hx rfl (hb hby d_prog_47_method_2_code_86) rfl (feq (fun z => hn86_14 ((own_eqN (c i) 46 (Nat.lt_trans (hc i hn36_3) (by decide)) (by decide)).mp z))).1 hr_) ?_
                show Goes p ee below s _ _ _ (T12.setTop (mkF m 89 #[.val (.ref a1), .val (.int (Int32.ofNat i)), .val (.int (Int32.ofNat kk)), .unset] []))
                refine Goes.step (fun _ hr_ => XS.iconst X12.here hx rfl (hb hby d_prog_47_method_2_code_89) hr_) ?_
                show Goes p ee below s _ _ _ (T12.setTop (mkF m 90 #[.val (.ref a1), .val (.int (Int32.ofNat i)), .val (.int (Int32.ofNat kk)), .unset] [(.int (0 : Int32))]))
                refine Goes.retZ X12 hx Bd.notSynchronized Bd.returns (by simp) rfl (hb hby d_prog_47_method_2_code_90) (by decide) (by decide) ?_
                refine ⟨⟨_, rfl, Or.inr ⟨rfl, fun q => ?_⟩⟩, N13, e12⟩
                rw [← hkk] at q
                exact hn86_14 (own_pd_at q hA hn36_3 hn49_8 hki).2.1
          · refine Goes.step (fun _ hr_ => XS.ifNo X6.here hx rfl (hb hby d_prog_47_method_2_code_49) rfl ((if0 _ _).trans (feq (fun z => hn49_8 (own_if0.mp z))).1) hr_) ?_
            show Goes p ee below s _ _ _ (T6.setTop (mkF m 52 #[.val (.ref a1), .val (.int (Int32.ofNat i)), .val (.int (Int32.ofNat kk)), .unset] []))
            refine Goes.step (fun _ hr_ => XS.iinc X6.here hx rfl (hb hby d_prog_47_method_2_code_52) rfl (l' := #[.val (.ref a1), .val (.int ((Int32.ofNat i) + (1 : Int32))), .val (.int (Int32.ofNat kk)), .unset]) rfl hr_) ?_
            show Goes p ee below s _ _ _ (T6.setTop (mkF m 55 #[.val (.ref a1), .val (.int ((Int32.ofNat i) + (1 : Int32))), .val (.int (Int32.ofNat kk)), .unset] []))
            rw [show Int32.ofNat i + (1 : Int32) = Int32.ofNat (i + 1) from own_addN i 1]
            show Goes p ee below s _ _ _ (T6.setTop (mkF m 55 #[.val (.ref a1), .val (.int (Int32.ofNat (i + 1))), .val (.int (Int32.ofNat kk)), .unset] []))
            refine Goes.step (fun _ hr_ => XS.goto X6.here hx rfl (pc0 := 55) (pc' := 29) rfl (hb hby d_prog_47_method_2_code_55) (by decide) (by decide) hr_) ?_
            show Goes p ee below s _ _ _ (T6.setTop (mkF m 29 #[.val (.ref a1), .val (.int (Int32.ofNat (i + 1))), .val (.int (Int32.ofNat kk)), .unset] []))
            exact ih (i + 1) _ _ X6 e6 N7 (by omega) (by omega) (by omega) (own_more hA (Decidable.not_not.mp hn49_8)) (by omega)
        · refine Goes.step (fun _ hr_ => XS.icmpYes X1.here hx rfl (pc0 := 36) (pc' := 58) rfl (hb hby d_prog_47_method_2_code_36) rfl (flt (fun z => hn36_3 ((own_ltN i n (by omega) (by omega)).mp z))).2.1 (by decide) (by decide) hr_) ?_
          show Goes p ee below s _ _ _ (T1.setTop (mkF m 58 #[.val (.ref a1), .val (.int (Int32.ofNat i)), .val (.int (Int32.ofNat kk)), .unset] []))
          refine Goes.step (fun _ hr_ => XS.iloadN X1.here hx rfl (hb hby d_prog_47_method_2_code_58) rfl  hr_) ?_
          show Goes p ee below s _ _ _ (T1.setTop (mkF m 59 #[.val (.ref a1), .val (.int (Int32.ofNat i)), .val (.int (Int32.ofNat kk)), .unset] [(.int (Int32.ofNat i))]))
          refine Goes.step (fun _ hr_ => XS.iloadN X1.here hx rfl (hb hby d_prog_47_method_2_code_59) rfl  hr_) ?_
          show Goes p ee below s _ _ _ (T1.setTop (mkF m 60 #[.val (.ref a1), .val (.int (Int32.ofNat i)), .val (.int (Int32.ofNat kk)), .unset] [(.int (Int32.ofNat kk)), (.int (Int32.ofNat i))]))
          by_cases hn60_31 : i = kk
          · refine Goes.step (fun _ hr_ => XS.icmpNo X1.here hx rfl (hb hby d_prog_47_method_2_code_60) rfl (teq ((own_eqN i kk (by omega) (by omega)).mpr hn60_31)).2 hr_) ?_
            show Goes p ee below s _ _ _ (T1.setTop (mkF m 63 #[.val (.ref a1), .val (.int (Int32.ofNat i)), .val (.int (Int32.ofNat kk)), .unset] []))
            refine Goes.step (fun _ hr_ => XS.iconst X1.here hx rfl (hb hby d_prog_47_method_2_code_63) hr_) ?_
            show Goes p ee below s _ _ _ (T1.setTop (mkF m 64 #[.val (.ref a1), .val (.int (Int32.ofNat i)), .val (.int (Int32.ofNat kk)), .unset] [(.int (0 : Int32))]))
            refine Goes.retZ X1 hx Bd.notSynchronized Bd.returns (by simp) rfl (hb hby d_prog_47_method_2_code_64) (by decide) (by decide) ?_
            refine ⟨⟨_, rfl, Or.inr ⟨rfl, fun q => ?_⟩⟩, N2, e1⟩
            rw [← hkk] at q
            obtain ⟨j, g1, g2, g3, g4⟩ := q
            omega
          · refine Goes.step (fun _ hr_ => XS.icmpYes X1.here hx rfl (pc0 := 60) (pc' := 65) rfl (hb hby d_prog_47_method_2_code_60) rfl (feq (fun z => hn60_31 ((own_eqN i kk (by omega) (by omega)).mp z))).2 (by decide) (by decide) hr_) ?_
            show Goes p ee below s _ _ _ (T1.setTop (mkF m 65 #[.val (.ref a1), .val (.int (Int32.ofNat i)), .val (.int (Int32.ofNat kk)), .unset] []))
            refine Goes.step (fun _ hr_ => XS.iloadN X1.here hx rfl (hb hby d_prog_47_method_2_code_65) rfl  hr_) ?_
            show Goes p ee below s _ _ _ (T1.setTop (mkF m 66 #[.val (.ref a1), .val (.int (Int32.ofNat i)), .val (.int (Int32.ofNat kk)), .unset] [(.int (Int32.ofNat i))]))
            refine Goes.step (fun _ hr_ => XS.aloadN X1.here hx rfl (hb hby d_prog_47_method_2_code_66) rfl rfl hr_) ?_
            show Goes p ee below s _ _ _ (T1.setTop (mkF m 67 #[.val (.ref a1), .val (.int (Int32.ofNat i)), .val (.int (Int32.ofNat kk)), .unset] [(.ref a1), (.int (Int32.ofNat i))]))
            have lt_a1 := E.lt
            have lt_b := A.lt
            obtain ⟨v32, T32, L32, X32, hQ32, st32⟩ := own_callI X1 hx hZ (xi := (⟨"java/lang/CharSequence", "length", "()I"⟩ : MethodName)) (z := (⟨"java/lang/String", "length", "()I"⟩ : MethodName)) hown (hw _ (List.mem_of_getElem? (i := 34) rfl)) (hw _ (List.mem_of_getElem? (i := 35) rfl)) (hw _ (List.mem_of_getElem? (i := 36) rfl)) (hw _ (List.mem_of_getElem? (i := 37) rfl)) (hw _ (List.mem_of_getElem? (i := 38) rfl)) (hw _ (List.mem_of_getElem? (i := 39) rfl)) (hw _ (List.mem_of_getElem? (i := 40) rfl)) (hw _ (List.mem_of_getElem? (i := 41) rfl)) (by first | rfl | decide) (hw _ (List.mem_of_getElem? (i := 11) rfl)) (hw _ (List.mem_of_getElem? (i := 42) rfl)) (by decide) (a := a1) (argsL := []) (rm_slen l Z a0 hw [] cs fm a1 b u n c h0 n0 Z0 ST OO hn E FV FC A) e1 E (W := 1) (by decide) (by decide) (by decide) (by decide) (g := (mkF m 67 #[.val (.ref a1), .val (.int (Int32.ofNat i)), .val (.int (Int32.ofNat kk)), .unset] [(.ref a1), (.int (Int32.ofNat i))])) rfl (by rw [hml]; rfl) (rest := [(.int (Int32.ofNat i))]) (lenOf pd_15 rfl) rfl (by show 2 * 0 + _ ≤ _; exact Nat.le_of_eq rfl) (hb hby d_prog_47_method_2_code_67)
            refine Goes.step st32 ?_
            obtain ⟨rfl, N32, e32⟩ := hQ32
            have N33 := Fr.app N2 N32
            show Goes p ee below s _ _ _ (T32.setTop (mkF m 72 #[.val (.ref a1), .val (.int (Int32.ofNat i)), .val (.int (Int32.ofNat kk)), .unset] [(.int (Int32.ofNat n)), (.int (Int32.ofNat i))]))
            refine Goes.step (fun _ hr_ => XS.icmpNo X32.here hx rfl (hb hby d_prog_47_method_2_code_72) rfl (teq ((own_eqN i n (by omega) (by omega)).mpr (by omega))).2 hr_) ?_
            show Goes p ee below s _ _ _ (T32.setTop (mkF m 75 #[.val (.ref a1), .val (.int (Int32.ofNat i)), .val (.int (Int32.ofNat kk)), .unset] []))
            refine Goes.step (fun _ hr_ => XS.iconst X32.here hx rfl (hb hby d_prog_47_method_2_code_75) hr_) ?_
            show Goes p ee below s _ _ _ (T32.setTop (mkF m 76 #[.val (.ref a1), .val (.int (Int32.ofNat i)), .val (.int (Int32.ofNat kk)), .unset] [(.int (1 : Int32))]))
            refine Goes.retZ X32 hx Bd.notSynchronized Bd.returns (by simp) rfl (hb hby d_prog_47_method_2_code_76) (by decide) (by decide) ?_
            refine ⟨⟨_, rfl, Or.inl ⟨rfl, ?_⟩⟩, N33, e32⟩
            rw [← hkk]
            exact ⟨n, by omega, Nat.le_refl _, fun t h1 h2 => hA t h1 (by omega), Or.inl rfl⟩
    exact loop1 (n + 1) kk _ _ X eT N (by omega) (by omega) (by omega) (fun t h1 h2 => by omega) (Nat.le_refl _)
  refine Goes.step (fun _ hr_ => XS.aloadN X0.here hx rfl (hb hby d_prog_47_method_2_code_0) rfl rfl hr_) ?_
  show Goes p ee below s _ _ _ (s₁.setTop (mkF m 1 #[.val (.ref a1), .unset, .unset, .unset] [(.ref a1)]))
  have lt_a1 := E.lt
  have lt_b := A.lt
  obtain ⟨v34, T34, L34, X34, hQ34, st34⟩ := own_callI X0 hx hZ (xi := (⟨"java/lang/CharSequence", "length", "()I"⟩ : MethodName)) (z := (⟨"java/lang/String", "length", "()I"⟩ : MethodName)) hown (hw _ (List.mem_of_getElem? (i := 34) rfl)) (hw _ (List.mem_of_getElem? (i := 35) rfl)) (hw _ (List.mem_of_getElem? (i := 36) rfl)) (hw _ (List.mem_of_getElem? (i := 37) rfl)) (hw _ (List.mem_of_getElem? (i := 38) rfl)) (hw _ (List.mem_of_getElem? (i := 39) rfl)) (hw _ (List.mem_of_getElem? (i := 40) rfl)) (hw _ (List.mem_of_getElem? (i := 41) rfl)) (by first | rfl | decide) (hw _ (List.mem_of_getElem? (i := 11) rfl)) (hw _ (List.mem_of_getElem? (i := 42) rfl)) (by decide) (a := a1) (argsL := []) (rm_slen l Z a0 hw [] cs fm a1 b u n c h0 n0 Z0 ST OO hn E FV FC A) e0 E (W := 0) (by decide) (by decide) (by decide) (by decide) (g := (mkF m 1 #[.val (.ref a1), .unset, .unset, .unset] [(.ref a1)])) rfl (by rw [hml]; rfl) (rest := []) (lenOf pd_15 rfl) rfl (by show 2 * 0 + _ ≤ _; exact Nat.le_of_eq rfl) (hb hby d_prog_47_method_2_code_1)
  refine Goes.step st34 ?_
  obtain ⟨rfl, N34, e34⟩ := hQ34
  have N35 := Fr.app N0 N34
  show Goes p ee below s _ _ _ (T34.setTop (mkF m 6 #[.val (.ref a1), .unset, .unset, .unset] [(.int (Int32.ofNat n))]))
  by_cases hn6_36 : 0 < n
  · refine Goes.step (fun _ hr_ => XS.ifNo X34.here hx rfl (hb hby d_prog_47_method_2_code_6) rfl ((if0 _ _).trans (tlt ((own_ltN 0 n (by decide) (by omega)).mpr hn6_36)).2.2.2) hr_) ?_
    show Goes p ee below s _ _ _ (T34.setTop (mkF m 9 #[.val (.ref a1), .unset, .unset, .unset] []))
    refine Goes.step (fun _ hr_ => XS.aloadN X34.here hx rfl (hb hby d_prog_47_method_2_code_9) rfl rfl hr_) ?_
    show Goes p ee below s _ _ _ (T34.setTop (mkF m 10 #[.val (.ref a1), .unset, .unset, .unset] [(.ref a1)]))
    refine Goes.step (fun _ hr_ => XS.iconst X34.here hx rfl (hb hby d_prog_47_method_2_code_10) hr_) ?_
    show Goes p ee below s _ _ _ (T34.setTop (mkF m 11 #[.val (.ref a1), .unset, .unset, .unset] [(.int (0 : Int32)), (.ref a1)]))
    have lt_a1 := E.lt
    have lt_b := A.lt
    obtain ⟨v37, T37, L37, X37, hQ37, st37⟩ := own_callI X34 hx hZ (xi := (⟨"java/lang/CharSequence", "charAt", "(I)C"⟩ : MethodName)) (z := (⟨"java/lang/String", "charAt", "(I)C"⟩ : MethodName)) hown (hw _ (List.mem_of_getElem? (i := 59) rfl)) (hw _ (List.mem_of_getElem? (i := 60) rfl)) (hw _ (List.mem_of_getElem? (i := 61) rfl)) (hw _ (List.mem_of_getElem? (i := 62) rfl)) (hw _ (List.mem_of_getElem? (i := 63) rfl)) (hw _ (List.mem_of_getElem? (i := 64) rfl)) (hw _ (List.mem_of_getElem? (i := 65) rfl)) (hw _ (List.mem_of_getElem? (i := 41) rfl)) (by first | rfl | decide) (hw _ (List.mem_of_getElem? (i := 11) rfl)) (hw _ (List.mem_of_getElem? (i := 66) rfl)) (by decide) (a := a1) (argsL := [(.int (0 : Int32))]) (rm_schar l Z a0 hw [] cs fm a1 b u n c 0 h0 n0 Z0 ST OO hn E FV FC A hc hl hn6_36) e34 E (W := 0) (by decide) (by decide) (by decide) (by decide) (g := (mkF m 11 #[.val (.ref a1), .unset, .unset, .unset] [(.int (0 : Int32)), (.ref a1)])) rfl (by rw [hml]; rfl) (rest := []) (lenOf pd_16 rfl) rfl (by show 2 * 0 + _ ≤ _; exact Nat.le_of_eq rfl) (hb hby d_prog_47_method_2_code_11)
    refine Goes.step st37 ?_
    obtain ⟨rfl, N37, e37⟩ := hQ37
    have N38 := Fr.app N35 N37
    show Goes p ee below s _ _ _ (T37.setTop (mkF m 16 #[.val (.ref a1), .unset, .unset, .unset] [(.int (Int32.ofNat (c 0)))]))
    refine Goes.step (fun _ hr_ => XS.bipush X37.here hx rfl (hb hby d_prog_47_method_2_code_16) hr_) ?_
    show Goes p ee below s _ _ _ (T37.setTop (mkF m 18 #[.val (.ref a1), .unset, .unset, .unset] [(.int (45 : Int32)), (.int (Int32.ofNat (c 0)))]))
    by_cases hn18_39 : c 0 = 45
    · refine Goes.step (fun _ hr_ => XS.icmpNo X37.here hx rfl (hb hby d_prog_47_method_2_code_18) rfl (teq ((own_eqN (c 0) 45 (Nat.lt_trans (hc 0 hn6_36) (by decide)) (by decide)).mpr hn18_39)).2 hr_) ?_
      show Goes p ee below s _ _ _ (T37.setTop (mkF m 21 #[.val (.ref a1), .unset, .unset, .unset] []))
      refine Goes.step (fun _ hr_ => XS.iconst X37.here hx rfl (hb hby d_prog_47_method_2_code_21) hr_) ?_
      show Goes p ee below s _ _ _ (T37.setTop (mkF m 22 #[.val (.ref a1), .unset, .unset, .unset] [(.int (1 : Int32))]))
      refine Goes.step (fun _ hr_ => XS.goto X37.here hx rfl (pc0 := 22) (pc' := 26) rfl (hb hby d_prog_47_method_2_code_22) (by decide) (by decide) hr_) ?_
      show Goes p ee below s _ _ _ (T37.setTop (mkF m 26 #[.val (.ref a1), .unset, .unset, .unset] [(.int (1 : Int32))]))
      exact J26 1 _ _ X37 e37 N38 (if_pos ⟨hn6_36, hn18_39⟩).symm (by omega) (by decide)
    · refine Goes.step (fun _ hr_ => XS.icmpYes X37.here hx rfl (pc0 := 18) (pc' := 25) rfl (hb hby d_prog_47_method_2_code_18) rfl (feq (fun z => hn18_39 ((own_eqN (c 0) 45 (Nat.lt_trans (hc 0 hn6_36) (by decide)) (by decide)).mp z))).2 (by decide) (by decide) hr_) ?_
      show Goes p ee below s _ _ _ (T37.setTop (mkF m 25 #[.val (.ref a1), .unset, .unset, .unset] []))
      refine Goes.step (fun _ hr_ => XS.iconst X37.here hx rfl (hb hby d_prog_47_method_2_code_25) hr_) ?_
      show Goes p ee below s _ _ _ (T37.setTop (mkF m 26 #[.val (.ref a1), .unset, .unset, .unset] [(.int (0 : Int32))]))
      exact J26 0 _ _ X37 e37 N38 (if_neg (fun q => hn18_39 q.2)).symm (by omega) (by decide)
  · refine Goes.step (fun _ hr_ => XS.ifYes X34.here hx rfl (pc0 := 6) (pc' := 25) rfl (hb hby d_prog_47_method_2_code_6) rfl ((if0 _ _).trans (flt (fun z => hn6_36 ((own_ltN 0 n (by decide) (by omega)).mp z))).2.2.2) (by decide) (by decide) hr_) ?_
    show Goes p ee below s _ _ _ (T34.setTop (mkF m 25 #[.val (.ref a1), .unset, .unset, .unset] []))
    refine Goes.step (fun _ hr_ => XS.iconst X34.here hx rfl (hb hby d_prog_47_method_2_code_25) hr_) ?_
    show Goes p ee below s _ _ _ (T34.setTop (mkF m 26 #[.val (.ref a1), .unset, .unset, .unset] [(.int (0 : Int32))]))
    exact J26 0 _ _ X34 e34 N35 (if_neg (fun q => hn6_36 q.1)).symm (by omega) (by decide)
theorem ef_mk (m : MethodId) (x0 : Addr) (x1 : Int32) : entryFrame m #[(.ref x0), (.int x1)] 2 = mkF m 0 #[.val (.ref x0), .val (.int x1)] [] := by first | (simp [entryFrame, mkF, argsToLocals, Value.category]; done) | rfl
theorem d_method_4_code_0 : decode method_4_code 0 = .ok (.iload_n 1, 1) := by decide +kernel
theorem d_method_4_code_1 : decode method_4_code 1 = .ok (.ifCond .ne 14, 3) := by decide +kernel
theorem d_method_4_code_4 : decode method_4_code 4 = .ok (.new 32, 3) := by decide +kernel
theorem d_method_4_code_7 : decode method_4_code 7 = .ok (.dup, 1) := by decide +kernel
theorem d_method_4_code_8 : decode method_4_code 8 = .ok (.iconst 0, 1) := by decide +kernel
theorem d_method_4_code_9 : decode method_4_code 9 = .ok (.newarray .char, 2) := by decide +kernel
theorem pd_17 : parseMethodDescriptor "([C)V" = some ⟨[(.array .char)], none⟩ := by decide +kernel
theorem d_method_4_code_11 : decode method_4_code 11 = .ok (.invokespecial 34, 3) := by decide +kernel
theorem d_method_4_code_14 : decode method_4_code 14 = .ok (.areturn, 1) := by decide +kernel
theorem d_method_4_code_15 : decode method_4_code 15 = .ok (.iload_n 1, 1) := by decide +kernel
theorem d_method_4_code_16 : decode method_4_code 16 = .ok (.iconst 1, 1) := by decide +kernel
theorem d_method_4_code_17 : decode method_4_code 17 = .ok (.if_icmp .ne 20, 3) := by decide +kernel
theorem d_method_4_code_20 : decode method_4_code 20 = .ok (.new 32, 3) := by decide +kernel
theorem d_method_4_code_23 : decode method_4_code 23 = .ok (.dup, 1) := by decide +kernel
theorem d_method_4_code_24 : decode method_4_code 24 = .ok (.iconst 1, 1) := by decide +kernel
theorem d_method_4_code_25 : decode method_4_code 25 = .ok (.newarray .char, 2) := by decide +kernel
theorem d_method_4_code_27 : decode method_4_code 27 = .ok (.dup, 1) := by decide +kernel
theorem d_method_4_code_28 : decode method_4_code 28 = .ok (.iconst 0, 1) := by decide +kernel
theorem d_method_4_code_29 : decode method_4_code 29 = .ok (.aload_n 0, 1) := by decide +kernel
theorem d_method_4_code_30 : decode method_4_code 30 = .ok (.iconst 0, 1) := by decide +kernel
theorem d_method_4_code_31 : decode method_4_code 31 = .ok (.caload, 1) := by decide +kernel
theorem d_method_4_code_32 : decode method_4_code 32 = .ok (.castore, 1) := by decide +kernel
theorem d_method_4_code_33 : decode method_4_code 33 = .ok (.invokespecial 34, 3) := by decide +kernel
theorem d_method_4_code_36 : decode method_4_code 36 = .ok (.areturn, 1) := by decide +kernel
theorem d_method_4_code_37 : decode method_4_code 37 = .ok (.iload_n 1, 1) := by decide +kernel
theorem d_method_4_code_38 : decode method_4_code 38 = .ok (.iconst 2, 1) := by decide +kernel
theorem d_method_4_code_39 : decode method_4_code 39 = .ok (.if_icmp .ne 26, 3) := by decide +kernel
theorem d_method_4_code_42 : decode method_4_code 42 = .ok (.new 32, 3) := by decide +kernel
theorem d_method_4_code_45 : decode method_4_code 45 = .ok (.dup, 1) := by decide +kernel
theorem d_method_4_code_46 : decode method_4_code 46 = .ok (.iconst 2, 1) := by decide +kernel
theorem d_method_4_code_47 : decode method_4_code 47 = .ok (.newarray .char, 2) := by decide +kernel
theorem d_method_4_code_49 : decode method_4_code 49 = .ok (.dup, 1) := by decide +kernel
theorem d_method_4_code_50 : decode method_4_code 50 = .ok (.iconst 0, 1) := by decide +kernel
theorem d_method_4_code_51 : decode method_4_code 51 = .ok (.aload_n 0, 1) := by decide +kernel
theorem d_method_4_code_52 : decode method_4_code 52 = .ok (.iconst 0, 1) := by decide +kernel
theorem d_method_4_code_53 : decode method_4_code 53 = .ok (.caload, 1) := by decide +kernel
theorem d_method_4_code_54 : decode method_4_code 54 = .ok (.castore, 1) := by decide +kernel
theorem d_method_4_code_55 : decode method_4_code 55 = .ok (.dup, 1) := by decide +kernel
theorem d_method_4_code_56 : decode method_4_code 56 = .ok (.iconst 1, 1) := by decide +kernel
theorem d_method_4_code_57 : decode method_4_code 57 = .ok (.aload_n 0, 1) := by decide +kernel
theorem d_method_4_code_58 : decode method_4_code 58 = .ok (.iconst 1, 1) := by decide +kernel
theorem d_method_4_code_59 : decode method_4_code 59 = .ok (.caload, 1) := by decide +kernel
theorem d_method_4_code_60 : decode method_4_code 60 = .ok (.castore, 1) := by decide +kernel
theorem d_method_4_code_61 : decode method_4_code 61 = .ok (.invokespecial 34, 3) := by decide +kernel
theorem d_method_4_code_64 : decode method_4_code 64 = .ok (.areturn, 1) := by decide +kernel
theorem d_method_4_code_65 : decode method_4_code 65 = .ok (.iload_n 1, 1) := by decide +kernel
theorem d_method_4_code_66 : decode method_4_code 66 = .ok (.iconst 3, 1) := by decide +kernel
theorem d_method_4_code_67 : decode method_4_code 67 = .ok (.if_icmp .ne 32, 3) := by decide +kernel
theorem d_method_4_code_70 : decode method_4_code 70 = .ok (.new 32, 3) := by decide +kernel
theorem d_method_4_code_73 : decode method_4_code 73 = .ok (.dup, 1) := by decide +kernel
theorem d_method_4_code_74 : decode method_4_code 74 = .ok (.iconst 3, 1) := by decide +kernel
theorem d_method_4_code_75 : decode method_4_code 75 = .ok (.newarray .char, 2) := by decide +kernel
theorem d_method_4_code_77 : decode method_4_code 77 = .ok (.dup, 1) := by decide +kernel
theorem d_method_4_code_78 : decode method_4_code 78 = .ok (.iconst 0, 1) := by decide +kernel
theorem d_method_4_code_79 : decode method_4_code 79 = .ok (.aload_n 0, 1) := by decide +kernel
theorem d_method_4_code_80 : decode method_4_code 80 = .ok (.iconst 0, 1) := by decide +kernel
theorem d_method_4_code_81 : decode method_4_code 81 = .ok (.caload, 1) := by decide +kernel
theorem d_method_4_code_82 : decode method_4_code 82 = .ok (.castore, 1) := by decide +kernel
theorem d_method_4_code_83 : decode method_4_code 83 = .ok (.dup, 1) := by decide +kernel
theorem d_method_4_code_84 : decode method_4_code 84 = .ok (.iconst 1, 1) := by decide +kernel
theorem d_method_4_code_85 : decode method_4_code 85 = .ok (.aload_n 0, 1) := by decide +kernel
theorem d_method_4_code_86 : decode method_4_code 86 = .ok (.iconst 1, 1) := by decide +kernel
theorem d_method_4_code_87 : decode method_4_code 87 = .ok (.caload, 1) := by decide +kernel
theorem d_method_4_code_88 : decode method_4_code 88 = .ok (.castore, 1) := by decide +kernel
theorem d_method_4_code_89 : decode method_4_code 89 = .ok (.dup, 1) := by decide +kernel
theorem d_method_4_code_90 : decode method_4_code 90 = .ok (.iconst 2, 1) := by decide +kernel
theorem d_method_4_code_91 : decode method_4_code 91 = .ok (.aload_n 0, 1) := by decide +kernel
theorem d_method_4_code_92 : decode method_4_code 92 = .ok (.iconst 2, 1) := by decide +kernel
theorem d_method_4_code_93 : decode method_4_code 93 = .ok (.caload, 1) := by decide +kernel
theorem d_method_4_code_94 : decode method_4_code 94 = .ok (.castore, 1) := by decide +kernel
theorem d_method_4_code_95 : decode method_4_code 95 = .ok (.invokespecial 34, 3) := by decide +kernel
theorem d_method_4_code_98 : decode method_4_code 98 = .ok (.areturn, 1) := by decide +kernel
theorem d_method_4_code_99 : decode method_4_code 99 = .ok (.iload_n 1, 1) := by decide +kernel
theorem d_method_4_code_100 : decode method_4_code 100 = .ok (.iconst 4, 1) := by decide +kernel
theorem d_method_4_code_101 : decode method_4_code 101 = .ok (.if_icmp .ne 38, 3) := by decide +kernel
theorem d_method_4_code_104 : decode method_4_code 104 = .ok (.new 32, 3) := by decide +kernel
theorem d_method_4_code_107 : decode method_4_code 107 = .ok (.dup, 1) := by decide +kernel
theorem d_method_4_code_108 : decode method_4_code 108 = .ok (.iconst 4, 1) := by decide +kernel
theorem d_method_4_code_109 : decode method_4_code 109 = .ok (.newarray .char, 2) := by decide +kernel
theorem d_method_4_code_111 : decode method_4_code 111 = .ok (.dup, 1) := by decide +kernel
theorem d_method_4_code_112 : decode method_4_code 112 = .ok (.iconst 0, 1) := by decide +kernel
theorem d_method_4_code_113 : decode method_4_code 113 = .ok (.aload_n 0, 1) := by decide +kernel
theorem d_method_4_code_114 : decode method_4_code 114 = .ok (.iconst 0, 1) := by decide +kernel
theorem d_method_4_code_115 : decode method_4_code 115 = .ok (.caload, 1) := by decide +kernel
theorem d_method_4_code_116 : decode method_4_code 116 = .ok (.castore, 1) := by decide +kernel
theorem d_method_4_code_117 : decode method_4_code 117 = .ok (.dup, 1) := by decide +kernel
theorem d_method_4_code_118 : decode method_4_code 118 = .ok (.iconst 1, 1) := by decide +kernel
theorem d_method_4_code_119 : decode method_4_code 119 = .ok (.aload_n 0, 1) := by decide +kernel
theorem d_method_4_code_120 : decode method_4_code 120 = .ok (.iconst 1, 1) := by decide +kernel
theorem d_method_4_code_121 : decode method_4_code 121 = .ok (.caload, 1) := by decide +kernel
theorem d_method_4_code_122 : decode method_4_code 122 = .ok (.castore, 1) := by decide +kernel
theorem d_method_4_code_123 : decode method_4_code 123 = .ok (.dup, 1) := by decide +kernel
theorem d_method_4_code_124 : decode method_4_code 124 = .ok (.iconst 2, 1) := by decide +kernel
theorem d_method_4_code_125 : decode method_4_code 125 = .ok (.aload_n 0, 1) := by decide +kernel
theorem d_method_4_code_126 : decode method_4_code 126 = .ok (.iconst 2, 1) := by decide +kernel
theorem d_method_4_code_127 : decode method_4_code 127 = .ok (.caload, 1) := by decide +kernel
theorem d_method_4_code_128 : decode method_4_code 128 = .ok (.castore, 1) := by decide +kernel
theorem d_method_4_code_129 : decode method_4_code 129 = .ok (.dup, 1) := by decide +kernel
theorem d_method_4_code_130 : decode method_4_code 130 = .ok (.iconst 3, 1) := by decide +kernel
theorem d_method_4_code_131 : decode method_4_code 131 = .ok (.aload_n 0, 1) := by decide +kernel
theorem d_method_4_code_132 : decode method_4_code 132 = .ok (.iconst 3, 1) := by decide +kernel
theorem d_method_4_code_133 : decode method_4_code 133 = .ok (.caload, 1) := by decide +kernel
theorem d_method_4_code_134 : decode method_4_code 134 = .ok (.castore, 1) := by decide +kernel
theorem d_method_4_code_135 : decode method_4_code 135 = .ok (.invokespecial 34, 3) := by decide +kernel
theorem d_method_4_code_138 : decode method_4_code 138 = .ok (.areturn, 1) := by decide +kernel
theorem d_method_4_code_139 : decode method_4_code 139 = .ok (.iload_n 1, 1) := by decide +kernel
theorem d_method_4_code_140 : decode method_4_code 140 = .ok (.iconst 5, 1) := by decide +kernel
theorem d_method_4_code_141 : decode method_4_code 141 = .ok (.if_icmp .ne 44, 3) := by decide +kernel
theorem d_method_4_code_144 : decode method_4_code 144 = .ok (.new 32, 3) := by decide +kernel
theorem d_method_4_code_147 : decode method_4_code 147 = .ok (.dup, 1) := by decide +kernel
theorem d_method_4_code_148 : decode method_4_code 148 = .ok (.iconst 5, 1) := by decide +kernel
theorem d_method_4_code_149 : decode method_4_code 149 = .ok (.newarray .char, 2) := by decide +kernel
theorem d_method_4_code_151 : decode method_4_code 151 = .ok (.dup, 1) := by decide +kernel
theorem d_method_4_code_152 : decode method_4_code 152 = .ok (.iconst 0, 1) := by decide +kernel
theorem d_method_4_code_153 : decode method_4_code 153 = .ok (.aload_n 0, 1) := by decide +kernel
theorem d_method_4_code_154 : decode method_4_code 154 = .ok (.iconst 0, 1) := by decide +kernel
theorem d_method_4_code_155 : decode method_4_code 155 = .ok (.caload, 1) := by decide +kernel
theorem d_method_4_code_156 : decode method_4_code 156 = .ok (.castore, 1) := by decide +kernel
theorem d_method_4_code_157 : decode method_4_code 157 = .ok (.dup, 1) := by decide +kernel
theorem d_method_4_code_158 : decode method_4_code 158 = .ok (.iconst 1, 1) := by decide +kernel
theorem d_method_4_code_159 : decode method_4_code 159 = .ok (.aload_n 0, 1) := by decide +kernel
theorem d_method_4_code_160 : decode method_4_code 160 = .ok (.iconst 1, 1) := by decide +kernel
theorem d_method_4_code_161 : decode method_4_code 161 = .ok (.caload, 1) := by decide +kernel
theorem d_method_4_code_162 : decode method_4_code 162 = .ok (.castore, 1) := by decide +kernel
theorem d_method_4_code_163 : decode method_4_code 163 = .ok (.dup, 1) := by decide +kernel
theorem d_method_4_code_164 : decode method_4_code 164 = .ok (.iconst 2, 1) := by decide +kernel
theorem d_method_4_code_165 : decode method_4_code 165 = .ok (.aload_n 0, 1) := by decide +kernel
theorem d_method_4_code_166 : decode method_4_code 166 = .ok (.iconst 2, 1) := by decide +kernel
theorem d_method_4_code_167 : decode method_4_code 167 = .ok (.caload, 1) := by decide +kernel
theorem d_method_4_code_168 : decode method_4_code 168 = .ok (.castore, 1) := by decide +kernel
theorem d_method_4_code_169 : decode method_4_code 169 = .ok (.dup, 1) := by decide +kernel
theorem d_method_4_code_170 : decode method_4_code 170 = .ok (.iconst 3, 1) := by decide +kernel
theorem d_method_4_code_171 : decode method_4_code 171 = .ok (.aload_n 0, 1) := by decide +kernel
theorem d_method_4_code_172 : decode method_4_code 172 = .ok (.iconst 3, 1) := by decide +kernel
theorem d_method_4_code_173 : decode method_4_code 173 = .ok (.caload, 1) := by decide +kernel
theorem d_method_4_code_174 : decode method_4_code 174 = .ok (.castore, 1) := by decide +kernel
theorem d_method_4_code_175 : decode method_4_code 175 = .ok (.dup, 1) := by decide +kernel
theorem d_method_4_code_176 : decode method_4_code 176 = .ok (.iconst 4, 1) := by decide +kernel
theorem d_method_4_code_177 : decode method_4_code 177 = .ok (.aload_n 0, 1) := by decide +kernel
theorem d_method_4_code_178 : decode method_4_code 178 = .ok (.iconst 4, 1) := by decide +kernel
theorem d_method_4_code_179 : decode method_4_code 179 = .ok (.caload, 1) := by decide +kernel
theorem d_method_4_code_180 : decode method_4_code 180 = .ok (.castore, 1) := by decide +kernel
theorem d_method_4_code_181 : decode method_4_code 181 = .ok (.invokespecial 34, 3) := by decide +kernel
theorem d_method_4_code_184 : decode method_4_code 184 = .ok (.areturn, 1) := by decide +kernel
theorem d_method_4_code_185 : decode method_4_code 185 = .ok (.new 32, 3) := by decide +kernel
theorem d_method_4_code_188 : decode method_4_code 188 = .ok (.dup, 1) := by decide +kernel
theorem d_method_4_code_189 : decode method_4_code 189 = .ok (.bipush 6, 2) := by decide +kernel
theorem d_method_4_code_191 : decode method_4_code 191 = .ok (.newarray .char, 2) := by decide +kernel
theorem d_method_4_code_193 : decode method_4_code 193 = .ok (.dup, 1) := by decide +kernel
theorem d_method_4_code_194 : decode method_4_code 194 = .ok (.iconst 0, 1) := by decide +kernel
theorem d_method_4_code_195 : decode method_4_code 195 = .ok (.aload_n 0, 1) := by decide +kernel
theorem d_method_4_code_196 : decode method_4_code 196 = .ok (.iconst 0, 1) := by decide +kernel
theorem d_method_4_code_197 : decode method_4_code 197 = .ok (.caload, 1) := by decide +kernel
theorem d_method_4_code_198 : decode method_4_code 198 = .ok (.castore, 1) := by decide +kernel
theorem d_method_4_code_199 : decode method_4_code 199 = .ok (.dup, 1) := by decide +kernel
theorem d_method_4_code_200 : decode method_4_code 200 = .ok (.iconst 1, 1) := by decide +kernel
theorem d_method_4_code_201 : decode method_4_code 201 = .ok (.aload_n 0, 1) := by decide +kernel
theorem d_method_4_code_202 : decode method_4_code 202 = .ok (.iconst 1, 1) := by decide +kernel
theorem d_method_4_code_203 : decode method_4_code 203 = .ok (.caload, 1) := by decide +kernel
theorem d_method_4_code_204 : decode method_4_code 204 = .ok (.castore, 1) := by decide +kernel
theorem d_method_4_code_205 : decode method_4_code 205 = .ok (.dup, 1) := by decide +kernel
theorem d_method_4_code_206 : decode method_4_code 206 = .ok (.iconst 2, 1) := by decide +kernel
theorem d_method_4_code_207 : decode method_4_code 207 = .ok (.aload_n 0, 1) := by decide +kernel
theorem d_method_4_code_208 : decode method_4_code 208 = .ok (.iconst 2, 1) := by decide +kernel
theorem d_method_4_code_209 : decode method_4_code 209 = .ok (.caload, 1) := by decide +kernel
theorem d_method_4_code_210 : decode method_4_code 210 = .ok (.castore, 1) := by decide +kernel
theorem d_method_4_code_211 : decode method_4_code 211 = .ok (.dup, 1) := by decide +kernel
theorem d_method_4_code_212 : decode method_4_code 212 = .ok (.iconst 3, 1) := by decide +kernel
theorem d_method_4_code_213 : decode method_4_code 213 = .ok (.aload_n 0, 1) := by decide +kernel
theorem d_method_4_code_214 : decode method_4_code 214 = .ok (.iconst 3, 1) := by decide +kernel
theorem d_method_4_code_215 : decode method_4_code 215 = .ok (.caload, 1) := by decide +kernel
theorem d_method_4_code_216 : decode method_4_code 216 = .ok (.castore, 1) := by decide +kernel
theorem d_method_4_code_217 : decode method_4_code 217 = .ok (.dup, 1) := by decide +kernel
theorem d_method_4_code_218 : decode method_4_code 218 = .ok (.iconst 4, 1) := by decide +kernel
theorem d_method_4_code_219 : decode method_4_code 219 = .ok (.aload_n 0, 1) := by decide +kernel
theorem d_method_4_code_220 : decode method_4_code 220 = .ok (.iconst 4, 1) := by decide +kernel
theorem d_method_4_code_221 : decode method_4_code 221 = .ok (.caload, 1) := by decide +kernel
theorem d_method_4_code_222 : decode method_4_code 222 = .ok (.castore, 1) := by decide +kernel
theorem d_method_4_code_223 : decode method_4_code 223 = .ok (.dup, 1) := by decide +kernel
theorem d_method_4_code_224 : decode method_4_code 224 = .ok (.iconst 5, 1) := by decide +kernel
theorem d_method_4_code_225 : decode method_4_code 225 = .ok (.aload_n 0, 1) := by decide +kernel
theorem d_method_4_code_226 : decode method_4_code 226 = .ok (.iconst 5, 1) := by decide +kernel
theorem d_method_4_code_227 : decode method_4_code 227 = .ok (.caload, 1) := by decide +kernel
theorem d_method_4_code_228 : decode method_4_code 228 = .ok (.castore, 1) := by decide +kernel
theorem d_method_4_code_229 : decode method_4_code 229 = .ok (.invokespecial 34, 3) := by decide +kernel
theorem d_method_4_code_232 : decode method_4_code 232 = .ok (.areturn, 1) := by decide +kernel
def Q_mk (Z : State) (cs : Int32) (fm : Value) (a1 : Addr) (n : Nat) (c : Nat → Nat) (h0 : Heap) (n0 : Nat) (v : Option Value) (h : Heap) (L : List Loc) : Prop := ∃ (a b : Addr) (u : Bool), v = some (.ref a) ∧ Fr n0 L ∧ Keep h0 h [] ∧ Exa Z h a "java/lang/String" ∧ Fld Z h a "java/lang/String" "value" "[B" (.ref b) ∧ Fld Z h a "java/lang/String" "coder" "B" (.int (own_cd u)) ∧ OA Z h b .byte (own_len u n) (own_by u c) ∧ (u = false → ∀ j, j < n → c j < 256)
set_option maxRecDepth 65536 in
set_option maxHeartbeats 40000000 in
theorem rm_mk (l : Launch) (Z : State) (a0 : Array Value) (hw : ∀ d ∈ tables_1, d.before a0 Z = true) (ws : List Jvm.Cond) (cs : Int32) (fm : Value) (a1 : Addr) (n : Nat) (c : Nat → Nat) (h0 : Heap) (n0 : Nat) (Z0 : n0 ≤ h0.size) (ST : own_ST Z cs fm) (OO : Old Z n0 h0) (hn : n ≤ 6) (hc : ∀ j, j < 6 → c j < 65536) (A : OA Z h0 a1 .char 6 (fun i => .int (Int32.ofNat (c i)))) :
    MetFree l (⟨"com/example/strikeshift/strikeshift/formats/TextValuesIsPlainDecimalPinLaw", "make", "([CI)Ljava/lang/String;"⟩ : MethodName) (head1 (Jvm.Cond.code (⟨"com/example/strikeshift/strikeshift/formats/TextValuesIsPlainDecimalPinLaw", "make", "([CI)Ljava/lang/String;"⟩ : MethodName) method_4_code 2 (some (.object "java/lang/String")) :: ws) ({ frames := 6, cells := 4, slots := 28, locals := 88 } : Room)) (fun a U => a = #[(.ref a1), (.int (Int32.ofNat n))] ∧ Z.Warmed39 U.vm ∧ U.heap = h0 ∧ CHv Z consts_1 U.vm h0 ∧ ∀ x ∈ ([] : List Addr), Safe Z consts_1 U.vm h0 x) (fun _ _ _ _ _ => True) (fun _ U o U' => ∃ v L, o = .returned v ∧ Q_mk Z cs fm a1 n c h0 n0 v U'.heap L ∧ CHr Z consts_1 U.vm U.heap U'.vm U'.heap ∧ ReturnedEndW U o U' L ({ frames := 6, cells := 4, slots := 28, locals := 88 } : Room).cells ({ frames := 6, cells := 4, slots := 28, locals := 88 } : Room).slots) := by
  refine MetFree.of_bodySF (plainFor_of_name pn_com_example_strikeshift_strikeshift_formats_TextValuesIsPlainDecimalPinLaw) hisR ?_
  intro p ee s m args below meth cc s₁ Bd hml0 hP hK
  obtain ⟨rfl, hZ, hh, H, hsf⟩ := hP
  have hx := Bd.exec
  have hby := Bd.bytes
  have hml : cc.maxLocals = 2 := hml0
  have hown : (s.setVm s.vm).vm.findClass "com/example/strikeshift/strikeshift/formats/TextValuesIsPlainDecimalPinLaw" = some m.cls := findClass_of_methodNamed Bd.named
  have hnm := (name_of_methodNamed Bd.named Bd.method).1
  have X0 : Stand p l ee ({ frames := 6, cells := 4, slots := 28, locals := 88 } : Room) (s.setVm s.vm) m #[(.ref a1), (.int (Int32.ofNat n))] below meth cc s₁ [] 0 0 := Stand.of_body Bd
  have e0 : s₁.heap = h0 := by rw [← hh, Bd.state]; rfl
  have N0 := Fr.nil n0
  have hEL := own_EW hw
  have hZ : Z.Warmed39 (s.setVm s.vm).vm := hZ
  have C : Cold Z consts_1 s s.vm h0 := by rw [← hh]; exact Cold.start (by rw [hh]; exact H)
  show GoesW p ee below s ({ frames := 6, cells := 4, slots := 28, locals := 88 } : Room).cells ({ frames := 6, cells := 4, slots := 28, locals := 88 } : Room).slots Z consts_1 (Q_mk Z cs fm a1 n c h0 n0) (s₁.setTop (entryFrame m #[(.ref a1), (.int (Int32.ofNat n))] 2))
  refine GoesW.step (fun _ hr_ => castTop (ef_mk m a1 (Int32.ofNat n)) hr_) ?_
  show GoesW p ee below s _ _ _ _ _ (s₁.setTop (mkF m 0 #[.val (.ref a1), .val (.int (Int32.ofNat n))] []))
  have K0 := Keep.refl h0 ([] : List Addr)
  have hcases : n = 0 ∨ n = 1 ∨ n = 2 ∨ n = 3 ∨ n = 4 ∨ n = 5 ∨ n = 6 := by omega
  rcases hcases with rfl | rfl | rfl | rfl | rfl | rfl | rfl
  · show GoesW p ee below s _ _ _ _ _ (s₁.setTop (mkF m 0 #[.val (.ref a1), .val (.int (0 : Int32))] []))
    refine GoesW.step (fun _ hr_ => XS.iloadN X0.here hx rfl (hb hby d_method_4_code_0) rfl  hr_) ?_
    show GoesW p ee below s _ _ _ _ _ (s₁.setTop (mkF m 1 #[.val (.ref a1), .val (.int (0 : Int32))] [(.int (0 : Int32))]))
    refine GoesW.step (fun _ hr_ => XS.ifNo X0.here hx rfl (hb hby d_method_4_code_1) rfl ((if0 _ _).trans (teq (by decide)).2) hr_) ?_
    show GoesW p ee below s _ _ _ _ _ (s₁.setTop (mkF m 4 #[.val (.ref a1), .val (.int (0 : Int32))] []))
    obtain ⟨T1, h1, X1, e1, E1, A1, D1, -, st1⟩ := newO X0 hx hZ hown (hw _ (List.mem_of_getElem? (i := 9) rfl)) (hw _ (List.mem_of_getElem? (i := 10) rfl)) (hw _ (List.mem_of_getElem? (i := 11) rfl)) e0 (g := (mkF m 4 #[.val (.ref a1), .val (.int (0 : Int32))] [])) rfl (hb hby d_method_4_code_4) (by decide) (by decide)
    obtain ⟨b1, g_b1⟩ : ∃ z, z = h0.size := ⟨_, rfl⟩
    have ne_a1_b1 : a1 ≠ b1 := Nat.ne_of_lt (Nat.lt_of_lt_of_le A.lt (Nat.le_of_eq g_b1.symm))
    have ge_b1 : n0 ≤ b1 := Nat.le_trans Z0 (Nat.le_of_eq g_b1.symm)
    have sz_b1 : h0.size ≤ b1 := Nat.le_trans K0.1 (Nat.le_of_eq g_b1.symm)
    rw [← g_b1] at A1 D1 st1
    have A := A.ext E1
    have Zp2 := Nat.le_trans Z0 E1.1
    have sf_b1 := Safe.ext E1 C.chv (Safe.new (Nat.le_of_eq g_b1.symm))
    have C := C.ext E1
    have OO := OO.ext E1
    have K3 := K0.ext E1
    refine GoesW.step st1 ?_
    have E_b1 := A1
    have F_value_b1 : Fld Z h1 b1 "java/lang/String" "value" "[B" .null := D1 (Or.inr (hw _ (List.mem_of_getElem? (i := 24) rfl))) (ty := (.array .byte)) (by decide)
    have F_coder_b1 : Fld Z h1 b1 "java/lang/String" "coder" "B" (.int (0 : Int32)) := D1 (Or.inr (hw _ (List.mem_of_getElem? (i := 25) rfl))) (ty := .byte) (by decide)
    show GoesW p ee below s _ _ _ _ _ (T1.setTop (mkF m 7 #[.val (.ref a1), .val (.int (0 : Int32))] [(.ref b1)]))
    refine GoesW.step (fun _ hr_ => XS.dup X1.here hx rfl (hb hby d_method_4_code_7) rfl rfl hr_) ?_
    show GoesW p ee below s _ _ _ _ _ (T1.setTop (mkF m 8 #[.val (.ref a1), .val (.int (0 : Int32))] [(.ref b1), (.ref b1)]))
    refine GoesW.step (fun _ hr_ => XS.iconst X1.here hx rfl (hb hby d_method_4_code_8) hr_) ?_
    show GoesW p ee below s _ _ _ _ _ (T1.setTop (mkF m 9 #[.val (.ref a1), .val (.int (0 : Int32))] [(.int (0 : Int32)), (.ref b1), (.ref b1)]))
    obtain ⟨T4, h4, X4, e4, E4, A4, st4⟩ := own_newP X1 hx hZ (aty := .char) (hw _ (List.mem_of_getElem? (i := 1) rfl)) e1 (z := (0 : Int32)) (by decide) (n := 0) rfl (cap := 0) (Nat.le_refl _) (by decide) (by decide) (by decide) (g := (mkF m 9 #[.val (.ref a1), .val (.int (0 : Int32))] [(.int (0 : Int32)), (.ref b1), (.ref b1)])) rfl rfl (hb hby d_method_4_code_9)
    obtain ⟨b4, g_b4⟩ : ∃ z, z = h1.size := ⟨_, rfl⟩
    have ne_a1_b4 : a1 ≠ b4 := Nat.ne_of_lt (Nat.lt_of_lt_of_le A.lt (Nat.le_of_eq g_b4.symm))
    have ne_b1_b4 : b1 ≠ b4 := Nat.ne_of_lt (Nat.lt_of_lt_of_le E_b1.lt (Nat.le_of_eq g_b4.symm))
    have ge_b4 : n0 ≤ b4 := Nat.le_trans Zp2 (Nat.le_of_eq g_b4.symm)
    have sz_b4 : h0.size ≤ b4 := Nat.le_trans K3.1 (Nat.le_of_eq g_b4.symm)
    rw [← g_b4] at A4 st4
    have A := A.ext E4
    have E_b1 := E_b1.ext E4
    have F_value_b1 := F_value_b1.ext E4
    have F_coder_b1 := F_coder_b1.ext E4
    have Zp5 := Nat.le_trans Zp2 E4.1
    have sf_b1 := Safe.ext E4 C.chv sf_b1
    have sf_b4 := Safe.ext E4 C.chv (Safe.new (Nat.le_of_eq g_b4.symm))
    have C := C.ext E4
    have OO := OO.ext E4
    have K6 := K3.ext E4
    refine GoesW.step st4 ?_
    have A_b4 : OA Z h4 b4 .char 0 (fun _ => (.int 0)) := A4
    show GoesW p ee below s _ _ _ _ _ (T4.setTop (mkF m 11 #[.val (.ref a1), .val (.int (0 : Int32))] [(.ref b4), (.ref b1), (.ref b1)]))
    have A_b4 : OA Z h4 b4 .char 0 (fun _ => .int 0) := A_b4
    have lt_a1 := A.lt
    have lt_b1 := E_b1.lt
    have lt_b4 := A_b4.lt
    obtain ⟨v7, vm7, T7, L7, ⟨X7, Cn7, hZ, hown, hsaf7⟩, hQ7, st7⟩ := own_callNW X4 hx hZ hEL C (y := (⟨"java/lang/String", "<init>", "([C)V"⟩ : MethodName)) rfl hown (hw _ (List.mem_of_getElem? (i := 12) rfl)) (hw _ (List.mem_of_getElem? (i := 13) rfl)) (hw _ (List.mem_of_getElem? (i := 11) rfl)) (hw _ (List.mem_of_getElem? (i := 14) rfl)) (by decide) (a := b1) (argsL := [(.ref b4)]) (ws := [b1]) (own_allS ⟨lt_b1, sf_b1⟩ (fun _ q => nomatch q)) (rm_sin1w l Z a0 hw [] cs fm b1 b4 _ _ _ h4 n0 Zp5 ST OO ge_b1 ne_b1_b4 E_b1 F_value_b1 F_coder_b1 A_b4) e4 (W := 1) (by decide) (by decide) (by decide) (by decide) (g := (mkF m 11 #[.val (.ref a1), .val (.int (0 : Int32))] [(.ref b4), (.ref b1), (.ref b1)])) rfl (by rw [hml]; rfl) (rest := [(.ref b1)]) (lenOf pd_17 rfl) rfl (by show 2 * 0 + _ ≤ _; exact Nat.le_of_eq rfl) (hb hby d_method_4_code_11)
    refine GoesW.step st7 ?_
    obtain ⟨rfl, N7, Kc7, b7, Ei7, Fv7, Fc7, AE_b7⟩ := hQ7
    have N8 := Fr.app N0 N7
    obtain ⟨h7, e7⟩ : ∃ h', T7.heap = h' := ⟨_, rfl⟩
    rw [e7] at Kc7 Cn7 hsaf7 Ei7 Fv7 Fc7 AE_b7
    have sf_b1 := hsaf7 b1 lt_b1 sf_b1
    have sf_b4 := hsaf7 b4 lt_b4 sf_b4
    have C := Cn7
    have A := A.keep Kc7 (ninS ne_a1_b1 nin0)
    have A_b4 := A_b4.keep Kc7 (ninS (Ne.symm ne_b1_b4) nin0)
    have OO := OO.keep Kc7 (allS ge_b1 all0)
    have K9 := K6.trans Kc7 (allS (Or.inr sz_b1) all0)
    have Zp10 := Nat.le_trans Zp5 Kc7.1
    have A_b7 := AE_b7 c
    show GoesW p ee below s _ _ _ _ _ (T7.setTop (mkF m 14 #[.val (.ref a1), .val (.int (0 : Int32))] [(.ref b1)]))
    refine GoesW.retA X7 hx hZ hEL C e7 Bd.notSynchronized Bd.returns rfl rfl (hb hby d_method_4_code_14) (by decide) (by decide) ?_
    rw [e7]
    exact ⟨b1, b7, false, rfl, N8, K9, Ei7, Fv7, Fc7, A_b7, (fun _ j hj => absurd hj (Nat.not_lt_zero j))⟩
  · show GoesW p ee below s _ _ _ _ _ (s₁.setTop (mkF m 0 #[.val (.ref a1), .val (.int (1 : Int32))] []))
    refine GoesW.step (fun _ hr_ => XS.iloadN X0.here hx rfl (hb hby d_method_4_code_0) rfl  hr_) ?_
    show GoesW p ee below s _ _ _ _ _ (s₁.setTop (mkF m 1 #[.val (.ref a1), .val (.int (1 : Int32))] [(.int (1 : Int32))]))
    refine GoesW.step (fun _ hr_ => XS.ifYes X0.here hx rfl (pc0 := 1) (pc' := 15) rfl (hb hby d_method_4_code_1) rfl ((if0 _ _).trans (feq (by decide)).2) (by decide) (by decide) hr_) ?_
    show GoesW p ee below s _ _ _ _ _ (s₁.setTop (mkF m 15 #[.val (.ref a1), .val (.int (1 : Int32))] []))
    refine GoesW.step (fun _ hr_ => XS.iloadN X0.here hx rfl (hb hby d_method_4_code_15) rfl  hr_) ?_
    show GoesW p ee below s _ _ _ _ _ (s₁.setTop (mkF m 16 #[.val (.ref a1), .val (.int (1 : Int32))] [(.int (1 : Int32))]))
    refine GoesW.step (fun _ hr_ => XS.iconst X0.here hx rfl (hb hby d_method_4_code_16) hr_) ?_
    show GoesW p ee below s _ _ _ _ _ (s₁.setTop (mkF m 17 #[.val (.ref a1), .val (.int (1 : Int32))] [(.int (1 : Int32)), (.int (1 : Int32))]))
    refine GoesW.step (fun _ hr_ => XS.icmpNo X0.here hx rfl (hb hby d_method_4_code_17) rfl (teq (by decide)).2 hr_) ?_
    show GoesW p ee below s _ _ _ _ _ (s₁.setTop (mkF m 20 #[.val (.ref a1), .val (.int (1 : Int32))] []))
    obtain ⟨T11, h11, X11, e11, E11, A11, D11, -, st11⟩ := newO X0 hx hZ hown (hw _ (List.mem_of_getElem? (i := 9) rfl)) (hw _ (List.mem_of_getElem? (i := 10) rfl)) (hw _ (List.mem_of_getElem? (i := 11) rfl)) e0 (g := (mkF m 20 #[.val (.ref a1), .val (.int (1 : Int32))] [])) rfl (hb hby d_method_4_code_20) (by decide) (by decide)
    obtain ⟨b11, g_b11⟩ : ∃ z, z = h0.size := ⟨_, rfl⟩
    have ne_a1_b11 : a1 ≠ b11 := Nat.ne_of_lt (Nat.lt_of_lt_of_le A.lt (Nat.le_of_eq g_b11.symm))
    have ge_b11 : n0 ≤ b11 := Nat.le_trans Z0 (Nat.le_of_eq g_b11.symm)
    have sz_b11 : h0.size ≤ b11 := Nat.le_trans K0.1 (Nat.le_of_eq g_b11.symm)
    rw [← g_b11] at A11 D11 st11
    have A := A.ext E11
    have Zp12 := Nat.le_trans Z0 E11.1
    have sf_b11 := Safe.ext E11 C.chv (Safe.new (Nat.le_of_eq g_b11.symm))
    have C := C.ext E11
    have OO := OO.ext E11
    have K13 := K0.ext E11
    refine GoesW.step st11 ?_
    have E_b11 := A11
    have F_value_b11 : Fld Z h11 b11 "java/lang/String" "value" "[B" .null := D11 (Or.inr (hw _ (List.mem_of_getElem? (i := 24) rfl))) (ty := (.array .byte)) (by decide)
    have F_coder_b11 : Fld Z h11 b11 "java/lang/String" "coder" "B" (.int (0 : Int32)) := D11 (Or.inr (hw _ (List.mem_of_getElem? (i := 25) rfl))) (ty := .byte) (by decide)
    show GoesW p ee below s _ _ _ _ _ (T11.setTop (mkF m 23 #[.val (.ref a1), .val (.int (1 : Int32))] [(.ref b11)]))
    refine GoesW.step (fun _ hr_ => XS.dup X11.here hx rfl (hb hby d_method_4_code_23) rfl rfl hr_) ?_
    show GoesW p ee below s _ _ _ _ _ (T11.setTop (mkF m 24 #[.val (.ref a1), .val (.int (1 : Int32))] [(.ref b11), (.ref b11)]))
    refine GoesW.step (fun _ hr_ => XS.iconst X11.here hx rfl (hb hby d_method_4_code_24) hr_) ?_
    show GoesW p ee below s _ _ _ _ _ (T11.setTop (mkF m 25 #[.val (.ref a1), .val (.int (1 : Int32))] [(.int (1 : Int32)), (.ref b11), (.ref b11)]))
    obtain ⟨T14, h14, X14, e14, E14, A14, st14⟩ := own_newP X11 hx hZ (aty := .char) (hw _ (List.mem_of_getElem? (i := 1) rfl)) e11 (z := (1 : Int32)) (by decide) (n := 1) rfl (cap := 1) (Nat.le_refl _) (by decide) (by decide) (by decide) (g := (mkF m 25 #[.val (.ref a1), .val (.int (1 : Int32))] [(.int (1 : Int32)), (.ref b11), (.ref b11)])) rfl rfl (hb hby d_method_4_code_25)
    obtain ⟨b14, g_b14⟩ : ∃ z, z = h11.size := ⟨_, rfl⟩
    have ne_a1_b14 : a1 ≠ b14 := Nat.ne_of_lt (Nat.lt_of_lt_of_le A.lt (Nat.le_of_eq g_b14.symm))
    have ne_b11_b14 : b11 ≠ b14 := Nat.ne_of_lt (Nat.lt_of_lt_of_le E_b11.lt (Nat.le_of_eq g_b14.symm))
    have ge_b14 : n0 ≤ b14 := Nat.le_trans Zp12 (Nat.le_of_eq g_b14.symm)
    have sz_b14 : h0.size ≤ b14 := Nat.le_trans K13.1 (Nat.le_of_eq g_b14.symm)
    rw [← g_b14] at A14 st14
    have A := A.ext E14
    have E_b11 := E_b11.ext E14
    have F_value_b11 := F_value_b11.ext E14
    have F_coder_b11 := F_coder_b11.ext E14
    have Zp15 := Nat.le_trans Zp12 E14.1
    have sf_b11 := Safe.ext E14 C.chv sf_b11
    have sf_b14 := Safe.ext E14 C.chv (Safe.new (Nat.le_of_eq g_b14.symm))
    have C := C.ext E14
    have OO := OO.ext E14
    have K16 := K13.ext E14
    refine GoesW.step st14 ?_
    have A_b14 : OA Z h14 b14 .char 1 (fun _ => (.int 0)) := A14
    show GoesW p ee below s _ _ _ _ _ (T14.setTop (mkF m 27 #[.val (.ref a1), .val (.int (1 : Int32))] [(.ref b14), (.ref b11), (.ref b11)]))
    refine GoesW.step (fun _ hr_ => XS.dup X14.here hx rfl (hb hby d_method_4_code_27) rfl rfl hr_) ?_
    show GoesW p ee below s _ _ _ _ _ (T14.setTop (mkF m 28 #[.val (.ref a1), .val (.int (1 : Int32))] [(.ref b14), (.ref b14), (.ref b11), (.ref b11)]))
    refine GoesW.step (fun _ hr_ => XS.iconst X14.here hx rfl (hb hby d_method_4_code_28) hr_) ?_
    show GoesW p ee below s _ _ _ _ _ (T14.setTop (mkF m 29 #[.val (.ref a1), .val (.int (1 : Int32))] [(.int (0 : Int32)), (.ref b14), (.ref b14), (.ref b11), (.ref b11)]))
    refine GoesW.step (fun _ hr_ => XS.aloadN X14.here hx rfl (hb hby d_method_4_code_29) rfl rfl hr_) ?_
    show GoesW p ee below s _ _ _ _ _ (T14.setTop (mkF m 30 #[.val (.ref a1), .val (.int (1 : Int32))] [(.ref a1), (.int (0 : Int32)), (.ref b14), (.ref b14), (.ref b11), (.ref b11)]))
    refine GoesW.step (fun _ hr_ => XS.iconst X14.here hx rfl (hb hby d_method_4_code_30) hr_) ?_
    show GoesW p ee below s _ _ _ _ _ (T14.setTop (mkF m 31 #[.val (.ref a1), .val (.int (1 : Int32))] [(.int (0 : Int32)), (.ref a1), (.int (0 : Int32)), (.ref b14), (.ref b14), (.ref b11), (.ref b11)]))
    refine GoesW.step (own_caload X14 hx hZ e14 A (j := (0 : Int32)) (by decide) (k := 0) rfl (by decide) (v := (.int (Int32.ofNat (c 0)))) rfl (g := (mkF m 31 #[.val (.ref a1), .val (.int (1 : Int32))] [(.int (0 : Int32)), (.ref a1), (.int (0 : Int32)), (.ref b14), (.ref b14), (.ref b11), (.ref b11)])) rfl rfl (hb hby d_method_4_code_31)) ?_
    show GoesW p ee below s _ _ _ _ _ (T14.setTop (mkF m 32 #[.val (.ref a1), .val (.int (1 : Int32))] [(.int (Int32.ofNat (c 0))), (.int (0 : Int32)), (.ref b14), (.ref b14), (.ref b11), (.ref b11)]))
    obtain ⟨T17, h17, X17, e17, W17, A17, st17⟩ := own_stC X14 hx hZ e14 A_b14 (x := (Int32.ofNat (c 0))) (j := (0 : Int32)) (by decide) (k := 0) rfl (by decide) (g := (mkF m 32 #[.val (.ref a1), .val (.int (1 : Int32))] [(.int (Int32.ofNat (c 0))), (.int (0 : Int32)), (.ref b14), (.ref b14), (.ref b11), (.ref b11)])) rfl rfl (hb hby d_method_4_code_32)
    refine GoesW.step st17 ?_
    have A := A.other W17 ne_a1_b14
    have E_b11 := E_b11.wr W17
    have F_value_b11 := F_value_b11.other W17 (Or.inl ne_b11_b14)
    have F_coder_b11 := F_coder_b11.other W17 (Or.inl ne_b11_b14)
    have Zp18 := Nat.le_trans Zp15 (Keep.of_wr W17).1
    have N19 := Fr.snoc X17 N0 ge_b14
    have sfw := sf_b14
    have sf_b11 := Safe.wr W17 sfw C.chv sf_b11
    have sf_b14 := Safe.wr W17 sfw C.chv sf_b14
    have C := C.wr W17 sfw
    have OO := OO.wr W17 ge_b14
    have K20 := K16.wr W17 (Or.inr sz_b14)
    have A_b14 : OA Z h17 b14 .char 1 (fun i => [(.int (nar .char (Int32.ofNat (c 0))))].getD i (.int 0)) := A17.congr (fun i hi => by match i, hi with | 0, _ => rfl | i + 1, hi => omega)
    show GoesW p ee below s _ _ _ _ _ (T17.setTop (mkF m 33 #[.val (.ref a1), .val (.int (1 : Int32))] [(.ref b14), (.ref b11), (.ref b11)]))
    have A_b14 : OA Z h17 b14 .char 1 (fun i => .int (Int32.ofNat (c i))) := A_b14.congr (fun i hi => by match i, hi with | 0, _ => exact congrArg Value.int (own_charnar (c 0) (hc 0 (by decide))) | i + 1, hi => omega)
    have lt_a1 := A.lt
    have lt_b11 := E_b11.lt
    have lt_b14 := A_b14.lt
    obtain ⟨v21, T21, L21, X21, hQ21, st21⟩ := own_callN X17 hx hZ (y := (⟨"java/lang/String", "<init>", "([C)V"⟩ : MethodName)) rfl hown (hw _ (List.mem_of_getElem? (i := 12) rfl)) (hw _ (List.mem_of_getElem? (i := 13) rfl)) (hw _ (List.mem_of_getElem? (i := 11) rfl)) (hw _ (List.mem_of_getElem? (i := 14) rfl)) (by decide) (a := b11) (argsL := [(.ref b14)]) (rm_sin1 l Z a0 hw [] cs fm b11 b14 1 c _ _ h17 n0 Zp18 ST OO (by decide) (by decide) (fun j hj => hc j (by omega)) ge_b11 ne_b11_b14 E_b11 F_value_b11 F_coder_b11 A_b14) e17 (W := 1) (by decide) (by decide) (by decide) (by decide) (g := (mkF m 33 #[.val (.ref a1), .val (.int (1 : Int32))] [(.ref b14), (.ref b11), (.ref b11)])) rfl (by rw [hml]; rfl) (rest := [(.ref b11)]) (lenOf pd_17 rfl) rfl (by show 2 * 0 + _ ≤ _; exact Nat.le_of_eq rfl) (hb hby d_method_4_code_33)
    refine GoesW.step st21 ?_
    obtain ⟨rfl, N21, Kc21, b21, u, sz21, Ei21, Fv21, Fc21, A_b21, hlu, hlu2⟩ := hQ21
    have N22 := Fr.app N19 N21
    obtain ⟨h21, e21⟩ : ∃ h', T21.heap = h' := ⟨_, rfl⟩
    rw [e21] at Kc21 Ei21 Fv21 Fc21 A_b21
    have A := A.keep Kc21 (ninS ne_a1_b11 nin0)
    have A_b14 := A_b14.keep Kc21 (ninS (Ne.symm ne_b11_b14) nin0)
    have hsk := (sfS sf_b11 sf0)
    have sf_b11 := Safe.keep Kc21 hsk C.chv sf_b11
    have sf_b14 := Safe.keep Kc21 hsk C.chv sf_b14
    have C := C.keep Kc21 hsk
    have OO := OO.keep Kc21 (allS ge_b11 all0)
    have K23 := K20.trans Kc21 (allS (Or.inr sz_b11) all0)
    have Zp24 := Nat.le_trans Zp18 Kc21.1
    have ge_b21 : n0 ≤ b21 := Nat.le_trans Zp18 sz21
    have sz_b21 : h0.size ≤ b21 := Nat.le_trans K20.1 sz21
    have ne_a1_b21 : a1 ≠ b21 := Nat.ne_of_lt (Nat.lt_of_lt_of_le lt_a1 sz21)
    have ne_b11_b21 : b11 ≠ b21 := Nat.ne_of_lt (Nat.lt_of_lt_of_le lt_b11 sz21)
    have ne_b14_b21 : b14 ≠ b21 := Nat.ne_of_lt (Nat.lt_of_lt_of_le lt_b14 sz21)
    show GoesW p ee below s _ _ _ _ _ (T21.setTop (mkF m 36 #[.val (.ref a1), .val (.int (1 : Int32))] [(.ref b11)]))
    refine GoesW.retA X21 hx hZ hEL C e21 Bd.notSynchronized Bd.returns rfl rfl (hb hby d_method_4_code_36) (by decide) (by decide) ?_
    rw [e21]
    exact ⟨b11, b21, u, rfl, N22, K23, Ei21, Fv21, Fc21, A_b21, hlu⟩
  · show GoesW p ee below s _ _ _ _ _ (s₁.setTop (mkF m 0 #[.val (.ref a1), .val (.int (2 : Int32))] []))
    refine GoesW.step (fun _ hr_ => XS.iloadN X0.here hx rfl (hb hby d_method_4_code_0) rfl  hr_) ?_
    show GoesW p ee below s _ _ _ _ _ (s₁.setTop (mkF m 1 #[.val (.ref a1), .val (.int (2 : Int32))] [(.int (2 : Int32))]))
    refine GoesW.step (fun _ hr_ => XS.ifYes X0.here hx rfl (pc0 := 1) (pc' := 15) rfl (hb hby d_method_4_code_1) rfl ((if0 _ _).trans (feq (by decide)).2) (by decide) (by decide) hr_) ?_
    show GoesW p ee below s _ _ _ _ _ (s₁.setTop (mkF m 15 #[.val (.ref a1), .val (.int (2 : Int32))] []))
    refine GoesW.step (fun _ hr_ => XS.iloadN X0.here hx rfl (hb hby d_method_4_code_15) rfl  hr_) ?_
    show GoesW p ee below s _ _ _ _ _ (s₁.setTop (mkF m 16 #[.val (.ref a1), .val (.int (2 : Int32))] [(.int (2 : Int32))]))
    refine GoesW.step (fun _ hr_ => XS.iconst X0.here hx rfl (hb hby d_method_4_code_16) hr_) ?_
    show GoesW p ee below s _ _ _ _ _ (s₁.setTop (mkF m 17 #[.val (.ref a1), .val (.int (2 : Int32))] [(.int (1 : Int32)), (.int (2 : Int32))]))
    refine GoesW.step (fun _ hr_ => XS.icmpYes X0.here hx rfl (pc0 := 17) (pc' := 37) rfl (hb hby d_method_4_code_17) rfl (feq (by decide)).2 (by decide) (by decide) hr_) ?_
    show GoesW p ee below s _ _ _ _ _ (s₁.setTop (mkF m 37 #[.val (.ref a1), .val (.int (2 : Int32))] []))
    refine GoesW.step (fun _ hr_ => XS.iloadN X0.here hx rfl (hb hby d_method_4_code_37) rfl  hr_) ?_
    show GoesW p ee below s _ _ _ _ _ (s₁.setTop (mkF m 38 #[.val (.ref a1), .val (.int (2 : Int32))] [(.int (2 : Int32))]))
    refine GoesW.step (fun _ hr_ => XS.iconst X0.here hx rfl (hb hby d_method_4_code_38) hr_) ?_
    show GoesW p ee below s _ _ _ _ _ (s₁.setTop (mkF m 39 #[.val (.ref a1), .val (.int (2 : Int32))] [(.int (2 : Int32)), (.int (2 : Int32))]))
    refine GoesW.step (fun _ hr_ => XS.icmpNo X0.here hx rfl (hb hby d_method_4_code_39) rfl (teq (by decide)).2 hr_) ?_
    show GoesW p ee below s _ _ _ _ _ (s₁.setTop (mkF m 42 #[.val (.ref a1), .val (.int (2 : Int32))] []))
    obtain ⟨T25, h25, X25, e25, E25, A25, D25, -, st25⟩ := newO X0 hx hZ hown (hw _ (List.mem_of_getElem? (i := 9) rfl)) (hw _ (List.mem_of_getElem? (i := 10) rfl)) (hw _ (List.mem_of_getElem? (i := 11) rfl)) e0 (g := (mkF m 42 #[.val (.ref a1), .val (.int (2 : Int32))] [])) rfl (hb hby d_method_4_code_42) (by decide) (by decide)
    obtain ⟨b25, g_b25⟩ : ∃ z, z = h0.size := ⟨_, rfl⟩
    have ne_a1_b25 : a1 ≠ b25 := Nat.ne_of_lt (Nat.lt_of_lt_of_le A.lt (Nat.le_of_eq g_b25.symm))
    have ge_b25 : n0 ≤ b25 := Nat.le_trans Z0 (Nat.le_of_eq g_b25.symm)
    have sz_b25 : h0.size ≤ b25 := Nat.le_trans K0.1 (Nat.le_of_eq g_b25.symm)
    rw [← g_b25] at A25 D25 st25
    have A := A.ext E25
    have Zp26 := Nat.le_trans Z0 E25.1
    have sf_b25 := Safe.ext E25 C.chv (Safe.new (Nat.le_of_eq g_b25.symm))
    have C := C.ext E25
    have OO := OO.ext E25
    have K27 := K0.ext E25
    refine GoesW.step st25 ?_
    have E_b25 := A25
    have F_value_b25 : Fld Z h25 b25 "java/lang/String" "value" "[B" .null := D25 (Or.inr (hw _ (List.mem_of_getElem? (i := 24) rfl))) (ty := (.array .byte)) (by decide)
    have F_coder_b25 : Fld Z h25 b25 "java/lang/String" "coder" "B" (.int (0 : Int32)) := D25 (Or.inr (hw _ (List.mem_of_getElem? (i := 25) rfl))) (ty := .byte) (by decide)
    show GoesW p ee below s _ _ _ _ _ (T25.setTop (mkF m 45 #[.val (.ref a1), .val (.int (2 : Int32))] [(.ref b25)]))
    refine GoesW.step (fun _ hr_ => XS.dup X25.here hx rfl (hb hby d_method_4_code_45) rfl rfl hr_) ?_
    show GoesW p ee below s _ _ _ _ _ (T25.setTop (mkF m 46 #[.val (.ref a1), .val (.int (2 : Int32))] [(.ref b25), (.ref b25)]))
    refine GoesW.step (fun _ hr_ => XS.iconst X25.here hx rfl (hb hby d_method_4_code_46) hr_) ?_
    show GoesW p ee below s _ _ _ _ _ (T25.setTop (mkF m 47 #[.val (.ref a1), .val (.int (2 : Int32))] [(.int (2 : Int32)), (.ref b25), (.ref b25)]))
    obtain ⟨T28, h28, X28, e28, E28, A28, st28⟩ := own_newP X25 hx hZ (aty := .char) (hw _ (List.mem_of_getElem? (i := 1) rfl)) e25 (z := (2 : Int32)) (by decide) (n := 2) rfl (cap := 2) (Nat.le_refl _) (by decide) (by decide) (by decide) (g := (mkF m 47 #[.val (.ref a1), .val (.int (2 : Int32))] [(.int (2 : Int32)), (.ref b25), (.ref b25)])) rfl rfl (hb hby d_method_4_code_47)
    obtain ⟨b28, g_b28⟩ : ∃ z, z = h25.size := ⟨_, rfl⟩
    have ne_a1_b28 : a1 ≠ b28 := Nat.ne_of_lt (Nat.lt_of_lt_of_le A.lt (Nat.le_of_eq g_b28.symm))
    have ne_b25_b28 : b25 ≠ b28 := Nat.ne_of_lt (Nat.lt_of_lt_of_le E_b25.lt (Nat.le_of_eq g_b28.symm))
    have ge_b28 : n0 ≤ b28 := Nat.le_trans Zp26 (Nat.le_of_eq g_b28.symm)
    have sz_b28 : h0.size ≤ b28 := Nat.le_trans K27.1 (Nat.le_of_eq g_b28.symm)
    rw [← g_b28] at A28 st28
    have A := A.ext E28
    have E_b25 := E_b25.ext E28
    have F_value_b25 := F_value_b25.ext E28
    have F_coder_b25 := F_coder_b25.ext E28
    have Zp29 := Nat.le_trans Zp26 E28.1
    have sf_b25 := Safe.ext E28 C.chv sf_b25
    have sf_b28 := Safe.ext E28 C.chv (Safe.new (Nat.le_of_eq g_b28.symm))
    have C := C.ext E28
    have OO := OO.ext E28
    have K30 := K27.ext E28
    refine GoesW.step st28 ?_
    have A_b28 : OA Z h28 b28 .char 2 (fun _ => (.int 0)) := A28
    show GoesW p ee below s _ _ _ _ _ (T28.setTop (mkF m 49 #[.val (.ref a1), .val (.int (2 : Int32))] [(.ref b28), (.ref b25), (.ref b25)]))
    refine GoesW.step (fun _ hr_ => XS.dup X28.here hx rfl (hb hby d_method_4_code_49) rfl rfl hr_) ?_
    show GoesW p ee below s _ _ _ _ _ (T28.setTop (mkF m 50 #[.val (.ref a1), .val (.int (2 : Int32))] [(.ref b28), (.ref b28), (.ref b25), (.ref b25)]))
    refine GoesW.step (fun _ hr_ => XS.iconst X28.here hx rfl (hb hby d_method_4_code_50) hr_) ?_
    show GoesW p ee below s _ _ _ _ _ (T28.setTop (mkF m 51 #[.val (.ref a1), .val (.int (2 : Int32))] [(.int (0 : Int32)), (.ref b28), (.ref b28), (.ref b25), (.ref b25)]))
    refine GoesW.step (fun _ hr_ => XS.aloadN X28.here hx rfl (hb hby d_method_4_code_51) rfl rfl hr_) ?_
    show GoesW p ee below s _ _ _ _ _ (T28.setTop (mkF m 52 #[.val (.ref a1), .val (.int (2 : Int32))] [(.ref a1), (.int (0 : Int32)), (.ref b28), (.ref b28), (.ref b25), (.ref b25)]))
    refine GoesW.step (fun _ hr_ => XS.iconst X28.here hx rfl (hb hby d_method_4_code_52) hr_) ?_
    show GoesW p ee below s _ _ _ _ _ (T28.setTop (mkF m 53 #[.val (.ref a1), .val (.int (2 : Int32))] [(.int (0 : Int32)), (.ref a1), (.int (0 : Int32)), (.ref b28), (.ref b28), (.ref b25), (.ref b25)]))
    refine GoesW.step (own_caload X28 hx hZ e28 A (j := (0 : Int32)) (by decide) (k := 0) rfl (by decide) (v := (.int (Int32.ofNat (c 0)))) rfl (g := (mkF m 53 #[.val (.ref a1), .val (.int (2 : Int32))] [(.int (0 : Int32)), (.ref a1), (.int (0 : Int32)), (.ref b28), (.ref b28), (.ref b25), (.ref b25)])) rfl rfl (hb hby d_method_4_code_53)) ?_
    show GoesW p ee below s _ _ _ _ _ (T28.setTop (mkF m 54 #[.val (.ref a1), .val (.int (2 : Int32))] [(.int (Int32.ofNat (c 0))), (.int (0 : Int32)), (.ref b28), (.ref b28), (.ref b25), (.ref b25)]))
    obtain ⟨T31, h31, X31, e31, W31, A31, st31⟩ := own_stC X28 hx hZ e28 A_b28 (x := (Int32.ofNat (c 0))) (j := (0 : Int32)) (by decide) (k := 0) rfl (by decide) (g := (mkF m 54 #[.val (.ref a1), .val (.int (2 : Int32))] [(.int (Int32.ofNat (c 0))), (.int (0 : Int32)), (.ref b28), (.ref b28), (.ref b25), (.ref b25)])) rfl rfl (hb hby d_method_4_code_54)
    refine GoesW.step st31 ?_
    have A := A.other W31 ne_a1_b28
    have E_b25 := E_b25.wr W31
    have F_value_b25 := F_value_b25.other W31 (Or.inl ne_b25_b28)
    have F_coder_b25 := F_coder_b25.other W31 (Or.inl ne_b25_b28)
    have Zp32 := Nat.le_trans Zp29 (Keep.of_wr W31).1
    have N33 := Fr.snoc X31 N0 ge_b28
    have sfw := sf_b28
    have sf_b25 := Safe.wr W31 sfw C.chv sf_b25
    have sf_b28 := Safe.wr W31 sfw C.chv sf_b28
    have C := C.wr W31 sfw
    have OO := OO.wr W31 ge_b28
    have K34 := K30.wr W31 (Or.inr sz_b28)
    have A_b28 : OA Z h31 b28 .char 2 (fun i => [(.int (nar .char (Int32.ofNat (c 0)))), (.int 0)].getD i (.int 0)) := A31.congr (fun i hi => by match i, hi with | 0, _ => rfl | 1, _ => rfl | i + 2, hi => omega)
    show GoesW p ee below s _ _ _ _ _ (T31.setTop (mkF m 55 #[.val (.ref a1), .val (.int (2 : Int32))] [(.ref b28), (.ref b25), (.ref b25)]))
    refine GoesW.step (fun _ hr_ => XS.dup X31.here hx rfl (hb hby d_method_4_code_55) rfl rfl hr_) ?_
    show GoesW p ee below s _ _ _ _ _ (T31.setTop (mkF m 56 #[.val (.ref a1), .val (.int (2 : Int32))] [(.ref b28), (.ref b28), (.ref b25), (.ref b25)]))
    refine GoesW.step (fun _ hr_ => XS.iconst X31.here hx rfl (hb hby d_method_4_code_56) hr_) ?_
    show GoesW p ee below s _ _ _ _ _ (T31.setTop (mkF m 57 #[.val (.ref a1), .val (.int (2 : Int32))] [(.int (1 : Int32)), (.ref b28), (.ref b28), (.ref b25), (.ref b25)]))
    refine GoesW.step (fun _ hr_ => XS.aloadN X31.here hx rfl (hb hby d_method_4_code_57) rfl rfl hr_) ?_
    show GoesW p ee below s _ _ _ _ _ (T31.setTop (mkF m 58 #[.val (.ref a1), .val (.int (2 : Int32))] [(.ref a1), (.int (1 : Int32)), (.ref b28), (.ref b28), (.ref b25), (.ref b25)]))
    refine GoesW.step (fun _ hr_ => XS.iconst X31.here hx rfl (hb hby d_method_4_code_58) hr_) ?_
    show GoesW p ee below s _ _ _ _ _ (T31.setTop (mkF m 59 #[.val (.ref a1), .val (.int (2 : Int32))] [(.int (1 : Int32)), (.ref a1), (.int (1 : Int32)), (.ref b28), (.ref b28), (.ref b25), (.ref b25)]))
    refine GoesW.step (own_caload X31 hx hZ e31 A (j := (1 : Int32)) (by decide) (k := 1) rfl (by decide) (v := (.int (Int32.ofNat (c 1)))) rfl (g := (mkF m 59 #[.val (.ref a1), .val (.int (2 : Int32))] [(.int (1 : Int32)), (.ref a1), (.int (1 : Int32)), (.ref b28), (.ref b28), (.ref b25), (.ref b25)])) rfl rfl (hb hby d_method_4_code_59)) ?_
    show GoesW p ee below s _ _ _ _ _ (T31.setTop (mkF m 60 #[.val (.ref a1), .val (.int (2 : Int32))] [(.int (Int32.ofNat (c 1))), (.int (1 : Int32)), (.ref b28), (.ref b28), (.ref b25), (.ref b25)]))
    obtain ⟨T35, h35, X35, e35, W35, A35, st35⟩ := own_stC X31 hx hZ e31 A_b28 (x := (Int32.ofNat (c 1))) (j := (1 : Int32)) (by decide) (k := 1) rfl (by decide) (g := (mkF m 60 #[.val (.ref a1), .val (.int (2 : Int32))] [(.int (Int32.ofNat (c 1))), (.int (1 : Int32)), (.ref b28), (.ref b28), (.ref b25), (.ref b25)])) rfl rfl (hb hby d_method_4_code_60)
    refine GoesW.step st35 ?_
    have A := A.other W35 ne_a1_b28
    have E_b25 := E_b25.wr W35
    have F_value_b25 := F_value_b25.other W35 (Or.inl ne_b25_b28)
    have F_coder_b25 := F_coder_b25.other W35 (Or.inl ne_b25_b28)
    have Zp36 := Nat.le_trans Zp32 (Keep.of_wr W35).1
    have N37 := Fr.snoc X35 N33 ge_b28
    have sfw := sf_b28
    have sf_b25 := Safe.wr W35 sfw C.chv sf_b25
    have sf_b28 := Safe.wr W35 sfw C.chv sf_b28
    have C := C.wr W35 sfw
    have OO := OO.wr W35 ge_b28
    have K38 := K34.wr W35 (Or.inr sz_b28)
    have A_b28 : OA Z h35 b28 .char 2 (fun i => [(.int (nar .char (Int32.ofNat (c 0)))), (.int (nar .char (Int32.ofNat (c 1))))].getD i (.int 0)) := A35.congr (fun i hi => by match i, hi with | 0, _ => rfl | 1, _ => rfl | i + 2, hi => omega)
    show GoesW p ee below s _ _ _ _ _ (T35.setTop (mkF m 61 #[.val (.ref a1), .val (.int (2 : Int32))] [(.ref b28), (.ref b25), (.ref b25)]))
    have A_b28 : OA Z h35 b28 .char 2 (fun i => .int (Int32.ofNat (c i))) := A_b28.congr (fun i hi => by match i, hi with | 0, _ => exact congrArg Value.int (own_charnar (c 0) (hc 0 (by decide))) | 1, _ => exact congrArg Value.int (own_charnar (c 1) (hc 1 (by decide))) | i + 2, hi => omega)
    have lt_a1 := A.lt
    have lt_b25 := E_b25.lt
    have lt_b28 := A_b28.lt
    obtain ⟨v39, T39, L39, X39, hQ39, st39⟩ := own_callN X35 hx hZ (y := (⟨"java/lang/String", "<init>", "([C)V"⟩ : MethodName)) rfl hown (hw _ (List.mem_of_getElem? (i := 12) rfl)) (hw _ (List.mem_of_getElem? (i := 13) rfl)) (hw _ (List.mem_of_getElem? (i := 11) rfl)) (hw _ (List.mem_of_getElem? (i := 14) rfl)) (by decide) (a := b25) (argsL := [(.ref b28)]) (rm_sin1 l Z a0 hw [] cs fm b25 b28 2 c _ _ h35 n0 Zp36 ST OO (by decide) (by decide) (fun j hj => hc j (by omega)) ge_b25 ne_b25_b28 E_b25 F_value_b25 F_coder_b25 A_b28) e35 (W := 1) (by decide) (by decide) (by decide) (by decide) (g := (mkF m 61 #[.val (.ref a1), .val (.int (2 : Int32))] [(.ref b28), (.ref b25), (.ref b25)])) rfl (by rw [hml]; rfl) (rest := [(.ref b25)]) (lenOf pd_17 rfl) rfl (by show 2 * 0 + _ ≤ _; exact Nat.le_of_eq rfl) (hb hby d_method_4_code_61)
    refine GoesW.step st39 ?_
    obtain ⟨rfl, N39, Kc39, b39, u, sz39, Ei39, Fv39, Fc39, A_b39, hlu, hlu2⟩ := hQ39
    have N40 := Fr.app N37 N39
    obtain ⟨h39, e39⟩ : ∃ h', T39.heap = h' := ⟨_, rfl⟩
    rw [e39] at Kc39 Ei39 Fv39 Fc39 A_b39
    have A := A.keep Kc39 (ninS ne_a1_b25 nin0)
    have A_b28 := A_b28.keep Kc39 (ninS (Ne.symm ne_b25_b28) nin0)
    have hsk := (sfS sf_b25 sf0)
    have sf_b25 := Safe.keep Kc39 hsk C.chv sf_b25
    have sf_b28 := Safe.keep Kc39 hsk C.chv sf_b28
    have C := C.keep Kc39 hsk
    have OO := OO.keep Kc39 (allS ge_b25 all0)
    have K41 := K38.trans Kc39 (allS (Or.inr sz_b25) all0)
    have Zp42 := Nat.le_trans Zp36 Kc39.1
    have ge_b39 : n0 ≤ b39 := Nat.le_trans Zp36 sz39
    have sz_b39 : h0.size ≤ b39 := Nat.le_trans K38.1 sz39
    have ne_a1_b39 : a1 ≠ b39 := Nat.ne_of_lt (Nat.lt_of_lt_of_le lt_a1 sz39)
    have ne_b25_b39 : b25 ≠ b39 := Nat.ne_of_lt (Nat.lt_of_lt_of_le lt_b25 sz39)
    have ne_b28_b39 : b28 ≠ b39 := Nat.ne_of_lt (Nat.lt_of_lt_of_le lt_b28 sz39)
    show GoesW p ee below s _ _ _ _ _ (T39.setTop (mkF m 64 #[.val (.ref a1), .val (.int (2 : Int32))] [(.ref b25)]))
    refine GoesW.retA X39 hx hZ hEL C e39 Bd.notSynchronized Bd.returns rfl rfl (hb hby d_method_4_code_64) (by decide) (by decide) ?_
    rw [e39]
    exact ⟨b25, b39, u, rfl, N40, K41, Ei39, Fv39, Fc39, A_b39, hlu⟩
  · show GoesW p ee below s _ _ _ _ _ (s₁.setTop (mkF m 0 #[.val (.ref a1), .val (.int (3 : Int32))] []))
    refine GoesW.step (fun _ hr_ => XS.iloadN X0.here hx rfl (hb hby d_method_4_code_0) rfl  hr_) ?_
    show GoesW p ee below s _ _ _ _ _ (s₁.setTop (mkF m 1 #[.val (.ref a1), .val (.int (3 : Int32))] [(.int (3 : Int32))]))
    refine GoesW.step (fun _ hr_ => XS.ifYes X0.here hx rfl (pc0 := 1) (pc' := 15) rfl (hb hby d_method_4_code_1) rfl ((if0 _ _).trans (feq (by decide)).2) (by decide) (by decide) hr_) ?_
    show GoesW p ee below s _ _ _ _ _ (s₁.setTop (mkF m 15 #[.val (.ref a1), .val (.int (3 : Int32))] []))
    refine GoesW.step (fun _ hr_ => XS.iloadN X0.here hx rfl (hb hby d_method_4_code_15) rfl  hr_) ?_
    show GoesW p ee below s _ _ _ _ _ (s₁.setTop (mkF m 16 #[.val (.ref a1), .val (.int (3 : Int32))] [(.int (3 : Int32))]))
    refine GoesW.step (fun _ hr_ => XS.iconst X0.here hx rfl (hb hby d_method_4_code_16) hr_) ?_
    show GoesW p ee below s _ _ _ _ _ (s₁.setTop (mkF m 17 #[.val (.ref a1), .val (.int (3 : Int32))] [(.int (1 : Int32)), (.int (3 : Int32))]))
    refine GoesW.step (fun _ hr_ => XS.icmpYes X0.here hx rfl (pc0 := 17) (pc' := 37) rfl (hb hby d_method_4_code_17) rfl (feq (by decide)).2 (by decide) (by decide) hr_) ?_
    show GoesW p ee below s _ _ _ _ _ (s₁.setTop (mkF m 37 #[.val (.ref a1), .val (.int (3 : Int32))] []))
    refine GoesW.step (fun _ hr_ => XS.iloadN X0.here hx rfl (hb hby d_method_4_code_37) rfl  hr_) ?_
    show GoesW p ee below s _ _ _ _ _ (s₁.setTop (mkF m 38 #[.val (.ref a1), .val (.int (3 : Int32))] [(.int (3 : Int32))]))
    refine GoesW.step (fun _ hr_ => XS.iconst X0.here hx rfl (hb hby d_method_4_code_38) hr_) ?_
    show GoesW p ee below s _ _ _ _ _ (s₁.setTop (mkF m 39 #[.val (.ref a1), .val (.int (3 : Int32))] [(.int (2 : Int32)), (.int (3 : Int32))]))
    refine GoesW.step (fun _ hr_ => XS.icmpYes X0.here hx rfl (pc0 := 39) (pc' := 65) rfl (hb hby d_method_4_code_39) rfl (feq (by decide)).2 (by decide) (by decide) hr_) ?_
    show GoesW p ee below s _ _ _ _ _ (s₁.setTop (mkF m 65 #[.val (.ref a1), .val (.int (3 : Int32))] []))
    refine GoesW.step (fun _ hr_ => XS.iloadN X0.here hx rfl (hb hby d_method_4_code_65) rfl  hr_) ?_
    show GoesW p ee below s _ _ _ _ _ (s₁.setTop (mkF m 66 #[.val (.ref a1), .val (.int (3 : Int32))] [(.int (3 : Int32))]))
    refine GoesW.step (fun _ hr_ => XS.iconst X0.here hx rfl (hb hby d_method_4_code_66) hr_) ?_
    show GoesW p ee below s _ _ _ _ _ (s₁.setTop (mkF m 67 #[.val (.ref a1), .val (.int (3 : Int32))] [(.int (3 : Int32)), (.int (3 : Int32))]))
    refine GoesW.step (fun _ hr_ => XS.icmpNo X0.here hx rfl (hb hby d_method_4_code_67) rfl (teq (by decide)).2 hr_) ?_
    show GoesW p ee below s _ _ _ _ _ (s₁.setTop (mkF m 70 #[.val (.ref a1), .val (.int (3 : Int32))] []))
    obtain ⟨T43, h43, X43, e43, E43, A43, D43, -, st43⟩ := newO X0 hx hZ hown (hw _ (List.mem_of_getElem? (i := 9) rfl)) (hw _ (List.mem_of_getElem? (i := 10) rfl)) (hw _ (List.mem_of_getElem? (i := 11) rfl)) e0 (g := (mkF m 70 #[.val (.ref a1), .val (.int (3 : Int32))] [])) rfl (hb hby d_method_4_code_70) (by decide) (by decide)
    obtain ⟨b43, g_b43⟩ : ∃ z, z = h0.size := ⟨_, rfl⟩
    have ne_a1_b43 : a1 ≠ b43 := Nat.ne_of_lt (Nat.lt_of_lt_of_le A.lt (Nat.le_of_eq g_b43.symm))
    have ge_b43 : n0 ≤ b43 := Nat.le_trans Z0 (Nat.le_of_eq g_b43.symm)
    have sz_b43 : h0.size ≤ b43 := Nat.le_trans K0.1 (Nat.le_of_eq g_b43.symm)
    rw [← g_b43] at A43 D43 st43
    have A := A.ext E43
    have Zp44 := Nat.le_trans Z0 E43.1
    have sf_b43 := Safe.ext E43 C.chv (Safe.new (Nat.le_of_eq g_b43.symm))
    have C := C.ext E43
    have OO := OO.ext E43
    have K45 := K0.ext E43
    refine GoesW.step st43 ?_
    have E_b43 := A43
    have F_value_b43 : Fld Z h43 b43 "java/lang/String" "value" "[B" .null := D43 (Or.inr (hw _ (List.mem_of_getElem? (i := 24) rfl))) (ty := (.array .byte)) (by decide)
    have F_coder_b43 : Fld Z h43 b43 "java/lang/String" "coder" "B" (.int (0 : Int32)) := D43 (Or.inr (hw _ (List.mem_of_getElem? (i := 25) rfl))) (ty := .byte) (by decide)
    show GoesW p ee below s _ _ _ _ _ (T43.setTop (mkF m 73 #[.val (.ref a1), .val (.int (3 : Int32))] [(.ref b43)]))
    refine GoesW.step (fun _ hr_ => XS.dup X43.here hx rfl (hb hby d_method_4_code_73) rfl rfl hr_) ?_
    show GoesW p ee below s _ _ _ _ _ (T43.setTop (mkF m 74 #[.val (.ref a1), .val (.int (3 : Int32))] [(.ref b43), (.ref b43)]))
    refine GoesW.step (fun _ hr_ => XS.iconst X43.here hx rfl (hb hby d_method_4_code_74) hr_) ?_
    show GoesW p ee below s _ _ _ _ _ (T43.setTop (mkF m 75 #[.val (.ref a1), .val (.int (3 : Int32))] [(.int (3 : Int32)), (.ref b43), (.ref b43)]))
    obtain ⟨T46, h46, X46, e46, E46, A46, st46⟩ := own_newP X43 hx hZ (aty := .char) (hw _ (List.mem_of_getElem? (i := 1) rfl)) e43 (z := (3 : Int32)) (by decide) (n := 3) rfl (cap := 3) (Nat.le_refl _) (by decide) (by decide) (by decide) (g := (mkF m 75 #[.val (.ref a1), .val (.int (3 : Int32))] [(.int (3 : Int32)), (.ref b43), (.ref b43)])) rfl rfl (hb hby d_method_4_code_75)
    obtain ⟨b46, g_b46⟩ : ∃ z, z = h43.size := ⟨_, rfl⟩
    have ne_a1_b46 : a1 ≠ b46 := Nat.ne_of_lt (Nat.lt_of_lt_of_le A.lt (Nat.le_of_eq g_b46.symm))
    have ne_b43_b46 : b43 ≠ b46 := Nat.ne_of_lt (Nat.lt_of_lt_of_le E_b43.lt (Nat.le_of_eq g_b46.symm))
    have ge_b46 : n0 ≤ b46 := Nat.le_trans Zp44 (Nat.le_of_eq g_b46.symm)
    have sz_b46 : h0.size ≤ b46 := Nat.le_trans K45.1 (Nat.le_of_eq g_b46.symm)
    rw [← g_b46] at A46 st46
    have A := A.ext E46
    have E_b43 := E_b43.ext E46
    have F_value_b43 := F_value_b43.ext E46
    have F_coder_b43 := F_coder_b43.ext E46
    have Zp47 := Nat.le_trans Zp44 E46.1
    have sf_b43 := Safe.ext E46 C.chv sf_b43
    have sf_b46 := Safe.ext E46 C.chv (Safe.new (Nat.le_of_eq g_b46.symm))
    have C := C.ext E46
    have OO := OO.ext E46
    have K48 := K45.ext E46
    refine GoesW.step st46 ?_
    have A_b46 : OA Z h46 b46 .char 3 (fun _ => (.int 0)) := A46
    show GoesW p ee below s _ _ _ _ _ (T46.setTop (mkF m 77 #[.val (.ref a1), .val (.int (3 : Int32))] [(.ref b46), (.ref b43), (.ref b43)]))
    refine GoesW.step (fun _ hr_ => XS.dup X46.here hx rfl (hb hby d_method_4_code_77) rfl rfl hr_) ?_
    show GoesW p ee below s _ _ _ _ _ (T46.setTop (mkF m 78 #[.val (.ref a1), .val (.int (3 : Int32))] [(.ref b46), (.ref b46), (.ref b43), (.ref b43)]))
    refine GoesW.step (fun _ hr_ => XS.iconst X46.here hx rfl (hb hby d_method_4_code_78) hr_) ?_
    show GoesW p ee below s _ _ _ _ _ (T46.setTop (mkF m 79 #[.val (.ref a1), .val (.int (3 : Int32))] [(.int (0 : Int32)), (.ref b46), (.ref b46), (.ref b43), (.ref b43)]))
    refine GoesW.step (fun _ hr_ => XS.aloadN X46.here hx rfl (hb hby d_method_4_code_79) rfl rfl hr_) ?_
    show GoesW p ee below s _ _ _ _ _ (T46.setTop (mkF m 80 #[.val (.ref a1), .val (.int (3 : Int32))] [(.ref a1), (.int (0 : Int32)), (.ref b46), (.ref b46), (.ref b43), (.ref b43)]))
    refine GoesW.step (fun _ hr_ => XS.iconst X46.here hx rfl (hb hby d_method_4_code_80) hr_) ?_
    show GoesW p ee below s _ _ _ _ _ (T46.setTop (mkF m 81 #[.val (.ref a1), .val (.int (3 : Int32))] [(.int (0 : Int32)), (.ref a1), (.int (0 : Int32)), (.ref b46), (.ref b46), (.ref b43), (.ref b43)]))
    refine GoesW.step (own_caload X46 hx hZ e46 A (j := (0 : Int32)) (by decide) (k := 0) rfl (by decide) (v := (.int (Int32.ofNat (c 0)))) rfl (g := (mkF m 81 #[.val (.ref a1), .val (.int (3 : Int32))] [(.int (0 : Int32)), (.ref a1), (.int (0 : Int32)), (.ref b46), (.ref b46), (.ref b43), (.ref b43)])) rfl rfl (hb hby d_method_4_code_81)) ?_
    show GoesW p ee below s _ _ _ _ _ (T46.setTop (mkF m 82 #[.val (.ref a1), .val (.int (3 : Int32))] [(.int (Int32.ofNat (c 0))), (.int (0 : Int32)), (.ref b46), (.ref b46), (.ref b43), (.ref b43)]))
    obtain ⟨T49, h49, X49, e49, W49, A49, st49⟩ := own_stC X46 hx hZ e46 A_b46 (x := (Int32.ofNat (c 0))) (j := (0 : Int32)) (by decide) (k := 0) rfl (by decide) (g := (mkF m 82 #[.val (.ref a1), .val (.int (3 : Int32))] [(.int (Int32.ofNat (c 0))), (.int (0 : Int32)), (.ref b46), (.ref b46), (.ref b43), (.ref b43)])) rfl rfl (hb hby d_method_4_code_82)
    refine GoesW.step st49 ?_
    have A := A.other W49 ne_a1_b46
    have E_b43 := E_b43.wr W49
    have F_value_b43 := F_value_b43.other W49 (Or.inl ne_b43_b46)
    have F_coder_b43 := F_coder_b43.other W49 (Or.inl ne_b43_b46)
    have Zp50 := Nat.le_trans Zp47 (Keep.of_wr W49).1
    have N51 := Fr.snoc X49 N0 ge_b46
    have sfw := sf_b46
    have sf_b43 := Safe.wr W49 sfw C.chv sf_b43
    have sf_b46 := Safe.wr W49 sfw C.chv sf_b46
    have C := C.wr W49 sfw
    have OO := OO.wr W49 ge_b46
    have K52 := K48.wr W49 (Or.inr sz_b46)
    have A_b46 : OA Z h49 b46 .char 3 (fun i => [(.int (nar .char (Int32.ofNat (c 0)))), (.int 0), (.int 0)].getD i (.int 0)) := A49.congr (fun i hi => by match i, hi with | 0, _ => rfl | 1, _ => rfl | 2, _ => rfl | i + 3, hi => omega)
    show GoesW p ee below s _ _ _ _ _ (T49.setTop (mkF m 83 #[.val (.ref a1), .val (.int (3 : Int32))] [(.ref b46), (.ref b43), (.ref b43)]))
    refine GoesW.step (fun _ hr_ => XS.dup X49.here hx rfl (hb hby d_method_4_code_83) rfl rfl hr_) ?_
    show GoesW p ee below s _ _ _ _ _ (T49.setTop (mkF m 84 #[.val (.ref a1), .val (.int (3 : Int32))] [(.ref b46), (.ref b46), (.ref b43), (.ref b43)]))
    refine GoesW.step (fun _ hr_ => XS.iconst X49.here hx rfl (hb hby d_method_4_code_84) hr_) ?_
    show GoesW p ee below s _ _ _ _ _ (T49.setTop (mkF m 85 #[.val (.ref a1), .val (.int (3 : Int32))] [(.int (1 : Int32)), (.ref b46), (.ref b46), (.ref b43), (.ref b43)]))
    refine GoesW.step (fun _ hr_ => XS.aloadN X49.here hx rfl (hb hby d_method_4_code_85) rfl rfl hr_) ?_
    show GoesW p ee below s _ _ _ _ _ (T49.setTop (mkF m 86 #[.val (.ref a1), .val (.int (3 : Int32))] [(.ref a1), (.int (1 : Int32)), (.ref b46), (.ref b46), (.ref b43), (.ref b43)]))
    refine GoesW.step (fun _ hr_ => XS.iconst X49.here hx rfl (hb hby d_method_4_code_86) hr_) ?_
    show GoesW p ee below s _ _ _ _ _ (T49.setTop (mkF m 87 #[.val (.ref a1), .val (.int (3 : Int32))] [(.int (1 : Int32)), (.ref a1), (.int (1 : Int32)), (.ref b46), (.ref b46), (.ref b43), (.ref b43)]))
    refine GoesW.step (own_caload X49 hx hZ e49 A (j := (1 : Int32)) (by decide) (k := 1) rfl (by decide) (v := (.int (Int32.ofNat (c 1)))) rfl (g := (mkF m 87 #[.val (.ref a1), .val (.int (3 : Int32))] [(.int (1 : Int32)), (.ref a1), (.int (1 : Int32)), (.ref b46), (.ref b46), (.ref b43), (.ref b43)])) rfl rfl (hb hby d_method_4_code_87)) ?_
    show GoesW p ee below s _ _ _ _ _ (T49.setTop (mkF m 88 #[.val (.ref a1), .val (.int (3 : Int32))] [(.int (Int32.ofNat (c 1))), (.int (1 : Int32)), (.ref b46), (.ref b46), (.ref b43), (.ref b43)]))
    obtain ⟨T53, h53, X53, e53, W53, A53, st53⟩ := own_stC X49 hx hZ e49 A_b46 (x := (Int32.ofNat (c 1))) (j := (1 : Int32)) (by decide) (k := 1) rfl (by decide) (g := (mkF m 88 #[.val (.ref a1), .val (.int (3 : Int32))] [(.int (Int32.ofNat (c 1))), (.int (1 : Int32)), (.ref b46), (.ref b46), (.ref b43), (.ref b43)])) rfl rfl (hb hby d_method_4_code_88)
    refine GoesW.step st53 ?_
    have A := A.other W53 ne_a1_b46
    have E_b43 := E_b43.wr W53
    have F_value_b43 := F_value_b43.other W53 (Or.inl ne_b43_b46)
    have F_coder_b43 := F_coder_b43.other W53 (Or.inl ne_b43_b46)
    have Zp54 := Nat.le_trans Zp50 (Keep.of_wr W53).1
    have N55 := Fr.snoc X53 N51 ge_b46
    have sfw := sf_b46
    have sf_b43 := Safe.wr W53 sfw C.chv sf_b43
    have sf_b46 := Safe.wr W53 sfw C.chv sf_b46
    have C := C.wr W53 sfw
    have OO := OO.wr W53 ge_b46
    have K56 := K52.wr W53 (Or.inr sz_b46)
    have A_b46 : OA Z h53 b46 .char 3 (fun i => [(.int (nar .char (Int32.ofNat (c 0)))), (.int (nar .char (Int32.ofNat (c 1)))), (.int 0)].getD i (.int 0)) := A53.congr (fun i hi => by match i, hi with | 0, _ => rfl | 1, _ => rfl | 2, _ => rfl | i + 3, hi => omega)
    show GoesW p ee below s _ _ _ _ _ (T53.setTop (mkF m 89 #[.val (.ref a1), .val (.int (3 : Int32))] [(.ref b46), (.ref b43), (.ref b43)]))
    refine GoesW.step (fun _ hr_ => XS.dup X53.here hx rfl (hb hby d_method_4_code_89) rfl rfl hr_) ?_
    show GoesW p ee below s _ _ _ _ _ (T53.setTop (mkF m 90 #[.val (.ref a1), .val (.int (3 : Int32))] [(.ref b46), (.ref b46), (.ref b43), (.ref b43)]))
    refine GoesW.step (fun _ hr_ => XS.iconst X53.here hx rfl (hb hby d_method_4_code_90) hr_) ?_
    show GoesW p ee below s _ _ _ _ _ (T53.setTop (mkF m 91 #[.val (.ref a1), .val (.int (3 : Int32))] [(.int (2 : Int32)), (.ref b46), (.ref b46), (.ref b43), (.ref b43)]))
    refine GoesW.step (fun _ hr_ => XS.aloadN X53.here hx rfl (hb hby d_method_4_code_91) rfl rfl hr_) ?_
    show GoesW p ee below s _ _ _ _ _ (T53.setTop (mkF m 92 #[.val (.ref a1), .val (.int (3 : Int32))] [(.ref a1), (.int (2 : Int32)), (.ref b46), (.ref b46), (.ref b43), (.ref b43)]))
    refine GoesW.step (fun _ hr_ => XS.iconst X53.here hx rfl (hb hby d_method_4_code_92) hr_) ?_
    show GoesW p ee below s _ _ _ _ _ (T53.setTop (mkF m 93 #[.val (.ref a1), .val (.int (3 : Int32))] [(.int (2 : Int32)), (.ref a1), (.int (2 : Int32)), (.ref b46), (.ref b46), (.ref b43), (.ref b43)]))
    refine GoesW.step (own_caload X53 hx hZ e53 A (j := (2 : Int32)) (by decide) (k := 2) rfl (by decide) (v := (.int (Int32.ofNat (c 2)))) rfl (g := (mkF m 93 #[.val (.ref a1), .val (.int (3 : Int32))] [(.int (2 : Int32)), (.ref a1), (.int (2 : Int32)), (.ref b46), (.ref b46), (.ref b43), (.ref b43)])) rfl rfl (hb hby d_method_4_code_93)) ?_
    show GoesW p ee below s _ _ _ _ _ (T53.setTop (mkF m 94 #[.val (.ref a1), .val (.int (3 : Int32))] [(.int (Int32.ofNat (c 2))), (.int (2 : Int32)), (.ref b46), (.ref b46), (.ref b43), (.ref b43)]))
    obtain ⟨T57, h57, X57, e57, W57, A57, st57⟩ := own_stC X53 hx hZ e53 A_b46 (x := (Int32.ofNat (c 2))) (j := (2 : Int32)) (by decide) (k := 2) rfl (by decide) (g := (mkF m 94 #[.val (.ref a1), .val (.int (3 : Int32))] [(.int (Int32.ofNat (c 2))), (.int (2 : Int32)), (.ref b46), (.ref b46), (.ref b43), (.ref b43)])) rfl rfl (hb hby d_method_4_code_94)
    refine GoesW.step st57 ?_
    have A := A.other W57 ne_a1_b46
    have E_b43 := E_b43.wr W57
    have F_value_b43 := F_value_b43.other W57 (Or.inl ne_b43_b46)
    have F_coder_b43 := F_coder_b43.other W57 (Or.inl ne_b43_b46)
    have Zp58 := Nat.le_trans Zp54 (Keep.of_wr W57).1
    have N59 := Fr.snoc X57 N55 ge_b46
    have sfw := sf_b46
    have sf_b43 := Safe.wr W57 sfw C.chv sf_b43
    have sf_b46 := Safe.wr W57 sfw C.chv sf_b46
    have C := C.wr W57 sfw
    have OO := OO.wr W57 ge_b46
    have K60 := K56.wr W57 (Or.inr sz_b46)
    have A_b46 : OA Z h57 b46 .char 3 (fun i => [(.int (nar .char (Int32.ofNat (c 0)))), (.int (nar .char (Int32.ofNat (c 1)))), (.int (nar .char (Int32.ofNat (c 2))))].getD i (.int 0)) := A57.congr (fun i hi => by match i, hi with | 0, _ => rfl | 1, _ => rfl | 2, _ => rfl | i + 3, hi => omega)
    show GoesW p ee below s _ _ _ _ _ (T57.setTop (mkF m 95 #[.val (.ref a1), .val (.int (3 : Int32))] [(.ref b46), (.ref b43), (.ref b43)]))
    have A_b46 : OA Z h57 b46 .char 3 (fun i => .int (Int32.ofNat (c i))) := A_b46.congr (fun i hi => by match i, hi with | 0, _ => exact congrArg Value.int (own_charnar (c 0) (hc 0 (by decide))) | 1, _ => exact congrArg Value.int (own_charnar (c 1) (hc 1 (by decide))) | 2, _ => exact congrArg Value.int (own_charnar (c 2) (hc 2 (by decide))) | i + 3, hi => omega)
    have lt_a1 := A.lt
    have lt_b43 := E_b43.lt
    have lt_b46 := A_b46.lt
    obtain ⟨v61, T61, L61, X61, hQ61, st61⟩ := own_callN X57 hx hZ (y := (⟨"java/lang/String", "<init>", "([C)V"⟩ : MethodName)) rfl hown (hw _ (List.mem_of_getElem? (i := 12) rfl)) (hw _ (List.mem_of_getElem? (i := 13) rfl)) (hw _ (List.mem_of_getElem? (i := 11) rfl)) (hw _ (List.mem_of_getElem? (i := 14) rfl)) (by decide) (a := b43) (argsL := [(.ref b46)]) (rm_sin1 l Z a0 hw [] cs fm b43 b46 3 c _ _ h57 n0 Zp58 ST OO (by decide) (by decide) (fun j hj => hc j (by omega)) ge_b43 ne_b43_b46 E_b43 F_value_b43 F_coder_b43 A_b46) e57 (W := 1) (by decide) (by decide) (by decide) (by decide) (g := (mkF m 95 #[.val (.ref a1), .val (.int (3 : Int32))] [(.ref b46), (.ref b43), (.ref b43)])) rfl (by rw [hml]; rfl) (rest := [(.ref b43)]) (lenOf pd_17 rfl) rfl (by show 2 * 0 + _ ≤ _; exact Nat.le_of_eq rfl) (hb hby d_method_4_code_95)
    refine GoesW.step st61 ?_
    obtain ⟨rfl, N61, Kc61, b61, u, sz61, Ei61, Fv61, Fc61, A_b61, hlu, hlu2⟩ := hQ61
    have N62 := Fr.app N59 N61
    obtain ⟨h61, e61⟩ : ∃ h', T61.heap = h' := ⟨_, rfl⟩
    rw [e61] at Kc61 Ei61 Fv61 Fc61 A_b61
    have A := A.keep Kc61 (ninS ne_a1_b43 nin0)
    have A_b46 := A_b46.keep Kc61 (ninS (Ne.symm ne_b43_b46) nin0)
    have hsk := (sfS sf_b43 sf0)
    have sf_b43 := Safe.keep Kc61 hsk C.chv sf_b43
    have sf_b46 := Safe.keep Kc61 hsk C.chv sf_b46
    have C := C.keep Kc61 hsk
    have OO := OO.keep Kc61 (allS ge_b43 all0)
    have K63 := K60.trans Kc61 (allS (Or.inr sz_b43) all0)
    have Zp64 := Nat.le_trans Zp58 Kc61.1
    have ge_b61 : n0 ≤ b61 := Nat.le_trans Zp58 sz61
    have sz_b61 : h0.size ≤ b61 := Nat.le_trans K60.1 sz61
    have ne_a1_b61 : a1 ≠ b61 := Nat.ne_of_lt (Nat.lt_of_lt_of_le lt_a1 sz61)
    have ne_b43_b61 : b43 ≠ b61 := Nat.ne_of_lt (Nat.lt_of_lt_of_le lt_b43 sz61)
    have ne_b46_b61 : b46 ≠ b61 := Nat.ne_of_lt (Nat.lt_of_lt_of_le lt_b46 sz61)
    show GoesW p ee below s _ _ _ _ _ (T61.setTop (mkF m 98 #[.val (.ref a1), .val (.int (3 : Int32))] [(.ref b43)]))
    refine GoesW.retA X61 hx hZ hEL C e61 Bd.notSynchronized Bd.returns rfl rfl (hb hby d_method_4_code_98) (by decide) (by decide) ?_
    rw [e61]
    exact ⟨b43, b61, u, rfl, N62, K63, Ei61, Fv61, Fc61, A_b61, hlu⟩
  · show GoesW p ee below s _ _ _ _ _ (s₁.setTop (mkF m 0 #[.val (.ref a1), .val (.int (4 : Int32))] []))
    refine GoesW.step (fun _ hr_ => XS.iloadN X0.here hx rfl (hb hby d_method_4_code_0) rfl  hr_) ?_
    show GoesW p ee below s _ _ _ _ _ (s₁.setTop (mkF m 1 #[.val (.ref a1), .val (.int (4 : Int32))] [(.int (4 : Int32))]))
    refine GoesW.step (fun _ hr_ => XS.ifYes X0.here hx rfl (pc0 := 1) (pc' := 15) rfl (hb hby d_method_4_code_1) rfl ((if0 _ _).trans (feq (by decide)).2) (by decide) (by decide) hr_) ?_
    show GoesW p ee below s _ _ _ _ _ (s₁.setTop (mkF m 15 #[.val (.ref a1), .val (.int (4 : Int32))] []))
    refine GoesW.step (fun _ hr_ => XS.iloadN X0.here hx rfl (hb hby d_method_4_code_15) rfl  hr_) ?_
    show GoesW p ee below s _ _ _ _ _ (s₁.setTop (mkF m 16 #[.val (.ref a1), .val (.int (4 : Int32))] [(.int (4 : Int32))]))
    refine GoesW.step (fun _ hr_ => XS.iconst X0.here hx rfl (hb hby d_method_4_code_16) hr_) ?_
    show GoesW p ee below s _ _ _ _ _ (s₁.setTop (mkF m 17 #[.val (.ref a1), .val (.int (4 : Int32))] [(.int (1 : Int32)), (.int (4 : Int32))]))
    refine GoesW.step (fun _ hr_ => XS.icmpYes X0.here hx rfl (pc0 := 17) (pc' := 37) rfl (hb hby d_method_4_code_17) rfl (feq (by decide)).2 (by decide) (by decide) hr_) ?_
    show GoesW p ee below s _ _ _ _ _ (s₁.setTop (mkF m 37 #[.val (.ref a1), .val (.int (4 : Int32))] []))
    refine GoesW.step (fun _ hr_ => XS.iloadN X0.here hx rfl (hb hby d_method_4_code_37) rfl  hr_) ?_
    show GoesW p ee below s _ _ _ _ _ (s₁.setTop (mkF m 38 #[.val (.ref a1), .val (.int (4 : Int32))] [(.int (4 : Int32))]))
    refine GoesW.step (fun _ hr_ => XS.iconst X0.here hx rfl (hb hby d_method_4_code_38) hr_) ?_
    show GoesW p ee below s _ _ _ _ _ (s₁.setTop (mkF m 39 #[.val (.ref a1), .val (.int (4 : Int32))] [(.int (2 : Int32)), (.int (4 : Int32))]))
    refine GoesW.step (fun _ hr_ => XS.icmpYes X0.here hx rfl (pc0 := 39) (pc' := 65) rfl (hb hby d_method_4_code_39) rfl (feq (by decide)).2 (by decide) (by decide) hr_) ?_
    show GoesW p ee below s _ _ _ _ _ (s₁.setTop (mkF m 65 #[.val (.ref a1), .val (.int (4 : Int32))] []))
    refine GoesW.step (fun _ hr_ => XS.iloadN X0.here hx rfl (hb hby d_method_4_code_65) rfl  hr_) ?_
    show GoesW p ee below s _ _ _ _ _ (s₁.setTop (mkF m 66 #[.val (.ref a1), .val (.int (4 : Int32))] [(.int (4 : Int32))]))
    refine GoesW.step (fun _ hr_ => XS.iconst X0.here hx rfl (hb hby d_method_4_code_66) hr_) ?_
    show GoesW p ee below s _ _ _ _ _ (s₁.setTop (mkF m 67 #[.val (.ref a1), .val (.int (4 : Int32))] [(.int (3 : Int32)), (.int (4 : Int32))]))
    refine GoesW.step (fun _ hr_ => XS.icmpYes X0.here hx rfl (pc0 := 67) (pc' := 99) rfl (hb hby d_method_4_code_67) rfl (feq (by decide)).2 (by decide) (by decide) hr_) ?_
    show GoesW p ee below s _ _ _ _ _ (s₁.setTop (mkF m 99 #[.val (.ref a1), .val (.int (4 : Int32))] []))
    refine GoesW.step (fun _ hr_ => XS.iloadN X0.here hx rfl (hb hby d_method_4_code_99) rfl  hr_) ?_
    show GoesW p ee below s _ _ _ _ _ (s₁.setTop (mkF m 100 #[.val (.ref a1), .val (.int (4 : Int32))] [(.int (4 : Int32))]))
    refine GoesW.step (fun _ hr_ => XS.iconst X0.here hx rfl (hb hby d_method_4_code_100) hr_) ?_
    show GoesW p ee below s _ _ _ _ _ (s₁.setTop (mkF m 101 #[.val (.ref a1), .val (.int (4 : Int32))] [(.int (4 : Int32)), (.int (4 : Int32))]))
    refine GoesW.step (fun _ hr_ => XS.icmpNo X0.here hx rfl (hb hby d_method_4_code_101) rfl (teq (by decide)).2 hr_) ?_
    show GoesW p ee below s _ _ _ _ _ (s₁.setTop (mkF m 104 #[.val (.ref a1), .val (.int (4 : Int32))] []))
    obtain ⟨T65, h65, X65, e65, E65, A65, D65, -, st65⟩ := newO X0 hx hZ hown (hw _ (List.mem_of_getElem? (i := 9) rfl)) (hw _ (List.mem_of_getElem? (i := 10) rfl)) (hw _ (List.mem_of_getElem? (i := 11) rfl)) e0 (g := (mkF m 104 #[.val (.ref a1), .val (.int (4 : Int32))] [])) rfl (hb hby d_method_4_code_104) (by decide) (by decide)
    obtain ⟨b65, g_b65⟩ : ∃ z, z = h0.size := ⟨_, rfl⟩
    have ne_a1_b65 : a1 ≠ b65 := Nat.ne_of_lt (Nat.lt_of_lt_of_le A.lt (Nat.le_of_eq g_b65.symm))
    have ge_b65 : n0 ≤ b65 := Nat.le_trans Z0 (Nat.le_of_eq g_b65.symm)
    have sz_b65 : h0.size ≤ b65 := Nat.le_trans K0.1 (Nat.le_of_eq g_b65.symm)
    rw [← g_b65] at A65 D65 st65
    have A := A.ext E65
    have Zp66 := Nat.le_trans Z0 E65.1
    have sf_b65 := Safe.ext E65 C.chv (Safe.new (Nat.le_of_eq g_b65.symm))
    have C := C.ext E65
    have OO := OO.ext E65
    have K67 := K0.ext E65
    refine GoesW.step st65 ?_
    have E_b65 := A65
    have F_value_b65 : Fld Z h65 b65 "java/lang/String" "value" "[B" .null := D65 (Or.inr (hw _ (List.mem_of_getElem? (i := 24) rfl))) (ty := (.array .byte)) (by decide)
    have F_coder_b65 : Fld Z h65 b65 "java/lang/String" "coder" "B" (.int (0 : Int32)) := D65 (Or.inr (hw _ (List.mem_of_getElem? (i := 25) rfl))) (ty := .byte) (by decide)
    show GoesW p ee below s _ _ _ _ _ (T65.setTop (mkF m 107 #[.val (.ref a1), .val (.int (4 : Int32))] [(.ref b65)]))
    refine GoesW.step (fun _ hr_ => XS.dup X65.here hx rfl (hb hby d_method_4_code_107) rfl rfl hr_) ?_
    show GoesW p ee below s _ _ _ _ _ (T65.setTop (mkF m 108 #[.val (.ref a1), .val (.int (4 : Int32))] [(.ref b65), (.ref b65)]))
    refine GoesW.step (fun _ hr_ => XS.iconst X65.here hx rfl (hb hby d_method_4_code_108) hr_) ?_
    show GoesW p ee below s _ _ _ _ _ (T65.setTop (mkF m 109 #[.val (.ref a1), .val (.int (4 : Int32))] [(.int (4 : Int32)), (.ref b65), (.ref b65)]))
    obtain ⟨T68, h68, X68, e68, E68, A68, st68⟩ := own_newP X65 hx hZ (aty := .char) (hw _ (List.mem_of_getElem? (i := 1) rfl)) e65 (z := (4 : Int32)) (by decide) (n := 4) rfl (cap := 4) (Nat.le_refl _) (by decide) (by decide) (by decide) (g := (mkF m 109 #[.val (.ref a1), .val (.int (4 : Int32))] [(.int (4 : Int32)), (.ref b65), (.ref b65)])) rfl rfl (hb hby d_method_4_code_109)
    obtain ⟨b68, g_b68⟩ : ∃ z, z = h65.size := ⟨_, rfl⟩
    have ne_a1_b68 : a1 ≠ b68 := Nat.ne_of_lt (Nat.lt_of_lt_of_le A.lt (Nat.le_of_eq g_b68.symm))
    have ne_b65_b68 : b65 ≠ b68 := Nat.ne_of_lt (Nat.lt_of_lt_of_le E_b65.lt (Nat.le_of_eq g_b68.symm))
    have ge_b68 : n0 ≤ b68 := Nat.le_trans Zp66 (Nat.le_of_eq g_b68.symm)
    have sz_b68 : h0.size ≤ b68 := Nat.le_trans K67.1 (Nat.le_of_eq g_b68.symm)
    rw [← g_b68] at A68 st68
    have A := A.ext E68
    have E_b65 := E_b65.ext E68
    have F_value_b65 := F_value_b65.ext E68
    have F_coder_b65 := F_coder_b65.ext E68
    have Zp69 := Nat.le_trans Zp66 E68.1
    have sf_b65 := Safe.ext E68 C.chv sf_b65
    have sf_b68 := Safe.ext E68 C.chv (Safe.new (Nat.le_of_eq g_b68.symm))
    have C := C.ext E68
    have OO := OO.ext E68
    have K70 := K67.ext E68
    refine GoesW.step st68 ?_
    have A_b68 : OA Z h68 b68 .char 4 (fun _ => (.int 0)) := A68
    show GoesW p ee below s _ _ _ _ _ (T68.setTop (mkF m 111 #[.val (.ref a1), .val (.int (4 : Int32))] [(.ref b68), (.ref b65), (.ref b65)]))
    refine GoesW.step (fun _ hr_ => XS.dup X68.here hx rfl (hb hby d_method_4_code_111) rfl rfl hr_) ?_
    show GoesW p ee below s _ _ _ _ _ (T68.setTop (mkF m 112 #[.val (.ref a1), .val (.int (4 : Int32))] [(.ref b68), (.ref b68), (.ref b65), (.ref b65)]))
    refine GoesW.step (fun _ hr_ => XS.iconst X68.here hx rfl (hb hby d_method_4_code_112) hr_) ?_
    show GoesW p ee below s _ _ _ _ _ (T68.setTop (mkF m 113 #[.val (.ref a1), .val (.int (4 : Int32))] [(.int (0 : Int32)), (.ref b68), (.ref b68), (.ref b65), (.ref b65)]))
    refine GoesW.step (fun _ hr_ => XS.aloadN X68.here hx rfl (hb hby d_method_4_code_113) rfl rfl hr_) ?_
    show GoesW p ee below s _ _ _ _ _ (T68.setTop (mkF m 114 #[.val (.ref a1), .val (.int (4 : Int32))] [(.ref a1), (.int (0 : Int32)), (.ref b68), (.ref b68), (.ref b65), (.ref b65)]))
    refine GoesW.step (fun _ hr_ => XS.iconst X68.here hx rfl (hb hby d_method_4_code_114) hr_) ?_
    show GoesW p ee below s _ _ _ _ _ (T68.setTop (mkF m 115 #[.val (.ref a1), .val (.int (4 : Int32))] [(.int (0 : Int32)), (.ref a1), (.int (0 : Int32)), (.ref b68), (.ref b68), (.ref b65), (.ref b65)]))
    refine GoesW.step (own_caload X68 hx hZ e68 A (j := (0 : Int32)) (by decide) (k := 0) rfl (by decide) (v := (.int (Int32.ofNat (c 0)))) rfl (g := (mkF m 115 #[.val (.ref a1), .val (.int (4 : Int32))] [(.int (0 : Int32)), (.ref a1), (.int (0 : Int32)), (.ref b68), (.ref b68), (.ref b65), (.ref b65)])) rfl rfl (hb hby d_method_4_code_115)) ?_
    show GoesW p ee below s _ _ _ _ _ (T68.setTop (mkF m 116 #[.val (.ref a1), .val (.int (4 : Int32))] [(.int (Int32.ofNat (c 0))), (.int (0 : Int32)), (.ref b68), (.ref b68), (.ref b65), (.ref b65)]))
    obtain ⟨T71, h71, X71, e71, W71, A71, st71⟩ := own_stC X68 hx hZ e68 A_b68 (x := (Int32.ofNat (c 0))) (j := (0 : Int32)) (by decide) (k := 0) rfl (by decide) (g := (mkF m 116 #[.val (.ref a1), .val (.int (4 : Int32))] [(.int (Int32.ofNat (c 0))), (.int (0 : Int32)), (.ref b68), (.ref b68), (.ref b65), (.ref b65)])) rfl rfl (hb hby d_method_4_code_116)
    refine GoesW.step st71 ?_
    have A := A.other W71 ne_a1_b68
    have E_b65 := E_b65.wr W71
    have F_value_b65 := F_value_b65.other W71 (Or.inl ne_b65_b68)
    have F_coder_b65 := F_coder_b65.other W71 (Or.inl ne_b65_b68)
    have Zp72 := Nat.le_trans Zp69 (Keep.of_wr W71).1
    have N73 := Fr.snoc X71 N0 ge_b68
    have sfw := sf_b68
    have sf_b65 := Safe.wr W71 sfw C.chv sf_b65
    have sf_b68 := Safe.wr W71 sfw C.chv sf_b68
    have C := C.wr W71 sfw
    have OO := OO.wr W71 ge_b68
    have K74 := K70.wr W71 (Or.inr sz_b68)
    have A_b68 : OA Z h71 b68 .char 4 (fun i => [(.int (nar .char (Int32.ofNat (c 0)))), (.int 0), (.int 0), (.int 0)].getD i (.int 0)) := A71.congr (fun i hi => by match i, hi with | 0, _ => rfl | 1, _ => rfl | 2, _ => rfl | 3, _ => rfl | i + 4, hi => omega)
    show GoesW p ee below s _ _ _ _ _ (T71.setTop (mkF m 117 #[.val (.ref a1), .val (.int (4 : Int32))] [(.ref b68), (.ref b65), (.ref b65)]))
    refine GoesW.step (fun _ hr_ => XS.dup X71.here hx rfl (hb hby d_method_4_code_117) rfl rfl hr_) ?_
    show GoesW p ee below s _ _ _ _ _ (T71.setTop (mkF m 118 #[.val (.ref a1), .val (.int (4 : Int32))] [(.ref b68), (.ref b68), (.ref b65), (.ref b65)]))
    refine GoesW.step (fun _ hr_ => XS.iconst X71.here hx rfl (hb hby d_method_4_code_118) hr_) ?_
    show GoesW p ee below s _ _ _ _ _ (T71.setTop (mkF m 119 #[.val (.ref a1), .val (.int (4 : Int32))] [(.int (1 : Int32)), (.ref b68), (.ref b68), (.ref b65), (.ref b65)]))
    refine GoesW.step (fun _ hr_ => XS.aloadN X71.here hx rfl (hb hby d_method_4_code_119) rfl rfl hr_) ?_
    show GoesW p ee below s _ _ _ _ _ (T71.setTop (mkF m 120 #[.val (.ref a1), .val (.int (4 : Int32))] [(.ref a1), (.int (1 : Int32)), (.ref b68), (.ref b68), (.ref b65), (.ref b65)]))
    refine GoesW.step (fun _ hr_ => XS.iconst X71.here hx rfl (hb hby d_method_4_code_120) hr_) ?_
    show GoesW p ee below s _ _ _ _ _ (T71.setTop (mkF m 121 #[.val (.ref a1), .val (.int (4 : Int32))] [(.int (1 : Int32)), (.ref a1), (.int (1 : Int32)), (.ref b68), (.ref b68), (.ref b65), (.ref b65)]))
    refine GoesW.step (own_caload X71 hx hZ e71 A (j := (1 : Int32)) (by decide) (k := 1) rfl (by decide) (v := (.int (Int32.ofNat (c 1)))) rfl (g := (mkF m 121 #[.val (.ref a1), .val (.int (4 : Int32))] [(.int (1 : Int32)), (.ref a1), (.int (1 : Int32)), (.ref b68), (.ref b68), (.ref b65), (.ref b65)])) rfl rfl (hb hby d_method_4_code_121)) ?_
    show GoesW p ee below s _ _ _ _ _ (T71.setTop (mkF m 122 #[.val (.ref a1), .val (.int (4 : Int32))] [(.int (Int32.ofNat (c 1))), (.int (1 : Int32)), (.ref b68), (.ref b68), (.ref b65), (.ref b65)]))
    obtain ⟨T75, h75, X75, e75, W75, A75, st75⟩ := own_stC X71 hx hZ e71 A_b68 (x := (Int32.ofNat (c 1))) (j := (1 : Int32)) (by decide) (k := 1) rfl (by decide) (g := (mkF m 122 #[.val (.ref a1), .val (.int (4 : Int32))] [(.int (Int32.ofNat (c 1))), (.int (1 : Int32)), (.ref b68), (.ref b68), (.ref b65), (.ref b65)])) rfl rfl (hb hby d_method_4_code_122)
    refine GoesW.step st75 ?_
    have A := A.other W75 ne_a1_b68
    have E_b65 := E_b65.wr W75
    have F_value_b65 := F_value_b65.other W75 (Or.inl ne_b65_b68)
    have F_coder_b65 := F_coder_b65.other W75 (Or.inl ne_b65_b68)
    have Zp76 := Nat.le_trans Zp72 (Keep.of_wr W75).1
    have N77 := Fr.snoc X75 N73 ge_b68
    have sfw := sf_b68
    have sf_b65 := Safe.wr W75 sfw C.chv sf_b65
    have sf_b68 := Safe.wr W75 sfw C.chv sf_b68
    have C := C.wr W75 sfw
    have OO := OO.wr W75 ge_b68
    have K78 := K74.wr W75 (Or.inr sz_b68)
    have A_b68 : OA Z h75 b68 .char 4 (fun i => [(.int (nar .char (Int32.ofNat (c 0)))), (.int (nar .char (Int32.ofNat (c 1)))), (.int 0), (.int 0)].getD i (.int 0)) := A75.congr (fun i hi => by match i, hi with | 0, _ => rfl | 1, _ => rfl | 2, _ => rfl | 3, _ => rfl | i + 4, hi => omega)
    show GoesW p ee below s _ _ _ _ _ (T75.setTop (mkF m 123 #[.val (.ref a1), .val (.int (4 : Int32))] [(.ref b68), (.ref b65), (.ref b65)]))
    refine GoesW.step (fun _ hr_ => XS.dup X75.here hx rfl (hb hby d_method_4_code_123) rfl rfl hr_) ?_
    show GoesW p ee below s _ _ _ _ _ (T75.setTop (mkF m 124 #[.val (.ref a1), .val (.int (4 : Int32))] [(.ref b68), (.ref b68), (.ref b65), (.ref b65)]))
    refine GoesW.step (fun _ hr_ => XS.iconst X75.here hx rfl (hb hby d_method_4_code_124) hr_) ?_
    show GoesW p ee below s _ _ _ _ _ (T75.setTop (mkF m 125 #[.val (.ref a1), .val (.int (4 : Int32))] [(.int (2 : Int32)), (.ref b68), (.ref b68), (.ref b65), (.ref b65)]))
    refine GoesW.step (fun _ hr_ => XS.aloadN X75.here hx rfl (hb hby d_method_4_code_125) rfl rfl hr_) ?_
    show GoesW p ee below s _ _ _ _ _ (T75.setTop (mkF m 126 #[.val (.ref a1), .val (.int (4 : Int32))] [(.ref a1), (.int (2 : Int32)), (.ref b68), (.ref b68), (.ref b65), (.ref b65)]))
    refine GoesW.step (fun _ hr_ => XS.iconst X75.here hx rfl (hb hby d_method_4_code_126) hr_) ?_
    show GoesW p ee below s _ _ _ _ _ (T75.setTop (mkF m 127 #[.val (.ref a1), .val (.int (4 : Int32))] [(.int (2 : Int32)), (.ref a1), (.int (2 : Int32)), (.ref b68), (.ref b68), (.ref b65), (.ref b65)]))
    refine GoesW.step (own_caload X75 hx hZ e75 A (j := (2 : Int32)) (by decide) (k := 2) rfl (by decide) (v := (.int (Int32.ofNat (c 2)))) rfl (g := (mkF m 127 #[.val (.ref a1), .val (.int (4 : Int32))] [(.int (2 : Int32)), (.ref a1), (.int (2 : Int32)), (.ref b68), (.ref b68), (.ref b65), (.ref b65)])) rfl rfl (hb hby d_method_4_code_127)) ?_
    show GoesW p ee below s _ _ _ _ _ (T75.setTop (mkF m 128 #[.val (.ref a1), .val (.int (4 : Int32))] [(.int (Int32.ofNat (c 2))), (.int (2 : Int32)), (.ref b68), (.ref b68), (.ref b65), (.ref b65)]))
    obtain ⟨T79, h79, X79, e79, W79, A79, st79⟩ := own_stC X75 hx hZ e75 A_b68 (x := (Int32.ofNat (c 2))) (j := (2 : Int32)) (by decide) (k := 2) rfl (by decide) (g := (mkF m 128 #[.val (.ref a1), .val (.int (4 : Int32))] [(.int (Int32.ofNat (c 2))), (.int (2 : Int32)), (.ref b68), (.ref b68), (.ref b65), (.ref b65)])) rfl rfl (hb hby d_method_4_code_128)
    refine GoesW.step st79 ?_
    have A := A.other W79 ne_a1_b68
    have E_b65 := E_b65.wr W79
    have F_value_b65 := F_value_b65.other W79 (Or.inl ne_b65_b68)
    have F_coder_b65 := F_coder_b65.other W79 (Or.inl ne_b65_b68)
    have Zp80 := Nat.le_trans Zp76 (Keep.of_wr W79).1
    have N81 := Fr.snoc X79 N77 ge_b68
    have sfw := sf_b68
    have sf_b65 := Safe.wr W79 sfw C.chv sf_b65
    have sf_b68 := Safe.wr W79 sfw C.chv sf_b68
    have C := C.wr W79 sfw
    have OO := OO.wr W79 ge_b68
    have K82 := K78.wr W79 (Or.inr sz_b68)
    have A_b68 : OA Z h79 b68 .char 4 (fun i => [(.int (nar .char (Int32.ofNat (c 0)))), (.int (nar .char (Int32.ofNat (c 1)))), (.int (nar .char (Int32.ofNat (c 2)))), (.int 0)].getD i (.int 0)) := A79.congr (fun i hi => by match i, hi with | 0, _ => rfl | 1, _ => rfl | 2, _ => rfl | 3, _ => rfl | i + 4, hi => omega)
    show GoesW p ee below s _ _ _ _ _ (T79.setTop (mkF m 129 #[.val (.ref a1), .val (.int (4 : Int32))] [(.ref b68), (.ref b65), (.ref b65)]))
    refine GoesW.step (fun _ hr_ => XS.dup X79.here hx rfl (hb hby d_method_4_code_129) rfl rfl hr_) ?_
    show GoesW p ee below s _ _ _ _ _ (T79.setTop (mkF m 130 #[.val (.ref a1), .val (.int (4 : Int32))] [(.ref b68), (.ref b68), (.ref b65), (.ref b65)]))
    refine GoesW.step (fun _ hr_ => XS.iconst X79.here hx rfl (hb hby d_method_4_code_130) hr_) ?_
    show GoesW p ee below s _ _ _ _ _ (T79.setTop (mkF m 131 #[.val (.ref a1), .val (.int (4 : Int32))] [(.int (3 : Int32)), (.ref b68), (.ref b68), (.ref b65), (.ref b65)]))
    refine GoesW.step (fun _ hr_ => XS.aloadN X79.here hx rfl (hb hby d_method_4_code_131) rfl rfl hr_) ?_
    show GoesW p ee below s _ _ _ _ _ (T79.setTop (mkF m 132 #[.val (.ref a1), .val (.int (4 : Int32))] [(.ref a1), (.int (3 : Int32)), (.ref b68), (.ref b68), (.ref b65), (.ref b65)]))
    refine GoesW.step (fun _ hr_ => XS.iconst X79.here hx rfl (hb hby d_method_4_code_132) hr_) ?_
    show GoesW p ee below s _ _ _ _ _ (T79.setTop (mkF m 133 #[.val (.ref a1), .val (.int (4 : Int32))] [(.int (3 : Int32)), (.ref a1), (.int (3 : Int32)), (.ref b68), (.ref b68), (.ref b65), (.ref b65)]))
    refine GoesW.step (own_caload X79 hx hZ e79 A (j := (3 : Int32)) (by decide) (k := 3) rfl (by decide) (v := (.int (Int32.ofNat (c 3)))) rfl (g := (mkF m 133 #[.val (.ref a1), .val (.int (4 : Int32))] [(.int (3 : Int32)), (.ref a1), (.int (3 : Int32)), (.ref b68), (.ref b68), (.ref b65), (.ref b65)])) rfl rfl (hb hby d_method_4_code_133)) ?_
    show GoesW p ee below s _ _ _ _ _ (T79.setTop (mkF m 134 #[.val (.ref a1), .val (.int (4 : Int32))] [(.int (Int32.ofNat (c 3))), (.int (3 : Int32)), (.ref b68), (.ref b68), (.ref b65), (.ref b65)]))
    obtain ⟨T83, h83, X83, e83, W83, A83, st83⟩ := own_stC X79 hx hZ e79 A_b68 (x := (Int32.ofNat (c 3))) (j := (3 : Int32)) (by decide) (k := 3) rfl (by decide) (g := (mkF m 134 #[.val (.ref a1), .val (.int (4 : Int32))] [(.int (Int32.ofNat (c 3))), (.int (3 : Int32)), (.ref b68), (.ref b68), (.ref b65), (.ref b65)])) rfl rfl (hb hby d_method_4_code_134)
    refine GoesW.step st83 ?_
    have A := A.other W83 ne_a1_b68
    have E_b65 := E_b65.wr W83
    have F_value_b65 := F_value_b65.other W83 (Or.inl ne_b65_b68)
    have F_coder_b65 := F_coder_b65.other W83 (Or.inl ne_b65_b68)
    have Zp84 := Nat.le_trans Zp80 (Keep.of_wr W83).1
    have N85 := Fr.snoc X83 N81 ge_b68
    have sfw := sf_b68
    have sf_b65 := Safe.wr W83 sfw C.chv sf_b65
    have sf_b68 := Safe.wr W83 sfw C.chv sf_b68
    have C := C.wr W83 sfw
    have OO := OO.wr W83 ge_b68
    have K86 := K82.wr W83 (Or.inr sz_b68)
    have A_b68 : OA Z h83 b68 .char 4 (fun i => [(.int (nar .char (Int32.ofNat (c 0)))), (.int (nar .char (Int32.ofNat (c 1)))), (.int (nar .char (Int32.ofNat (c 2)))), (.int (nar .char (Int32.ofNat (c 3))))].getD i (.int 0)) := A83.congr (fun i hi => by match i, hi with | 0, _ => rfl | 1, _ => rfl | 2, _ => rfl | 3, _ => rfl | i + 4, hi => omega)
    show GoesW p ee below s _ _ _ _ _ (T83.setTop (mkF m 135 #[.val (.ref a1), .val (.int (4 : Int32))] [(.ref b68), (.ref b65), (.ref b65)]))
    have A_b68 : OA Z h83 b68 .char 4 (fun i => .int (Int32.ofNat (c i))) := A_b68.congr (fun i hi => by match i, hi with | 0, _ => exact congrArg Value.int (own_charnar (c 0) (hc 0 (by decide))) | 1, _ => exact congrArg Value.int (own_charnar (c 1) (hc 1 (by decide))) | 2, _ => exact congrArg Value.int (own_charnar (c 2) (hc 2 (by decide))) | 3, _ => exact congrArg Value.int (own_charnar (c 3) (hc 3 (by decide))) | i + 4, hi => omega)
    have lt_a1 := A.lt
    have lt_b65 := E_b65.lt
    have lt_b68 := A_b68.lt
    obtain ⟨v87, T87, L87, X87, hQ87, st87⟩ := own_callN X83 hx hZ (y := (⟨"java/lang/String", "<init>", "([C)V"⟩ : MethodName)) rfl hown (hw _ (List.mem_of_getElem? (i := 12) rfl)) (hw _ (List.mem_of_getElem? (i := 13) rfl)) (hw _ (List.mem_of_getElem? (i := 11) rfl)) (hw _ (List.mem_of_getElem? (i := 14) rfl)) (by decide) (a := b65) (argsL := [(.ref b68)]) (rm_sin1 l Z a0 hw [] cs fm b65 b68 4 c _ _ h83 n0 Zp84 ST OO (by decide) (by decide) (fun j hj => hc j (by omega)) ge_b65 ne_b65_b68 E_b65 F_value_b65 F_coder_b65 A_b68) e83 (W := 1) (by decide) (by decide) (by decide) (by decide) (g := (mkF m 135 #[.val (.ref a1), .val (.int (4 : Int32))] [(.ref b68), (.ref b65), (.ref b65)])) rfl (by rw [hml]; rfl) (rest := [(.ref b65)]) (lenOf pd_17 rfl) rfl (by show 2 * 0 + _ ≤ _; exact Nat.le_of_eq rfl) (hb hby d_method_4_code_135)
    refine GoesW.step st87 ?_
    obtain ⟨rfl, N87, Kc87, b87, u, sz87, Ei87, Fv87, Fc87, A_b87, hlu, hlu2⟩ := hQ87
    have N88 := Fr.app N85 N87
    obtain ⟨h87, e87⟩ : ∃ h', T87.heap = h' := ⟨_, rfl⟩
    rw [e87] at Kc87 Ei87 Fv87 Fc87 A_b87
    have A := A.keep Kc87 (ninS ne_a1_b65 nin0)
    have A_b68 := A_b68.keep Kc87 (ninS (Ne.symm ne_b65_b68) nin0)
    have hsk := (sfS sf_b65 sf0)
    have sf_b65 := Safe.keep Kc87 hsk C.chv sf_b65
    have sf_b68 := Safe.keep Kc87 hsk C.chv sf_b68
    have C := C.keep Kc87 hsk
    have OO := OO.keep Kc87 (allS ge_b65 all0)
    have K89 := K86.trans Kc87 (allS (Or.inr sz_b65) all0)
    have Zp90 := Nat.le_trans Zp84 Kc87.1
    have ge_b87 : n0 ≤ b87 := Nat.le_trans Zp84 sz87
    have sz_b87 : h0.size ≤ b87 := Nat.le_trans K86.1 sz87
    have ne_a1_b87 : a1 ≠ b87 := Nat.ne_of_lt (Nat.lt_of_lt_of_le lt_a1 sz87)
    have ne_b65_b87 : b65 ≠ b87 := Nat.ne_of_lt (Nat.lt_of_lt_of_le lt_b65 sz87)
    have ne_b68_b87 : b68 ≠ b87 := Nat.ne_of_lt (Nat.lt_of_lt_of_le lt_b68 sz87)
    show GoesW p ee below s _ _ _ _ _ (T87.setTop (mkF m 138 #[.val (.ref a1), .val (.int (4 : Int32))] [(.ref b65)]))
    refine GoesW.retA X87 hx hZ hEL C e87 Bd.notSynchronized Bd.returns rfl rfl (hb hby d_method_4_code_138) (by decide) (by decide) ?_
    rw [e87]
    exact ⟨b65, b87, u, rfl, N88, K89, Ei87, Fv87, Fc87, A_b87, hlu⟩
  · show GoesW p ee below s _ _ _ _ _ (s₁.setTop (mkF m 0 #[.val (.ref a1), .val (.int (5 : Int32))] []))
    refine GoesW.step (fun _ hr_ => XS.iloadN X0.here hx rfl (hb hby d_method_4_code_0) rfl  hr_) ?_
    show GoesW p ee below s _ _ _ _ _ (s₁.setTop (mkF m 1 #[.val (.ref a1), .val (.int (5 : Int32))] [(.int (5 : Int32))]))
    refine GoesW.step (fun _ hr_ => XS.ifYes X0.here hx rfl (pc0 := 1) (pc' := 15) rfl (hb hby d_method_4_code_1) rfl ((if0 _ _).trans (feq (by decide)).2) (by decide) (by decide) hr_) ?_
    show GoesW p ee below s _ _ _ _ _ (s₁.setTop (mkF m 15 #[.val (.ref a1), .val (.int (5 : Int32))] []))
    refine GoesW.step (fun _ hr_ => XS.iloadN X0.here hx rfl (hb hby d_method_4_code_15) rfl  hr_) ?_
    show GoesW p ee below s _ _ _ _ _ (s₁.setTop (mkF m 16 #[.val (.ref a1), .val (.int (5 : Int32))] [(.int (5 : Int32))]))
    refine GoesW.step (fun _ hr_ => XS.iconst X0.here hx rfl (hb hby d_method_4_code_16) hr_) ?_
    show GoesW p ee below s _ _ _ _ _ (s₁.setTop (mkF m 17 #[.val (.ref a1), .val (.int (5 : Int32))] [(.int (1 : Int32)), (.int (5 : Int32))]))
    refine GoesW.step (fun _ hr_ => XS.icmpYes X0.here hx rfl (pc0 := 17) (pc' := 37) rfl (hb hby d_method_4_code_17) rfl (feq (by decide)).2 (by decide) (by decide) hr_) ?_
    show GoesW p ee below s _ _ _ _ _ (s₁.setTop (mkF m 37 #[.val (.ref a1), .val (.int (5 : Int32))] []))
    refine GoesW.step (fun _ hr_ => XS.iloadN X0.here hx rfl (hb hby d_method_4_code_37) rfl  hr_) ?_
    show GoesW p ee below s _ _ _ _ _ (s₁.setTop (mkF m 38 #[.val (.ref a1), .val (.int (5 : Int32))] [(.int (5 : Int32))]))
    refine GoesW.step (fun _ hr_ => XS.iconst X0.here hx rfl (hb hby d_method_4_code_38) hr_) ?_
    show GoesW p ee below s _ _ _ _ _ (s₁.setTop (mkF m 39 #[.val (.ref a1), .val (.int (5 : Int32))] [(.int (2 : Int32)), (.int (5 : Int32))]))
    refine GoesW.step (fun _ hr_ => XS.icmpYes X0.here hx rfl (pc0 := 39) (pc' := 65) rfl (hb hby d_method_4_code_39) rfl (feq (by decide)).2 (by decide) (by decide) hr_) ?_
    show GoesW p ee below s _ _ _ _ _ (s₁.setTop (mkF m 65 #[.val (.ref a1), .val (.int (5 : Int32))] []))
    refine GoesW.step (fun _ hr_ => XS.iloadN X0.here hx rfl (hb hby d_method_4_code_65) rfl  hr_) ?_
    show GoesW p ee below s _ _ _ _ _ (s₁.setTop (mkF m 66 #[.val (.ref a1), .val (.int (5 : Int32))] [(.int (5 : Int32))]))
    refine GoesW.step (fun _ hr_ => XS.iconst X0.here hx rfl (hb hby d_method_4_code_66) hr_) ?_
    show GoesW p ee below s _ _ _ _ _ (s₁.setTop (mkF m 67 #[.val (.ref a1), .val (.int (5 : Int32))] [(.int (3 : Int32)), (.int (5 : Int32))]))
    refine GoesW.step (fun _ hr_ => XS.icmpYes X0.here hx rfl (pc0 := 67) (pc' := 99) rfl (hb hby d_method_4_code_67) rfl (feq (by decide)).2 (by decide) (by decide) hr_) ?_
    show GoesW p ee below s _ _ _ _ _ (s₁.setTop (mkF m 99 #[.val (.ref a1), .val (.int (5 : Int32))] []))
    refine GoesW.step (fun _ hr_ => XS.iloadN X0.here hx rfl (hb hby d_method_4_code_99) rfl  hr_) ?_
    show GoesW p ee below s _ _ _ _ _ (s₁.setTop (mkF m 100 #[.val (.ref a1), .val (.int (5 : Int32))] [(.int (5 : Int32))]))
    refine GoesW.step (fun _ hr_ => XS.iconst X0.here hx rfl (hb hby d_method_4_code_100) hr_) ?_
    show GoesW p ee below s _ _ _ _ _ (s₁.setTop (mkF m 101 #[.val (.ref a1), .val (.int (5 : Int32))] [(.int (4 : Int32)), (.int (5 : Int32))]))
    refine GoesW.step (fun _ hr_ => XS.icmpYes X0.here hx rfl (pc0 := 101) (pc' := 139) rfl (hb hby d_method_4_code_101) rfl (feq (by decide)).2 (by decide) (by decide) hr_) ?_
    show GoesW p ee below s _ _ _ _ _ (s₁.setTop (mkF m 139 #[.val (.ref a1), .val (.int (5 : Int32))] []))
    refine GoesW.step (fun _ hr_ => XS.iloadN X0.here hx rfl (hb hby d_method_4_code_139) rfl  hr_) ?_
    show GoesW p ee below s _ _ _ _ _ (s₁.setTop (mkF m 140 #[.val (.ref a1), .val (.int (5 : Int32))] [(.int (5 : Int32))]))
    refine GoesW.step (fun _ hr_ => XS.iconst X0.here hx rfl (hb hby d_method_4_code_140) hr_) ?_
    show GoesW p ee below s _ _ _ _ _ (s₁.setTop (mkF m 141 #[.val (.ref a1), .val (.int (5 : Int32))] [(.int (5 : Int32)), (.int (5 : Int32))]))
    refine GoesW.step (fun _ hr_ => XS.icmpNo X0.here hx rfl (hb hby d_method_4_code_141) rfl (teq (by decide)).2 hr_) ?_
    show GoesW p ee below s _ _ _ _ _ (s₁.setTop (mkF m 144 #[.val (.ref a1), .val (.int (5 : Int32))] []))
    obtain ⟨T91, h91, X91, e91, E91, A91, D91, -, st91⟩ := newO X0 hx hZ hown (hw _ (List.mem_of_getElem? (i := 9) rfl)) (hw _ (List.mem_of_getElem? (i := 10) rfl)) (hw _ (List.mem_of_getElem? (i := 11) rfl)) e0 (g := (mkF m 144 #[.val (.ref a1), .val (.int (5 : Int32))] [])) rfl (hb hby d_method_4_code_144) (by decide) (by decide)
    obtain ⟨b91, g_b91⟩ : ∃ z, z = h0.size := ⟨_, rfl⟩
    have ne_a1_b91 : a1 ≠ b91 := Nat.ne_of_lt (Nat.lt_of_lt_of_le A.lt (Nat.le_of_eq g_b91.symm))
    have ge_b91 : n0 ≤ b91 := Nat.le_trans Z0 (Nat.le_of_eq g_b91.symm)
    have sz_b91 : h0.size ≤ b91 := Nat.le_trans K0.1 (Nat.le_of_eq g_b91.symm)
    rw [← g_b91] at A91 D91 st91
    have A := A.ext E91
    have Zp92 := Nat.le_trans Z0 E91.1
    have sf_b91 := Safe.ext E91 C.chv (Safe.new (Nat.le_of_eq g_b91.symm))
    have C := C.ext E91
    have OO := OO.ext E91
    have K93 := K0.ext E91
    refine GoesW.step st91 ?_
    have E_b91 := A91
    have F_value_b91 : Fld Z h91 b91 "java/lang/String" "value" "[B" .null := D91 (Or.inr (hw _ (List.mem_of_getElem? (i := 24) rfl))) (ty := (.array .byte)) (by decide)
    have F_coder_b91 : Fld Z h91 b91 "java/lang/String" "coder" "B" (.int (0 : Int32)) := D91 (Or.inr (hw _ (List.mem_of_getElem? (i := 25) rfl))) (ty := .byte) (by decide)
    show GoesW p ee below s _ _ _ _ _ (T91.setTop (mkF m 147 #[.val (.ref a1), .val (.int (5 : Int32))] [(.ref b91)]))
    refine GoesW.step (fun _ hr_ => XS.dup X91.here hx rfl (hb hby d_method_4_code_147) rfl rfl hr_) ?_
    show GoesW p ee below s _ _ _ _ _ (T91.setTop (mkF m 148 #[.val (.ref a1), .val (.int (5 : Int32))] [(.ref b91), (.ref b91)]))
    refine GoesW.step (fun _ hr_ => XS.iconst X91.here hx rfl (hb hby d_method_4_code_148) hr_) ?_
    show GoesW p ee below s _ _ _ _ _ (T91.setTop (mkF m 149 #[.val (.ref a1), .val (.int (5 : Int32))] [(.int (5 : Int32)), (.ref b91), (.ref b91)]))
    obtain ⟨T94, h94, X94, e94, E94, A94, st94⟩ := own_newP X91 hx hZ (aty := .char) (hw _ (List.mem_of_getElem? (i := 1) rfl)) e91 (z := (5 : Int32)) (by decide) (n := 5) rfl (cap := 5) (Nat.le_refl _) (by decide) (by decide) (by decide) (g := (mkF m 149 #[.val (.ref a1), .val (.int (5 : Int32))] [(.int (5 : Int32)), (.ref b91), (.ref b91)])) rfl rfl (hb hby d_method_4_code_149)
    obtain ⟨b94, g_b94⟩ : ∃ z, z = h91.size := ⟨_, rfl⟩
    have ne_a1_b94 : a1 ≠ b94 := Nat.ne_of_lt (Nat.lt_of_lt_of_le A.lt (Nat.le_of_eq g_b94.symm))
    have ne_b91_b94 : b91 ≠ b94 := Nat.ne_of_lt (Nat.lt_of_lt_of_le E_b91.lt (Nat.le_of_eq g_b94.symm))
    have ge_b94 : n0 ≤ b94 := Nat.le_trans Zp92 (Nat.le_of_eq g_b94.symm)
    have sz_b94 : h0.size ≤ b94 := Nat.le_trans K93.1 (Nat.le_of_eq g_b94.symm)
    rw [← g_b94] at A94 st94
    have A := A.ext E94
    have E_b91 := E_b91.ext E94
    have F_value_b91 := F_value_b91.ext E94
    have F_coder_b91 := F_coder_b91.ext E94
    have Zp95 := Nat.le_trans Zp92 E94.1
    have sf_b91 := Safe.ext E94 C.chv sf_b91
    have sf_b94 := Safe.ext E94 C.chv (Safe.new (Nat.le_of_eq g_b94.symm))
    have C := C.ext E94
    have OO := OO.ext E94
    have K96 := K93.ext E94
    refine GoesW.step st94 ?_
    have A_b94 : OA Z h94 b94 .char 5 (fun _ => (.int 0)) := A94
    show GoesW p ee below s _ _ _ _ _ (T94.setTop (mkF m 151 #[.val (.ref a1), .val (.int (5 : Int32))] [(.ref b94), (.ref b91), (.ref b91)]))
    refine GoesW.step (fun _ hr_ => XS.dup X94.here hx rfl (hb hby d_method_4_code_151) rfl rfl hr_) ?_
    show GoesW p ee below s _ _ _ _ _ (T94.setTop (mkF m 152 #[.val (.ref a1), .val (.int (5 : Int32))] [(.ref b94), (.ref b94), (.ref b91), (.ref b91)]))
    refine GoesW.step (fun _ hr_ => XS.iconst X94.here hx rfl (hb hby d_method_4_code_152) hr_) ?_
    show GoesW p ee below s _ _ _ _ _ (T94.setTop (mkF m 153 #[.val (.ref a1), .val (.int (5 : Int32))] [(.int (0 : Int32)), (.ref b94), (.ref b94), (.ref b91), (.ref b91)]))
    refine GoesW.step (fun _ hr_ => XS.aloadN X94.here hx rfl (hb hby d_method_4_code_153) rfl rfl hr_) ?_
    show GoesW p ee below s _ _ _ _ _ (T94.setTop (mkF m 154 #[.val (.ref a1), .val (.int (5 : Int32))] [(.ref a1), (.int (0 : Int32)), (.ref b94), (.ref b94), (.ref b91), (.ref b91)]))
    refine GoesW.step (fun _ hr_ => XS.iconst X94.here hx rfl (hb hby d_method_4_code_154) hr_) ?_
    show GoesW p ee below s _ _ _ _ _ (T94.setTop (mkF m 155 #[.val (.ref a1), .val (.int (5 : Int32))] [(.int (0 : Int32)), (.ref a1), (.int (0 : Int32)), (.ref b94), (.ref b94), (.ref b91), (.ref b91)]))
    refine GoesW.step (own_caload X94 hx hZ e94 A (j := (0 : Int32)) (by decide) (k := 0) rfl (by decide) (v := (.int (Int32.ofNat (c 0)))) rfl (g := (mkF m 155 #[.val (.ref a1), .val (.int (5 : Int32))] [(.int (0 : Int32)), (.ref a1), (.int (0 : Int32)), (.ref b94), (.ref b94), (.ref b91), (.ref b91)])) rfl rfl (hb hby d_method_4_code_155)) ?_
    show GoesW p ee below s _ _ _ _ _ (T94.setTop (mkF m 156 #[.val (.ref a1), .val (.int (5 : Int32))] [(.int (Int32.ofNat (c 0))), (.int (0 : Int32)), (.ref b94), (.ref b94), (.ref b91), (.ref b91)]))
    obtain ⟨T97, h97, X97, e97, W97, A97, st97⟩ := own_stC X94 hx hZ e94 A_b94 (x := (Int32.ofNat (c 0))) (j := (0 : Int32)) (by decide) (k := 0) rfl (by decide) (g := (mkF m 156 #[.val (.ref a1), .val (.int (5 : Int32))] [(.int (Int32.ofNat (c 0))), (.int (0 : Int32)), (.ref b94), (.ref b94), (.ref b91), (.ref b91)])) rfl rfl (hb hby d_method_4_code_156)
    refine GoesW.step st97 ?_
    have A := A.other W97 ne_a1_b94
    have E_b91 := E_b91.wr W97
    have F_value_b91 := F_value_b91.other W97 (Or.inl ne_b91_b94)
    have F_coder_b91 := F_coder_b91.other W97 (Or.inl ne_b91_b94)
    have Zp98 := Nat.le_trans Zp95 (Keep.of_wr W97).1
    have N99 := Fr.snoc X97 N0 ge_b94
    have sfw := sf_b94
    have sf_b91 := Safe.wr W97 sfw C.chv sf_b91
    have sf_b94 := Safe.wr W97 sfw C.chv sf_b94
    have C := C.wr W97 sfw
    have OO := OO.wr W97 ge_b94
    have K100 := K96.wr W97 (Or.inr sz_b94)
    have A_b94 : OA Z h97 b94 .char 5 (fun i => [(.int (nar .char (Int32.ofNat (c 0)))), (.int 0), (.int 0), (.int 0), (.int 0)].getD i (.int 0)) := A97.congr (fun i hi => by match i, hi with | 0, _ => rfl | 1, _ => rfl | 2, _ => rfl | 3, _ => rfl | 4, _ => rfl | i + 5, hi => omega)
    show GoesW p ee below s _ _ _ _ _ (T97.setTop (mkF m 157 #[.val (.ref a1), .val (.int (5 : Int32))] [(.ref b94), (.ref b91), (.ref b91)]))
    refine GoesW.step (fun _ hr_ => XS.dup X97.here hx rfl (hb hby d_method_4_code_157) rfl rfl hr_) ?_
    show GoesW p ee below s _ _ _ _ _ (T97.setTop (mkF m 158 #[.val (.ref a1), .val (.int (5 : Int32))] [(.ref b94), (.ref b94), (.ref b91), (.ref b91)]))
    refine GoesW.step (fun _ hr_ => XS.iconst X97.here hx rfl (hb hby d_method_4_code_158) hr_) ?_
    show GoesW p ee below s _ _ _ _ _ (T97.setTop (mkF m 159 #[.val (.ref a1), .val (.int (5 : Int32))] [(.int (1 : Int32)), (.ref b94), (.ref b94), (.ref b91), (.ref b91)]))
    refine GoesW.step (fun _ hr_ => XS.aloadN X97.here hx rfl (hb hby d_method_4_code_159) rfl rfl hr_) ?_
    show GoesW p ee below s _ _ _ _ _ (T97.setTop (mkF m 160 #[.val (.ref a1), .val (.int (5 : Int32))] [(.ref a1), (.int (1 : Int32)), (.ref b94), (.ref b94), (.ref b91), (.ref b91)]))
    refine GoesW.step (fun _ hr_ => XS.iconst X97.here hx rfl (hb hby d_method_4_code_160) hr_) ?_
    show GoesW p ee below s _ _ _ _ _ (T97.setTop (mkF m 161 #[.val (.ref a1), .val (.int (5 : Int32))] [(.int (1 : Int32)), (.ref a1), (.int (1 : Int32)), (.ref b94), (.ref b94), (.ref b91), (.ref b91)]))
    refine GoesW.step (own_caload X97 hx hZ e97 A (j := (1 : Int32)) (by decide) (k := 1) rfl (by decide) (v := (.int (Int32.ofNat (c 1)))) rfl (g := (mkF m 161 #[.val (.ref a1), .val (.int (5 : Int32))] [(.int (1 : Int32)), (.ref a1), (.int (1 : Int32)), (.ref b94), (.ref b94), (.ref b91), (.ref b91)])) rfl rfl (hb hby d_method_4_code_161)) ?_
    show GoesW p ee below s _ _ _ _ _ (T97.setTop (mkF m 162 #[.val (.ref a1), .val (.int (5 : Int32))] [(.int (Int32.ofNat (c 1))), (.int (1 : Int32)), (.ref b94), (.ref b94), (.ref b91), (.ref b91)]))
    obtain ⟨T101, h101, X101, e101, W101, A101, st101⟩ := own_stC X97 hx hZ e97 A_b94 (x := (Int32.ofNat (c 1))) (j := (1 : Int32)) (by decide) (k := 1) rfl (by decide) (g := (mkF m 162 #[.val (.ref a1), .val (.int (5 : Int32))] [(.int (Int32.ofNat (c 1))), (.int (1 : Int32)), (.ref b94), (.ref b94), (.ref b91), (.ref b91)])) rfl rfl (hb hby d_method_4_code_162)
    refine GoesW.step st101 ?_
    have A := A.other W101 ne_a1_b94
    have E_b91 := E_b91.wr W101
    have F_value_b91 := F_value_b91.other W101 (Or.inl ne_b91_b94)
    have F_coder_b91 := F_coder_b91.other W101 (Or.inl ne_b91_b94)
    have Zp102 := Nat.le_trans Zp98 (Keep.of_wr W101).1
    have N103 := Fr.snoc X101 N99 ge_b94
    have sfw := sf_b94
    have sf_b91 := Safe.wr W101 sfw C.chv sf_b91
    have sf_b94 := Safe.wr W101 sfw C.chv sf_b94
    have C := C.wr W101 sfw
    have OO := OO.wr W101 ge_b94
    have K104 := K100.wr W101 (Or.inr sz_b94)
    have A_b94 : OA Z h101 b94 .char 5 (fun i => [(.int (nar .char (Int32.ofNat (c 0)))), (.int (nar .char (Int32.ofNat (c 1)))), (.int 0), (.int 0), (.int 0)].getD i (.int 0)) := A101.congr (fun i hi => by match i, hi with | 0, _ => rfl | 1, _ => rfl | 2, _ => rfl | 3, _ => rfl | 4, _ => rfl | i + 5, hi => omega)
    show GoesW p ee below s _ _ _ _ _ (T101.setTop (mkF m 163 #[.val (.ref a1), .val (.int (5 : Int32))] [(.ref b94), (.ref b91), (.ref b91)]))
    refine GoesW.step (fun _ hr_ => XS.dup X101.here hx rfl (hb hby d_method_4_code_163) rfl rfl hr_) ?_
    show GoesW p ee below s _ _ _ _ _ (T101.setTop (mkF m 164 #[.val (.ref a1), .val (.int (5 : Int32))] [(.ref b94), (.ref b94), (.ref b91), (.ref b91)]))
    refine GoesW.step (fun _ hr_ => XS.iconst X101.here hx rfl (hb hby d_method_4_code_164) hr_) ?_
    show GoesW p ee below s _ _ _ _ _ (T101.setTop (mkF m 165 #[.val (.ref a1), .val (.int (5 : Int32))] [(.int (2 : Int32)), (.ref b94), (.ref b94), (.ref b91), (.ref b91)]))
    refine GoesW.step (fun _ hr_ => XS.aloadN X101.here hx rfl (hb hby d_method_4_code_165) rfl rfl hr_) ?_
    show GoesW p ee below s _ _ _ _ _ (T101.setTop (mkF m 166 #[.val (.ref a1), .val (.int (5 : Int32))] [(.ref a1), (.int (2 : Int32)), (.ref b94), (.ref b94), (.ref b91), (.ref b91)]))
    refine GoesW.step (fun _ hr_ => XS.iconst X101.here hx rfl (hb hby d_method_4_code_166) hr_) ?_
    show GoesW p ee below s _ _ _ _ _ (T101.setTop (mkF m 167 #[.val (.ref a1), .val (.int (5 : Int32))] [(.int (2 : Int32)), (.ref a1), (.int (2 : Int32)), (.ref b94), (.ref b94), (.ref b91), (.ref b91)]))
    refine GoesW.step (own_caload X101 hx hZ e101 A (j := (2 : Int32)) (by decide) (k := 2) rfl (by decide) (v := (.int (Int32.ofNat (c 2)))) rfl (g := (mkF m 167 #[.val (.ref a1), .val (.int (5 : Int32))] [(.int (2 : Int32)), (.ref a1), (.int (2 : Int32)), (.ref b94), (.ref b94), (.ref b91), (.ref b91)])) rfl rfl (hb hby d_method_4_code_167)) ?_
    show GoesW p ee below s _ _ _ _ _ (T101.setTop (mkF m 168 #[.val (.ref a1), .val (.int (5 : Int32))] [(.int (Int32.ofNat (c 2))), (.int (2 : Int32)), (.ref b94), (.ref b94), (.ref b91), (.ref b91)]))
    obtain ⟨T105, h105, X105, e105, W105, A105, st105⟩ := own_stC X101 hx hZ e101 A_b94 (x := (Int32.ofNat (c 2))) (j := (2 : Int32)) (by decide) (k := 2) rfl (by decide) (g := (mkF m 168 #[.val (.ref a1), .val (.int (5 : Int32))] [(.int (Int32.ofNat (c 2))), (.int (2 : Int32)), (.ref b94), (.ref b94), (.ref b91), (.ref b91)])) rfl rfl (hb hby d_method_4_code_168)
    refine GoesW.step st105 ?_
    have A := A.other W105 ne_a1_b94
    have E_b91 := E_b91.wr W105
    have F_value_b91 := F_value_b91.other W105 (Or.inl ne_b91_b94)
    have F_coder_b91 := F_coder_b91.other W105 (Or.inl ne_b91_b94)
    have Zp106 := Nat.le_trans Zp102 (Keep.of_wr W105).1
    have N107 := Fr.snoc X105 N103 ge_b94
    have sfw := sf_b94
    have sf_b91 := Safe.wr W105 sfw C.chv sf_b91
    have sf_b94 := Safe.wr W105 sfw C.chv sf_b94
    have C := C.wr W105 sfw
    have OO := OO.wr W105 ge_b94
    have K108 := K104.wr W105 (Or.inr sz_b94)
    have A_b94 : OA Z h105 b94 .char 5 (fun i => [(.int (nar .char (Int32.ofNat (c 0)))), (.int (nar .char (Int32.ofNat (c 1)))), (.int (nar .char (Int32.ofNat (c 2)))), (.int 0), (.int 0)].getD i (.int 0)) := A105.congr (fun i hi => by match i, hi with | 0, _ => rfl | 1, _ => rfl | 2, _ => rfl | 3, _ => rfl | 4, _ => rfl | i + 5, hi => omega)
    show GoesW p ee below s _ _ _ _ _ (T105.setTop (mkF m 169 #[.val (.ref a1), .val (.int (5 : Int32))] [(.ref b94), (.ref b91), (.ref b91)]))
    refine GoesW.step (fun _ hr_ => XS.dup X105.here hx rfl (hb hby d_method_4_code_169) rfl rfl hr_) ?_
    show GoesW p ee below s _ _ _ _ _ (T105.setTop (mkF m 170 #[.val (.ref a1), .val (.int (5 : Int32))] [(.ref b94), (.ref b94), (.ref b91), (.ref b91)]))
    refine GoesW.step (fun _ hr_ => XS.iconst X105.here hx rfl (hb hby d_method_4_code_170) hr_) ?_
    show GoesW p ee below s _ _ _ _ _ (T105.setTop (mkF m 171 #[.val (.ref a1), .val (.int (5 : Int32))] [(.int (3 : Int32)), (.ref b94), (.ref b94), (.ref b91), (.ref b91)]))
    refine GoesW.step (fun _ hr_ => XS.aloadN X105.here hx rfl (hb hby d_method_4_code_171) rfl rfl hr_) ?_
    show GoesW p ee below s _ _ _ _ _ (T105.setTop (mkF m 172 #[.val (.ref a1), .val (.int (5 : Int32))] [(.ref a1), (.int (3 : Int32)), (.ref b94), (.ref b94), (.ref b91), (.ref b91)]))
    refine GoesW.step (fun _ hr_ => XS.iconst X105.here hx rfl (hb hby d_method_4_code_172) hr_) ?_
    show GoesW p ee below s _ _ _ _ _ (T105.setTop (mkF m 173 #[.val (.ref a1), .val (.int (5 : Int32))] [(.int (3 : Int32)), (.ref a1), (.int (3 : Int32)), (.ref b94), (.ref b94), (.ref b91), (.ref b91)]))
    refine GoesW.step (own_caload X105 hx hZ e105 A (j := (3 : Int32)) (by decide) (k := 3) rfl (by decide) (v := (.int (Int32.ofNat (c 3)))) rfl (g := (mkF m 173 #[.val (.ref a1), .val (.int (5 : Int32))] [(.int (3 : Int32)), (.ref a1), (.int (3 : Int32)), (.ref b94), (.ref b94), (.ref b91), (.ref b91)])) rfl rfl (hb hby d_method_4_code_173)) ?_
    show GoesW p ee below s _ _ _ _ _ (T105.setTop (mkF m 174 #[.val (.ref a1), .val (.int (5 : Int32))] [(.int (Int32.ofNat (c 3))), (.int (3 : Int32)), (.ref b94), (.ref b94), (.ref b91), (.ref b91)]))
    obtain ⟨T109, h109, X109, e109, W109, A109, st109⟩ := own_stC X105 hx hZ e105 A_b94 (x := (Int32.ofNat (c 3))) (j := (3 : Int32)) (by decide) (k := 3) rfl (by decide) (g := (mkF m 174 #[.val (.ref a1), .val (.int (5 : Int32))] [(.int (Int32.ofNat (c 3))), (.int (3 : Int32)), (.ref b94), (.ref b94), (.ref b91), (.ref b91)])) rfl rfl (hb hby d_method_4_code_174)
    refine GoesW.step st109 ?_
    have A := A.other W109 ne_a1_b94
    have E_b91 := E_b91.wr W109
    have F_value_b91 := F_value_b91.other W109 (Or.inl ne_b91_b94)
    have F_coder_b91 := F_coder_b91.other W109 (Or.inl ne_b91_b94)
    have Zp110 := Nat.le_trans Zp106 (Keep.of_wr W109).1
    have N111 := Fr.snoc X109 N107 ge_b94
    have sfw := sf_b94
    have sf_b91 := Safe.wr W109 sfw C.chv sf_b91
    have sf_b94 := Safe.wr W109 sfw C.chv sf_b94
    have C := C.wr W109 sfw
    have OO := OO.wr W109 ge_b94
    have K112 := K108.wr W109 (Or.inr sz_b94)
    have A_b94 : OA Z h109 b94 .char 5 (fun i => [(.int (nar .char (Int32.ofNat (c 0)))), (.int (nar .char (Int32.ofNat (c 1)))), (.int (nar .char (Int32.ofNat (c 2)))), (.int (nar .char (Int32.ofNat (c 3)))), (.int 0)].getD i (.int 0)) := A109.congr (fun i hi => by match i, hi with | 0, _ => rfl | 1, _ => rfl | 2, _ => rfl | 3, _ => rfl | 4, _ => rfl | i + 5, hi => omega)
    show GoesW p ee below s _ _ _ _ _ (T109.setTop (mkF m 175 #[.val (.ref a1), .val (.int (5 : Int32))] [(.ref b94), (.ref b91), (.ref b91)]))
    refine GoesW.step (fun _ hr_ => XS.dup X109.here hx rfl (hb hby d_method_4_code_175) rfl rfl hr_) ?_
    show GoesW p ee below s _ _ _ _ _ (T109.setTop (mkF m 176 #[.val (.ref a1), .val (.int (5 : Int32))] [(.ref b94), (.ref b94), (.ref b91), (.ref b91)]))
    refine GoesW.step (fun _ hr_ => XS.iconst X109.here hx rfl (hb hby d_method_4_code_176) hr_) ?_
    show GoesW p ee below s _ _ _ _ _ (T109.setTop (mkF m 177 #[.val (.ref a1), .val (.int (5 : Int32))] [(.int (4 : Int32)), (.ref b94), (.ref b94), (.ref b91), (.ref b91)]))
    refine GoesW.step (fun _ hr_ => XS.aloadN X109.here hx rfl (hb hby d_method_4_code_177) rfl rfl hr_) ?_
    show GoesW p ee below s _ _ _ _ _ (T109.setTop (mkF m 178 #[.val (.ref a1), .val (.int (5 : Int32))] [(.ref a1), (.int (4 : Int32)), (.ref b94), (.ref b94), (.ref b91), (.ref b91)]))
    refine GoesW.step (fun _ hr_ => XS.iconst X109.here hx rfl (hb hby d_method_4_code_178) hr_) ?_
    show GoesW p ee below s _ _ _ _ _ (T109.setTop (mkF m 179 #[.val (.ref a1), .val (.int (5 : Int32))] [(.int (4 : Int32)), (.ref a1), (.int (4 : Int32)), (.ref b94), (.ref b94), (.ref b91), (.ref b91)]))
    refine GoesW.step (own_caload X109 hx hZ e109 A (j := (4 : Int32)) (by decide) (k := 4) rfl (by decide) (v := (.int (Int32.ofNat (c 4)))) rfl (g := (mkF m 179 #[.val (.ref a1), .val (.int (5 : Int32))] [(.int (4 : Int32)), (.ref a1), (.int (4 : Int32)), (.ref b94), (.ref b94), (.ref b91), (.ref b91)])) rfl rfl (hb hby d_method_4_code_179)) ?_
    show GoesW p ee below s _ _ _ _ _ (T109.setTop (mkF m 180 #[.val (.ref a1), .val (.int (5 : Int32))] [(.int (Int32.ofNat (c 4))), (.int (4 : Int32)), (.ref b94), (.ref b94), (.ref b91), (.ref b91)]))
    obtain ⟨T113, h113, X113, e113, W113, A113, st113⟩ := own_stC X109 hx hZ e109 A_b94 (x := (Int32.ofNat (c 4))) (j := (4 : Int32)) (by decide) (k := 4) rfl (by decide) (g := (mkF m 180 #[.val (.ref a1), .val (.int (5 : Int32))] [(.int (Int32.ofNat (c 4))), (.int (4 : Int32)), (.ref b94), (.ref b94), (.ref b91), (.ref b91)])) rfl rfl (hb hby d_method_4_code_180)
    refine GoesW.step st113 ?_
    have A := A.other W113 ne_a1_b94
    have E_b91 := E_b91.wr W113
    have F_value_b91 := F_value_b91.other W113 (Or.inl ne_b91_b94)
    have F_coder_b91 := F_coder_b91.other W113 (Or.inl ne_b91_b94)
    have Zp114 := Nat.le_trans Zp110 (Keep.of_wr W113).1
    have N115 := Fr.snoc X113 N111 ge_b94
    have sfw := sf_b94
    have sf_b91 := Safe.wr W113 sfw C.chv sf_b91
    have sf_b94 := Safe.wr W113 sfw C.chv sf_b94
    have C := C.wr W113 sfw
    have OO := OO.wr W113 ge_b94
    have K116 := K112.wr W113 (Or.inr sz_b94)
    have A_b94 : OA Z h113 b94 .char 5 (fun i => [(.int (nar .char (Int32.ofNat (c 0)))), (.int (nar .char (Int32.ofNat (c 1)))), (.int (nar .char (Int32.ofNat (c 2)))), (.int (nar .char (Int32.ofNat (c 3)))), (.int (nar .char (Int32.ofNat (c 4))))].getD i (.int 0)) := A113.congr (fun i hi => by match i, hi with | 0, _ => rfl | 1, _ => rfl | 2, _ => rfl | 3, _ => rfl | 4, _ => rfl | i + 5, hi => omega)
    show GoesW p ee below s _ _ _ _ _ (T113.setTop (mkF m 181 #[.val (.ref a1), .val (.int (5 : Int32))] [(.ref b94), (.ref b91), (.ref b91)]))
    have A_b94 : OA Z h113 b94 .char 5 (fun i => .int (Int32.ofNat (c i))) := A_b94.congr (fun i hi => by match i, hi with | 0, _ => exact congrArg Value.int (own_charnar (c 0) (hc 0 (by decide))) | 1, _ => exact congrArg Value.int (own_charnar (c 1) (hc 1 (by decide))) | 2, _ => exact congrArg Value.int (own_charnar (c 2) (hc 2 (by decide))) | 3, _ => exact congrArg Value.int (own_charnar (c 3) (hc 3 (by decide))) | 4, _ => exact congrArg Value.int (own_charnar (c 4) (hc 4 (by decide))) | i + 5, hi => omega)
    have lt_a1 := A.lt
    have lt_b91 := E_b91.lt
    have lt_b94 := A_b94.lt
    obtain ⟨v117, T117, L117, X117, hQ117, st117⟩ := own_callN X113 hx hZ (y := (⟨"java/lang/String", "<init>", "([C)V"⟩ : MethodName)) rfl hown (hw _ (List.mem_of_getElem? (i := 12) rfl)) (hw _ (List.mem_of_getElem? (i := 13) rfl)) (hw _ (List.mem_of_getElem? (i := 11) rfl)) (hw _ (List.mem_of_getElem? (i := 14) rfl)) (by decide) (a := b91) (argsL := [(.ref b94)]) (rm_sin1 l Z a0 hw [] cs fm b91 b94 5 c _ _ h113 n0 Zp114 ST OO (by decide) (by decide) (fun j hj => hc j (by omega)) ge_b91 ne_b91_b94 E_b91 F_value_b91 F_coder_b91 A_b94) e113 (W := 1) (by decide) (by decide) (by decide) (by decide) (g := (mkF m 181 #[.val (.ref a1), .val (.int (5 : Int32))] [(.ref b94), (.ref b91), (.ref b91)])) rfl (by rw [hml]; rfl) (rest := [(.ref b91)]) (lenOf pd_17 rfl) rfl (by show 2 * 0 + _ ≤ _; exact Nat.le_of_eq rfl) (hb hby d_method_4_code_181)
    refine GoesW.step st117 ?_
    obtain ⟨rfl, N117, Kc117, b117, u, sz117, Ei117, Fv117, Fc117, A_b117, hlu, hlu2⟩ := hQ117
    have N118 := Fr.app N115 N117
    obtain ⟨h117, e117⟩ : ∃ h', T117.heap = h' := ⟨_, rfl⟩
    rw [e117] at Kc117 Ei117 Fv117 Fc117 A_b117
    have A := A.keep Kc117 (ninS ne_a1_b91 nin0)
    have A_b94 := A_b94.keep Kc117 (ninS (Ne.symm ne_b91_b94) nin0)
    have hsk := (sfS sf_b91 sf0)
    have sf_b91 := Safe.keep Kc117 hsk C.chv sf_b91
    have sf_b94 := Safe.keep Kc117 hsk C.chv sf_b94
    have C := C.keep Kc117 hsk
    have OO := OO.keep Kc117 (allS ge_b91 all0)
    have K119 := K116.trans Kc117 (allS (Or.inr sz_b91) all0)
    have Zp120 := Nat.le_trans Zp114 Kc117.1
    have ge_b117 : n0 ≤ b117 := Nat.le_trans Zp114 sz117
    have sz_b117 : h0.size ≤ b117 := Nat.le_trans K116.1 sz117
    have ne_a1_b117 : a1 ≠ b117 := Nat.ne_of_lt (Nat.lt_of_lt_of_le lt_a1 sz117)
    have ne_b91_b117 : b91 ≠ b117 := Nat.ne_of_lt (Nat.lt_of_lt_of_le lt_b91 sz117)
    have ne_b94_b117 : b94 ≠ b117 := Nat.ne_of_lt (Nat.lt_of_lt_of_le lt_b94 sz117)
    show GoesW p ee below s _ _ _ _ _ (T117.setTop (mkF m 184 #[.val (.ref a1), .val (.int (5 : Int32))] [(.ref b91)]))
    refine GoesW.retA X117 hx hZ hEL C e117 Bd.notSynchronized Bd.returns rfl rfl (hb hby d_method_4_code_184) (by decide) (by decide) ?_
    rw [e117]
    exact ⟨b91, b117, u, rfl, N118, K119, Ei117, Fv117, Fc117, A_b117, hlu⟩
  · show GoesW p ee below s _ _ _ _ _ (s₁.setTop (mkF m 0 #[.val (.ref a1), .val (.int (6 : Int32))] []))
    refine GoesW.step (fun _ hr_ => XS.iloadN X0.here hx rfl (hb hby d_method_4_code_0) rfl  hr_) ?_
    show GoesW p ee below s _ _ _ _ _ (s₁.setTop (mkF m 1 #[.val (.ref a1), .val (.int (6 : Int32))] [(.int (6 : Int32))]))
    refine GoesW.step (fun _ hr_ => XS.ifYes X0.here hx rfl (pc0 := 1) (pc' := 15) rfl (hb hby d_method_4_code_1) rfl ((if0 _ _).trans (feq (by decide)).2) (by decide) (by decide) hr_) ?_
    show GoesW p ee below s _ _ _ _ _ (s₁.setTop (mkF m 15 #[.val (.ref a1), .val (.int (6 : Int32))] []))
    refine GoesW.step (fun _ hr_ => XS.iloadN X0.here hx rfl (hb hby d_method_4_code_15) rfl  hr_) ?_
    show GoesW p ee below s _ _ _ _ _ (s₁.setTop (mkF m 16 #[.val (.ref a1), .val (.int (6 : Int32))] [(.int (6 : Int32))]))
    refine GoesW.step (fun _ hr_ => XS.iconst X0.here hx rfl (hb hby d_method_4_code_16) hr_) ?_
    show GoesW p ee below s _ _ _ _ _ (s₁.setTop (mkF m 17 #[.val (.ref a1), .val (.int (6 : Int32))] [(.int (1 : Int32)), (.int (6 : Int32))]))
    refine GoesW.step (fun _ hr_ => XS.icmpYes X0.here hx rfl (pc0 := 17) (pc' := 37) rfl (hb hby d_method_4_code_17) rfl (feq (by decide)).2 (by decide) (by decide) hr_) ?_
    show GoesW p ee below s _ _ _ _ _ (s₁.setTop (mkF m 37 #[.val (.ref a1), .val (.int (6 : Int32))] []))
    refine GoesW.step (fun _ hr_ => XS.iloadN X0.here hx rfl (hb hby d_method_4_code_37) rfl  hr_) ?_
    show GoesW p ee below s _ _ _ _ _ (s₁.setTop (mkF m 38 #[.val (.ref a1), .val (.int (6 : Int32))] [(.int (6 : Int32))]))
    refine GoesW.step (fun _ hr_ => XS.iconst X0.here hx rfl (hb hby d_method_4_code_38) hr_) ?_
    show GoesW p ee below s _ _ _ _ _ (s₁.setTop (mkF m 39 #[.val (.ref a1), .val (.int (6 : Int32))] [(.int (2 : Int32)), (.int (6 : Int32))]))
    refine GoesW.step (fun _ hr_ => XS.icmpYes X0.here hx rfl (pc0 := 39) (pc' := 65) rfl (hb hby d_method_4_code_39) rfl (feq (by decide)).2 (by decide) (by decide) hr_) ?_
    show GoesW p ee below s _ _ _ _ _ (s₁.setTop (mkF m 65 #[.val (.ref a1), .val (.int (6 : Int32))] []))
    refine GoesW.step (fun _ hr_ => XS.iloadN X0.here hx rfl (hb hby d_method_4_code_65) rfl  hr_) ?_
    show GoesW p ee below s _ _ _ _ _ (s₁.setTop (mkF m 66 #[.val (.ref a1), .val (.int (6 : Int32))] [(.int (6 : Int32))]))
    refine GoesW.step (fun _ hr_ => XS.iconst X0.here hx rfl (hb hby d_method_4_code_66) hr_) ?_
    show GoesW p ee below s _ _ _ _ _ (s₁.setTop (mkF m 67 #[.val (.ref a1), .val (.int (6 : Int32))] [(.int (3 : Int32)), (.int (6 : Int32))]))
    refine GoesW.step (fun _ hr_ => XS.icmpYes X0.here hx rfl (pc0 := 67) (pc' := 99) rfl (hb hby d_method_4_code_67) rfl (feq (by decide)).2 (by decide) (by decide) hr_) ?_
    show GoesW p ee below s _ _ _ _ _ (s₁.setTop (mkF m 99 #[.val (.ref a1), .val (.int (6 : Int32))] []))
    refine GoesW.step (fun _ hr_ => XS.iloadN X0.here hx rfl (hb hby d_method_4_code_99) rfl  hr_) ?_
    show GoesW p ee below s _ _ _ _ _ (s₁.setTop (mkF m 100 #[.val (.ref a1), .val (.int (6 : Int32))] [(.int (6 : Int32))]))
    refine GoesW.step (fun _ hr_ => XS.iconst X0.here hx rfl (hb hby d_method_4_code_100) hr_) ?_
    show GoesW p ee below s _ _ _ _ _ (s₁.setTop (mkF m 101 #[.val (.ref a1), .val (.int (6 : Int32))] [(.int (4 : Int32)), (.int (6 : Int32))]))
    refine GoesW.step (fun _ hr_ => XS.icmpYes X0.here hx rfl (pc0 := 101) (pc' := 139) rfl (hb hby d_method_4_code_101) rfl (feq (by decide)).2 (by decide) (by decide) hr_) ?_
    show GoesW p ee below s _ _ _ _ _ (s₁.setTop (mkF m 139 #[.val (.ref a1), .val (.int (6 : Int32))] []))
    refine GoesW.step (fun _ hr_ => XS.iloadN X0.here hx rfl (hb hby d_method_4_code_139) rfl  hr_) ?_
    show GoesW p ee below s _ _ _ _ _ (s₁.setTop (mkF m 140 #[.val (.ref a1), .val (.int (6 : Int32))] [(.int (6 : Int32))]))
    refine GoesW.step (fun _ hr_ => XS.iconst X0.here hx rfl (hb hby d_method_4_code_140) hr_) ?_
    show GoesW p ee below s _ _ _ _ _ (s₁.setTop (mkF m 141 #[.val (.ref a1), .val (.int (6 : Int32))] [(.int (5 : Int32)), (.int (6 : Int32))]))
    refine GoesW.step (fun _ hr_ => XS.icmpYes X0.here hx rfl (pc0 := 141) (pc' := 185) rfl (hb hby d_method_4_code_141) rfl (feq (by decide)).2 (by decide) (by decide) hr_) ?_
    show GoesW p ee below s _ _ _ _ _ (s₁.setTop (mkF m 185 #[.val (.ref a1), .val (.int (6 : Int32))] []))
    obtain ⟨T121, h121, X121, e121, E121, A121, D121, -, st121⟩ := newO X0 hx hZ hown (hw _ (List.mem_of_getElem? (i := 9) rfl)) (hw _ (List.mem_of_getElem? (i := 10) rfl)) (hw _ (List.mem_of_getElem? (i := 11) rfl)) e0 (g := (mkF m 185 #[.val (.ref a1), .val (.int (6 : Int32))] [])) rfl (hb hby d_method_4_code_185) (by decide) (by decide)
    obtain ⟨b121, g_b121⟩ : ∃ z, z = h0.size := ⟨_, rfl⟩
    have ne_a1_b121 : a1 ≠ b121 := Nat.ne_of_lt (Nat.lt_of_lt_of_le A.lt (Nat.le_of_eq g_b121.symm))
    have ge_b121 : n0 ≤ b121 := Nat.le_trans Z0 (Nat.le_of_eq g_b121.symm)
    have sz_b121 : h0.size ≤ b121 := Nat.le_trans K0.1 (Nat.le_of_eq g_b121.symm)
    rw [← g_b121] at A121 D121 st121
    have A := A.ext E121
    have Zp122 := Nat.le_trans Z0 E121.1
    have sf_b121 := Safe.ext E121 C.chv (Safe.new (Nat.le_of_eq g_b121.symm))
    have C := C.ext E121
    have OO := OO.ext E121
    have K123 := K0.ext E121
    refine GoesW.step st121 ?_
    have E_b121 := A121
    have F_value_b121 : Fld Z h121 b121 "java/lang/String" "value" "[B" .null := D121 (Or.inr (hw _ (List.mem_of_getElem? (i := 24) rfl))) (ty := (.array .byte)) (by decide)
    have F_coder_b121 : Fld Z h121 b121 "java/lang/String" "coder" "B" (.int (0 : Int32)) := D121 (Or.inr (hw _ (List.mem_of_getElem? (i := 25) rfl))) (ty := .byte) (by decide)
    show GoesW p ee below s _ _ _ _ _ (T121.setTop (mkF m 188 #[.val (.ref a1), .val (.int (6 : Int32))] [(.ref b121)]))
    refine GoesW.step (fun _ hr_ => XS.dup X121.here hx rfl (hb hby d_method_4_code_188) rfl rfl hr_) ?_
    show GoesW p ee below s _ _ _ _ _ (T121.setTop (mkF m 189 #[.val (.ref a1), .val (.int (6 : Int32))] [(.ref b121), (.ref b121)]))
    refine GoesW.step (fun _ hr_ => XS.bipush X121.here hx rfl (hb hby d_method_4_code_189) hr_) ?_
    show GoesW p ee below s _ _ _ _ _ (T121.setTop (mkF m 191 #[.val (.ref a1), .val (.int (6 : Int32))] [(.int (6 : Int32)), (.ref b121), (.ref b121)]))
    obtain ⟨T124, h124, X124, e124, E124, A124, st124⟩ := own_newP X121 hx hZ (aty := .char) (hw _ (List.mem_of_getElem? (i := 1) rfl)) e121 (z := (6 : Int32)) (by decide) (n := 6) rfl (cap := 6) (Nat.le_refl _) (by decide) (by decide) (by decide) (g := (mkF m 191 #[.val (.ref a1), .val (.int (6 : Int32))] [(.int (6 : Int32)), (.ref b121), (.ref b121)])) rfl rfl (hb hby d_method_4_code_191)
    obtain ⟨b124, g_b124⟩ : ∃ z, z = h121.size := ⟨_, rfl⟩
    have ne_a1_b124 : a1 ≠ b124 := Nat.ne_of_lt (Nat.lt_of_lt_of_le A.lt (Nat.le_of_eq g_b124.symm))
    have ne_b121_b124 : b121 ≠ b124 := Nat.ne_of_lt (Nat.lt_of_lt_of_le E_b121.lt (Nat.le_of_eq g_b124.symm))
    have ge_b124 : n0 ≤ b124 := Nat.le_trans Zp122 (Nat.le_of_eq g_b124.symm)
    have sz_b124 : h0.size ≤ b124 := Nat.le_trans K123.1 (Nat.le_of_eq g_b124.symm)
    rw [← g_b124] at A124 st124
    have A := A.ext E124
    have E_b121 := E_b121.ext E124
    have F_value_b121 := F_value_b121.ext E124
    have F_coder_b121 := F_coder_b121.ext E124
    have Zp125 := Nat.le_trans Zp122 E124.1
    have sf_b121 := Safe.ext E124 C.chv sf_b121
    have sf_b124 := Safe.ext E124 C.chv (Safe.new (Nat.le_of_eq g_b124.symm))
    have C := C.ext E124
    have OO := OO.ext E124
    have K126 := K123.ext E124
    refine GoesW.step st124 ?_
    have A_b124 : OA Z h124 b124 .char 6 (fun _ => (.int 0)) := A124
    show GoesW p ee below s _ _ _ _ _ (T124.setTop (mkF m 193 #[.val (.ref a1), .val (.int (6 : Int32))] [(.ref b124), (.ref b121), (.ref b121)]))
    refine GoesW.step (fun _ hr_ => XS.dup X124.here hx rfl (hb hby d_method_4_code_193) rfl rfl hr_) ?_
    show GoesW p ee below s _ _ _ _ _ (T124.setTop (mkF m 194 #[.val (.ref a1), .val (.int (6 : Int32))] [(.ref b124), (.ref b124), (.ref b121), (.ref b121)]))
    refine GoesW.step (fun _ hr_ => XS.iconst X124.here hx rfl (hb hby d_method_4_code_194) hr_) ?_
    show GoesW p ee below s _ _ _ _ _ (T124.setTop (mkF m 195 #[.val (.ref a1), .val (.int (6 : Int32))] [(.int (0 : Int32)), (.ref b124), (.ref b124), (.ref b121), (.ref b121)]))
    refine GoesW.step (fun _ hr_ => XS.aloadN X124.here hx rfl (hb hby d_method_4_code_195) rfl rfl hr_) ?_
    show GoesW p ee below s _ _ _ _ _ (T124.setTop (mkF m 196 #[.val (.ref a1), .val (.int (6 : Int32))] [(.ref a1), (.int (0 : Int32)), (.ref b124), (.ref b124), (.ref b121), (.ref b121)]))
    refine GoesW.step (fun _ hr_ => XS.iconst X124.here hx rfl (hb hby d_method_4_code_196) hr_) ?_
    show GoesW p ee below s _ _ _ _ _ (T124.setTop (mkF m 197 #[.val (.ref a1), .val (.int (6 : Int32))] [(.int (0 : Int32)), (.ref a1), (.int (0 : Int32)), (.ref b124), (.ref b124), (.ref b121), (.ref b121)]))
    refine GoesW.step (own_caload X124 hx hZ e124 A (j := (0 : Int32)) (by decide) (k := 0) rfl (by decide) (v := (.int (Int32.ofNat (c 0)))) rfl (g := (mkF m 197 #[.val (.ref a1), .val (.int (6 : Int32))] [(.int (0 : Int32)), (.ref a1), (.int (0 : Int32)), (.ref b124), (.ref b124), (.ref b121), (.ref b121)])) rfl rfl (hb hby d_method_4_code_197)) ?_
    show GoesW p ee below s _ _ _ _ _ (T124.setTop (mkF m 198 #[.val (.ref a1), .val (.int (6 : Int32))] [(.int (Int32.ofNat (c 0))), (.int (0 : Int32)), (.ref b124), (.ref b124), (.ref b121), (.ref b121)]))
    obtain ⟨T127, h127, X127, e127, W127, A127, st127⟩ := own_stC X124 hx hZ e124 A_b124 (x := (Int32.ofNat (c 0))) (j := (0 : Int32)) (by decide) (k := 0) rfl (by decide) (g := (mkF m 198 #[.val (.ref a1), .val (.int (6 : Int32))] [(.int (Int32.ofNat (c 0))), (.int (0 : Int32)), (.ref b124), (.ref b124), (.ref b121), (.ref b121)])) rfl rfl (hb hby d_method_4_code_198)
    refine GoesW.step st127 ?_
    have A := A.other W127 ne_a1_b124
    have E_b121 := E_b121.wr W127
    have F_value_b121 := F_value_b121.other W127 (Or.inl ne_b121_b124)
    have F_coder_b121 := F_coder_b121.other W127 (Or.inl ne_b121_b124)
    have Zp128 := Nat.le_trans Zp125 (Keep.of_wr W127).1
    have N129 := Fr.snoc X127 N0 ge_b124
    have sfw := sf_b124
    have sf_b121 := Safe.wr W127 sfw C.chv sf_b121
    have sf_b124 := Safe.wr W127 sfw C.chv sf_b124
    have C := C.wr W127 sfw
    have OO := OO.wr W127 ge_b124
    have K130 := K126.wr W127 (Or.inr sz_b124)
    have A_b124 : OA Z h127 b124 .char 6 (fun i => [(.int (nar .char (Int32.ofNat (c 0)))), (.int 0), (.int 0), (.int 0), (.int 0), (.int 0)].getD i (.int 0)) := A127.congr (fun i hi => by match i, hi with | 0, _ => rfl | 1, _ => rfl | 2, _ => rfl | 3, _ => rfl | 4, _ => rfl | 5, _ => rfl | i + 6, hi => omega)
    show GoesW p ee below s _ _ _ _ _ (T127.setTop (mkF m 199 #[.val (.ref a1), .val (.int (6 : Int32))] [(.ref b124), (.ref b121), (.ref b121)]))
    refine GoesW.step (fun _ hr_ => XS.dup X127.here hx rfl (hb hby d_method_4_code_199) rfl rfl hr_) ?_
    show GoesW p ee below s _ _ _ _ _ (T127.setTop (mkF m 200 #[.val (.ref a1), .val (.int (6 : Int32))] [(.ref b124), (.ref b124), (.ref b121), (.ref b121)]))
    refine GoesW.step (fun _ hr_ => XS.iconst X127.here hx rfl (hb hby d_method_4_code_200) hr_) ?_
    show GoesW p ee below s _ _ _ _ _ (T127.setTop (mkF m 201 #[.val (.ref a1), .val (.int (6 : Int32))] [(.int (1 : Int32)), (.ref b124), (.ref b124), (.ref b121), (.ref b121)]))
    refine GoesW.step (fun _ hr_ => XS.aloadN X127.here hx rfl (hb hby d_method_4_code_201) rfl rfl hr_) ?_
    show GoesW p ee below s _ _ _ _ _ (T127.setTop (mkF m 202 #[.val (.ref a1), .val (.int (6 : Int32))] [(.ref a1), (.int (1 : Int32)), (.ref b124), (.ref b124), (.ref b121), (.ref b121)]))
    refine GoesW.step (fun _ hr_ => XS.iconst X127.here hx rfl (hb hby d_method_4_code_202) hr_) ?_
    show GoesW p ee below s _ _ _ _ _ (T127.setTop (mkF m 203 #[.val (.ref a1), .val (.int (6 : Int32))] [(.int (1 : Int32)), (.ref a1), (.int (1 : Int32)), (.ref b124), (.ref b124), (.ref b121), (.ref b121)]))
    refine GoesW.step (own_caload X127 hx hZ e127 A (j := (1 : Int32)) (by decide) (k := 1) rfl (by decide) (v := (.int (Int32.ofNat (c 1)))) rfl (g := (mkF m 203 #[.val (.ref a1), .val (.int (6 : Int32))] [(.int (1 : Int32)), (.ref a1), (.int (1 : Int32)), (.ref b124), (.ref b124), (.ref b121), (.ref b121)])) rfl rfl (hb hby d_method_4_code_203)) ?_
    show GoesW p ee below s _ _ _ _ _ (T127.setTop (mkF m 204 #[.val (.ref a1), .val (.int (6 : Int32))] [(.int (Int32.ofNat (c 1))), (.int (1 : Int32)), (.ref b124), (.ref b124), (.ref b121), (.ref b121)]))
    obtain ⟨T131, h131, X131, e131, W131, A131, st131⟩ := own_stC X127 hx hZ e127 A_b124 (x := (Int32.ofNat (c 1))) (j := (1 : Int32)) (by decide) (k := 1) rfl (by decide) (g := (mkF m 204 #[.val (.ref a1), .val (.int (6 : Int32))] [(.int (Int32.ofNat (c 1))), (.int (1 : Int32)), (.ref b124), (.ref b124), (.ref b121), (.ref b121)])) rfl rfl (hb hby d_method_4_code_204)
    refine GoesW.step st131 ?_
    have A := A.other W131 ne_a1_b124
    have E_b121 := E_b121.wr W131
    have F_value_b121 := F_value_b121.other W131 (Or.inl ne_b121_b124)
    have F_coder_b121 := F_coder_b121.other W131 (Or.inl ne_b121_b124)
    have Zp132 := Nat.le_trans Zp128 (Keep.of_wr W131).1
    have N133 := Fr.snoc X131 N129 ge_b124
    have sfw := sf_b124
    have sf_b121 := Safe.wr W131 sfw C.chv sf_b121
    have sf_b124 := Safe.wr W131 sfw C.chv sf_b124
    have C := C.wr W131 sfw
    have OO := OO.wr W131 ge_b124
    have K134 := K130.wr W131 (Or.inr sz_b124)
    have A_b124 : OA Z h131 b124 .char 6 (fun i => [(.int (nar .char (Int32.ofNat (c 0)))), (.int (nar .char (Int32.ofNat (c 1)))), (.int 0), (.int 0), (.int 0), (.int 0)].getD i (.int 0)) := A131.congr (fun i hi => by match i, hi with | 0, _ => rfl | 1, _ => rfl | 2, _ => rfl | 3, _ => rfl | 4, _ => rfl | 5, _ => rfl | i + 6, hi => omega)
    show GoesW p ee below s _ _ _ _ _ (T131.setTop (mkF m 205 #[.val (.ref a1), .val (.int (6 : Int32))] [(.ref b124), (.ref b121), (.ref b121)]))
    refine GoesW.step (fun _ hr_ => XS.dup X131.here hx rfl (hb hby d_method_4_code_205) rfl rfl hr_) ?_
    show GoesW p ee below s _ _ _ _ _ (T131.setTop (mkF m 206 #[.val (.ref a1), .val (.int (6 : Int32))] [(.ref b124), (.ref b124), (.ref b121), (.ref b121)]))
    refine GoesW.step (fun _ hr_ => XS.iconst X131.here hx rfl (hb hby d_method_4_code_206) hr_) ?_
    show GoesW p ee below s _ _ _ _ _ (T131.setTop (mkF m 207 #[.val (.ref a1), .val (.int (6 : Int32))] [(.int (2 : Int32)), (.ref b124), (.ref b124), (.ref b121), (.ref b121)]))
    refine GoesW.step (fun _ hr_ => XS.aloadN X131.here hx rfl (hb hby d_method_4_code_207) rfl rfl hr_) ?_
    show GoesW p ee below s _ _ _ _ _ (T131.setTop (mkF m 208 #[.val (.ref a1), .val (.int (6 : Int32))] [(.ref a1), (.int (2 : Int32)), (.ref b124), (.ref b124), (.ref b121), (.ref b121)]))
    refine GoesW.step (fun _ hr_ => XS.iconst X131.here hx rfl (hb hby d_method_4_code_208) hr_) ?_
    show GoesW p ee below s _ _ _ _ _ (T131.setTop (mkF m 209 #[.val (.ref a1), .val (.int (6 : Int32))] [(.int (2 : Int32)), (.ref a1), (.int (2 : Int32)), (.ref b124), (.ref b124), (.ref b121), (.ref b121)]))
    refine GoesW.step (own_caload X131 hx hZ e131 A (j := (2 : Int32)) (by decide) (k := 2) rfl (by decide) (v := (.int (Int32.ofNat (c 2)))) rfl (g := (mkF m 209 #[.val (.ref a1), .val (.int (6 : Int32))] [(.int (2 : Int32)), (.ref a1), (.int (2 : Int32)), (.ref b124), (.ref b124), (.ref b121), (.ref b121)])) rfl rfl (hb hby d_method_4_code_209)) ?_
    show GoesW p ee below s _ _ _ _ _ (T131.setTop (mkF m 210 #[.val (.ref a1), .val (.int (6 : Int32))] [(.int (Int32.ofNat (c 2))), (.int (2 : Int32)), (.ref b124), (.ref b124), (.ref b121), (.ref b121)]))
    obtain ⟨T135, h135, X135, e135, W135, A135, st135⟩ := own_stC X131 hx hZ e131 A_b124 (x := (Int32.ofNat (c 2))) (j := (2 : Int32)) (by decide) (k := 2) rfl (by decide) (g := (mkF m 210 #[.val (.ref a1), .val (.int (6 : Int32))] [(.int (Int32.ofNat (c 2))), (.int (2 : Int32)), (.ref b124), (.ref b124), (.ref b121), (.ref b121)])) rfl rfl (hb hby d_method_4_code_210)
    refine GoesW.step st135 ?_
    have A := A.other W135 ne_a1_b124
    have E_b121 := E_b121.wr W135
    have F_value_b121 := F_value_b121.other W135 (Or.inl ne_b121_b124)
    have F_coder_b121 := F_coder_b121.other W135 (Or.inl ne_b121_b124)
    have Zp136 := Nat.le_trans Zp132 (Keep.of_wr W135).1
    have N137 := Fr.snoc X135 N133 ge_b124
    have sfw := sf_b124
    have sf_b121 := Safe.wr W135 sfw C.chv sf_b121
    have sf_b124 := Safe.wr W135 sfw C.chv sf_b124
    have C := C.wr W135 sfw
    have OO := OO.wr W135 ge_b124
    have K138 := K134.wr W135 (Or.inr sz_b124)
    have A_b124 : OA Z h135 b124 .char 6 (fun i => [(.int (nar .char (Int32.ofNat (c 0)))), (.int (nar .char (Int32.ofNat (c 1)))), (.int (nar .char (Int32.ofNat (c 2)))), (.int 0), (.int 0), (.int 0)].getD i (.int 0)) := A135.congr (fun i hi => by match i, hi with | 0, _ => rfl | 1, _ => rfl | 2, _ => rfl | 3, _ => rfl | 4, _ => rfl | 5, _ => rfl | i + 6, hi => omega)
    show GoesW p ee below s _ _ _ _ _ (T135.setTop (mkF m 211 #[.val (.ref a1), .val (.int (6 : Int32))] [(.ref b124), (.ref b121), (.ref b121)]))
    refine GoesW.step (fun _ hr_ => XS.dup X135.here hx rfl (hb hby d_method_4_code_211) rfl rfl hr_) ?_
    show GoesW p ee below s _ _ _ _ _ (T135.setTop (mkF m 212 #[.val (.ref a1), .val (.int (6 : Int32))] [(.ref b124), (.ref b124), (.ref b121), (.ref b121)]))
    refine GoesW.step (fun _ hr_ => XS.iconst X135.here hx rfl (hb hby d_method_4_code_212) hr_) ?_
    show GoesW p ee below s _ _ _ _ _ (T135.setTop (mkF m 213 #[.val (.ref a1), .val (.int (6 : Int32))] [(.int (3 : Int32)), (.ref b124), (.ref b124), (.ref b121), (.ref b121)]))
    refine GoesW.step (fun _ hr_ => XS.aloadN X135.here hx rfl (hb hby d_method_4_code_213) rfl rfl hr_) ?_
    show GoesW p ee below s _ _ _ _ _ (T135.setTop (mkF m 214 #[.val (.ref a1), .val (.int (6 : Int32))] [(.ref a1), (.int (3 : Int32)), (.ref b124), (.ref b124), (.ref b121), (.ref b121)]))
    refine GoesW.step (fun _ hr_ => XS.iconst X135.here hx rfl (hb hby d_method_4_code_214) hr_) ?_
    show GoesW p ee below s _ _ _ _ _ (T135.setTop (mkF m 215 #[.val (.ref a1), .val (.int (6 : Int32))] [(.int (3 : Int32)), (.ref a1), (.int (3 : Int32)), (.ref b124), (.ref b124), (.ref b121), (.ref b121)]))
    refine GoesW.step (own_caload X135 hx hZ e135 A (j := (3 : Int32)) (by decide) (k := 3) rfl (by decide) (v := (.int (Int32.ofNat (c 3)))) rfl (g := (mkF m 215 #[.val (.ref a1), .val (.int (6 : Int32))] [(.int (3 : Int32)), (.ref a1), (.int (3 : Int32)), (.ref b124), (.ref b124), (.ref b121), (.ref b121)])) rfl rfl (hb hby d_method_4_code_215)) ?_
    show GoesW p ee below s _ _ _ _ _ (T135.setTop (mkF m 216 #[.val (.ref a1), .val (.int (6 : Int32))] [(.int (Int32.ofNat (c 3))), (.int (3 : Int32)), (.ref b124), (.ref b124), (.ref b121), (.ref b121)]))
    obtain ⟨T139, h139, X139, e139, W139, A139, st139⟩ := own_stC X135 hx hZ e135 A_b124 (x := (Int32.ofNat (c 3))) (j := (3 : Int32)) (by decide) (k := 3) rfl (by decide) (g := (mkF m 216 #[.val (.ref a1), .val (.int (6 : Int32))] [(.int (Int32.ofNat (c 3))), (.int (3 : Int32)), (.ref b124), (.ref b124), (.ref b121), (.ref b121)])) rfl rfl (hb hby d_method_4_code_216)
    refine GoesW.step st139 ?_
    have A := A.other W139 ne_a1_b124
    have E_b121 := E_b121.wr W139
    have F_value_b121 := F_value_b121.other W139 (Or.inl ne_b121_b124)
    have F_coder_b121 := F_coder_b121.other W139 (Or.inl ne_b121_b124)
    have Zp140 := Nat.le_trans Zp136 (Keep.of_wr W139).1
    have N141 := Fr.snoc X139 N137 ge_b124
    have sfw := sf_b124
    have sf_b121 := Safe.wr W139 sfw C.chv sf_b121
    have sf_b124 := Safe.wr W139 sfw C.chv sf_b124
    have C := C.wr W139 sfw
    have OO := OO.wr W139 ge_b124
    have K142 := K138.wr W139 (Or.inr sz_b124)
    have A_b124 : OA Z h139 b124 .char 6 (fun i => [(.int (nar .char (Int32.ofNat (c 0)))), (.int (nar .char (Int32.ofNat (c 1)))), (.int (nar .char (Int32.ofNat (c 2)))), (.int (nar .char (Int32.ofNat (c 3)))), (.int 0), (.int 0)].getD i (.int 0)) := A139.congr (fun i hi => by match i, hi with | 0, _ => rfl | 1, _ => rfl | 2, _ => rfl | 3, _ => rfl | 4, _ => rfl | 5, _ => rfl | i + 6, hi => omega)
    show GoesW p ee below s _ _ _ _ _ (T139.setTop (mkF m 217 #[.val (.ref a1), .val (.int (6 : Int32))] [(.ref b124), (.ref b121), (.ref b121)]))
    refine GoesW.step (fun _ hr_ => XS.dup X139.here hx rfl (hb hby d_method_4_code_217) rfl rfl hr_) ?_
    show GoesW p ee below s _ _ _ _ _ (T139.setTop (mkF m 218 #[.val (.ref a1), .val (.int (6 : Int32))] [(.ref b124), (.ref b124), (.ref b121), (.ref b121)]))
    refine GoesW.step (fun _ hr_ => XS.iconst X139.here hx rfl (hb hby d_method_4_code_218) hr_) ?_
    show GoesW p ee below s _ _ _ _ _ (T139.setTop (mkF m 219 #[.val (.ref a1), .val (.int (6 : Int32))] [(.int (4 : Int32)), (.ref b124), (.ref b124), (.ref b121), (.ref b121)]))
    refine GoesW.step (fun _ hr_ => XS.aloadN X139.here hx rfl (hb hby d_method_4_code_219) rfl rfl hr_) ?_
    show GoesW p ee below s _ _ _ _ _ (T139.setTop (mkF m 220 #[.val (.ref a1), .val (.int (6 : Int32))] [(.ref a1), (.int (4 : Int32)), (.ref b124), (.ref b124), (.ref b121), (.ref b121)]))
    refine GoesW.step (fun _ hr_ => XS.iconst X139.here hx rfl (hb hby d_method_4_code_220) hr_) ?_
    show GoesW p ee below s _ _ _ _ _ (T139.setTop (mkF m 221 #[.val (.ref a1), .val (.int (6 : Int32))] [(.int (4 : Int32)), (.ref a1), (.int (4 : Int32)), (.ref b124), (.ref b124), (.ref b121), (.ref b121)]))
    refine GoesW.step (own_caload X139 hx hZ e139 A (j := (4 : Int32)) (by decide) (k := 4) rfl (by decide) (v := (.int (Int32.ofNat (c 4)))) rfl (g := (mkF m 221 #[.val (.ref a1), .val (.int (6 : Int32))] [(.int (4 : Int32)), (.ref a1), (.int (4 : Int32)), (.ref b124), (.ref b124), (.ref b121), (.ref b121)])) rfl rfl (hb hby d_method_4_code_221)) ?_
    show GoesW p ee below s _ _ _ _ _ (T139.setTop (mkF m 222 #[.val (.ref a1), .val (.int (6 : Int32))] [(.int (Int32.ofNat (c 4))), (.int (4 : Int32)), (.ref b124), (.ref b124), (.ref b121), (.ref b121)]))
    obtain ⟨T143, h143, X143, e143, W143, A143, st143⟩ := own_stC X139 hx hZ e139 A_b124 (x := (Int32.ofNat (c 4))) (j := (4 : Int32)) (by decide) (k := 4) rfl (by decide) (g := (mkF m 222 #[.val (.ref a1), .val (.int (6 : Int32))] [(.int (Int32.ofNat (c 4))), (.int (4 : Int32)), (.ref b124), (.ref b124), (.ref b121), (.ref b121)])) rfl rfl (hb hby d_method_4_code_222)
    refine GoesW.step st143 ?_
    have A := A.other W143 ne_a1_b124
    have E_b121 := E_b121.wr W143
    have F_value_b121 := F_value_b121.other W143 (Or.inl ne_b121_b124)
    have F_coder_b121 := F_coder_b121.other W143 (Or.inl ne_b121_b124)
    have Zp144 := Nat.le_trans Zp140 (Keep.of_wr W143).1
    have N145 := Fr.snoc X143 N141 ge_b124
    have sfw := sf_b124
    have sf_b121 := Safe.wr W143 sfw C.chv sf_b121
    have sf_b124 := Safe.wr W143 sfw C.chv sf_b124
    have C := C.wr W143 sfw
    have OO := OO.wr W143 ge_b124
    have K146 := K142.wr W143 (Or.inr sz_b124)
    have A_b124 : OA Z h143 b124 .char 6 (fun i => [(.int (nar .char (Int32.ofNat (c 0)))), (.int (nar .char (Int32.ofNat (c 1)))), (.int (nar .char (Int32.ofNat (c 2)))), (.int (nar .char (Int32.ofNat (c 3)))), (.int (nar .char (Int32.ofNat (c 4)))), (.int 0)].getD i (.int 0)) := A143.congr (fun i hi => by match i, hi with | 0, _ => rfl | 1, _ => rfl | 2, _ => rfl | 3, _ => rfl | 4, _ => rfl | 5, _ => rfl | i + 6, hi => omega)
    show GoesW p ee below s _ _ _ _ _ (T143.setTop (mkF m 223 #[.val (.ref a1), .val (.int (6 : Int32))] [(.ref b124), (.ref b121), (.ref b121)]))
    refine GoesW.step (fun _ hr_ => XS.dup X143.here hx rfl (hb hby d_method_4_code_223) rfl rfl hr_) ?_
    show GoesW p ee below s _ _ _ _ _ (T143.setTop (mkF m 224 #[.val (.ref a1), .val (.int (6 : Int32))] [(.ref b124), (.ref b124), (.ref b121), (.ref b121)]))
    refine GoesW.step (fun _ hr_ => XS.iconst X143.here hx rfl (hb hby d_method_4_code_224) hr_) ?_
    show GoesW p ee below s _ _ _ _ _ (T143.setTop (mkF m 225 #[.val (.ref a1), .val (.int (6 : Int32))] [(.int (5 : Int32)), (.ref b124), (.ref b124), (.ref b121), (.ref b121)]))
    refine GoesW.step (fun _ hr_ => XS.aloadN X143.here hx rfl (hb hby d_method_4_code_225) rfl rfl hr_) ?_
    show GoesW p ee below s _ _ _ _ _ (T143.setTop (mkF m 226 #[.val (.ref a1), .val (.int (6 : Int32))] [(.ref a1), (.int (5 : Int32)), (.ref b124), (.ref b124), (.ref b121), (.ref b121)]))
    refine GoesW.step (fun _ hr_ => XS.iconst X143.here hx rfl (hb hby d_method_4_code_226) hr_) ?_
    show GoesW p ee below s _ _ _ _ _ (T143.setTop (mkF m 227 #[.val (.ref a1), .val (.int (6 : Int32))] [(.int (5 : Int32)), (.ref a1), (.int (5 : Int32)), (.ref b124), (.ref b124), (.ref b121), (.ref b121)]))
    refine GoesW.step (own_caload X143 hx hZ e143 A (j := (5 : Int32)) (by decide) (k := 5) rfl (by decide) (v := (.int (Int32.ofNat (c 5)))) rfl (g := (mkF m 227 #[.val (.ref a1), .val (.int (6 : Int32))] [(.int (5 : Int32)), (.ref a1), (.int (5 : Int32)), (.ref b124), (.ref b124), (.ref b121), (.ref b121)])) rfl rfl (hb hby d_method_4_code_227)) ?_
    show GoesW p ee below s _ _ _ _ _ (T143.setTop (mkF m 228 #[.val (.ref a1), .val (.int (6 : Int32))] [(.int (Int32.ofNat (c 5))), (.int (5 : Int32)), (.ref b124), (.ref b124), (.ref b121), (.ref b121)]))
    obtain ⟨T147, h147, X147, e147, W147, A147, st147⟩ := own_stC X143 hx hZ e143 A_b124 (x := (Int32.ofNat (c 5))) (j := (5 : Int32)) (by decide) (k := 5) rfl (by decide) (g := (mkF m 228 #[.val (.ref a1), .val (.int (6 : Int32))] [(.int (Int32.ofNat (c 5))), (.int (5 : Int32)), (.ref b124), (.ref b124), (.ref b121), (.ref b121)])) rfl rfl (hb hby d_method_4_code_228)
    refine GoesW.step st147 ?_
    have A := A.other W147 ne_a1_b124
    have E_b121 := E_b121.wr W147
    have F_value_b121 := F_value_b121.other W147 (Or.inl ne_b121_b124)
    have F_coder_b121 := F_coder_b121.other W147 (Or.inl ne_b121_b124)
    have Zp148 := Nat.le_trans Zp144 (Keep.of_wr W147).1
    have N149 := Fr.snoc X147 N145 ge_b124
    have sfw := sf_b124
    have sf_b121 := Safe.wr W147 sfw C.chv sf_b121
    have sf_b124 := Safe.wr W147 sfw C.chv sf_b124
    have C := C.wr W147 sfw
    have OO := OO.wr W147 ge_b124
    have K150 := K146.wr W147 (Or.inr sz_b124)
    have A_b124 : OA Z h147 b124 .char 6 (fun i => [(.int (nar .char (Int32.ofNat (c 0)))), (.int (nar .char (Int32.ofNat (c 1)))), (.int (nar .char (Int32.ofNat (c 2)))), (.int (nar .char (Int32.ofNat (c 3)))), (.int (nar .char (Int32.ofNat (c 4)))), (.int (nar .char (Int32.ofNat (c 5))))].getD i (.int 0)) := A147.congr (fun i hi => by match i, hi with | 0, _ => rfl | 1, _ => rfl | 2, _ => rfl | 3, _ => rfl | 4, _ => rfl | 5, _ => rfl | i + 6, hi => omega)
    show GoesW p ee below s _ _ _ _ _ (T147.setTop (mkF m 229 #[.val (.ref a1), .val (.int (6 : Int32))] [(.ref b124), (.ref b121), (.ref b121)]))
    have A_b124 : OA Z h147 b124 .char 6 (fun i => .int (Int32.ofNat (c i))) := A_b124.congr (fun i hi => by match i, hi with | 0, _ => exact congrArg Value.int (own_charnar (c 0) (hc 0 (by decide))) | 1, _ => exact congrArg Value.int (own_charnar (c 1) (hc 1 (by decide))) | 2, _ => exact congrArg Value.int (own_charnar (c 2) (hc 2 (by decide))) | 3, _ => exact congrArg Value.int (own_charnar (c 3) (hc 3 (by decide))) | 4, _ => exact congrArg Value.int (own_charnar (c 4) (hc 4 (by decide))) | 5, _ => exact congrArg Value.int (own_charnar (c 5) (hc 5 (by decide))) | i + 6, hi => omega)
    have lt_a1 := A.lt
    have lt_b121 := E_b121.lt
    have lt_b124 := A_b124.lt
    obtain ⟨v151, T151, L151, X151, hQ151, st151⟩ := own_callN X147 hx hZ (y := (⟨"java/lang/String", "<init>", "([C)V"⟩ : MethodName)) rfl hown (hw _ (List.mem_of_getElem? (i := 12) rfl)) (hw _ (List.mem_of_getElem? (i := 13) rfl)) (hw _ (List.mem_of_getElem? (i := 11) rfl)) (hw _ (List.mem_of_getElem? (i := 14) rfl)) (by decide) (a := b121) (argsL := [(.ref b124)]) (rm_sin1 l Z a0 hw [] cs fm b121 b124 6 c _ _ h147 n0 Zp148 ST OO (by decide) (by decide) (fun j hj => hc j (by omega)) ge_b121 ne_b121_b124 E_b121 F_value_b121 F_coder_b121 A_b124) e147 (W := 1) (by decide) (by decide) (by decide) (by decide) (g := (mkF m 229 #[.val (.ref a1), .val (.int (6 : Int32))] [(.ref b124), (.ref b121), (.ref b121)])) rfl (by rw [hml]; rfl) (rest := [(.ref b121)]) (lenOf pd_17 rfl) rfl (by show 2 * 0 + _ ≤ _; exact Nat.le_of_eq rfl) (hb hby d_method_4_code_229)
    refine GoesW.step st151 ?_
    obtain ⟨rfl, N151, Kc151, b151, u, sz151, Ei151, Fv151, Fc151, A_b151, hlu, hlu2⟩ := hQ151
    have N152 := Fr.app N149 N151
    obtain ⟨h151, e151⟩ : ∃ h', T151.heap = h' := ⟨_, rfl⟩
    rw [e151] at Kc151 Ei151 Fv151 Fc151 A_b151
    have A := A.keep Kc151 (ninS ne_a1_b121 nin0)
    have A_b124 := A_b124.keep Kc151 (ninS (Ne.symm ne_b121_b124) nin0)
    have hsk := (sfS sf_b121 sf0)
    have sf_b121 := Safe.keep Kc151 hsk C.chv sf_b121
    have sf_b124 := Safe.keep Kc151 hsk C.chv sf_b124
    have C := C.keep Kc151 hsk
    have OO := OO.keep Kc151 (allS ge_b121 all0)
    have K153 := K150.trans Kc151 (allS (Or.inr sz_b121) all0)
    have Zp154 := Nat.le_trans Zp148 Kc151.1
    have ge_b151 : n0 ≤ b151 := Nat.le_trans Zp148 sz151
    have sz_b151 : h0.size ≤ b151 := Nat.le_trans K150.1 sz151
    have ne_a1_b151 : a1 ≠ b151 := Nat.ne_of_lt (Nat.lt_of_lt_of_le lt_a1 sz151)
    have ne_b121_b151 : b121 ≠ b151 := Nat.ne_of_lt (Nat.lt_of_lt_of_le lt_b121 sz151)
    have ne_b124_b151 : b124 ≠ b151 := Nat.ne_of_lt (Nat.lt_of_lt_of_le lt_b124 sz151)
    show GoesW p ee below s _ _ _ _ _ (T151.setTop (mkF m 232 #[.val (.ref a1), .val (.int (6 : Int32))] [(.ref b121)]))
    refine GoesW.retA X151 hx hZ hEL C e151 Bd.notSynchronized Bd.returns rfl rfl (hb hby d_method_4_code_232) (by decide) (by decide) ?_
    rw [e151]
    exact ⟨b121, b151, u, rfl, N152, K153, Ei151, Fv151, Fc151, A_b151, hlu⟩
theorem own_two {D : Nat → Prop} [∀ i, Decidable (D i)] : ((if D 0 then 1 else 0) + (if D 1 then 1 else 0) + (if D 2 then 1 else 0) + (if D 3 then 1 else 0) + (if D 4 then 1 else 0) + (if D 5 then 1 else 0) : Nat) ≤ 1 ↔ ∀ i j, i < 6 → j < 6 → D i → D j → i = j := by
  constructor
  · intro h i j hi hj di dj
    refine Decidable.byContradiction fun ne => ?_
    have key : ∀ a b : Nat, a < 6 → b < 6 → a < b → D a → D b → False := by
      intro a b ha hb hab da db
      have : (a = 0 ∨ a = 1 ∨ a = 2 ∨ a = 3 ∨ a = 4) ∧ (b = 1 ∨ b = 2 ∨ b = 3 ∨ b = 4 ∨ b = 5) := by omega
      obtain ⟨ea, eb⟩ := this
      rcases ea with rfl | rfl | rfl | rfl | rfl <;> rcases eb with rfl | rfl | rfl | rfl | rfl <;> first | omega | (rw [if_pos da, if_pos db] at h; omega)
    rcases Nat.lt_or_gt_of_ne ne with q | q
    · exact key i j hi hj q di dj
    · exact key j i hj hi q dj di
  · intro h
    have e : ∀ i, i < 6 → D i → ∀ j, j < 6 → j ≠ i → ¬ D j := fun i hi di j hj ne dj => ne (h j i hj hi dj di)
    by_cases d0 : D 0
    · have := e 0 (by decide) d0
      rw [if_pos d0, if_neg (this 1 (by decide) (by decide)), if_neg (this 2 (by decide) (by decide)), if_neg (this 3 (by decide) (by decide)), if_neg (this 4 (by decide) (by decide)), if_neg (this 5 (by decide) (by decide))]; decide
    · by_cases d1 : D 1
      · have := e 1 (by decide) d1
        rw [if_neg d0, if_pos d1, if_neg (this 2 (by decide) (by decide)), if_neg (this 3 (by decide) (by decide)), if_neg (this 4 (by decide) (by decide)), if_neg (this 5 (by decide) (by decide))]; decide
      · by_cases d2 : D 2
        · have := e 2 (by decide) d2
          rw [if_neg d0, if_neg d1, if_pos d2, if_neg (this 3 (by decide) (by decide)), if_neg (this 4 (by decide) (by decide)), if_neg (this 5 (by decide) (by decide))]; decide
        · by_cases d3 : D 3
          · have := e 3 (by decide) d3
            rw [if_neg d0, if_neg d1, if_neg d2, if_pos d3, if_neg (this 4 (by decide) (by decide)), if_neg (this 5 (by decide) (by decide))]; decide
          · rw [if_neg d0, if_neg d1, if_neg d2, if_neg d3]
            by_cases d4 : D 4
            · rw [if_pos d4, if_neg (e 4 (by decide) d4 5 (by decide) (by decide))]; decide
            · rw [if_neg d4]; split <;> decide
def own_ok (n : Nat) (c : Nat → Nat) (k : Nat) : Prop := ∀ i, i < 6 → (i < k ∨ n ≤ i ∨ own_dig (c i) ∨ c i = 46)
theorem own_fin (n : Nat) (c : Nat → Nat) (k : Nat) (hn : n ≤ 6) (hk : k < n) : own_PD n c k ↔ own_ok n c k ∧ (∀ i j, i < 6 → j < 6 → (k ≤ i ∧ i < n ∧ c i = 46) → (k ≤ j ∧ j < n ∧ c j = 46) → i = j) ∧ c k ≠ 46 ∧ c (n - 1) ≠ 46 := by
  constructor
  · rintro ⟨j, h1, h2, h3, h4⟩
    rcases h4 with rfl | ⟨h4, h5, h6⟩
    · refine ⟨fun i hi => ?_, fun i i' hi hi' a b => ?_, ?_, ?_⟩
      · by_cases q : i < k
        · exact Or.inl q
        · by_cases q2 : i < j
          · exact Or.inr (Or.inr (Or.inl (h3 i (by omega) q2)))
          · exact Or.inr (Or.inl (by omega))
      · have := h3 i a.1 a.2.1; omega
      · have := h3 k (Nat.le_refl _) h1; omega
      · have := h3 (j - 1) (by omega) (by omega); omega
    · have all : ∀ i, k ≤ i → i < n → i ≠ j → own_dig (c i) := fun i q1 q2 q3 => by
        by_cases q : i < j
        · exact h3 i q1 q
        · exact h6 i (by omega) q2
      refine ⟨fun i hi => ?_, fun i i' hi hi' a b => ?_, ?_, ?_⟩
      · by_cases q : i < k
        · exact Or.inl q
        · by_cases q2 : i < n
          · by_cases q3 : i = j
            · subst q3; exact Or.inr (Or.inr (Or.inr h4))
            · exact Or.inr (Or.inr (Or.inl (all i (by omega) q2 q3)))
          · exact Or.inr (Or.inl (by omega))
      · have e1 : i = j := Decidable.byContradiction fun q => by have := all i a.1 a.2.1 q; omega
        have e2 : i' = j := Decidable.byContradiction fun q => by have := all i' b.1 b.2.1 q; omega
        omega
      · have := h3 k (Nat.le_refl _) h1; omega
      · have := all (n - 1) (by omega) (by omega) (by omega); omega
  · rintro ⟨h1, h2, h3, h4⟩
    by_cases q : ∃ j, k ≤ j ∧ j < n ∧ c j = 46
    · obtain ⟨j, q1, q2, q3⟩ := q
      have all : ∀ i, k ≤ i → i < n → i ≠ j → own_dig (c i) := fun i p1 p2 p3 => by
        rcases h1 i (by omega) with a | a | a | a
        · omega
        · omega
        · exact a
        · exact absurd (h2 i j (by omega) (by omega) ⟨p1, p2, a⟩ ⟨q1, q2, q3⟩) p3
      have ejk : j ≠ k := fun e => h3 (e ▸ q3)
      have ejn : j ≠ n - 1 := fun e => h4 (e ▸ q3)
      exact ⟨j, by omega, by omega, fun i a b => all i a (by omega) (by omega), Or.inr ⟨q3, by omega, fun i a b => all i (by omega) b (by omega)⟩⟩
    · refine ⟨n, hk, Nat.le_refl _, fun i a b => ?_, Or.inl rfl⟩
      rcases h1 i (by omega) with z | z | z | z
      · omega
      · omega
      · exact z
      · exact absurd ⟨i, a, b, z⟩ q
theorem own_fin0 (n : Nat) (c : Nat → Nat) (k : Nat) (hk : ¬ k < n) : ¬ own_PD n c k := by
  rintro ⟨j, h1, h2, -⟩
  omega
theorem ef_law (m : MethodId) (x0 : Int32) (x1 : Int32) (x2 : Int32) (x3 : Int32) (x4 : Int32) (x5 : Int64) : entryFrame m #[(.int x0), (.int x1), (.int x2), (.int x3), (.int x4), (.long x5)] maxLocals = mkF m 0 #[.val (.int x0), .val (.int x1), .val (.int x2), .val (.int x3), .val (.int x4), .val (.long x5), .second, .unset, .unset, .unset, .unset, .unset, .unset, .unset, .unset] [] := by first | (simp [entryFrame, mkF, argsToLocals, Value.category, maxLocals]; done) | rfl
theorem pd_18 : parseMethodDescriptor "([CI)Ljava/lang/String;" = some ⟨[(.array .char), .int], some (.object "java/lang/String")⟩ := by decide +kernel
theorem pd_19 : parseMethodDescriptor "(Ljava/lang/CharSequence;)Z" = some ⟨[(.object "java/lang/CharSequence")], some .boolean⟩ := by decide +kernel
theorem pd_20 : parseMethodDescriptor "([CIII)I" = some ⟨[(.array .char), .int, .int, .int], some .int⟩ := by decide +kernel
theorem pd_21 : parseMethodDescriptor "([CIII)Z" = some ⟨[(.array .char), .int, .int, .int], some .boolean⟩ := by decide +kernel
def Q_law (Z : State) (p1 p2 p3 p4 p5 : Int32) (p6 : Int64) (cs : Int32) (fm : Value) (h0 : Heap) (n0 : Nat) (v : Option Value) (h : Heap) (L : List Loc) : Prop := v = some (.int 1) ∧ Fr n0 L
set_option maxRecDepth 65536 in
set_option maxHeartbeats 40000000 in
theorem rm_law (l : Launch) (Z : State) (a0 : Array Value) (hw : ∀ d ∈ tables_1, d.before a0 Z = true) (ws : List Jvm.Cond) (p1 p2 p3 p4 p5 : Int32) (p6 : Int64) (cs : Int32) (fm : Value) (h0 : Heap) (n0 : Nat) (Z0 : n0 ≤ h0.size) (ST : own_ST Z cs fm) (OO : Old Z n0 h0)  :
    MetFree l x (head1 (Jvm.Cond.code x code maxLocals ret :: ws) room_1) (fun a U => a = #[(.int p1), (.int p2), (.int p3), (.int p4), (.int p5), (.long p6)] ∧ Z.Warmed39 U.vm ∧ U.heap = h0 ∧ CHv Z consts_1 U.vm h0 ∧ ∀ x ∈ ([] : List Addr), Safe Z consts_1 U.vm h0 x) (fun _ _ _ _ _ => True) (fun _ U o U' => ∃ v L, o = .returned v ∧ Q_law Z p1 p2 p3 p4 p5 p6 cs fm h0 n0 v U'.heap L ∧ CHr Z consts_1 U.vm U.heap U'.vm U'.heap ∧ ReturnedEndW U o U' L room_1.cells room_1.slots) := by
  refine MetFree.of_bodySF (plainFor_of_name pn_com_example_strikeshift_strikeshift_formats_TextValuesIsPlainDecimalPinLaw) hisR ?_
  intro p ee s m args below meth cc s₁ Bd hml0 hP hK
  obtain ⟨rfl, hZ, hh, H, hsf⟩ := hP
  have hx := Bd.exec
  have hby := Bd.bytes
  have hml : cc.maxLocals = 15 := hml0
  have hown : (s.setVm s.vm).vm.findClass "com/example/strikeshift/strikeshift/formats/TextValuesIsPlainDecimalPinLaw" = some m.cls := findClass_of_methodNamed Bd.named
  have hnm := (name_of_methodNamed Bd.named Bd.method).1
  have X0 : Stand p l ee room_1 (s.setVm s.vm) m #[(.int p1), (.int p2), (.int p3), (.int p4), (.int p5), (.long p6)] below meth cc s₁ [] 0 0 := Stand.of_body Bd
  have e0 : s₁.heap = h0 := by rw [← hh, Bd.state]; rfl
  have N0 := Fr.nil n0
  have hEL := own_EW hw
  have hZ : Z.Warmed39 (s.setVm s.vm).vm := hZ
  have C : Cold Z consts_1 s s.vm h0 := by rw [← hh]; exact Cold.start (by rw [hh]; exact H)
  show GoesW p ee below s room_1.cells room_1.slots Z consts_1 (Q_law Z p1 p2 p3 p4 p5 p6 cs fm h0 n0) (s₁.setTop (entryFrame m #[(.int p1), (.int p2), (.int p3), (.int p4), (.int p5), (.long p6)] maxLocals))
  refine GoesW.step (fun _ hr_ => castTop (ef_law m p1 p2 p3 p4 p5 p6) hr_) ?_
  show GoesW p ee below s _ _ _ _ _ (s₁.setTop (mkF m 0 #[.val (.int p1), .val (.int p2), .val (.int p3), .val (.int p4), .val (.int p5), .val (.long p6), .second, .unset, .unset, .unset, .unset, .unset, .unset, .unset, .unset] []))
  refine GoesW.step (fun _ hr_ => XS.iloadN X0.here hx rfl (hb hby at_0) rfl  hr_) ?_
  show GoesW p ee below s _ _ _ _ _ (s₁.setTop (mkF m 1 #[.val (.int p1), .val (.int p2), .val (.int p3), .val (.int p4), .val (.int p5), .val (.long p6), .second, .unset, .unset, .unset, .unset, .unset, .unset, .unset, .unset] [(.int p1)]))
  refine GoesW.step (X0.ldcInt hx hown (mvT hZ (hw _ (List.mem_of_getElem? (i := 0) rfl))) (g := (mkF m 1 #[.val (.int p1), .val (.int p2), .val (.int p3), .val (.int p4), .val (.int p5), .val (.long p6), .second, .unset, .unset, .unset, .unset, .unset, .unset, .unset, .unset] [(.int p1)])) rfl (hb hby at_1)) ?_
  show GoesW p ee below s _ _ _ _ _ (s₁.setTop (mkF m 3 #[.val (.int p1), .val (.int p2), .val (.int p3), .val (.int p4), .val (.int p5), .val (.long p6), .second, .unset, .unset, .unset, .unset, .unset, .unset, .unset, .unset] [(.int (2147483647 : Int32)), (.int p1)]))
  refine GoesW.step (fun _ hr_ => XS.iand X0.here hx rfl (hb hby at_3) rfl hr_) ?_
  show GoesW p ee below s _ _ _ _ _ (s₁.setTop (mkF m 4 #[.val (.int p1), .val (.int p2), .val (.int p3), .val (.int p4), .val (.int p5), .val (.long p6), .second, .unset, .unset, .unset, .unset, .unset, .unset, .unset, .unset] [(.int (p1 &&& (2147483647 : Int32)))]))
  refine GoesW.step (fun _ hr_ => XS.bipush X0.here hx rfl (hb hby at_4) hr_) ?_
  show GoesW p ee below s _ _ _ _ _ (s₁.setTop (mkF m 6 #[.val (.int p1), .val (.int p2), .val (.int p3), .val (.int p4), .val (.int p5), .val (.long p6), .second, .unset, .unset, .unset, .unset, .unset, .unset, .unset, .unset] [(.int (7 : Int32)), (.int (p1 &&& (2147483647 : Int32)))]))
  refine GoesW.step (fun _ hr_ => iremM (g := (mkF m 6 #[.val (.int p1), .val (.int p2), .val (.int p3), .val (.int p4), .val (.int p5), .val (.long p6), .second, .unset, .unset, .unset, .unset, .unset, .unset, .unset, .unset] [(.int (7 : Int32)), (.int (p1 &&& (2147483647 : Int32)))])) X0 hx rfl (hb hby at_6) rfl (by decide) hr_) ?_
  show GoesW p ee below s _ _ _ _ _ (s₁.setTop (mkF m 7 #[.val (.int p1), .val (.int p2), .val (.int p3), .val (.int p4), .val (.int p5), .val (.long p6), .second, .unset, .unset, .unset, .unset, .unset, .unset, .unset, .unset] [(.int ((p1 &&& (2147483647 : Int32)) % (7 : Int32)))]))
  obtain ⟨n, hn7, hne⟩ := own_small p1 7 (by decide) (by decide)
  have hn : n ≤ 6 := by omega
  rw [show (p1 &&& (2147483647 : Int32)) % (7 : Int32) = Int32.ofNat n from hne]
  show GoesW p ee below s _ _ _ _ _ (s₁.setTop (mkF m 7 #[.val (.int p1), .val (.int p2), .val (.int p3), .val (.int p4), .val (.int p5), .val (.long p6), .second, .unset, .unset, .unset, .unset, .unset, .unset, .unset, .unset] [(.int (Int32.ofNat n))]))
  refine GoesW.step (fun _ hr_ => XS.istore X0.here hx rfl (hb hby at_7) rfl  (l' := #[.val (.int p1), .val (.int p2), .val (.int p3), .val (.int p4), .val (.int p5), .val (.long p6), .second, .val (.int (Int32.ofNat n)), .unset, .unset, .unset, .unset, .unset, .unset, .unset]) rfl hr_) ?_
  show GoesW p ee below s _ _ _ _ _ (s₁.setTop (mkF m 9 #[.val (.int p1), .val (.int p2), .val (.int p3), .val (.int p4), .val (.int p5), .val (.long p6), .second, .val (.int (Int32.ofNat n)), .unset, .unset, .unset, .unset, .unset, .unset, .unset] []))
  refine GoesW.step (fun _ hr_ => XS.bipush X0.here hx rfl (hb hby at_9) hr_) ?_
  show GoesW p ee below s _ _ _ _ _ (s₁.setTop (mkF m 11 #[.val (.int p1), .val (.int p2), .val (.int p3), .val (.int p4), .val (.int p5), .val (.long p6), .second, .val (.int (Int32.ofNat n)), .unset, .unset, .unset, .unset, .unset, .unset, .unset] [(.int (6 : Int32))]))
  obtain ⟨T1, h1, X1, e1, E1, A1, st1⟩ := own_newP X0 hx hZ (aty := .char) (hw _ (List.mem_of_getElem? (i := 1) rfl)) e0 (z := (6 : Int32)) (by decide) (n := 6) rfl (cap := 6) (Nat.le_refl _) (by decide) (by decide) (by decide) (g := (mkF m 11 #[.val (.int p1), .val (.int p2), .val (.int p3), .val (.int p4), .val (.int p5), .val (.long p6), .second, .val (.int (Int32.ofNat n)), .unset, .unset, .unset, .unset, .unset, .unset, .unset] [(.int (6 : Int32))])) rfl rfl (hb hby at_11)
  obtain ⟨b1, g_b1⟩ : ∃ z, z = h0.size := ⟨_, rfl⟩
  have ge_b1 : n0 ≤ b1 := Nat.le_trans Z0 (Nat.le_of_eq g_b1.symm)
  rw [← g_b1] at A1 st1
  have Zp2 := Nat.le_trans Z0 E1.1
  have sf_b1 := Safe.ext E1 C.chv (Safe.new (Nat.le_of_eq g_b1.symm))
  have C := C.ext E1
  have OO := OO.ext E1
  refine GoesW.step st1 ?_
  have A_b1 : OA Z h1 b1 .char 6 (fun _ => (.int 0)) := A1
  show GoesW p ee below s _ _ _ _ _ (T1.setTop (mkF m 13 #[.val (.int p1), .val (.int p2), .val (.int p3), .val (.int p4), .val (.int p5), .val (.long p6), .second, .val (.int (Int32.ofNat n)), .unset, .unset, .unset, .unset, .unset, .unset, .unset] [(.ref b1)]))
  refine GoesW.step (fun _ hr_ => XS.astore X1.here hx rfl (hb hby at_13) rfl rfl (l' := #[.val (.int p1), .val (.int p2), .val (.int p3), .val (.int p4), .val (.int p5), .val (.long p6), .second, .val (.int (Int32.ofNat n)), .val (.ref b1), .unset, .unset, .unset, .unset, .unset, .unset]) rfl hr_) ?_
  show GoesW p ee below s _ _ _ _ _ (T1.setTop (mkF m 15 #[.val (.int p1), .val (.int p2), .val (.int p3), .val (.int p4), .val (.int p5), .val (.long p6), .second, .val (.int (Int32.ofNat n)), .val (.ref b1), .unset, .unset, .unset, .unset, .unset, .unset] []))
  refine GoesW.step (fun _ hr_ => XS.aload X1.here hx rfl (hb hby at_15) rfl rfl hr_) ?_
  show GoesW p ee below s _ _ _ _ _ (T1.setTop (mkF m 17 #[.val (.int p1), .val (.int p2), .val (.int p3), .val (.int p4), .val (.int p5), .val (.long p6), .second, .val (.int (Int32.ofNat n)), .val (.ref b1), .unset, .unset, .unset, .unset, .unset, .unset] [(.ref b1)]))
  refine GoesW.step (fun _ hr_ => XS.iconst X1.here hx rfl (hb hby at_17) hr_) ?_
  show GoesW p ee below s _ _ _ _ _ (T1.setTop (mkF m 18 #[.val (.int p1), .val (.int p2), .val (.int p3), .val (.int p4), .val (.int p5), .val (.long p6), .second, .val (.int (Int32.ofNat n)), .val (.ref b1), .unset, .unset, .unset, .unset, .unset, .unset] [(.int (0 : Int32)), (.ref b1)]))
  refine GoesW.step (fun _ hr_ => XS.iloadN X1.here hx rfl (hb hby at_18) rfl  hr_) ?_
  show GoesW p ee below s _ _ _ _ _ (T1.setTop (mkF m 19 #[.val (.int p1), .val (.int p2), .val (.int p3), .val (.int p4), .val (.int p5), .val (.long p6), .second, .val (.int (Int32.ofNat n)), .val (.ref b1), .unset, .unset, .unset, .unset, .unset, .unset] [(.int p2), (.int (0 : Int32)), (.ref b1)]))
  have lt_b1 := A_b1.lt
  obtain ⟨v3, T3, L3, X3, hQ3, st3⟩ := own_callS X1 hx hZ (y := (⟨"com/example/strikeshift/strikeshift/formats/TextValuesIsPlainDecimalPinLaw", "draw", "(I)C"⟩ : MethodName)) hown (hw _ (List.mem_of_getElem? (i := 2) rfl)) (hw _ (List.mem_of_getElem? (i := 3) rfl)) (hw _ (List.mem_of_getElem? (i := 4) rfl)) (hw _ (List.mem_of_getElem? (i := 5) rfl)) (by decide) (argsL := [(.int p2)]) (rm_draw l Z a0 hw [] p2 h1 n0 Zp2 ) e1 (W := 2) (by decide) (by decide) (by decide) (by decide) (g := (mkF m 19 #[.val (.int p1), .val (.int p2), .val (.int p3), .val (.int p4), .val (.int p5), .val (.long p6), .second, .val (.int (Int32.ofNat n)), .val (.ref b1), .unset, .unset, .unset, .unset, .unset, .unset] [(.int p2), (.int (0 : Int32)), (.ref b1)])) rfl (by rw [hml]; rfl) (rest := [(.int (0 : Int32)), (.ref b1)]) (lenOf pd_16 rfl) rfl (by show 2 * 0 + _ ≤ _; exact Nat.le_of_eq rfl) (hb hby at_19)
  refine GoesW.step st3 ?_
  obtain ⟨⟨k3, hk3, rfl⟩, N3, e3⟩ := hQ3
  have N4 := Fr.app N0 N3
  show GoesW p ee below s _ _ _ _ _ (T3.setTop (mkF m 22 #[.val (.int p1), .val (.int p2), .val (.int p3), .val (.int p4), .val (.int p5), .val (.long p6), .second, .val (.int (Int32.ofNat n)), .val (.ref b1), .unset, .unset, .unset, .unset, .unset, .unset] [(.int (Int32.ofNat k3)), (.int (0 : Int32)), (.ref b1)]))
  obtain ⟨T5, h5, X5, e5, W5, A5, st5⟩ := own_stC X3 hx hZ e3 A_b1 (x := (Int32.ofNat k3)) (j := (0 : Int32)) (by decide) (k := 0) rfl (by decide) (g := (mkF m 22 #[.val (.int p1), .val (.int p2), .val (.int p3), .val (.int p4), .val (.int p5), .val (.long p6), .second, .val (.int (Int32.ofNat n)), .val (.ref b1), .unset, .unset, .unset, .unset, .unset, .unset] [(.int (Int32.ofNat k3)), (.int (0 : Int32)), (.ref b1)])) rfl rfl (hb hby at_22)
  refine GoesW.step st5 ?_
  have Zp6 := Nat.le_trans Zp2 (Keep.of_wr W5).1
  have N7 := Fr.snoc X5 N4 ge_b1
  have sfw := sf_b1
  have sf_b1 := Safe.wr W5 sfw C.chv sf_b1
  have C := C.wr W5 sfw
  have OO := OO.wr W5 ge_b1
  have A_b1 : OA Z h5 b1 .char 6 (fun i => [(.int (nar .char (Int32.ofNat k3))), (.int 0), (.int 0), (.int 0), (.int 0), (.int 0)].getD i (.int 0)) := A5.congr (fun i hi => by match i, hi with | 0, _ => rfl | 1, _ => rfl | 2, _ => rfl | 3, _ => rfl | 4, _ => rfl | 5, _ => rfl | i + 6, hi => omega)
  show GoesW p ee below s _ _ _ _ _ (T5.setTop (mkF m 23 #[.val (.int p1), .val (.int p2), .val (.int p3), .val (.int p4), .val (.int p5), .val (.long p6), .second, .val (.int (Int32.ofNat n)), .val (.ref b1), .unset, .unset, .unset, .unset, .unset, .unset] []))
  refine GoesW.step (fun _ hr_ => XS.aload X5.here hx rfl (hb hby at_23) rfl rfl hr_) ?_
  show GoesW p ee below s _ _ _ _ _ (T5.setTop (mkF m 25 #[.val (.int p1), .val (.int p2), .val (.int p3), .val (.int p4), .val (.int p5), .val (.long p6), .second, .val (.int (Int32.ofNat n)), .val (.ref b1), .unset, .unset, .unset, .unset, .unset, .unset] [(.ref b1)]))
  refine GoesW.step (fun _ hr_ => XS.iconst X5.here hx rfl (hb hby at_25) hr_) ?_
  show GoesW p ee below s _ _ _ _ _ (T5.setTop (mkF m 26 #[.val (.int p1), .val (.int p2), .val (.int p3), .val (.int p4), .val (.int p5), .val (.long p6), .second, .val (.int (Int32.ofNat n)), .val (.ref b1), .unset, .unset, .unset, .unset, .unset, .unset] [(.int (1 : Int32)), (.ref b1)]))
  refine GoesW.step (fun _ hr_ => XS.iloadN X5.here hx rfl (hb hby at_26) rfl  hr_) ?_
  show GoesW p ee below s _ _ _ _ _ (T5.setTop (mkF m 27 #[.val (.int p1), .val (.int p2), .val (.int p3), .val (.int p4), .val (.int p5), .val (.long p6), .second, .val (.int (Int32.ofNat n)), .val (.ref b1), .unset, .unset, .unset, .unset, .unset, .unset] [(.int p3), (.int (1 : Int32)), (.ref b1)]))
  have lt_b1 := A_b1.lt
  obtain ⟨v8, T8, L8, X8, hQ8, st8⟩ := own_callS X5 hx hZ (y := (⟨"com/example/strikeshift/strikeshift/formats/TextValuesIsPlainDecimalPinLaw", "draw", "(I)C"⟩ : MethodName)) hown (hw _ (List.mem_of_getElem? (i := 2) rfl)) (hw _ (List.mem_of_getElem? (i := 3) rfl)) (hw _ (List.mem_of_getElem? (i := 4) rfl)) (hw _ (List.mem_of_getElem? (i := 5) rfl)) (by decide) (argsL := [(.int p3)]) (rm_draw l Z a0 hw [] p3 h5 n0 Zp6 ) e5 (W := 2) (by decide) (by decide) (by decide) (by decide) (g := (mkF m 27 #[.val (.int p1), .val (.int p2), .val (.int p3), .val (.int p4), .val (.int p5), .val (.long p6), .second, .val (.int (Int32.ofNat n)), .val (.ref b1), .unset, .unset, .unset, .unset, .unset, .unset] [(.int p3), (.int (1 : Int32)), (.ref b1)])) rfl (by rw [hml]; rfl) (rest := [(.int (1 : Int32)), (.ref b1)]) (lenOf pd_16 rfl) rfl (by show 2 * 0 + _ ≤ _; exact Nat.le_of_eq rfl) (hb hby at_27)
  refine GoesW.step st8 ?_
  obtain ⟨⟨k8, hk8, rfl⟩, N8, e8⟩ := hQ8
  have N9 := Fr.app N7 N8
  show GoesW p ee below s _ _ _ _ _ (T8.setTop (mkF m 30 #[.val (.int p1), .val (.int p2), .val (.int p3), .val (.int p4), .val (.int p5), .val (.long p6), .second, .val (.int (Int32.ofNat n)), .val (.ref b1), .unset, .unset, .unset, .unset, .unset, .unset] [(.int (Int32.ofNat k8)), (.int (1 : Int32)), (.ref b1)]))
  obtain ⟨T10, h10, X10, e10, W10, A10, st10⟩ := own_stC X8 hx hZ e8 A_b1 (x := (Int32.ofNat k8)) (j := (1 : Int32)) (by decide) (k := 1) rfl (by decide) (g := (mkF m 30 #[.val (.int p1), .val (.int p2), .val (.int p3), .val (.int p4), .val (.int p5), .val (.long p6), .second, .val (.int (Int32.ofNat n)), .val (.ref b1), .unset, .unset, .unset, .unset, .unset, .unset] [(.int (Int32.ofNat k8)), (.int (1 : Int32)), (.ref b1)])) rfl rfl (hb hby at_30)
  refine GoesW.step st10 ?_
  have Zp11 := Nat.le_trans Zp6 (Keep.of_wr W10).1
  have N12 := Fr.snoc X10 N9 ge_b1
  have sfw := sf_b1
  have sf_b1 := Safe.wr W10 sfw C.chv sf_b1
  have C := C.wr W10 sfw
  have OO := OO.wr W10 ge_b1
  have A_b1 : OA Z h10 b1 .char 6 (fun i => [(.int (nar .char (Int32.ofNat k3))), (.int (nar .char (Int32.ofNat k8))), (.int 0), (.int 0), (.int 0), (.int 0)].getD i (.int 0)) := A10.congr (fun i hi => by match i, hi with | 0, _ => rfl | 1, _ => rfl | 2, _ => rfl | 3, _ => rfl | 4, _ => rfl | 5, _ => rfl | i + 6, hi => omega)
  show GoesW p ee below s _ _ _ _ _ (T10.setTop (mkF m 31 #[.val (.int p1), .val (.int p2), .val (.int p3), .val (.int p4), .val (.int p5), .val (.long p6), .second, .val (.int (Int32.ofNat n)), .val (.ref b1), .unset, .unset, .unset, .unset, .unset, .unset] []))
  refine GoesW.step (fun _ hr_ => XS.aload X10.here hx rfl (hb hby at_31) rfl rfl hr_) ?_
  show GoesW p ee below s _ _ _ _ _ (T10.setTop (mkF m 33 #[.val (.int p1), .val (.int p2), .val (.int p3), .val (.int p4), .val (.int p5), .val (.long p6), .second, .val (.int (Int32.ofNat n)), .val (.ref b1), .unset, .unset, .unset, .unset, .unset, .unset] [(.ref b1)]))
  refine GoesW.step (fun _ hr_ => XS.iconst X10.here hx rfl (hb hby at_33) hr_) ?_
  show GoesW p ee below s _ _ _ _ _ (T10.setTop (mkF m 34 #[.val (.int p1), .val (.int p2), .val (.int p3), .val (.int p4), .val (.int p5), .val (.long p6), .second, .val (.int (Int32.ofNat n)), .val (.ref b1), .unset, .unset, .unset, .unset, .unset, .unset] [(.int (2 : Int32)), (.ref b1)]))
  refine GoesW.step (fun _ hr_ => XS.iloadN X10.here hx rfl (hb hby at_34) rfl  hr_) ?_
  show GoesW p ee below s _ _ _ _ _ (T10.setTop (mkF m 35 #[.val (.int p1), .val (.int p2), .val (.int p3), .val (.int p4), .val (.int p5), .val (.long p6), .second, .val (.int (Int32.ofNat n)), .val (.ref b1), .unset, .unset, .unset, .unset, .unset, .unset] [(.int p4), (.int (2 : Int32)), (.ref b1)]))
  have lt_b1 := A_b1.lt
  obtain ⟨v13, T13, L13, X13, hQ13, st13⟩ := own_callS X10 hx hZ (y := (⟨"com/example/strikeshift/strikeshift/formats/TextValuesIsPlainDecimalPinLaw", "draw", "(I)C"⟩ : MethodName)) hown (hw _ (List.mem_of_getElem? (i := 2) rfl)) (hw _ (List.mem_of_getElem? (i := 3) rfl)) (hw _ (List.mem_of_getElem? (i := 4) rfl)) (hw _ (List.mem_of_getElem? (i := 5) rfl)) (by decide) (argsL := [(.int p4)]) (rm_draw l Z a0 hw [] p4 h10 n0 Zp11 ) e10 (W := 2) (by decide) (by decide) (by decide) (by decide) (g := (mkF m 35 #[.val (.int p1), .val (.int p2), .val (.int p3), .val (.int p4), .val (.int p5), .val (.long p6), .second, .val (.int (Int32.ofNat n)), .val (.ref b1), .unset, .unset, .unset, .unset, .unset, .unset] [(.int p4), (.int (2 : Int32)), (.ref b1)])) rfl (by rw [hml]; rfl) (rest := [(.int (2 : Int32)), (.ref b1)]) (lenOf pd_16 rfl) rfl (by show 2 * 0 + _ ≤ _; exact Nat.le_of_eq rfl) (hb hby at_35)
  refine GoesW.step st13 ?_
  obtain ⟨⟨k13, hk13, rfl⟩, N13, e13⟩ := hQ13
  have N14 := Fr.app N12 N13
  show GoesW p ee below s _ _ _ _ _ (T13.setTop (mkF m 38 #[.val (.int p1), .val (.int p2), .val (.int p3), .val (.int p4), .val (.int p5), .val (.long p6), .second, .val (.int (Int32.ofNat n)), .val (.ref b1), .unset, .unset, .unset, .unset, .unset, .unset] [(.int (Int32.ofNat k13)), (.int (2 : Int32)), (.ref b1)]))
  obtain ⟨T15, h15, X15, e15, W15, A15, st15⟩ := own_stC X13 hx hZ e13 A_b1 (x := (Int32.ofNat k13)) (j := (2 : Int32)) (by decide) (k := 2) rfl (by decide) (g := (mkF m 38 #[.val (.int p1), .val (.int p2), .val (.int p3), .val (.int p4), .val (.int p5), .val (.long p6), .second, .val (.int (Int32.ofNat n)), .val (.ref b1), .unset, .unset, .unset, .unset, .unset, .unset] [(.int (Int32.ofNat k13)), (.int (2 : Int32)), (.ref b1)])) rfl rfl (hb hby at_38)
  refine GoesW.step st15 ?_
  have Zp16 := Nat.le_trans Zp11 (Keep.of_wr W15).1
  have N17 := Fr.snoc X15 N14 ge_b1
  have sfw := sf_b1
  have sf_b1 := Safe.wr W15 sfw C.chv sf_b1
  have C := C.wr W15 sfw
  have OO := OO.wr W15 ge_b1
  have A_b1 : OA Z h15 b1 .char 6 (fun i => [(.int (nar .char (Int32.ofNat k3))), (.int (nar .char (Int32.ofNat k8))), (.int (nar .char (Int32.ofNat k13))), (.int 0), (.int 0), (.int 0)].getD i (.int 0)) := A15.congr (fun i hi => by match i, hi with | 0, _ => rfl | 1, _ => rfl | 2, _ => rfl | 3, _ => rfl | 4, _ => rfl | 5, _ => rfl | i + 6, hi => omega)
  show GoesW p ee below s _ _ _ _ _ (T15.setTop (mkF m 39 #[.val (.int p1), .val (.int p2), .val (.int p3), .val (.int p4), .val (.int p5), .val (.long p6), .second, .val (.int (Int32.ofNat n)), .val (.ref b1), .unset, .unset, .unset, .unset, .unset, .unset] []))
  refine GoesW.step (fun _ hr_ => XS.aload X15.here hx rfl (hb hby at_39) rfl rfl hr_) ?_
  show GoesW p ee below s _ _ _ _ _ (T15.setTop (mkF m 41 #[.val (.int p1), .val (.int p2), .val (.int p3), .val (.int p4), .val (.int p5), .val (.long p6), .second, .val (.int (Int32.ofNat n)), .val (.ref b1), .unset, .unset, .unset, .unset, .unset, .unset] [(.ref b1)]))
  refine GoesW.step (fun _ hr_ => XS.iconst X15.here hx rfl (hb hby at_41) hr_) ?_
  show GoesW p ee below s _ _ _ _ _ (T15.setTop (mkF m 42 #[.val (.int p1), .val (.int p2), .val (.int p3), .val (.int p4), .val (.int p5), .val (.long p6), .second, .val (.int (Int32.ofNat n)), .val (.ref b1), .unset, .unset, .unset, .unset, .unset, .unset] [(.int (3 : Int32)), (.ref b1)]))
  refine GoesW.step (fun _ hr_ => XS.iload X15.here hx rfl (hb hby at_42) rfl  hr_) ?_
  show GoesW p ee below s _ _ _ _ _ (T15.setTop (mkF m 44 #[.val (.int p1), .val (.int p2), .val (.int p3), .val (.int p4), .val (.int p5), .val (.long p6), .second, .val (.int (Int32.ofNat n)), .val (.ref b1), .unset, .unset, .unset, .unset, .unset, .unset] [(.int p5), (.int (3 : Int32)), (.ref b1)]))
  have lt_b1 := A_b1.lt
  obtain ⟨v18, T18, L18, X18, hQ18, st18⟩ := own_callS X15 hx hZ (y := (⟨"com/example/strikeshift/strikeshift/formats/TextValuesIsPlainDecimalPinLaw", "draw", "(I)C"⟩ : MethodName)) hown (hw _ (List.mem_of_getElem? (i := 2) rfl)) (hw _ (List.mem_of_getElem? (i := 3) rfl)) (hw _ (List.mem_of_getElem? (i := 4) rfl)) (hw _ (List.mem_of_getElem? (i := 5) rfl)) (by decide) (argsL := [(.int p5)]) (rm_draw l Z a0 hw [] p5 h15 n0 Zp16 ) e15 (W := 2) (by decide) (by decide) (by decide) (by decide) (g := (mkF m 44 #[.val (.int p1), .val (.int p2), .val (.int p3), .val (.int p4), .val (.int p5), .val (.long p6), .second, .val (.int (Int32.ofNat n)), .val (.ref b1), .unset, .unset, .unset, .unset, .unset, .unset] [(.int p5), (.int (3 : Int32)), (.ref b1)])) rfl (by rw [hml]; rfl) (rest := [(.int (3 : Int32)), (.ref b1)]) (lenOf pd_16 rfl) rfl (by show 2 * 0 + _ ≤ _; exact Nat.le_of_eq rfl) (hb hby at_44)
  refine GoesW.step st18 ?_
  obtain ⟨⟨k18, hk18, rfl⟩, N18, e18⟩ := hQ18
  have N19 := Fr.app N17 N18
  show GoesW p ee below s _ _ _ _ _ (T18.setTop (mkF m 47 #[.val (.int p1), .val (.int p2), .val (.int p3), .val (.int p4), .val (.int p5), .val (.long p6), .second, .val (.int (Int32.ofNat n)), .val (.ref b1), .unset, .unset, .unset, .unset, .unset, .unset] [(.int (Int32.ofNat k18)), (.int (3 : Int32)), (.ref b1)]))
  obtain ⟨T20, h20, X20, e20, W20, A20, st20⟩ := own_stC X18 hx hZ e18 A_b1 (x := (Int32.ofNat k18)) (j := (3 : Int32)) (by decide) (k := 3) rfl (by decide) (g := (mkF m 47 #[.val (.int p1), .val (.int p2), .val (.int p3), .val (.int p4), .val (.int p5), .val (.long p6), .second, .val (.int (Int32.ofNat n)), .val (.ref b1), .unset, .unset, .unset, .unset, .unset, .unset] [(.int (Int32.ofNat k18)), (.int (3 : Int32)), (.ref b1)])) rfl rfl (hb hby at_47)
  refine GoesW.step st20 ?_
  have Zp21 := Nat.le_trans Zp16 (Keep.of_wr W20).1
  have N22 := Fr.snoc X20 N19 ge_b1
  have sfw := sf_b1
  have sf_b1 := Safe.wr W20 sfw C.chv sf_b1
  have C := C.wr W20 sfw
  have OO := OO.wr W20 ge_b1
  have A_b1 : OA Z h20 b1 .char 6 (fun i => [(.int (nar .char (Int32.ofNat k3))), (.int (nar .char (Int32.ofNat k8))), (.int (nar .char (Int32.ofNat k13))), (.int (nar .char (Int32.ofNat k18))), (.int 0), (.int 0)].getD i (.int 0)) := A20.congr (fun i hi => by match i, hi with | 0, _ => rfl | 1, _ => rfl | 2, _ => rfl | 3, _ => rfl | 4, _ => rfl | 5, _ => rfl | i + 6, hi => omega)
  show GoesW p ee below s _ _ _ _ _ (T20.setTop (mkF m 48 #[.val (.int p1), .val (.int p2), .val (.int p3), .val (.int p4), .val (.int p5), .val (.long p6), .second, .val (.int (Int32.ofNat n)), .val (.ref b1), .unset, .unset, .unset, .unset, .unset, .unset] []))
  refine GoesW.step (fun _ hr_ => XS.aload X20.here hx rfl (hb hby at_48) rfl rfl hr_) ?_
  show GoesW p ee below s _ _ _ _ _ (T20.setTop (mkF m 50 #[.val (.int p1), .val (.int p2), .val (.int p3), .val (.int p4), .val (.int p5), .val (.long p6), .second, .val (.int (Int32.ofNat n)), .val (.ref b1), .unset, .unset, .unset, .unset, .unset, .unset] [(.ref b1)]))
  refine GoesW.step (fun _ hr_ => XS.iconst X20.here hx rfl (hb hby at_50) hr_) ?_
  show GoesW p ee below s _ _ _ _ _ (T20.setTop (mkF m 51 #[.val (.int p1), .val (.int p2), .val (.int p3), .val (.int p4), .val (.int p5), .val (.long p6), .second, .val (.int (Int32.ofNat n)), .val (.ref b1), .unset, .unset, .unset, .unset, .unset, .unset] [(.int (4 : Int32)), (.ref b1)]))
  refine GoesW.step (fun _ hr_ => XT.lload X20.here hx rfl (hb hby at_51) rfl  hr_) ?_
  show GoesW p ee below s _ _ _ _ _ (T20.setTop (mkF m 53 #[.val (.int p1), .val (.int p2), .val (.int p3), .val (.int p4), .val (.int p5), .val (.long p6), .second, .val (.int (Int32.ofNat n)), .val (.ref b1), .unset, .unset, .unset, .unset, .unset, .unset] [(.long p6), (.int (4 : Int32)), (.ref b1)]))
  refine GoesW.step (fun _ hr_ => XT.l2i X20.here hx rfl (hb hby at_53) rfl hr_) ?_
  show GoesW p ee below s _ _ _ _ _ (T20.setTop (mkF m 54 #[.val (.int p1), .val (.int p2), .val (.int p3), .val (.int p4), .val (.int p5), .val (.long p6), .second, .val (.int (Int32.ofNat n)), .val (.ref b1), .unset, .unset, .unset, .unset, .unset, .unset] [(.int p6.toInt32), (.int (4 : Int32)), (.ref b1)]))
  have lt_b1 := A_b1.lt
  obtain ⟨v23, T23, L23, X23, hQ23, st23⟩ := own_callS X20 hx hZ (y := (⟨"com/example/strikeshift/strikeshift/formats/TextValuesIsPlainDecimalPinLaw", "draw", "(I)C"⟩ : MethodName)) hown (hw _ (List.mem_of_getElem? (i := 2) rfl)) (hw _ (List.mem_of_getElem? (i := 3) rfl)) (hw _ (List.mem_of_getElem? (i := 4) rfl)) (hw _ (List.mem_of_getElem? (i := 5) rfl)) (by decide) (argsL := [(.int p6.toInt32)]) (rm_draw l Z a0 hw [] p6.toInt32 h20 n0 Zp21 ) e20 (W := 2) (by decide) (by decide) (by decide) (by decide) (g := (mkF m 54 #[.val (.int p1), .val (.int p2), .val (.int p3), .val (.int p4), .val (.int p5), .val (.long p6), .second, .val (.int (Int32.ofNat n)), .val (.ref b1), .unset, .unset, .unset, .unset, .unset, .unset] [(.int p6.toInt32), (.int (4 : Int32)), (.ref b1)])) rfl (by rw [hml]; rfl) (rest := [(.int (4 : Int32)), (.ref b1)]) (lenOf pd_16 rfl) rfl (by show 2 * 0 + _ ≤ _; exact Nat.le_of_eq rfl) (hb hby at_54)
  refine GoesW.step st23 ?_
  obtain ⟨⟨k23, hk23, rfl⟩, N23, e23⟩ := hQ23
  have N24 := Fr.app N22 N23
  show GoesW p ee below s _ _ _ _ _ (T23.setTop (mkF m 57 #[.val (.int p1), .val (.int p2), .val (.int p3), .val (.int p4), .val (.int p5), .val (.long p6), .second, .val (.int (Int32.ofNat n)), .val (.ref b1), .unset, .unset, .unset, .unset, .unset, .unset] [(.int (Int32.ofNat k23)), (.int (4 : Int32)), (.ref b1)]))
  obtain ⟨T25, h25, X25, e25, W25, A25, st25⟩ := own_stC X23 hx hZ e23 A_b1 (x := (Int32.ofNat k23)) (j := (4 : Int32)) (by decide) (k := 4) rfl (by decide) (g := (mkF m 57 #[.val (.int p1), .val (.int p2), .val (.int p3), .val (.int p4), .val (.int p5), .val (.long p6), .second, .val (.int (Int32.ofNat n)), .val (.ref b1), .unset, .unset, .unset, .unset, .unset, .unset] [(.int (Int32.ofNat k23)), (.int (4 : Int32)), (.ref b1)])) rfl rfl (hb hby at_57)
  refine GoesW.step st25 ?_
  have Zp26 := Nat.le_trans Zp21 (Keep.of_wr W25).1
  have N27 := Fr.snoc X25 N24 ge_b1
  have sfw := sf_b1
  have sf_b1 := Safe.wr W25 sfw C.chv sf_b1
  have C := C.wr W25 sfw
  have OO := OO.wr W25 ge_b1
  have A_b1 : OA Z h25 b1 .char 6 (fun i => [(.int (nar .char (Int32.ofNat k3))), (.int (nar .char (Int32.ofNat k8))), (.int (nar .char (Int32.ofNat k13))), (.int (nar .char (Int32.ofNat k18))), (.int (nar .char (Int32.ofNat k23))), (.int 0)].getD i (.int 0)) := A25.congr (fun i hi => by match i, hi with | 0, _ => rfl | 1, _ => rfl | 2, _ => rfl | 3, _ => rfl | 4, _ => rfl | 5, _ => rfl | i + 6, hi => omega)
  show GoesW p ee below s _ _ _ _ _ (T25.setTop (mkF m 58 #[.val (.int p1), .val (.int p2), .val (.int p3), .val (.int p4), .val (.int p5), .val (.long p6), .second, .val (.int (Int32.ofNat n)), .val (.ref b1), .unset, .unset, .unset, .unset, .unset, .unset] []))
  refine GoesW.step (fun _ hr_ => XS.aload X25.here hx rfl (hb hby at_58) rfl rfl hr_) ?_
  show GoesW p ee below s _ _ _ _ _ (T25.setTop (mkF m 60 #[.val (.int p1), .val (.int p2), .val (.int p3), .val (.int p4), .val (.int p5), .val (.long p6), .second, .val (.int (Int32.ofNat n)), .val (.ref b1), .unset, .unset, .unset, .unset, .unset, .unset] [(.ref b1)]))
  refine GoesW.step (fun _ hr_ => XS.iconst X25.here hx rfl (hb hby at_60) hr_) ?_
  show GoesW p ee below s _ _ _ _ _ (T25.setTop (mkF m 61 #[.val (.int p1), .val (.int p2), .val (.int p3), .val (.int p4), .val (.int p5), .val (.long p6), .second, .val (.int (Int32.ofNat n)), .val (.ref b1), .unset, .unset, .unset, .unset, .unset, .unset] [(.int (5 : Int32)), (.ref b1)]))
  refine GoesW.step (fun _ hr_ => XT.lload X25.here hx rfl (hb hby at_61) rfl  hr_) ?_
  show GoesW p ee below s _ _ _ _ _ (T25.setTop (mkF m 63 #[.val (.int p1), .val (.int p2), .val (.int p3), .val (.int p4), .val (.int p5), .val (.long p6), .second, .val (.int (Int32.ofNat n)), .val (.ref b1), .unset, .unset, .unset, .unset, .unset, .unset] [(.long p6), (.int (5 : Int32)), (.ref b1)]))
  refine GoesW.step (fun _ hr_ => XS.bipush X25.here hx rfl (hb hby at_63) hr_) ?_
  show GoesW p ee below s _ _ _ _ _ (T25.setTop (mkF m 65 #[.val (.int p1), .val (.int p2), .val (.int p3), .val (.int p4), .val (.int p5), .val (.long p6), .second, .val (.int (Int32.ofNat n)), .val (.ref b1), .unset, .unset, .unset, .unset, .unset, .unset] [(.int (32 : Int32)), (.long p6), (.int (5 : Int32)), (.ref b1)]))
  refine GoesW.step (fun _ hr_ => XT.lushr X25.here hx rfl (hb hby at_65) rfl hr_) ?_
  show GoesW p ee below s _ _ _ _ _ (T25.setTop (mkF m 66 #[.val (.int p1), .val (.int p2), .val (.int p3), .val (.int p4), .val (.int p5), .val (.long p6), .second, .val (.int (Int32.ofNat n)), .val (.ref b1), .unset, .unset, .unset, .unset, .unset, .unset] [(.long (XT.ushrL p6 (32 : Int32))), (.int (5 : Int32)), (.ref b1)]))
  refine GoesW.step (fun _ hr_ => XT.l2i X25.here hx rfl (hb hby at_66) rfl hr_) ?_
  show GoesW p ee below s _ _ _ _ _ (T25.setTop (mkF m 67 #[.val (.int p1), .val (.int p2), .val (.int p3), .val (.int p4), .val (.int p5), .val (.long p6), .second, .val (.int (Int32.ofNat n)), .val (.ref b1), .unset, .unset, .unset, .unset, .unset, .unset] [(.int (XT.ushrL p6 (32 : Int32)).toInt32), (.int (5 : Int32)), (.ref b1)]))
  have lt_b1 := A_b1.lt
  obtain ⟨v28, T28, L28, X28, hQ28, st28⟩ := own_callS X25 hx hZ (y := (⟨"com/example/strikeshift/strikeshift/formats/TextValuesIsPlainDecimalPinLaw", "draw", "(I)C"⟩ : MethodName)) hown (hw _ (List.mem_of_getElem? (i := 2) rfl)) (hw _ (List.mem_of_getElem? (i := 3) rfl)) (hw _ (List.mem_of_getElem? (i := 4) rfl)) (hw _ (List.mem_of_getElem? (i := 5) rfl)) (by decide) (argsL := [(.int (XT.ushrL p6 (32 : Int32)).toInt32)]) (rm_draw l Z a0 hw [] (XT.ushrL p6 (32 : Int32)).toInt32 h25 n0 Zp26 ) e25 (W := 2) (by decide) (by decide) (by decide) (by decide) (g := (mkF m 67 #[.val (.int p1), .val (.int p2), .val (.int p3), .val (.int p4), .val (.int p5), .val (.long p6), .second, .val (.int (Int32.ofNat n)), .val (.ref b1), .unset, .unset, .unset, .unset, .unset, .unset] [(.int (XT.ushrL p6 (32 : Int32)).toInt32), (.int (5 : Int32)), (.ref b1)])) rfl (by rw [hml]; rfl) (rest := [(.int (5 : Int32)), (.ref b1)]) (lenOf pd_16 rfl) rfl (by show 2 * 0 + _ ≤ _; exact Nat.le_of_eq rfl) (hb hby at_67)
  refine GoesW.step st28 ?_
  obtain ⟨⟨k28, hk28, rfl⟩, N28, e28⟩ := hQ28
  have N29 := Fr.app N27 N28
  show GoesW p ee below s _ _ _ _ _ (T28.setTop (mkF m 70 #[.val (.int p1), .val (.int p2), .val (.int p3), .val (.int p4), .val (.int p5), .val (.long p6), .second, .val (.int (Int32.ofNat n)), .val (.ref b1), .unset, .unset, .unset, .unset, .unset, .unset] [(.int (Int32.ofNat k28)), (.int (5 : Int32)), (.ref b1)]))
  obtain ⟨T30, h30, X30, e30, W30, A30, st30⟩ := own_stC X28 hx hZ e28 A_b1 (x := (Int32.ofNat k28)) (j := (5 : Int32)) (by decide) (k := 5) rfl (by decide) (g := (mkF m 70 #[.val (.int p1), .val (.int p2), .val (.int p3), .val (.int p4), .val (.int p5), .val (.long p6), .second, .val (.int (Int32.ofNat n)), .val (.ref b1), .unset, .unset, .unset, .unset, .unset, .unset] [(.int (Int32.ofNat k28)), (.int (5 : Int32)), (.ref b1)])) rfl rfl (hb hby at_70)
  refine GoesW.step st30 ?_
  have Zp31 := Nat.le_trans Zp26 (Keep.of_wr W30).1
  have N32 := Fr.snoc X30 N29 ge_b1
  have sfw := sf_b1
  have sf_b1 := Safe.wr W30 sfw C.chv sf_b1
  have C := C.wr W30 sfw
  have OO := OO.wr W30 ge_b1
  have A_b1 : OA Z h30 b1 .char 6 (fun i => [(.int (nar .char (Int32.ofNat k3))), (.int (nar .char (Int32.ofNat k8))), (.int (nar .char (Int32.ofNat k13))), (.int (nar .char (Int32.ofNat k18))), (.int (nar .char (Int32.ofNat k23))), (.int (nar .char (Int32.ofNat k28)))].getD i (.int 0)) := A30.congr (fun i hi => by match i, hi with | 0, _ => rfl | 1, _ => rfl | 2, _ => rfl | 3, _ => rfl | 4, _ => rfl | 5, _ => rfl | i + 6, hi => omega)
  show GoesW p ee below s _ _ _ _ _ (T30.setTop (mkF m 71 #[.val (.int p1), .val (.int p2), .val (.int p3), .val (.int p4), .val (.int p5), .val (.long p6), .second, .val (.int (Int32.ofNat n)), .val (.ref b1), .unset, .unset, .unset, .unset, .unset, .unset] []))
  obtain ⟨c, hcd⟩ : ∃ c : Nat → Nat, c = fun i => [k3, k8, k13, k18, k23, k28].getD i 0 := ⟨_, rfl⟩
  have hc : ∀ j, j < 6 → c j < 65536 := fun j hj => by subst hcd; match j, hj with | 0, _ => exact hk3 | 1, _ => exact hk8 | 2, _ => exact hk13 | 3, _ => exact hk18 | 4, _ => exact hk23 | 5, _ => exact hk28 | j + 6, hj => omega
  have A_c : OA Z h30 b1 .char 6 (fun i => .int (Int32.ofNat (c i))) := A_b1.congr (fun i hi => by subst hcd; match i, hi with | 0, _ => exact congrArg Value.int (own_charnar k3 hk3) | 1, _ => exact congrArg Value.int (own_charnar k8 hk8) | 2, _ => exact congrArg Value.int (own_charnar k13 hk13) | 3, _ => exact congrArg Value.int (own_charnar k18 hk18) | 4, _ => exact congrArg Value.int (own_charnar k23 hk23) | 5, _ => exact congrArg Value.int (own_charnar k28 hk28) | i + 6, hi => omega)
  refine GoesW.step (fun _ hr_ => XS.aload X30.here hx rfl (hb hby at_71) rfl rfl hr_) ?_
  show GoesW p ee below s _ _ _ _ _ (T30.setTop (mkF m 73 #[.val (.int p1), .val (.int p2), .val (.int p3), .val (.int p4), .val (.int p5), .val (.long p6), .second, .val (.int (Int32.ofNat n)), .val (.ref b1), .unset, .unset, .unset, .unset, .unset, .unset] [(.ref b1)]))
  refine GoesW.step (fun _ hr_ => XS.iload X30.here hx rfl (hb hby at_73) rfl  hr_) ?_
  show GoesW p ee below s _ _ _ _ _ (T30.setTop (mkF m 75 #[.val (.int p1), .val (.int p2), .val (.int p3), .val (.int p4), .val (.int p5), .val (.long p6), .second, .val (.int (Int32.ofNat n)), .val (.ref b1), .unset, .unset, .unset, .unset, .unset, .unset] [(.int (Int32.ofNat n)), (.ref b1)]))
  have lt_b1 := A_c.lt
  obtain ⟨v33, vm33, T33, L33, ⟨X33, Cn33, hZ, hown, hsaf33⟩, hQ33, st33⟩ := own_callSW X30 hx hZ hEL C (y := (⟨"com/example/strikeshift/strikeshift/formats/TextValuesIsPlainDecimalPinLaw", "make", "([CI)Ljava/lang/String;"⟩ : MethodName)) hown (hw _ (List.mem_of_getElem? (i := 6) rfl)) (hw _ (List.mem_of_getElem? (i := 7) rfl)) (hw _ (List.mem_of_getElem? (i := 4) rfl)) (hw _ (List.mem_of_getElem? (i := 8) rfl)) (by decide) (argsL := [(.ref b1), (.int (Int32.ofNat n))]) (ws := []) (fun _ q => nomatch q) (rm_mk l Z a0 hw [] cs fm b1 n c h30 n0 Zp31 ST OO hn hc A_c) e30 (W := 0) (by decide) (by decide) (by decide) (by decide) (g := (mkF m 75 #[.val (.int p1), .val (.int p2), .val (.int p3), .val (.int p4), .val (.int p5), .val (.long p6), .second, .val (.int (Int32.ofNat n)), .val (.ref b1), .unset, .unset, .unset, .unset, .unset, .unset] [(.int (Int32.ofNat n)), (.ref b1)])) rfl (by rw [hml]; rfl) (rest := []) (lenOf pd_18 rfl) rfl (by show 2 * 0 + _ ≤ _; exact Nat.le_of_eq rfl) (hb hby at_75)
  refine GoesW.step st33 ?_
  obtain ⟨o33, b33, u, rfl, N33, Kc33, Ei33, Fv33, Fc33, A_b33, hlu⟩ := hQ33
  have N34 := Fr.app N32 N33
  obtain ⟨h33, e33⟩ : ∃ h', T33.heap = h' := ⟨_, rfl⟩
  rw [e33] at Kc33 Cn33 hsaf33 Ei33 Fv33 Fc33 A_b33
  have sf_b1 := hsaf33 b1 lt_b1 sf_b1
  have C := Cn33
  have A_c := A_c.keep Kc33 nin0
  have OO := OO.keep Kc33 all0
  have Zp35 := Nat.le_trans Zp31 Kc33.1
  show GoesW p ee below s _ _ _ _ _ (T33.setTop (mkF m 78 #[.val (.int p1), .val (.int p2), .val (.int p3), .val (.int p4), .val (.int p5), .val (.long p6), .second, .val (.int (Int32.ofNat n)), .val (.ref b1), .unset, .unset, .unset, .unset, .unset, .unset] [(.ref o33)]))
  refine GoesW.step (fun _ hr_ => XS.astore X33.here hx rfl (hb hby at_78) rfl rfl (l' := #[.val (.int p1), .val (.int p2), .val (.int p3), .val (.int p4), .val (.int p5), .val (.long p6), .second, .val (.int (Int32.ofNat n)), .val (.ref b1), .val (.ref o33), .unset, .unset, .unset, .unset, .unset]) rfl hr_) ?_
  show GoesW p ee below s _ _ _ _ _ (T33.setTop (mkF m 80 #[.val (.int p1), .val (.int p2), .val (.int p3), .val (.int p4), .val (.int p5), .val (.long p6), .second, .val (.int (Int32.ofNat n)), .val (.ref b1), .val (.ref o33), .unset, .unset, .unset, .unset, .unset] []))
  refine GoesW.step (fun _ hr_ => XS.aload X33.here hx rfl (hb hby at_80) rfl rfl hr_) ?_
  show GoesW p ee below s _ _ _ _ _ (T33.setTop (mkF m 82 #[.val (.int p1), .val (.int p2), .val (.int p3), .val (.int p4), .val (.int p5), .val (.long p6), .second, .val (.int (Int32.ofNat n)), .val (.ref b1), .val (.ref o33), .unset, .unset, .unset, .unset, .unset] [(.ref o33)]))
  have lt_b1 := A_c.lt
  have lt_o33 := Ei33.lt
  have lt_b33 := A_b33.lt
  obtain ⟨v36, T36, L36, X36, hQ36, st36⟩ := own_callS X33 hx hZ (y := (⟨"com/example/strikeshift/strikeshift/formats/TextValues", "isPlainDecimal", "(Ljava/lang/CharSequence;)Z"⟩ : MethodName)) hown (hw _ (List.mem_of_getElem? (i := 30) rfl)) (hw _ (List.mem_of_getElem? (i := 31) rfl)) (hw _ (List.mem_of_getElem? (i := 32) rfl)) (hw _ (List.mem_of_getElem? (i := 33) rfl)) (by decide) (argsL := [(.ref o33)]) (rm_ipd l Z a0 hw [] cs fm o33 b33 u n c h33 n0 Zp35 ST OO (by omega) Ei33 Fv33 Fc33 A_b33 (fun j hj => hc j (by omega)) hlu) e33 (W := 0) (by decide) (by decide) (by decide) (by decide) (g := (mkF m 82 #[.val (.int p1), .val (.int p2), .val (.int p3), .val (.int p4), .val (.int p5), .val (.long p6), .second, .val (.int (Int32.ofNat n)), .val (.ref b1), .val (.ref o33), .unset, .unset, .unset, .unset, .unset] [(.ref o33)])) rfl (by rw [hml]; rfl) (rest := []) (lenOf pd_19 rfl) rfl (by show 2 * 0 + _ ≤ _; exact Nat.le_of_eq rfl) (hb hby at_82)
  refine GoesW.step st36 ?_
  obtain ⟨⟨r, rfl, hr⟩, N36, e36⟩ := hQ36
  have N37 := Fr.app N34 N36
  show GoesW p ee below s _ _ _ _ _ (T36.setTop (mkF m 85 #[.val (.int p1), .val (.int p2), .val (.int p3), .val (.int p4), .val (.int p5), .val (.long p6), .second, .val (.int (Int32.ofNat n)), .val (.ref b1), .val (.ref o33), .unset, .unset, .unset, .unset, .unset] [(.int r)]))
  refine GoesW.step (fun _ hr_ => XS.istore X36.here hx rfl (hb hby at_85) rfl  (l' := #[.val (.int p1), .val (.int p2), .val (.int p3), .val (.int p4), .val (.int p5), .val (.long p6), .second, .val (.int (Int32.ofNat n)), .val (.ref b1), .val (.ref o33), .val (.int r), .unset, .unset, .unset, .unset]) rfl hr_) ?_
  show GoesW p ee below s _ _ _ _ _ (T36.setTop (mkF m 87 #[.val (.int p1), .val (.int p2), .val (.int p3), .val (.int p4), .val (.int p5), .val (.long p6), .second, .val (.int (Int32.ofNat n)), .val (.ref b1), .val (.ref o33), .val (.int r), .unset, .unset, .unset, .unset] []))
  have J106 : ∀ kk : Nat, kk = own_k n c → kk ≤ 1 → GoesW p ee below s room_1.cells room_1.slots Z consts_1 (Q_law Z p1 p2 p3 p4 p5 p6 cs fm h0 n0) (T36.setTop (mkF m 106 #[.val (.int p1), .val (.int p2), .val (.int p3), .val (.int p4), .val (.int p5), .val (.long p6), .second, .val (.int (Int32.ofNat n)), .val (.ref b1), .val (.ref o33), .val (.int r), .unset, .unset, .unset, .unset] [(.int (Int32.ofNat kk))])) := by
    intro kk hkk hk1
    refine GoesW.step (fun _ hr_ => XS.istore X36.here hx rfl (hb hby at_106) rfl  (l' := #[.val (.int p1), .val (.int p2), .val (.int p3), .val (.int p4), .val (.int p5), .val (.long p6), .second, .val (.int (Int32.ofNat n)), .val (.ref b1), .val (.ref o33), .val (.int r), .val (.int (Int32.ofNat kk)), .unset, .unset, .unset]) rfl hr_) ?_
    show GoesW p ee below s _ _ _ _ _ (T36.setTop (mkF m 108 #[.val (.int p1), .val (.int p2), .val (.int p3), .val (.int p4), .val (.int p5), .val (.long p6), .second, .val (.int (Int32.ofNat n)), .val (.ref b1), .val (.ref o33), .val (.int r), .val (.int (Int32.ofNat kk)), .unset, .unset, .unset] []))
    have J310 : ∀ (z12 : Int32) (s13 s14 : Slot) (T : State) (locs : List Loc), Stand p l ee room_1 (s.setVm vm33) m #[(.int p1), (.int p2), (.int p3), (.int p4), (.int p5), (.long p6)] below meth cc T locs 5 34 → T.heap = h33 → Fr n0 locs → r = z12 → GoesW p ee below s room_1.cells room_1.slots Z consts_1 (Q_law Z p1 p2 p3 p4 p5 p6 cs fm h0 n0) (T.setTop (mkF m 310 #[.val (.int p1), .val (.int p2), .val (.int p3), .val (.int p4), .val (.int p5), .val (.long p6), .second, .val (.int (Int32.ofNat n)), .val (.ref b1), .val (.ref o33), .val (.int r), .val (.int (Int32.ofNat kk)), .val (.int z12), s13, s14] [])) := by
      intro z12 s13 s14 T locs X eT N hz12
      show GoesW p ee below s _ _ _ _ _ (T.setTop (mkF m 310 #[.val (.int p1), .val (.int p2), .val (.int p3), .val (.int p4), .val (.int p5), .val (.long p6), .second, .val (.int (Int32.ofNat n)), .val (.ref b1), .val (.ref o33), .val (.int r), .val (.int (Int32.ofNat kk)), .val (.int z12), s13, s14] []))
      refine GoesW.step (fun _ hr_ => XS.iload X.here hx rfl (hb hby at_310) rfl  hr_) ?_
      show GoesW p ee below s _ _ _ _ _ (T.setTop (mkF m 312 #[.val (.int p1), .val (.int p2), .val (.int p3), .val (.int p4), .val (.int p5), .val (.long p6), .second, .val (.int (Int32.ofNat n)), .val (.ref b1), .val (.ref o33), .val (.int r), .val (.int (Int32.ofNat kk)), .val (.int z12), s13, s14] [(.int r)]))
      refine GoesW.step (fun _ hr_ => XS.iload X.here hx rfl (hb hby at_312) rfl  hr_) ?_
      show GoesW p ee below s _ _ _ _ _ (T.setTop (mkF m 314 #[.val (.int p1), .val (.int p2), .val (.int p3), .val (.int p4), .val (.int p5), .val (.long p6), .second, .val (.int (Int32.ofNat n)), .val (.ref b1), .val (.ref o33), .val (.int r), .val (.int (Int32.ofNat kk)), .val (.int z12), s13, s14] [(.int z12), (.int r)]))
      refine GoesW.step (fun _ hr_ => XS.icmpNo X.here hx rfl (hb hby at_314) rfl (teq hz12).2 hr_) ?_
      show GoesW p ee below s _ _ _ _ _ (T.setTop (mkF m 317 #[.val (.int p1), .val (.int p2), .val (.int p3), .val (.int p4), .val (.int p5), .val (.long p6), .second, .val (.int (Int32.ofNat n)), .val (.ref b1), .val (.ref o33), .val (.int r), .val (.int (Int32.ofNat kk)), .val (.int z12), s13, s14] []))
      refine GoesW.step (fun _ hr_ => XS.iconst X.here hx rfl (hb hby at_317) hr_) ?_
      show GoesW p ee below s _ _ _ _ _ (T.setTop (mkF m 318 #[.val (.int p1), .val (.int p2), .val (.int p3), .val (.int p4), .val (.int p5), .val (.long p6), .second, .val (.int (Int32.ofNat n)), .val (.ref b1), .val (.ref o33), .val (.int r), .val (.int (Int32.ofNat kk)), .val (.int z12), s13, s14] [(.int (1 : Int32))]))
      refine GoesW.step (fun _ hr_ => XS.goto X.here hx rfl (pc0 := 318) (pc' := 322) rfl (hb hby at_318) (by decide) (by decide) hr_) ?_
      show GoesW p ee below s _ _ _ _ _ (T.setTop (mkF m 322 #[.val (.int p1), .val (.int p2), .val (.int p3), .val (.int p4), .val (.int p5), .val (.long p6), .second, .val (.int (Int32.ofNat n)), .val (.ref b1), .val (.ref o33), .val (.int r), .val (.int (Int32.ofNat kk)), .val (.int z12), s13, s14] [(.int (1 : Int32))]))
      refine GoesW.retZ X hx hZ hEL C eT Bd.notSynchronized Bd.returns (by simp) rfl (hb hby at_322) (by decide) (by decide) ?_
      exact ⟨rfl, N⟩
    refine GoesW.step (fun _ hr_ => XS.iconst X36.here hx rfl (hb hby at_108) hr_) ?_
    show GoesW p ee below s _ _ _ _ _ (T36.setTop (mkF m 109 #[.val (.int p1), .val (.int p2), .val (.int p3), .val (.int p4), .val (.int p5), .val (.long p6), .second, .val (.int (Int32.ofNat n)), .val (.ref b1), .val (.ref o33), .val (.int r), .val (.int (Int32.ofNat kk)), .unset, .unset, .unset] [(.int (0 : Int32))]))
    refine GoesW.step (fun _ hr_ => XS.istore X36.here hx rfl (hb hby at_109) rfl  (l' := #[.val (.int p1), .val (.int p2), .val (.int p3), .val (.int p4), .val (.int p5), .val (.long p6), .second, .val (.int (Int32.ofNat n)), .val (.ref b1), .val (.ref o33), .val (.int r), .val (.int (Int32.ofNat kk)), .val (.int (0 : Int32)), .unset, .unset]) rfl hr_) ?_
    show GoesW p ee below s _ _ _ _ _ (T36.setTop (mkF m 111 #[.val (.int p1), .val (.int p2), .val (.int p3), .val (.int p4), .val (.int p5), .val (.long p6), .second, .val (.int (Int32.ofNat n)), .val (.ref b1), .val (.ref o33), .val (.int r), .val (.int (Int32.ofNat kk)), .val (.int (0 : Int32)), .unset, .unset] []))
    have J201 : ∀ (z13 : Int32) (T : State) (locs : List Loc), Stand p l ee room_1 (s.setVm vm33) m #[(.int p1), (.int p2), (.int p3), (.int p4), (.int p5), (.long p6)] below meth cc T locs 5 34 → T.heap = h33 → Fr n0 locs → ((z13 = 1 ∧ own_ok n c kk) ∨ (z13 = 0 ∧ ¬ own_ok n c kk)) → kk < n → GoesW p ee below s room_1.cells room_1.slots Z consts_1 (Q_law Z p1 p2 p3 p4 p5 p6 cs fm h0 n0) (T.setTop (mkF m 201 #[.val (.int p1), .val (.int p2), .val (.int p3), .val (.int p4), .val (.int p5), .val (.long p6), .second, .val (.int (Int32.ofNat n)), .val (.ref b1), .val (.ref o33), .val (.int r), .val (.int (Int32.ofNat kk)), .val (.int (0 : Int32)), .unset, .unset] [(.int z13)])) := by
      intro z13 T locs X eT N hz13 hkn
      show GoesW p ee below s _ _ _ _ _ (T.setTop (mkF m 201 #[.val (.int p1), .val (.int p2), .val (.int p3), .val (.int p4), .val (.int p5), .val (.long p6), .second, .val (.int (Int32.ofNat n)), .val (.ref b1), .val (.ref o33), .val (.int r), .val (.int (Int32.ofNat kk)), .val (.int (0 : Int32)), .unset, .unset] [(.int z13)]))
      refine GoesW.step (fun _ hr_ => XS.istore X.here hx rfl (hb hby at_201) rfl  (l' := #[.val (.int p1), .val (.int p2), .val (.int p3), .val (.int p4), .val (.int p5), .val (.long p6), .second, .val (.int (Int32.ofNat n)), .val (.ref b1), .val (.ref o33), .val (.int r), .val (.int (Int32.ofNat kk)), .val (.int (0 : Int32)), .val (.int z13), .unset]) rfl hr_) ?_
      show GoesW p ee below s _ _ _ _ _ (T.setTop (mkF m 203 #[.val (.int p1), .val (.int p2), .val (.int p3), .val (.int p4), .val (.int p5), .val (.long p6), .second, .val (.int (Int32.ofNat n)), .val (.ref b1), .val (.ref o33), .val (.int r), .val (.int (Int32.ofNat kk)), .val (.int (0 : Int32)), .val (.int z13), .unset] []))
      refine GoesW.step (fun _ hr_ => XS.aload X.here hx rfl (hb hby at_203) rfl rfl hr_) ?_
      show GoesW p ee below s _ _ _ _ _ (T.setTop (mkF m 205 #[.val (.int p1), .val (.int p2), .val (.int p3), .val (.int p4), .val (.int p5), .val (.long p6), .second, .val (.int (Int32.ofNat n)), .val (.ref b1), .val (.ref o33), .val (.int r), .val (.int (Int32.ofNat kk)), .val (.int (0 : Int32)), .val (.int z13), .unset] [(.ref b1)]))
      refine GoesW.step (fun _ hr_ => XS.iconst X.here hx rfl (hb hby at_205) hr_) ?_
      show GoesW p ee below s _ _ _ _ _ (T.setTop (mkF m 206 #[.val (.int p1), .val (.int p2), .val (.int p3), .val (.int p4), .val (.int p5), .val (.long p6), .second, .val (.int (Int32.ofNat n)), .val (.ref b1), .val (.ref o33), .val (.int r), .val (.int (Int32.ofNat kk)), .val (.int (0 : Int32)), .val (.int z13), .unset] [(.int (0 : Int32)), (.ref b1)]))
      refine GoesW.step (fun _ hr_ => XS.iload X.here hx rfl (hb hby at_206) rfl  hr_) ?_
      show GoesW p ee below s _ _ _ _ _ (T.setTop (mkF m 208 #[.val (.int p1), .val (.int p2), .val (.int p3), .val (.int p4), .val (.int p5), .val (.long p6), .second, .val (.int (Int32.ofNat n)), .val (.ref b1), .val (.ref o33), .val (.int r), .val (.int (Int32.ofNat kk)), .val (.int (0 : Int32)), .val (.int z13), .unset] [(.int (Int32.ofNat kk)), (.int (0 : Int32)), (.ref b1)]))
      refine GoesW.step (fun _ hr_ => XS.iload X.here hx rfl (hb hby at_208) rfl  hr_) ?_
      show GoesW p ee below s _ _ _ _ _ (T.setTop (mkF m 210 #[.val (.int p1), .val (.int p2), .val (.int p3), .val (.int p4), .val (.int p5), .val (.long p6), .second, .val (.int (Int32.ofNat n)), .val (.ref b1), .val (.ref o33), .val (.int r), .val (.int (Int32.ofNat kk)), .val (.int (0 : Int32)), .val (.int z13), .unset] [(.int (Int32.ofNat n)), (.int (Int32.ofNat kk)), (.int (0 : Int32)), (.ref b1)]))
      have lt_b1 := A_c.lt
      have lt_o33 := Ei33.lt
      have lt_b33 := A_b33.lt
      obtain ⟨v38, T38, L38, X38, hQ38, st38⟩ := own_callS X hx hZ (y := (⟨"com/example/strikeshift/strikeshift/formats/TextValuesIsPlainDecimalPinLaw", "dot", "([CIII)I"⟩ : MethodName)) hown (hw _ (List.mem_of_getElem? (i := 93) rfl)) (hw _ (List.mem_of_getElem? (i := 94) rfl)) (hw _ (List.mem_of_getElem? (i := 4) rfl)) (hw _ (List.mem_of_getElem? (i := 95) rfl)) (by decide) (argsL := [(.ref b1), (.int (0 : Int32)), (.int (Int32.ofNat kk)), (.int (Int32.ofNat n))]) (rm_dot l Z a0 hw [] b1 0 kk n c h33 n0 Zp35 (by decide) (by omega) (by omega) hc A_c) eT (W := 0) (by decide) (by decide) (by decide) (by decide) (g := (mkF m 210 #[.val (.int p1), .val (.int p2), .val (.int p3), .val (.int p4), .val (.int p5), .val (.long p6), .second, .val (.int (Int32.ofNat n)), .val (.ref b1), .val (.ref o33), .val (.int r), .val (.int (Int32.ofNat kk)), .val (.int (0 : Int32)), .val (.int z13), .unset] [(.int (Int32.ofNat n)), (.int (Int32.ofNat kk)), (.int (0 : Int32)), (.ref b1)])) rfl (by rw [hml]; rfl) (rest := []) (lenOf pd_20 rfl) rfl (by show 2 * 0 + _ ≤ _; exact Nat.le_of_eq rfl) (hb hby at_210)
      refine GoesW.step st38 ?_
      obtain ⟨rfl, N38, e38⟩ := hQ38
      have N39 := Fr.app N N38
      show GoesW p ee below s _ _ _ _ _ (T38.setTop (mkF m 213 #[.val (.int p1), .val (.int p2), .val (.int p3), .val (.int p4), .val (.int p5), .val (.long p6), .second, .val (.int (Int32.ofNat n)), .val (.ref b1), .val (.ref o33), .val (.int r), .val (.int (Int32.ofNat kk)), .val (.int (0 : Int32)), .val (.int z13), .unset] [(.int (Int32.ofNat (if (kk ≤ 0 ∧ 0 < n ∧ c 0 = 46) then 1 else 0)))]))
      refine GoesW.step (fun _ hr_ => XS.aload X38.here hx rfl (hb hby at_213) rfl rfl hr_) ?_
      show GoesW p ee below s _ _ _ _ _ (T38.setTop (mkF m 215 #[.val (.int p1), .val (.int p2), .val (.int p3), .val (.int p4), .val (.int p5), .val (.long p6), .second, .val (.int (Int32.ofNat n)), .val (.ref b1), .val (.ref o33), .val (.int r), .val (.int (Int32.ofNat kk)), .val (.int (0 : Int32)), .val (.int z13), .unset] [(.ref b1), (.int (Int32.ofNat (if (kk ≤ 0 ∧ 0 < n ∧ c 0 = 46) then 1 else 0)))]))
      refine GoesW.step (fun _ hr_ => XS.iconst X38.here hx rfl (hb hby at_215) hr_) ?_
      show GoesW p ee below s _ _ _ _ _ (T38.setTop (mkF m 216 #[.val (.int p1), .val (.int p2), .val (.int p3), .val (.int p4), .val (.int p5), .val (.long p6), .second, .val (.int (Int32.ofNat n)), .val (.ref b1), .val (.ref o33), .val (.int r), .val (.int (Int32.ofNat kk)), .val (.int (0 : Int32)), .val (.int z13), .unset] [(.int (1 : Int32)), (.ref b1), (.int (Int32.ofNat (if (kk ≤ 0 ∧ 0 < n ∧ c 0 = 46) then 1 else 0)))]))
      refine GoesW.step (fun _ hr_ => XS.iload X38.here hx rfl (hb hby at_216) rfl  hr_) ?_
      show GoesW p ee below s _ _ _ _ _ (T38.setTop (mkF m 218 #[.val (.int p1), .val (.int p2), .val (.int p3), .val (.int p4), .val (.int p5), .val (.long p6), .second, .val (.int (Int32.ofNat n)), .val (.ref b1), .val (.ref o33), .val (.int r), .val (.int (Int32.ofNat kk)), .val (.int (0 : Int32)), .val (.int z13), .unset] [(.int (Int32.ofNat kk)), (.int (1 : Int32)), (.ref b1), (.int (Int32.ofNat (if (kk ≤ 0 ∧ 0 < n ∧ c 0 = 46) then 1 else 0)))]))
      refine GoesW.step (fun _ hr_ => XS.iload X38.here hx rfl (hb hby at_218) rfl  hr_) ?_
      show GoesW p ee below s _ _ _ _ _ (T38.setTop (mkF m 220 #[.val (.int p1), .val (.int p2), .val (.int p3), .val (.int p4), .val (.int p5), .val (.long p6), .second, .val (.int (Int32.ofNat n)), .val (.ref b1), .val (.ref o33), .val (.int r), .val (.int (Int32.ofNat kk)), .val (.int (0 : Int32)), .val (.int z13), .unset] [(.int (Int32.ofNat n)), (.int (Int32.ofNat kk)), (.int (1 : Int32)), (.ref b1), (.int (Int32.ofNat (if (kk ≤ 0 ∧ 0 < n ∧ c 0 = 46) then 1 else 0)))]))
      have lt_b1 := A_c.lt
      have lt_o33 := Ei33.lt
      have lt_b33 := A_b33.lt
      obtain ⟨v40, T40, L40, X40, hQ40, st40⟩ := own_callS X38 hx hZ (y := (⟨"com/example/strikeshift/strikeshift/formats/TextValuesIsPlainDecimalPinLaw", "dot", "([CIII)I"⟩ : MethodName)) hown (hw _ (List.mem_of_getElem? (i := 93) rfl)) (hw _ (List.mem_of_getElem? (i := 94) rfl)) (hw _ (List.mem_of_getElem? (i := 4) rfl)) (hw _ (List.mem_of_getElem? (i := 95) rfl)) (by decide) (argsL := [(.ref b1), (.int (1 : Int32)), (.int (Int32.ofNat kk)), (.int (Int32.ofNat n))]) (rm_dot l Z a0 hw [] b1 1 kk n c h33 n0 Zp35 (by decide) (by omega) (by omega) hc A_c) e38 (W := 1) (by decide) (by decide) (by decide) (by decide) (g := (mkF m 220 #[.val (.int p1), .val (.int p2), .val (.int p3), .val (.int p4), .val (.int p5), .val (.long p6), .second, .val (.int (Int32.ofNat n)), .val (.ref b1), .val (.ref o33), .val (.int r), .val (.int (Int32.ofNat kk)), .val (.int (0 : Int32)), .val (.int z13), .unset] [(.int (Int32.ofNat n)), (.int (Int32.ofNat kk)), (.int (1 : Int32)), (.ref b1), (.int (Int32.ofNat (if (kk ≤ 0 ∧ 0 < n ∧ c 0 = 46) then 1 else 0)))])) rfl (by rw [hml]; rfl) (rest := [(.int (Int32.ofNat (if (kk ≤ 0 ∧ 0 < n ∧ c 0 = 46) then 1 else 0)))]) (lenOf pd_20 rfl) rfl (by show 2 * 0 + _ ≤ _; exact Nat.le_of_eq rfl) (hb hby at_220)
      refine GoesW.step st40 ?_
      obtain ⟨rfl, N40, e40⟩ := hQ40
      have N41 := Fr.app N39 N40
      show GoesW p ee below s _ _ _ _ _ (T40.setTop (mkF m 223 #[.val (.int p1), .val (.int p2), .val (.int p3), .val (.int p4), .val (.int p5), .val (.long p6), .second, .val (.int (Int32.ofNat n)), .val (.ref b1), .val (.ref o33), .val (.int r), .val (.int (Int32.ofNat kk)), .val (.int (0 : Int32)), .val (.int z13), .unset] [(.int (Int32.ofNat (if (kk ≤ 1 ∧ 1 < n ∧ c 1 = 46) then 1 else 0))), (.int (Int32.ofNat (if (kk ≤ 0 ∧ 0 < n ∧ c 0 = 46) then 1 else 0)))]))
      refine GoesW.step (fun _ hr_ => XS.iadd X40.here hx rfl (hb hby at_223) rfl hr_) ?_
      show GoesW p ee below s _ _ _ _ _ (T40.setTop (mkF m 224 #[.val (.int p1), .val (.int p2), .val (.int p3), .val (.int p4), .val (.int p5), .val (.long p6), .second, .val (.int (Int32.ofNat n)), .val (.ref b1), .val (.ref o33), .val (.int r), .val (.int (Int32.ofNat kk)), .val (.int (0 : Int32)), .val (.int z13), .unset] [(.int ((Int32.ofNat (if (kk ≤ 0 ∧ 0 < n ∧ c 0 = 46) then 1 else 0)) + (Int32.ofNat (if (kk ≤ 1 ∧ 1 < n ∧ c 1 = 46) then 1 else 0))))]))
      refine GoesW.step (fun _ hr_ => XS.aload X40.here hx rfl (hb hby at_224) rfl rfl hr_) ?_
      show GoesW p ee below s _ _ _ _ _ (T40.setTop (mkF m 226 #[.val (.int p1), .val (.int p2), .val (.int p3), .val (.int p4), .val (.int p5), .val (.long p6), .second, .val (.int (Int32.ofNat n)), .val (.ref b1), .val (.ref o33), .val (.int r), .val (.int (Int32.ofNat kk)), .val (.int (0 : Int32)), .val (.int z13), .unset] [(.ref b1), (.int ((Int32.ofNat (if (kk ≤ 0 ∧ 0 < n ∧ c 0 = 46) then 1 else 0)) + (Int32.ofNat (if (kk ≤ 1 ∧ 1 < n ∧ c 1 = 46) then 1 else 0))))]))
      refine GoesW.step (fun _ hr_ => XS.iconst X40.here hx rfl (hb hby at_226) hr_) ?_
      show GoesW p ee below s _ _ _ _ _ (T40.setTop (mkF m 227 #[.val (.int p1), .val (.int p2), .val (.int p3), .val (.int p4), .val (.int p5), .val (.long p6), .second, .val (.int (Int32.ofNat n)), .val (.ref b1), .val (.ref o33), .val (.int r), .val (.int (Int32.ofNat kk)), .val (.int (0 : Int32)), .val (.int z13), .unset] [(.int (2 : Int32)), (.ref b1), (.int ((Int32.ofNat (if (kk ≤ 0 ∧ 0 < n ∧ c 0 = 46) then 1 else 0)) + (Int32.ofNat (if (kk ≤ 1 ∧ 1 < n ∧ c 1 = 46) then 1 else 0))))]))
      refine GoesW.step (fun _ hr_ => XS.iload X40.here hx rfl (hb hby at_227) rfl  hr_) ?_
      show GoesW p ee below s _ _ _ _ _ (T40.setTop (mkF m 229 #[.val (.int p1), .val (.int p2), .val (.int p3), .val (.int p4), .val (.int p5), .val (.long p6), .second, .val (.int (Int32.ofNat n)), .val (.ref b1), .val (.ref o33), .val (.int r), .val (.int (Int32.ofNat kk)), .val (.int (0 : Int32)), .val (.int z13), .unset] [(.int (Int32.ofNat kk)), (.int (2 : Int32)), (.ref b1), (.int ((Int32.ofNat (if (kk ≤ 0 ∧ 0 < n ∧ c 0 = 46) then 1 else 0)) + (Int32.ofNat (if (kk ≤ 1 ∧ 1 < n ∧ c 1 = 46) then 1 else 0))))]))
      refine GoesW.step (fun _ hr_ => XS.iload X40.here hx rfl (hb hby at_229) rfl  hr_) ?_
      show GoesW p ee below s _ _ _ _ _ (T40.setTop (mkF m 231 #[.val (.int p1), .val (.int p2), .val (.int p3), .val (.int p4), .val (.int p5), .val (.long p6), .second, .val (.int (Int32.ofNat n)), .val (.ref b1), .val (.ref o33), .val (.int r), .val (.int (Int32.ofNat kk)), .val (.int (0 : Int32)), .val (.int z13), .unset] [(.int (Int32.ofNat n)), (.int (Int32.ofNat kk)), (.int (2 : Int32)), (.ref b1), (.int ((Int32.ofNat (if (kk ≤ 0 ∧ 0 < n ∧ c 0 = 46) then 1 else 0)) + (Int32.ofNat (if (kk ≤ 1 ∧ 1 < n ∧ c 1 = 46) then 1 else 0))))]))
      have lt_b1 := A_c.lt
      have lt_o33 := Ei33.lt
      have lt_b33 := A_b33.lt
      obtain ⟨v42, T42, L42, X42, hQ42, st42⟩ := own_callS X40 hx hZ (y := (⟨"com/example/strikeshift/strikeshift/formats/TextValuesIsPlainDecimalPinLaw", "dot", "([CIII)I"⟩ : MethodName)) hown (hw _ (List.mem_of_getElem? (i := 93) rfl)) (hw _ (List.mem_of_getElem? (i := 94) rfl)) (hw _ (List.mem_of_getElem? (i := 4) rfl)) (hw _ (List.mem_of_getElem? (i := 95) rfl)) (by decide) (argsL := [(.ref b1), (.int (2 : Int32)), (.int (Int32.ofNat kk)), (.int (Int32.ofNat n))]) (rm_dot l Z a0 hw [] b1 2 kk n c h33 n0 Zp35 (by decide) (by omega) (by omega) hc A_c) e40 (W := 1) (by decide) (by decide) (by decide) (by decide) (g := (mkF m 231 #[.val (.int p1), .val (.int p2), .val (.int p3), .val (.int p4), .val (.int p5), .val (.long p6), .second, .val (.int (Int32.ofNat n)), .val (.ref b1), .val (.ref o33), .val (.int r), .val (.int (Int32.ofNat kk)), .val (.int (0 : Int32)), .val (.int z13), .unset] [(.int (Int32.ofNat n)), (.int (Int32.ofNat kk)), (.int (2 : Int32)), (.ref b1), (.int ((Int32.ofNat (if (kk ≤ 0 ∧ 0 < n ∧ c 0 = 46) then 1 else 0)) + (Int32.ofNat (if (kk ≤ 1 ∧ 1 < n ∧ c 1 = 46) then 1 else 0))))])) rfl (by rw [hml]; rfl) (rest := [(.int ((Int32.ofNat (if (kk ≤ 0 ∧ 0 < n ∧ c 0 = 46) then 1 else 0)) + (Int32.ofNat (if (kk ≤ 1 ∧ 1 < n ∧ c 1 = 46) then 1 else 0))))]) (lenOf pd_20 rfl) rfl (by show 2 * 0 + _ ≤ _; exact Nat.le_of_eq rfl) (hb hby at_231)
      refine GoesW.step st42 ?_
      obtain ⟨rfl, N42, e42⟩ := hQ42
      have N43 := Fr.app N41 N42
      show GoesW p ee below s _ _ _ _ _ (T42.setTop (mkF m 234 #[.val (.int p1), .val (.int p2), .val (.int p3), .val (.int p4), .val (.int p5), .val (.long p6), .second, .val (.int (Int32.ofNat n)), .val (.ref b1), .val (.ref o33), .val (.int r), .val (.int (Int32.ofNat kk)), .val (.int (0 : Int32)), .val (.int z13), .unset] [(.int (Int32.ofNat (if (kk ≤ 2 ∧ 2 < n ∧ c 2 = 46) then 1 else 0))), (.int ((Int32.ofNat (if (kk ≤ 0 ∧ 0 < n ∧ c 0 = 46) then 1 else 0)) + (Int32.ofNat (if (kk ≤ 1 ∧ 1 < n ∧ c 1 = 46) then 1 else 0))))]))
      refine GoesW.step (fun _ hr_ => XS.iadd X42.here hx rfl (hb hby at_234) rfl hr_) ?_
      show GoesW p ee below s _ _ _ _ _ (T42.setTop (mkF m 235 #[.val (.int p1), .val (.int p2), .val (.int p3), .val (.int p4), .val (.int p5), .val (.long p6), .second, .val (.int (Int32.ofNat n)), .val (.ref b1), .val (.ref o33), .val (.int r), .val (.int (Int32.ofNat kk)), .val (.int (0 : Int32)), .val (.int z13), .unset] [(.int (((Int32.ofNat (if (kk ≤ 0 ∧ 0 < n ∧ c 0 = 46) then 1 else 0)) + (Int32.ofNat (if (kk ≤ 1 ∧ 1 < n ∧ c 1 = 46) then 1 else 0))) + (Int32.ofNat (if (kk ≤ 2 ∧ 2 < n ∧ c 2 = 46) then 1 else 0))))]))
      refine GoesW.step (fun _ hr_ => XS.aload X42.here hx rfl (hb hby at_235) rfl rfl hr_) ?_
      show GoesW p ee below s _ _ _ _ _ (T42.setTop (mkF m 237 #[.val (.int p1), .val (.int p2), .val (.int p3), .val (.int p4), .val (.int p5), .val (.long p6), .second, .val (.int (Int32.ofNat n)), .val (.ref b1), .val (.ref o33), .val (.int r), .val (.int (Int32.ofNat kk)), .val (.int (0 : Int32)), .val (.int z13), .unset] [(.ref b1), (.int (((Int32.ofNat (if (kk ≤ 0 ∧ 0 < n ∧ c 0 = 46) then 1 else 0)) + (Int32.ofNat (if (kk ≤ 1 ∧ 1 < n ∧ c 1 = 46) then 1 else 0))) + (Int32.ofNat (if (kk ≤ 2 ∧ 2 < n ∧ c 2 = 46) then 1 else 0))))]))
      refine GoesW.step (fun _ hr_ => XS.iconst X42.here hx rfl (hb hby at_237) hr_) ?_
      show GoesW p ee below s _ _ _ _ _ (T42.setTop (mkF m 238 #[.val (.int p1), .val (.int p2), .val (.int p3), .val (.int p4), .val (.int p5), .val (.long p6), .second, .val (.int (Int32.ofNat n)), .val (.ref b1), .val (.ref o33), .val (.int r), .val (.int (Int32.ofNat kk)), .val (.int (0 : Int32)), .val (.int z13), .unset] [(.int (3 : Int32)), (.ref b1), (.int (((Int32.ofNat (if (kk ≤ 0 ∧ 0 < n ∧ c 0 = 46) then 1 else 0)) + (Int32.ofNat (if (kk ≤ 1 ∧ 1 < n ∧ c 1 = 46) then 1 else 0))) + (Int32.ofNat (if (kk ≤ 2 ∧ 2 < n ∧ c 2 = 46) then 1 else 0))))]))
      refine GoesW.step (fun _ hr_ => XS.iload X42.here hx rfl (hb hby at_238) rfl  hr_) ?_
      show GoesW p ee below s _ _ _ _ _ (T42.setTop (mkF m 240 #[.val (.int p1), .val (.int p2), .val (.int p3), .val (.int p4), .val (.int p5), .val (.long p6), .second, .val (.int (Int32.ofNat n)), .val (.ref b1), .val (.ref o33), .val (.int r), .val (.int (Int32.ofNat kk)), .val (.int (0 : Int32)), .val (.int z13), .unset] [(.int (Int32.ofNat kk)), (.int (3 : Int32)), (.ref b1), (.int (((Int32.ofNat (if (kk ≤ 0 ∧ 0 < n ∧ c 0 = 46) then 1 else 0)) + (Int32.ofNat (if (kk ≤ 1 ∧ 1 < n ∧ c 1 = 46) then 1 else 0))) + (Int32.ofNat (if (kk ≤ 2 ∧ 2 < n ∧ c 2 = 46) then 1 else 0))))]))
      refine GoesW.step (fun _ hr_ => XS.iload X42.here hx rfl (hb hby at_240) rfl  hr_) ?_
      show GoesW p ee below s _ _ _ _ _ (T42.setTop (mkF m 242 #[.val (.int p1), .val (.int p2), .val (.int p3), .val (.int p4), .val (.int p5), .val (.long p6), .second, .val (.int (Int32.ofNat n)), .val (.ref b1), .val (.ref o33), .val (.int r), .val (.int (Int32.ofNat kk)), .val (.int (0 : Int32)), .val (.int z13), .unset] [(.int (Int32.ofNat n)), (.int (Int32.ofNat kk)), (.int (3 : Int32)), (.ref b1), (.int (((Int32.ofNat (if (kk ≤ 0 ∧ 0 < n ∧ c 0 = 46) then 1 else 0)) + (Int32.ofNat (if (kk ≤ 1 ∧ 1 < n ∧ c 1 = 46) then 1 else 0))) + (Int32.ofNat (if (kk ≤ 2 ∧ 2 < n ∧ c 2 = 46) then 1 else 0))))]))
      have lt_b1 := A_c.lt
      have lt_o33 := Ei33.lt
      have lt_b33 := A_b33.lt
      obtain ⟨v44, T44, L44, X44, hQ44, st44⟩ := own_callS X42 hx hZ (y := (⟨"com/example/strikeshift/strikeshift/formats/TextValuesIsPlainDecimalPinLaw", "dot", "([CIII)I"⟩ : MethodName)) hown (hw _ (List.mem_of_getElem? (i := 93) rfl)) (hw _ (List.mem_of_getElem? (i := 94) rfl)) (hw _ (List.mem_of_getElem? (i := 4) rfl)) (hw _ (List.mem_of_getElem? (i := 95) rfl)) (by decide) (argsL := [(.ref b1), (.int (3 : Int32)), (.int (Int32.ofNat kk)), (.int (Int32.ofNat n))]) (rm_dot l Z a0 hw [] b1 3 kk n c h33 n0 Zp35 (by decide) (by omega) (by omega) hc A_c) e42 (W := 1) (by decide) (by decide) (by decide) (by decide) (g := (mkF m 242 #[.val (.int p1), .val (.int p2), .val (.int p3), .val (.int p4), .val (.int p5), .val (.long p6), .second, .val (.int (Int32.ofNat n)), .val (.ref b1), .val (.ref o33), .val (.int r), .val (.int (Int32.ofNat kk)), .val (.int (0 : Int32)), .val (.int z13), .unset] [(.int (Int32.ofNat n)), (.int (Int32.ofNat kk)), (.int (3 : Int32)), (.ref b1), (.int (((Int32.ofNat (if (kk ≤ 0 ∧ 0 < n ∧ c 0 = 46) then 1 else 0)) + (Int32.ofNat (if (kk ≤ 1 ∧ 1 < n ∧ c 1 = 46) then 1 else 0))) + (Int32.ofNat (if (kk ≤ 2 ∧ 2 < n ∧ c 2 = 46) then 1 else 0))))])) rfl (by rw [hml]; rfl) (rest := [(.int (((Int32.ofNat (if (kk ≤ 0 ∧ 0 < n ∧ c 0 = 46) then 1 else 0)) + (Int32.ofNat (if (kk ≤ 1 ∧ 1 < n ∧ c 1 = 46) then 1 else 0))) + (Int32.ofNat (if (kk ≤ 2 ∧ 2 < n ∧ c 2 = 46) then 1 else 0))))]) (lenOf pd_20 rfl) rfl (by show 2 * 0 + _ ≤ _; exact Nat.le_of_eq rfl) (hb hby at_242)
      refine GoesW.step st44 ?_
      obtain ⟨rfl, N44, e44⟩ := hQ44
      have N45 := Fr.app N43 N44
      show GoesW p ee below s _ _ _ _ _ (T44.setTop (mkF m 245 #[.val (.int p1), .val (.int p2), .val (.int p3), .val (.int p4), .val (.int p5), .val (.long p6), .second, .val (.int (Int32.ofNat n)), .val (.ref b1), .val (.ref o33), .val (.int r), .val (.int (Int32.ofNat kk)), .val (.int (0 : Int32)), .val (.int z13), .unset] [(.int (Int32.ofNat (if (kk ≤ 3 ∧ 3 < n ∧ c 3 = 46) then 1 else 0))), (.int (((Int32.ofNat (if (kk ≤ 0 ∧ 0 < n ∧ c 0 = 46) then 1 else 0)) + (Int32.ofNat (if (kk ≤ 1 ∧ 1 < n ∧ c 1 = 46) then 1 else 0))) + (Int32.ofNat (if (kk ≤ 2 ∧ 2 < n ∧ c 2 = 46) then 1 else 0))))]))
      refine GoesW.step (fun _ hr_ => XS.iadd X44.here hx rfl (hb hby at_245) rfl hr_) ?_
      show GoesW p ee below s _ _ _ _ _ (T44.setTop (mkF m 246 #[.val (.int p1), .val (.int p2), .val (.int p3), .val (.int p4), .val (.int p5), .val (.long p6), .second, .val (.int (Int32.ofNat n)), .val (.ref b1), .val (.ref o33), .val (.int r), .val (.int (Int32.ofNat kk)), .val (.int (0 : Int32)), .val (.int z13), .unset] [(.int ((((Int32.ofNat (if (kk ≤ 0 ∧ 0 < n ∧ c 0 = 46) then 1 else 0)) + (Int32.ofNat (if (kk ≤ 1 ∧ 1 < n ∧ c 1 = 46) then 1 else 0))) + (Int32.ofNat (if (kk ≤ 2 ∧ 2 < n ∧ c 2 = 46) then 1 else 0))) + (Int32.ofNat (if (kk ≤ 3 ∧ 3 < n ∧ c 3 = 46) then 1 else 0))))]))
      refine GoesW.step (fun _ hr_ => XS.aload X44.here hx rfl (hb hby at_246) rfl rfl hr_) ?_
      show GoesW p ee below s _ _ _ _ _ (T44.setTop (mkF m 248 #[.val (.int p1), .val (.int p2), .val (.int p3), .val (.int p4), .val (.int p5), .val (.long p6), .second, .val (.int (Int32.ofNat n)), .val (.ref b1), .val (.ref o33), .val (.int r), .val (.int (Int32.ofNat kk)), .val (.int (0 : Int32)), .val (.int z13), .unset] [(.ref b1), (.int ((((Int32.ofNat (if (kk ≤ 0 ∧ 0 < n ∧ c 0 = 46) then 1 else 0)) + (Int32.ofNat (if (kk ≤ 1 ∧ 1 < n ∧ c 1 = 46) then 1 else 0))) + (Int32.ofNat (if (kk ≤ 2 ∧ 2 < n ∧ c 2 = 46) then 1 else 0))) + (Int32.ofNat (if (kk ≤ 3 ∧ 3 < n ∧ c 3 = 46) then 1 else 0))))]))
      refine GoesW.step (fun _ hr_ => XS.iconst X44.here hx rfl (hb hby at_248) hr_) ?_
      show GoesW p ee below s _ _ _ _ _ (T44.setTop (mkF m 249 #[.val (.int p1), .val (.int p2), .val (.int p3), .val (.int p4), .val (.int p5), .val (.long p6), .second, .val (.int (Int32.ofNat n)), .val (.ref b1), .val (.ref o33), .val (.int r), .val (.int (Int32.ofNat kk)), .val (.int (0 : Int32)), .val (.int z13), .unset] [(.int (4 : Int32)), (.ref b1), (.int ((((Int32.ofNat (if (kk ≤ 0 ∧ 0 < n ∧ c 0 = 46) then 1 else 0)) + (Int32.ofNat (if (kk ≤ 1 ∧ 1 < n ∧ c 1 = 46) then 1 else 0))) + (Int32.ofNat (if (kk ≤ 2 ∧ 2 < n ∧ c 2 = 46) then 1 else 0))) + (Int32.ofNat (if (kk ≤ 3 ∧ 3 < n ∧ c 3 = 46) then 1 else 0))))]))
      refine GoesW.step (fun _ hr_ => XS.iload X44.here hx rfl (hb hby at_249) rfl  hr_) ?_
      show GoesW p ee below s _ _ _ _ _ (T44.setTop (mkF m 251 #[.val (.int p1), .val (.int p2), .val (.int p3), .val (.int p4), .val (.int p5), .val (.long p6), .second, .val (.int (Int32.ofNat n)), .val (.ref b1), .val (.ref o33), .val (.int r), .val (.int (Int32.ofNat kk)), .val (.int (0 : Int32)), .val (.int z13), .unset] [(.int (Int32.ofNat kk)), (.int (4 : Int32)), (.ref b1), (.int ((((Int32.ofNat (if (kk ≤ 0 ∧ 0 < n ∧ c 0 = 46) then 1 else 0)) + (Int32.ofNat (if (kk ≤ 1 ∧ 1 < n ∧ c 1 = 46) then 1 else 0))) + (Int32.ofNat (if (kk ≤ 2 ∧ 2 < n ∧ c 2 = 46) then 1 else 0))) + (Int32.ofNat (if (kk ≤ 3 ∧ 3 < n ∧ c 3 = 46) then 1 else 0))))]))
      refine GoesW.step (fun _ hr_ => XS.iload X44.here hx rfl (hb hby at_251) rfl  hr_) ?_
      show GoesW p ee below s _ _ _ _ _ (T44.setTop (mkF m 253 #[.val (.int p1), .val (.int p2), .val (.int p3), .val (.int p4), .val (.int p5), .val (.long p6), .second, .val (.int (Int32.ofNat n)), .val (.ref b1), .val (.ref o33), .val (.int r), .val (.int (Int32.ofNat kk)), .val (.int (0 : Int32)), .val (.int z13), .unset] [(.int (Int32.ofNat n)), (.int (Int32.ofNat kk)), (.int (4 : Int32)), (.ref b1), (.int ((((Int32.ofNat (if (kk ≤ 0 ∧ 0 < n ∧ c 0 = 46) then 1 else 0)) + (Int32.ofNat (if (kk ≤ 1 ∧ 1 < n ∧ c 1 = 46) then 1 else 0))) + (Int32.ofNat (if (kk ≤ 2 ∧ 2 < n ∧ c 2 = 46) then 1 else 0))) + (Int32.ofNat (if (kk ≤ 3 ∧ 3 < n ∧ c 3 = 46) then 1 else 0))))]))
      have lt_b1 := A_c.lt
      have lt_o33 := Ei33.lt
      have lt_b33 := A_b33.lt
      obtain ⟨v46, T46, L46, X46, hQ46, st46⟩ := own_callS X44 hx hZ (y := (⟨"com/example/strikeshift/strikeshift/formats/TextValuesIsPlainDecimalPinLaw", "dot", "([CIII)I"⟩ : MethodName)) hown (hw _ (List.mem_of_getElem? (i := 93) rfl)) (hw _ (List.mem_of_getElem? (i := 94) rfl)) (hw _ (List.mem_of_getElem? (i := 4) rfl)) (hw _ (List.mem_of_getElem? (i := 95) rfl)) (by decide) (argsL := [(.ref b1), (.int (4 : Int32)), (.int (Int32.ofNat kk)), (.int (Int32.ofNat n))]) (rm_dot l Z a0 hw [] b1 4 kk n c h33 n0 Zp35 (by decide) (by omega) (by omega) hc A_c) e44 (W := 1) (by decide) (by decide) (by decide) (by decide) (g := (mkF m 253 #[.val (.int p1), .val (.int p2), .val (.int p3), .val (.int p4), .val (.int p5), .val (.long p6), .second, .val (.int (Int32.ofNat n)), .val (.ref b1), .val (.ref o33), .val (.int r), .val (.int (Int32.ofNat kk)), .val (.int (0 : Int32)), .val (.int z13), .unset] [(.int (Int32.ofNat n)), (.int (Int32.ofNat kk)), (.int (4 : Int32)), (.ref b1), (.int ((((Int32.ofNat (if (kk ≤ 0 ∧ 0 < n ∧ c 0 = 46) then 1 else 0)) + (Int32.ofNat (if (kk ≤ 1 ∧ 1 < n ∧ c 1 = 46) then 1 else 0))) + (Int32.ofNat (if (kk ≤ 2 ∧ 2 < n ∧ c 2 = 46) then 1 else 0))) + (Int32.ofNat (if (kk ≤ 3 ∧ 3 < n ∧ c 3 = 46) then 1 else 0))))])) rfl (by rw [hml]; rfl) (rest := [(.int ((((Int32.ofNat (if (kk ≤ 0 ∧ 0 < n ∧ c 0 = 46) then 1 else 0)) + (Int32.ofNat (if (kk ≤ 1 ∧ 1 < n ∧ c 1 = 46) then 1 else 0))) + (Int32.ofNat (if (kk ≤ 2 ∧ 2 < n ∧ c 2 = 46) then 1 else 0))) + (Int32.ofNat (if (kk ≤ 3 ∧ 3 < n ∧ c 3 = 46) then 1 else 0))))]) (lenOf pd_20 rfl) rfl (by show 2 * 0 + _ ≤ _; exact Nat.le_of_eq rfl) (hb hby at_253)
      refine GoesW.step st46 ?_
      obtain ⟨rfl, N46, e46⟩ := hQ46
      have N47 := Fr.app N45 N46
      show GoesW p ee below s _ _ _ _ _ (T46.setTop (mkF m 256 #[.val (.int p1), .val (.int p2), .val (.int p3), .val (.int p4), .val (.int p5), .val (.long p6), .second, .val (.int (Int32.ofNat n)), .val (.ref b1), .val (.ref o33), .val (.int r), .val (.int (Int32.ofNat kk)), .val (.int (0 : Int32)), .val (.int z13), .unset] [(.int (Int32.ofNat (if (kk ≤ 4 ∧ 4 < n ∧ c 4 = 46) then 1 else 0))), (.int ((((Int32.ofNat (if (kk ≤ 0 ∧ 0 < n ∧ c 0 = 46) then 1 else 0)) + (Int32.ofNat (if (kk ≤ 1 ∧ 1 < n ∧ c 1 = 46) then 1 else 0))) + (Int32.ofNat (if (kk ≤ 2 ∧ 2 < n ∧ c 2 = 46) then 1 else 0))) + (Int32.ofNat (if (kk ≤ 3 ∧ 3 < n ∧ c 3 = 46) then 1 else 0))))]))
      refine GoesW.step (fun _ hr_ => XS.iadd X46.here hx rfl (hb hby at_256) rfl hr_) ?_
      show GoesW p ee below s _ _ _ _ _ (T46.setTop (mkF m 257 #[.val (.int p1), .val (.int p2), .val (.int p3), .val (.int p4), .val (.int p5), .val (.long p6), .second, .val (.int (Int32.ofNat n)), .val (.ref b1), .val (.ref o33), .val (.int r), .val (.int (Int32.ofNat kk)), .val (.int (0 : Int32)), .val (.int z13), .unset] [(.int (((((Int32.ofNat (if (kk ≤ 0 ∧ 0 < n ∧ c 0 = 46) then 1 else 0)) + (Int32.ofNat (if (kk ≤ 1 ∧ 1 < n ∧ c 1 = 46) then 1 else 0))) + (Int32.ofNat (if (kk ≤ 2 ∧ 2 < n ∧ c 2 = 46) then 1 else 0))) + (Int32.ofNat (if (kk ≤ 3 ∧ 3 < n ∧ c 3 = 46) then 1 else 0))) + (Int32.ofNat (if (kk ≤ 4 ∧ 4 < n ∧ c 4 = 46) then 1 else 0))))]))
      refine GoesW.step (fun _ hr_ => XS.aload X46.here hx rfl (hb hby at_257) rfl rfl hr_) ?_
      show GoesW p ee below s _ _ _ _ _ (T46.setTop (mkF m 259 #[.val (.int p1), .val (.int p2), .val (.int p3), .val (.int p4), .val (.int p5), .val (.long p6), .second, .val (.int (Int32.ofNat n)), .val (.ref b1), .val (.ref o33), .val (.int r), .val (.int (Int32.ofNat kk)), .val (.int (0 : Int32)), .val (.int z13), .unset] [(.ref b1), (.int (((((Int32.ofNat (if (kk ≤ 0 ∧ 0 < n ∧ c 0 = 46) then 1 else 0)) + (Int32.ofNat (if (kk ≤ 1 ∧ 1 < n ∧ c 1 = 46) then 1 else 0))) + (Int32.ofNat (if (kk ≤ 2 ∧ 2 < n ∧ c 2 = 46) then 1 else 0))) + (Int32.ofNat (if (kk ≤ 3 ∧ 3 < n ∧ c 3 = 46) then 1 else 0))) + (Int32.ofNat (if (kk ≤ 4 ∧ 4 < n ∧ c 4 = 46) then 1 else 0))))]))
      refine GoesW.step (fun _ hr_ => XS.iconst X46.here hx rfl (hb hby at_259) hr_) ?_
      show GoesW p ee below s _ _ _ _ _ (T46.setTop (mkF m 260 #[.val (.int p1), .val (.int p2), .val (.int p3), .val (.int p4), .val (.int p5), .val (.long p6), .second, .val (.int (Int32.ofNat n)), .val (.ref b1), .val (.ref o33), .val (.int r), .val (.int (Int32.ofNat kk)), .val (.int (0 : Int32)), .val (.int z13), .unset] [(.int (5 : Int32)), (.ref b1), (.int (((((Int32.ofNat (if (kk ≤ 0 ∧ 0 < n ∧ c 0 = 46) then 1 else 0)) + (Int32.ofNat (if (kk ≤ 1 ∧ 1 < n ∧ c 1 = 46) then 1 else 0))) + (Int32.ofNat (if (kk ≤ 2 ∧ 2 < n ∧ c 2 = 46) then 1 else 0))) + (Int32.ofNat (if (kk ≤ 3 ∧ 3 < n ∧ c 3 = 46) then 1 else 0))) + (Int32.ofNat (if (kk ≤ 4 ∧ 4 < n ∧ c 4 = 46) then 1 else 0))))]))
      refine GoesW.step (fun _ hr_ => XS.iload X46.here hx rfl (hb hby at_260) rfl  hr_) ?_
      show GoesW p ee below s _ _ _ _ _ (T46.setTop (mkF m 262 #[.val (.int p1), .val (.int p2), .val (.int p3), .val (.int p4), .val (.int p5), .val (.long p6), .second, .val (.int (Int32.ofNat n)), .val (.ref b1), .val (.ref o33), .val (.int r), .val (.int (Int32.ofNat kk)), .val (.int (0 : Int32)), .val (.int z13), .unset] [(.int (Int32.ofNat kk)), (.int (5 : Int32)), (.ref b1), (.int (((((Int32.ofNat (if (kk ≤ 0 ∧ 0 < n ∧ c 0 = 46) then 1 else 0)) + (Int32.ofNat (if (kk ≤ 1 ∧ 1 < n ∧ c 1 = 46) then 1 else 0))) + (Int32.ofNat (if (kk ≤ 2 ∧ 2 < n ∧ c 2 = 46) then 1 else 0))) + (Int32.ofNat (if (kk ≤ 3 ∧ 3 < n ∧ c 3 = 46) then 1 else 0))) + (Int32.ofNat (if (kk ≤ 4 ∧ 4 < n ∧ c 4 = 46) then 1 else 0))))]))
      refine GoesW.step (fun _ hr_ => XS.iload X46.here hx rfl (hb hby at_262) rfl  hr_) ?_
      show GoesW p ee below s _ _ _ _ _ (T46.setTop (mkF m 264 #[.val (.int p1), .val (.int p2), .val (.int p3), .val (.int p4), .val (.int p5), .val (.long p6), .second, .val (.int (Int32.ofNat n)), .val (.ref b1), .val (.ref o33), .val (.int r), .val (.int (Int32.ofNat kk)), .val (.int (0 : Int32)), .val (.int z13), .unset] [(.int (Int32.ofNat n)), (.int (Int32.ofNat kk)), (.int (5 : Int32)), (.ref b1), (.int (((((Int32.ofNat (if (kk ≤ 0 ∧ 0 < n ∧ c 0 = 46) then 1 else 0)) + (Int32.ofNat (if (kk ≤ 1 ∧ 1 < n ∧ c 1 = 46) then 1 else 0))) + (Int32.ofNat (if (kk ≤ 2 ∧ 2 < n ∧ c 2 = 46) then 1 else 0))) + (Int32.ofNat (if (kk ≤ 3 ∧ 3 < n ∧ c 3 = 46) then 1 else 0))) + (Int32.ofNat (if (kk ≤ 4 ∧ 4 < n ∧ c 4 = 46) then 1 else 0))))]))
      have lt_b1 := A_c.lt
      have lt_o33 := Ei33.lt
      have lt_b33 := A_b33.lt
      obtain ⟨v48, T48, L48, X48, hQ48, st48⟩ := own_callS X46 hx hZ (y := (⟨"com/example/strikeshift/strikeshift/formats/TextValuesIsPlainDecimalPinLaw", "dot", "([CIII)I"⟩ : MethodName)) hown (hw _ (List.mem_of_getElem? (i := 93) rfl)) (hw _ (List.mem_of_getElem? (i := 94) rfl)) (hw _ (List.mem_of_getElem? (i := 4) rfl)) (hw _ (List.mem_of_getElem? (i := 95) rfl)) (by decide) (argsL := [(.ref b1), (.int (5 : Int32)), (.int (Int32.ofNat kk)), (.int (Int32.ofNat n))]) (rm_dot l Z a0 hw [] b1 5 kk n c h33 n0 Zp35 (by decide) (by omega) (by omega) hc A_c) e46 (W := 1) (by decide) (by decide) (by decide) (by decide) (g := (mkF m 264 #[.val (.int p1), .val (.int p2), .val (.int p3), .val (.int p4), .val (.int p5), .val (.long p6), .second, .val (.int (Int32.ofNat n)), .val (.ref b1), .val (.ref o33), .val (.int r), .val (.int (Int32.ofNat kk)), .val (.int (0 : Int32)), .val (.int z13), .unset] [(.int (Int32.ofNat n)), (.int (Int32.ofNat kk)), (.int (5 : Int32)), (.ref b1), (.int (((((Int32.ofNat (if (kk ≤ 0 ∧ 0 < n ∧ c 0 = 46) then 1 else 0)) + (Int32.ofNat (if (kk ≤ 1 ∧ 1 < n ∧ c 1 = 46) then 1 else 0))) + (Int32.ofNat (if (kk ≤ 2 ∧ 2 < n ∧ c 2 = 46) then 1 else 0))) + (Int32.ofNat (if (kk ≤ 3 ∧ 3 < n ∧ c 3 = 46) then 1 else 0))) + (Int32.ofNat (if (kk ≤ 4 ∧ 4 < n ∧ c 4 = 46) then 1 else 0))))])) rfl (by rw [hml]; rfl) (rest := [(.int (((((Int32.ofNat (if (kk ≤ 0 ∧ 0 < n ∧ c 0 = 46) then 1 else 0)) + (Int32.ofNat (if (kk ≤ 1 ∧ 1 < n ∧ c 1 = 46) then 1 else 0))) + (Int32.ofNat (if (kk ≤ 2 ∧ 2 < n ∧ c 2 = 46) then 1 else 0))) + (Int32.ofNat (if (kk ≤ 3 ∧ 3 < n ∧ c 3 = 46) then 1 else 0))) + (Int32.ofNat (if (kk ≤ 4 ∧ 4 < n ∧ c 4 = 46) then 1 else 0))))]) (lenOf pd_20 rfl) rfl (by show 2 * 0 + _ ≤ _; exact Nat.le_of_eq rfl) (hb hby at_264)
      refine GoesW.step st48 ?_
      obtain ⟨rfl, N48, e48⟩ := hQ48
      have N49 := Fr.app N47 N48
      show GoesW p ee below s _ _ _ _ _ (T48.setTop (mkF m 267 #[.val (.int p1), .val (.int p2), .val (.int p3), .val (.int p4), .val (.int p5), .val (.long p6), .second, .val (.int (Int32.ofNat n)), .val (.ref b1), .val (.ref o33), .val (.int r), .val (.int (Int32.ofNat kk)), .val (.int (0 : Int32)), .val (.int z13), .unset] [(.int (Int32.ofNat (if (kk ≤ 5 ∧ 5 < n ∧ c 5 = 46) then 1 else 0))), (.int (((((Int32.ofNat (if (kk ≤ 0 ∧ 0 < n ∧ c 0 = 46) then 1 else 0)) + (Int32.ofNat (if (kk ≤ 1 ∧ 1 < n ∧ c 1 = 46) then 1 else 0))) + (Int32.ofNat (if (kk ≤ 2 ∧ 2 < n ∧ c 2 = 46) then 1 else 0))) + (Int32.ofNat (if (kk ≤ 3 ∧ 3 < n ∧ c 3 = 46) then 1 else 0))) + (Int32.ofNat (if (kk ≤ 4 ∧ 4 < n ∧ c 4 = 46) then 1 else 0))))]))
      refine GoesW.step (fun _ hr_ => XS.iadd X48.here hx rfl (hb hby at_267) rfl hr_) ?_
      show GoesW p ee below s _ _ _ _ _ (T48.setTop (mkF m 268 #[.val (.int p1), .val (.int p2), .val (.int p3), .val (.int p4), .val (.int p5), .val (.long p6), .second, .val (.int (Int32.ofNat n)), .val (.ref b1), .val (.ref o33), .val (.int r), .val (.int (Int32.ofNat kk)), .val (.int (0 : Int32)), .val (.int z13), .unset] [(.int ((((((Int32.ofNat (if (kk ≤ 0 ∧ 0 < n ∧ c 0 = 46) then 1 else 0)) + (Int32.ofNat (if (kk ≤ 1 ∧ 1 < n ∧ c 1 = 46) then 1 else 0))) + (Int32.ofNat (if (kk ≤ 2 ∧ 2 < n ∧ c 2 = 46) then 1 else 0))) + (Int32.ofNat (if (kk ≤ 3 ∧ 3 < n ∧ c 3 = 46) then 1 else 0))) + (Int32.ofNat (if (kk ≤ 4 ∧ 4 < n ∧ c 4 = 46) then 1 else 0))) + (Int32.ofNat (if (kk ≤ 5 ∧ 5 < n ∧ c 5 = 46) then 1 else 0))))]))
      obtain ⟨ds, hds⟩ : ∃ ds : Nat, ds = ((if kk ≤ 0 ∧ 0 < n ∧ c 0 = 46 then 1 else 0) : Nat) + ((if kk ≤ 1 ∧ 1 < n ∧ c 1 = 46 then 1 else 0) : Nat) + ((if kk ≤ 2 ∧ 2 < n ∧ c 2 = 46 then 1 else 0) : Nat) + ((if kk ≤ 3 ∧ 3 < n ∧ c 3 = 46 then 1 else 0) : Nat) + ((if kk ≤ 4 ∧ 4 < n ∧ c 4 = 46 then 1 else 0) : Nat) + ((if kk ≤ 5 ∧ 5 < n ∧ c 5 = 46 then 1 else 0) : Nat) := ⟨_, rfl⟩
      have hds6 : ds ≤ 6 := by
        subst hds
        have hb : ∀ P : Prop, ∀ [Decidable P], (if P then 1 else 0 : Nat) ≤ 1 := fun P _ => by split <;> decide
        have b0 := hb (kk ≤ 0 ∧ 0 < n ∧ c 0 = 46)
        have b1 := hb (kk ≤ 1 ∧ 1 < n ∧ c 1 = 46)
        have b2 := hb (kk ≤ 2 ∧ 2 < n ∧ c 2 = 46)
        have b3 := hb (kk ≤ 3 ∧ 3 < n ∧ c 3 = 46)
        have b4 := hb (kk ≤ 4 ∧ 4 < n ∧ c 4 = 46)
        have b5 := hb (kk ≤ 5 ∧ 5 < n ∧ c 5 = 46)
        omega
      rw [own_addN, own_addN, own_addN, own_addN, own_addN, ← hds]
      show GoesW p ee below s _ _ _ _ _ (T48.setTop (mkF m 268 #[.val (.int p1), .val (.int p2), .val (.int p3), .val (.int p4), .val (.int p5), .val (.long p6), .second, .val (.int (Int32.ofNat n)), .val (.ref b1), .val (.ref o33), .val (.int r), .val (.int (Int32.ofNat kk)), .val (.int (0 : Int32)), .val (.int z13), .unset] [(.int (Int32.ofNat ds))]))
      refine GoesW.step (fun _ hr_ => XS.istore X48.here hx rfl (hb hby at_268) rfl  (l' := #[.val (.int p1), .val (.int p2), .val (.int p3), .val (.int p4), .val (.int p5), .val (.long p6), .second, .val (.int (Int32.ofNat n)), .val (.ref b1), .val (.ref o33), .val (.int r), .val (.int (Int32.ofNat kk)), .val (.int (0 : Int32)), .val (.int z13), .val (.int (Int32.ofNat ds))]) rfl hr_) ?_
      show GoesW p ee below s _ _ _ _ _ (T48.setTop (mkF m 270 #[.val (.int p1), .val (.int p2), .val (.int p3), .val (.int p4), .val (.int p5), .val (.long p6), .second, .val (.int (Int32.ofNat n)), .val (.ref b1), .val (.ref o33), .val (.int r), .val (.int (Int32.ofNat kk)), .val (.int (0 : Int32)), .val (.int z13), .val (.int (Int32.ofNat ds))] []))
      refine GoesW.step (fun _ hr_ => XS.iload X48.here hx rfl (hb hby at_270) rfl  hr_) ?_
      show GoesW p ee below s _ _ _ _ _ (T48.setTop (mkF m 272 #[.val (.int p1), .val (.int p2), .val (.int p3), .val (.int p4), .val (.int p5), .val (.long p6), .second, .val (.int (Int32.ofNat n)), .val (.ref b1), .val (.ref o33), .val (.int r), .val (.int (Int32.ofNat kk)), .val (.int (0 : Int32)), .val (.int z13), .val (.int (Int32.ofNat ds))] [(.int z13)]))
      rcases hz13 with ⟨hz, hok⟩ | ⟨hz, hok⟩
      · show GoesW p ee below s _ _ _ _ _ (T48.setTop (mkF m 272 #[.val (.int p1), .val (.int p2), .val (.int p3), .val (.int p4), .val (.int p5), .val (.long p6), .second, .val (.int (Int32.ofNat n)), .val (.ref b1), .val (.ref o33), .val (.int r), .val (.int (Int32.ofNat kk)), .val (.int (0 : Int32)), .val (.int z13), .val (.int (Int32.ofNat ds))] [(.int z13)]))
        refine GoesW.step (fun _ hr_ => XS.ifNo X48.here hx rfl (hb hby at_272) rfl ((if0 _ _).trans (feq (by rw [hz]; decide)).1) hr_) ?_
        show GoesW p ee below s _ _ _ _ _ (T48.setTop (mkF m 275 #[.val (.int p1), .val (.int p2), .val (.int p3), .val (.int p4), .val (.int p5), .val (.long p6), .second, .val (.int (Int32.ofNat n)), .val (.ref b1), .val (.ref o33), .val (.int r), .val (.int (Int32.ofNat kk)), .val (.int (0 : Int32)), .val (.int z13), .val (.int (Int32.ofNat ds))] []))
        refine GoesW.step (fun _ hr_ => XS.iload X48.here hx rfl (hb hby at_275) rfl  hr_) ?_
        show GoesW p ee below s _ _ _ _ _ (T48.setTop (mkF m 277 #[.val (.int p1), .val (.int p2), .val (.int p3), .val (.int p4), .val (.int p5), .val (.long p6), .second, .val (.int (Int32.ofNat n)), .val (.ref b1), .val (.ref o33), .val (.int r), .val (.int (Int32.ofNat kk)), .val (.int (0 : Int32)), .val (.int z13), .val (.int (Int32.ofNat ds))] [(.int (Int32.ofNat ds))]))
        refine GoesW.step (fun _ hr_ => XS.iconst X48.here hx rfl (hb hby at_277) hr_) ?_
        show GoesW p ee below s _ _ _ _ _ (T48.setTop (mkF m 278 #[.val (.int p1), .val (.int p2), .val (.int p3), .val (.int p4), .val (.int p5), .val (.long p6), .second, .val (.int (Int32.ofNat n)), .val (.ref b1), .val (.ref o33), .val (.int r), .val (.int (Int32.ofNat kk)), .val (.int (0 : Int32)), .val (.int z13), .val (.int (Int32.ofNat ds))] [(.int (1 : Int32)), (.int (Int32.ofNat ds))]))
        by_cases hn278_50 : 1 < ds
        · refine GoesW.step (fun _ hr_ => XS.icmpYes X48.here hx rfl (pc0 := 278) (pc' := 307) rfl (hb hby at_278) rfl (tlt ((own_ltN 1 ds (by decide) (by omega)).mpr hn278_50)).2.2.1 (by decide) (by decide) hr_) ?_
          show GoesW p ee below s _ _ _ _ _ (T48.setTop (mkF m 307 #[.val (.int p1), .val (.int p2), .val (.int p3), .val (.int p4), .val (.int p5), .val (.long p6), .second, .val (.int (Int32.ofNat n)), .val (.ref b1), .val (.ref o33), .val (.int r), .val (.int (Int32.ofNat kk)), .val (.int (0 : Int32)), .val (.int z13), .val (.int (Int32.ofNat ds))] []))
          refine GoesW.step (fun _ hr_ => XS.iconst X48.here hx rfl (hb hby at_307) hr_) ?_
          show GoesW p ee below s _ _ _ _ _ (T48.setTop (mkF m 308 #[.val (.int p1), .val (.int p2), .val (.int p3), .val (.int p4), .val (.int p5), .val (.long p6), .second, .val (.int (Int32.ofNat n)), .val (.ref b1), .val (.ref o33), .val (.int r), .val (.int (Int32.ofNat kk)), .val (.int (0 : Int32)), .val (.int z13), .val (.int (Int32.ofNat ds))] [(.int (0 : Int32))]))
          refine GoesW.step (fun _ hr_ => XS.istore X48.here hx rfl (hb hby at_308) rfl  (l' := #[.val (.int p1), .val (.int p2), .val (.int p3), .val (.int p4), .val (.int p5), .val (.long p6), .second, .val (.int (Int32.ofNat n)), .val (.ref b1), .val (.ref o33), .val (.int r), .val (.int (Int32.ofNat kk)), .val (.int (0 : Int32)), .val (.int z13), .val (.int (Int32.ofNat ds))]) rfl hr_) ?_
          show GoesW p ee below s _ _ _ _ _ (T48.setTop (mkF m 310 #[.val (.int p1), .val (.int p2), .val (.int p3), .val (.int p4), .val (.int p5), .val (.long p6), .second, .val (.int (Int32.ofNat n)), .val (.ref b1), .val (.ref o33), .val (.int r), .val (.int (Int32.ofNat kk)), .val (.int (0 : Int32)), .val (.int z13), .val (.int (Int32.ofNat ds))] []))
          exact J310 _ (.val (.int z13)) (.val (.int (Int32.ofNat ds))) _ _ X48 e48 N49 (by
            rcases hr with ⟨-, q⟩ | ⟨q, -⟩
            · exfalso
              rw [← hkk] at q
              have g := (own_fin n c kk hn hkn).mp q
              have g2 := (own_two (D := fun i => kk ≤ i ∧ i < n ∧ c i = 46)).mpr g.2.1
              omega
            · exact q)
        · refine GoesW.step (fun _ hr_ => XS.icmpNo X48.here hx rfl (hb hby at_278) rfl (flt (fun z => hn278_50 ((own_ltN 1 ds (by decide) (by omega)).mp z))).2.2.1 hr_) ?_
          show GoesW p ee below s _ _ _ _ _ (T48.setTop (mkF m 281 #[.val (.int p1), .val (.int p2), .val (.int p3), .val (.int p4), .val (.int p5), .val (.long p6), .second, .val (.int (Int32.ofNat n)), .val (.ref b1), .val (.ref o33), .val (.int r), .val (.int (Int32.ofNat kk)), .val (.int (0 : Int32)), .val (.int z13), .val (.int (Int32.ofNat ds))] []))
          refine GoesW.step (fun _ hr_ => XS.aload X48.here hx rfl (hb hby at_281) rfl rfl hr_) ?_
          show GoesW p ee below s _ _ _ _ _ (T48.setTop (mkF m 283 #[.val (.int p1), .val (.int p2), .val (.int p3), .val (.int p4), .val (.int p5), .val (.long p6), .second, .val (.int (Int32.ofNat n)), .val (.ref b1), .val (.ref o33), .val (.int r), .val (.int (Int32.ofNat kk)), .val (.int (0 : Int32)), .val (.int z13), .val (.int (Int32.ofNat ds))] [(.ref b1)]))
          refine GoesW.step (fun _ hr_ => XS.iload X48.here hx rfl (hb hby at_283) rfl  hr_) ?_
          show GoesW p ee below s _ _ _ _ _ (T48.setTop (mkF m 285 #[.val (.int p1), .val (.int p2), .val (.int p3), .val (.int p4), .val (.int p5), .val (.long p6), .second, .val (.int (Int32.ofNat n)), .val (.ref b1), .val (.ref o33), .val (.int r), .val (.int (Int32.ofNat kk)), .val (.int (0 : Int32)), .val (.int z13), .val (.int (Int32.ofNat ds))] [(.int (Int32.ofNat kk)), (.ref b1)]))
          refine GoesW.step (own_caload X48 hx hZ e48 A_c (j := (Int32.ofNat kk)) (own_nneg kk (by omega)) (k := kk) (own_clamp kk (by omega)) (by omega) (v := (.int (Int32.ofNat (c kk)))) rfl (g := (mkF m 285 #[.val (.int p1), .val (.int p2), .val (.int p3), .val (.int p4), .val (.int p5), .val (.long p6), .second, .val (.int (Int32.ofNat n)), .val (.ref b1), .val (.ref o33), .val (.int r), .val (.int (Int32.ofNat kk)), .val (.int (0 : Int32)), .val (.int z13), .val (.int (Int32.ofNat ds))] [(.int (Int32.ofNat kk)), (.ref b1)])) rfl rfl (hb hby at_285)) ?_
          show GoesW p ee below s _ _ _ _ _ (T48.setTop (mkF m 286 #[.val (.int p1), .val (.int p2), .val (.int p3), .val (.int p4), .val (.int p5), .val (.long p6), .second, .val (.int (Int32.ofNat n)), .val (.ref b1), .val (.ref o33), .val (.int r), .val (.int (Int32.ofNat kk)), .val (.int (0 : Int32)), .val (.int z13), .val (.int (Int32.ofNat ds))] [(.int (Int32.ofNat (c kk)))]))
          refine GoesW.step (fun _ hr_ => XS.bipush X48.here hx rfl (hb hby at_286) hr_) ?_
          show GoesW p ee below s _ _ _ _ _ (T48.setTop (mkF m 288 #[.val (.int p1), .val (.int p2), .val (.int p3), .val (.int p4), .val (.int p5), .val (.long p6), .second, .val (.int (Int32.ofNat n)), .val (.ref b1), .val (.ref o33), .val (.int r), .val (.int (Int32.ofNat kk)), .val (.int (0 : Int32)), .val (.int z13), .val (.int (Int32.ofNat ds))] [(.int (46 : Int32)), (.int (Int32.ofNat (c kk)))]))
          by_cases hn288_51 : c kk = 46
          · refine GoesW.step (fun _ hr_ => XS.icmpYes X48.here hx rfl (pc0 := 288) (pc' := 307) rfl (hb hby at_288) rfl (teq ((own_eqN (c kk) 46 (Nat.lt_trans (hc kk (by omega)) (by decide)) (by decide)).mpr hn288_51)).1 (by decide) (by decide) hr_) ?_
            show GoesW p ee below s _ _ _ _ _ (T48.setTop (mkF m 307 #[.val (.int p1), .val (.int p2), .val (.int p3), .val (.int p4), .val (.int p5), .val (.long p6), .second, .val (.int (Int32.ofNat n)), .val (.ref b1), .val (.ref o33), .val (.int r), .val (.int (Int32.ofNat kk)), .val (.int (0 : Int32)), .val (.int z13), .val (.int (Int32.ofNat ds))] []))
            refine GoesW.step (fun _ hr_ => XS.iconst X48.here hx rfl (hb hby at_307) hr_) ?_
            show GoesW p ee below s _ _ _ _ _ (T48.setTop (mkF m 308 #[.val (.int p1), .val (.int p2), .val (.int p3), .val (.int p4), .val (.int p5), .val (.long p6), .second, .val (.int (Int32.ofNat n)), .val (.ref b1), .val (.ref o33), .val (.int r), .val (.int (Int32.ofNat kk)), .val (.int (0 : Int32)), .val (.int z13), .val (.int (Int32.ofNat ds))] [(.int (0 : Int32))]))
            refine GoesW.step (fun _ hr_ => XS.istore X48.here hx rfl (hb hby at_308) rfl  (l' := #[.val (.int p1), .val (.int p2), .val (.int p3), .val (.int p4), .val (.int p5), .val (.long p6), .second, .val (.int (Int32.ofNat n)), .val (.ref b1), .val (.ref o33), .val (.int r), .val (.int (Int32.ofNat kk)), .val (.int (0 : Int32)), .val (.int z13), .val (.int (Int32.ofNat ds))]) rfl hr_) ?_
            show GoesW p ee below s _ _ _ _ _ (T48.setTop (mkF m 310 #[.val (.int p1), .val (.int p2), .val (.int p3), .val (.int p4), .val (.int p5), .val (.long p6), .second, .val (.int (Int32.ofNat n)), .val (.ref b1), .val (.ref o33), .val (.int r), .val (.int (Int32.ofNat kk)), .val (.int (0 : Int32)), .val (.int z13), .val (.int (Int32.ofNat ds))] []))
            exact J310 _ (.val (.int z13)) (.val (.int (Int32.ofNat ds))) _ _ X48 e48 N49 (by
              rcases hr with ⟨-, q⟩ | ⟨q, -⟩
              · exfalso
                rw [← hkk] at q
                have g := (own_fin n c kk hn hkn).mp q
                exact g.2.2.1 hn288_51
              · exact q)
          · refine GoesW.step (fun _ hr_ => XS.icmpNo X48.here hx rfl (hb hby at_288) rfl (feq (fun z => hn288_51 ((own_eqN (c kk) 46 (Nat.lt_trans (hc kk (by omega)) (by decide)) (by decide)).mp z))).1 hr_) ?_
            show GoesW p ee below s _ _ _ _ _ (T48.setTop (mkF m 291 #[.val (.int p1), .val (.int p2), .val (.int p3), .val (.int p4), .val (.int p5), .val (.long p6), .second, .val (.int (Int32.ofNat n)), .val (.ref b1), .val (.ref o33), .val (.int r), .val (.int (Int32.ofNat kk)), .val (.int (0 : Int32)), .val (.int z13), .val (.int (Int32.ofNat ds))] []))
            refine GoesW.step (fun _ hr_ => XS.aload X48.here hx rfl (hb hby at_291) rfl rfl hr_) ?_
            show GoesW p ee below s _ _ _ _ _ (T48.setTop (mkF m 293 #[.val (.int p1), .val (.int p2), .val (.int p3), .val (.int p4), .val (.int p5), .val (.long p6), .second, .val (.int (Int32.ofNat n)), .val (.ref b1), .val (.ref o33), .val (.int r), .val (.int (Int32.ofNat kk)), .val (.int (0 : Int32)), .val (.int z13), .val (.int (Int32.ofNat ds))] [(.ref b1)]))
            refine GoesW.step (fun _ hr_ => XS.iload X48.here hx rfl (hb hby at_293) rfl  hr_) ?_
            show GoesW p ee below s _ _ _ _ _ (T48.setTop (mkF m 295 #[.val (.int p1), .val (.int p2), .val (.int p3), .val (.int p4), .val (.int p5), .val (.long p6), .second, .val (.int (Int32.ofNat n)), .val (.ref b1), .val (.ref o33), .val (.int r), .val (.int (Int32.ofNat kk)), .val (.int (0 : Int32)), .val (.int z13), .val (.int (Int32.ofNat ds))] [(.int (Int32.ofNat n)), (.ref b1)]))
            refine GoesW.step (fun _ hr_ => XS.iconst X48.here hx rfl (hb hby at_295) hr_) ?_
            show GoesW p ee below s _ _ _ _ _ (T48.setTop (mkF m 296 #[.val (.int p1), .val (.int p2), .val (.int p3), .val (.int p4), .val (.int p5), .val (.long p6), .second, .val (.int (Int32.ofNat n)), .val (.ref b1), .val (.ref o33), .val (.int r), .val (.int (Int32.ofNat kk)), .val (.int (0 : Int32)), .val (.int z13), .val (.int (Int32.ofNat ds))] [(.int (1 : Int32)), (.int (Int32.ofNat n)), (.ref b1)]))
            refine GoesW.step (fun _ hr_ => XS.isub X48.here hx rfl (hb hby at_296) rfl hr_) ?_
            show GoesW p ee below s _ _ _ _ _ (T48.setTop (mkF m 297 #[.val (.int p1), .val (.int p2), .val (.int p3), .val (.int p4), .val (.int p5), .val (.long p6), .second, .val (.int (Int32.ofNat n)), .val (.ref b1), .val (.ref o33), .val (.int r), .val (.int (Int32.ofNat kk)), .val (.int (0 : Int32)), .val (.int z13), .val (.int (Int32.ofNat ds))] [(.int ((Int32.ofNat n) - (1 : Int32))), (.ref b1)]))
            refine GoesW.step (own_caload X48 hx hZ e48 A_c (j := ((Int32.ofNat n) - (1 : Int32))) (own_ixs n 1 (by omega) (by omega)).1 (k := (n - 1)) (own_ixs n 1 (by omega) (by omega)).2 (by omega) (v := (.int (Int32.ofNat (c (n - 1))))) rfl (g := (mkF m 297 #[.val (.int p1), .val (.int p2), .val (.int p3), .val (.int p4), .val (.int p5), .val (.long p6), .second, .val (.int (Int32.ofNat n)), .val (.ref b1), .val (.ref o33), .val (.int r), .val (.int (Int32.ofNat kk)), .val (.int (0 : Int32)), .val (.int z13), .val (.int (Int32.ofNat ds))] [(.int ((Int32.ofNat n) - (1 : Int32))), (.ref b1)])) rfl rfl (hb hby at_297)) ?_
            show GoesW p ee below s _ _ _ _ _ (T48.setTop (mkF m 298 #[.val (.int p1), .val (.int p2), .val (.int p3), .val (.int p4), .val (.int p5), .val (.long p6), .second, .val (.int (Int32.ofNat n)), .val (.ref b1), .val (.ref o33), .val (.int r), .val (.int (Int32.ofNat kk)), .val (.int (0 : Int32)), .val (.int z13), .val (.int (Int32.ofNat ds))] [(.int (Int32.ofNat (c (n - 1))))]))
            refine GoesW.step (fun _ hr_ => XS.bipush X48.here hx rfl (hb hby at_298) hr_) ?_
            show GoesW p ee below s _ _ _ _ _ (T48.setTop (mkF m 300 #[.val (.int p1), .val (.int p2), .val (.int p3), .val (.int p4), .val (.int p5), .val (.long p6), .second, .val (.int (Int32.ofNat n)), .val (.ref b1), .val (.ref o33), .val (.int r), .val (.int (Int32.ofNat kk)), .val (.int (0 : Int32)), .val (.int z13), .val (.int (Int32.ofNat ds))] [(.int (46 : Int32)), (.int (Int32.ofNat (c (n - 1))))]))
            by_cases hn300_52 : c (n - 1) = 46
            · refine GoesW.step (fun _ hr_ => XS.icmpYes X48.here hx rfl (pc0 := 300) (pc' := 307) rfl (hb hby at_300) rfl (teq ((own_eqN (c (n - 1)) 46 (Nat.lt_trans (hc (n - 1) (by omega)) (by decide)) (by decide)).mpr hn300_52)).1 (by decide) (by decide) hr_) ?_
              show GoesW p ee below s _ _ _ _ _ (T48.setTop (mkF m 307 #[.val (.int p1), .val (.int p2), .val (.int p3), .val (.int p4), .val (.int p5), .val (.long p6), .second, .val (.int (Int32.ofNat n)), .val (.ref b1), .val (.ref o33), .val (.int r), .val (.int (Int32.ofNat kk)), .val (.int (0 : Int32)), .val (.int z13), .val (.int (Int32.ofNat ds))] []))
              refine GoesW.step (fun _ hr_ => XS.iconst X48.here hx rfl (hb hby at_307) hr_) ?_
              show GoesW p ee below s _ _ _ _ _ (T48.setTop (mkF m 308 #[.val (.int p1), .val (.int p2), .val (.int p3), .val (.int p4), .val (.int p5), .val (.long p6), .second, .val (.int (Int32.ofNat n)), .val (.ref b1), .val (.ref o33), .val (.int r), .val (.int (Int32.ofNat kk)), .val (.int (0 : Int32)), .val (.int z13), .val (.int (Int32.ofNat ds))] [(.int (0 : Int32))]))
              refine GoesW.step (fun _ hr_ => XS.istore X48.here hx rfl (hb hby at_308) rfl  (l' := #[.val (.int p1), .val (.int p2), .val (.int p3), .val (.int p4), .val (.int p5), .val (.long p6), .second, .val (.int (Int32.ofNat n)), .val (.ref b1), .val (.ref o33), .val (.int r), .val (.int (Int32.ofNat kk)), .val (.int (0 : Int32)), .val (.int z13), .val (.int (Int32.ofNat ds))]) rfl hr_) ?_
              show GoesW p ee below s _ _ _ _ _ (T48.setTop (mkF m 310 #[.val (.int p1), .val (.int p2), .val (.int p3), .val (.int p4), .val (.int p5), .val (.long p6), .second, .val (.int (Int32.ofNat n)), .val (.ref b1), .val (.ref o33), .val (.int r), .val (.int (Int32.ofNat kk)), .val (.int (0 : Int32)), .val (.int z13), .val (.int (Int32.ofNat ds))] []))
              exact J310 _ (.val (.int z13)) (.val (.int (Int32.ofNat ds))) _ _ X48 e48 N49 (by
                rcases hr with ⟨-, q⟩ | ⟨q, -⟩
                · exfalso
                  rw [← hkk] at q
                  have g := (own_fin n c kk hn hkn).mp q
                  exact g.2.2.2 hn300_52
                · exact q)
            · refine GoesW.step (fun _ hr_ => XS.icmpNo X48.here hx rfl (hb hby at_300) rfl (feq (fun z => hn300_52 ((own_eqN (c (n - 1)) 46 (Nat.lt_trans (hc (n - 1) (by omega)) (by decide)) (by decide)).mp z))).1 hr_) ?_
              show GoesW p ee below s _ _ _ _ _ (T48.setTop (mkF m 303 #[.val (.int p1), .val (.int p2), .val (.int p3), .val (.int p4), .val (.int p5), .val (.long p6), .second, .val (.int (Int32.ofNat n)), .val (.ref b1), .val (.ref o33), .val (.int r), .val (.int (Int32.ofNat kk)), .val (.int (0 : Int32)), .val (.int z13), .val (.int (Int32.ofNat ds))] []))
              refine GoesW.step (fun _ hr_ => XS.iconst X48.here hx rfl (hb hby at_303) hr_) ?_
              show GoesW p ee below s _ _ _ _ _ (T48.setTop (mkF m 304 #[.val (.int p1), .val (.int p2), .val (.int p3), .val (.int p4), .val (.int p5), .val (.long p6), .second, .val (.int (Int32.ofNat n)), .val (.ref b1), .val (.ref o33), .val (.int r), .val (.int (Int32.ofNat kk)), .val (.int (0 : Int32)), .val (.int z13), .val (.int (Int32.ofNat ds))] [(.int (1 : Int32))]))
              refine GoesW.step (fun _ hr_ => XS.goto X48.here hx rfl (pc0 := 304) (pc' := 308) rfl (hb hby at_304) (by decide) (by decide) hr_) ?_
              show GoesW p ee below s _ _ _ _ _ (T48.setTop (mkF m 308 #[.val (.int p1), .val (.int p2), .val (.int p3), .val (.int p4), .val (.int p5), .val (.long p6), .second, .val (.int (Int32.ofNat n)), .val (.ref b1), .val (.ref o33), .val (.int r), .val (.int (Int32.ofNat kk)), .val (.int (0 : Int32)), .val (.int z13), .val (.int (Int32.ofNat ds))] [(.int (1 : Int32))]))
              refine GoesW.step (fun _ hr_ => XS.istore X48.here hx rfl (hb hby at_308) rfl  (l' := #[.val (.int p1), .val (.int p2), .val (.int p3), .val (.int p4), .val (.int p5), .val (.long p6), .second, .val (.int (Int32.ofNat n)), .val (.ref b1), .val (.ref o33), .val (.int r), .val (.int (Int32.ofNat kk)), .val (.int (1 : Int32)), .val (.int z13), .val (.int (Int32.ofNat ds))]) rfl hr_) ?_
              show GoesW p ee below s _ _ _ _ _ (T48.setTop (mkF m 310 #[.val (.int p1), .val (.int p2), .val (.int p3), .val (.int p4), .val (.int p5), .val (.long p6), .second, .val (.int (Int32.ofNat n)), .val (.ref b1), .val (.ref o33), .val (.int r), .val (.int (Int32.ofNat kk)), .val (.int (1 : Int32)), .val (.int z13), .val (.int (Int32.ofNat ds))] []))
              exact J310 _ (.val (.int z13)) (.val (.int (Int32.ofNat ds))) _ _ X48 e48 N49 (by
                rcases hr with ⟨q, -⟩ | ⟨-, q⟩
                · exact q
                · exfalso
                  rw [← hkk] at q
                  exact q ((own_fin n c kk hn hkn).mpr ⟨hok, own_two (D := fun i => kk ≤ i ∧ i < n ∧ c i = 46) |>.mp (by omega), hn288_51, hn300_52⟩))
      · show GoesW p ee below s _ _ _ _ _ (T48.setTop (mkF m 272 #[.val (.int p1), .val (.int p2), .val (.int p3), .val (.int p4), .val (.int p5), .val (.long p6), .second, .val (.int (Int32.ofNat n)), .val (.ref b1), .val (.ref o33), .val (.int r), .val (.int (Int32.ofNat kk)), .val (.int (0 : Int32)), .val (.int z13), .val (.int (Int32.ofNat ds))] [(.int z13)]))
        refine GoesW.step (fun _ hr_ => XS.ifYes X48.here hx rfl (pc0 := 272) (pc' := 307) rfl (hb hby at_272) rfl ((if0 _ _).trans (teq hz).1) (by decide) (by decide) hr_) ?_
        show GoesW p ee below s _ _ _ _ _ (T48.setTop (mkF m 307 #[.val (.int p1), .val (.int p2), .val (.int p3), .val (.int p4), .val (.int p5), .val (.long p6), .second, .val (.int (Int32.ofNat n)), .val (.ref b1), .val (.ref o33), .val (.int r), .val (.int (Int32.ofNat kk)), .val (.int (0 : Int32)), .val (.int z13), .val (.int (Int32.ofNat ds))] []))
        refine GoesW.step (fun _ hr_ => XS.iconst X48.here hx rfl (hb hby at_307) hr_) ?_
        show GoesW p ee below s _ _ _ _ _ (T48.setTop (mkF m 308 #[.val (.int p1), .val (.int p2), .val (.int p3), .val (.int p4), .val (.int p5), .val (.long p6), .second, .val (.int (Int32.ofNat n)), .val (.ref b1), .val (.ref o33), .val (.int r), .val (.int (Int32.ofNat kk)), .val (.int (0 : Int32)), .val (.int z13), .val (.int (Int32.ofNat ds))] [(.int (0 : Int32))]))
        refine GoesW.step (fun _ hr_ => XS.istore X48.here hx rfl (hb hby at_308) rfl  (l' := #[.val (.int p1), .val (.int p2), .val (.int p3), .val (.int p4), .val (.int p5), .val (.long p6), .second, .val (.int (Int32.ofNat n)), .val (.ref b1), .val (.ref o33), .val (.int r), .val (.int (Int32.ofNat kk)), .val (.int (0 : Int32)), .val (.int z13), .val (.int (Int32.ofNat ds))]) rfl hr_) ?_
        show GoesW p ee below s _ _ _ _ _ (T48.setTop (mkF m 310 #[.val (.int p1), .val (.int p2), .val (.int p3), .val (.int p4), .val (.int p5), .val (.long p6), .second, .val (.int (Int32.ofNat n)), .val (.ref b1), .val (.ref o33), .val (.int r), .val (.int (Int32.ofNat kk)), .val (.int (0 : Int32)), .val (.int z13), .val (.int (Int32.ofNat ds))] []))
        exact J310 _ (.val (.int z13)) (.val (.int (Int32.ofNat ds))) _ _ X48 e48 N49 (by
          rcases hr with ⟨-, q⟩ | ⟨q, -⟩
          · exfalso
            rw [← hkk] at q
            have g := (own_fin n c kk hn hkn).mp q
            exact hok g.1
          · exact q)
    refine GoesW.step (fun _ hr_ => XS.iload X36.here hx rfl (hb hby at_111) rfl  hr_) ?_
    show GoesW p ee below s _ _ _ _ _ (T36.setTop (mkF m 113 #[.val (.int p1), .val (.int p2), .val (.int p3), .val (.int p4), .val (.int p5), .val (.long p6), .second, .val (.int (Int32.ofNat n)), .val (.ref b1), .val (.ref o33), .val (.int r), .val (.int (Int32.ofNat kk)), .val (.int (0 : Int32)), .unset, .unset] [(.int (Int32.ofNat n))]))
    refine GoesW.step (fun _ hr_ => XS.iload X36.here hx rfl (hb hby at_113) rfl  hr_) ?_
    show GoesW p ee below s _ _ _ _ _ (T36.setTop (mkF m 115 #[.val (.int p1), .val (.int p2), .val (.int p3), .val (.int p4), .val (.int p5), .val (.long p6), .second, .val (.int (Int32.ofNat n)), .val (.ref b1), .val (.ref o33), .val (.int r), .val (.int (Int32.ofNat kk)), .val (.int (0 : Int32)), .unset, .unset] [(.int (Int32.ofNat kk)), (.int (Int32.ofNat n))]))
    by_cases hn115_53 : kk < n
    · refine GoesW.step (fun _ hr_ => XS.icmpNo X36.here hx rfl (hb hby at_115) rfl (tlt ((own_ltN kk n (by omega) (by omega)).mpr hn115_53)).2.2.2 hr_) ?_
      show GoesW p ee below s _ _ _ _ _ (T36.setTop (mkF m 118 #[.val (.int p1), .val (.int p2), .val (.int p3), .val (.int p4), .val (.int p5), .val (.long p6), .second, .val (.int (Int32.ofNat n)), .val (.ref b1), .val (.ref o33), .val (.int r), .val (.int (Int32.ofNat kk)), .val (.int (0 : Int32)), .unset, .unset] []))
      refine GoesW.step (fun _ hr_ => XS.aload X36.here hx rfl (hb hby at_118) rfl rfl hr_) ?_
      show GoesW p ee below s _ _ _ _ _ (T36.setTop (mkF m 120 #[.val (.int p1), .val (.int p2), .val (.int p3), .val (.int p4), .val (.int p5), .val (.long p6), .second, .val (.int (Int32.ofNat n)), .val (.ref b1), .val (.ref o33), .val (.int r), .val (.int (Int32.ofNat kk)), .val (.int (0 : Int32)), .unset, .unset] [(.ref b1)]))
      refine GoesW.step (fun _ hr_ => XS.iconst X36.here hx rfl (hb hby at_120) hr_) ?_
      show GoesW p ee below s _ _ _ _ _ (T36.setTop (mkF m 121 #[.val (.int p1), .val (.int p2), .val (.int p3), .val (.int p4), .val (.int p5), .val (.long p6), .second, .val (.int (Int32.ofNat n)), .val (.ref b1), .val (.ref o33), .val (.int r), .val (.int (Int32.ofNat kk)), .val (.int (0 : Int32)), .unset, .unset] [(.int (0 : Int32)), (.ref b1)]))
      refine GoesW.step (fun _ hr_ => XS.iload X36.here hx rfl (hb hby at_121) rfl  hr_) ?_
      show GoesW p ee below s _ _ _ _ _ (T36.setTop (mkF m 123 #[.val (.int p1), .val (.int p2), .val (.int p3), .val (.int p4), .val (.int p5), .val (.long p6), .second, .val (.int (Int32.ofNat n)), .val (.ref b1), .val (.ref o33), .val (.int r), .val (.int (Int32.ofNat kk)), .val (.int (0 : Int32)), .unset, .unset] [(.int (Int32.ofNat kk)), (.int (0 : Int32)), (.ref b1)]))
      refine GoesW.step (fun _ hr_ => XS.iload X36.here hx rfl (hb hby at_123) rfl  hr_) ?_
      show GoesW p ee below s _ _ _ _ _ (T36.setTop (mkF m 125 #[.val (.int p1), .val (.int p2), .val (.int p3), .val (.int p4), .val (.int p5), .val (.long p6), .second, .val (.int (Int32.ofNat n)), .val (.ref b1), .val (.ref o33), .val (.int r), .val (.int (Int32.ofNat kk)), .val (.int (0 : Int32)), .unset, .unset] [(.int (Int32.ofNat n)), (.int (Int32.ofNat kk)), (.int (0 : Int32)), (.ref b1)]))
      have lt_b1 := A_c.lt
      have lt_o33 := Ei33.lt
      have lt_b33 := A_b33.lt
      obtain ⟨v54, T54, L54, X54, hQ54, st54⟩ := own_callS X36 hx hZ (y := (⟨"com/example/strikeshift/strikeshift/formats/TextValuesIsPlainDecimalPinLaw", "ok", "([CIII)Z"⟩ : MethodName)) hown (hw _ (List.mem_of_getElem? (i := 87) rfl)) (hw _ (List.mem_of_getElem? (i := 88) rfl)) (hw _ (List.mem_of_getElem? (i := 4) rfl)) (hw _ (List.mem_of_getElem? (i := 89) rfl)) (by decide) (argsL := [(.ref b1), (.int (0 : Int32)), (.int (Int32.ofNat kk)), (.int (Int32.ofNat n))]) (rm_ok l Z a0 hw [] b1 0 kk n c h33 n0 Zp35 (by decide) (by omega) (by omega) hc A_c) e36 (W := 0) (by decide) (by decide) (by decide) (by decide) (g := (mkF m 125 #[.val (.int p1), .val (.int p2), .val (.int p3), .val (.int p4), .val (.int p5), .val (.long p6), .second, .val (.int (Int32.ofNat n)), .val (.ref b1), .val (.ref o33), .val (.int r), .val (.int (Int32.ofNat kk)), .val (.int (0 : Int32)), .unset, .unset] [(.int (Int32.ofNat n)), (.int (Int32.ofNat kk)), (.int (0 : Int32)), (.ref b1)])) rfl (by rw [hml]; rfl) (rest := []) (lenOf pd_21 rfl) rfl (by show 2 * 0 + _ ≤ _; exact Nat.le_of_eq rfl) (hb hby at_125)
      refine GoesW.step st54 ?_
      obtain ⟨rfl, N54, e54⟩ := hQ54
      have N55 := Fr.app N37 N54
      show GoesW p ee below s _ _ _ _ _ (T54.setTop (mkF m 128 #[.val (.int p1), .val (.int p2), .val (.int p3), .val (.int p4), .val (.int p5), .val (.long p6), .second, .val (.int (Int32.ofNat n)), .val (.ref b1), .val (.ref o33), .val (.int r), .val (.int (Int32.ofNat kk)), .val (.int (0 : Int32)), .unset, .unset] [(.int (if (0 < kk ∨ n ≤ 0 ∨ own_dig (c 0) ∨ c 0 = 46) then (1 : Int32) else 0))]))
      by_cases hn128_56 : ¬ (0 < kk ∨ n ≤ 0 ∨ own_dig (c 0) ∨ c 0 = 46)
      · refine GoesW.step (fun _ hr_ => XS.ifYes X54.here hx rfl (pc0 := 128) (pc' := 200) rfl (hb hby at_128) rfl ((if0 _ _).trans (teq (own_if0.mpr hn128_56)).1) (by decide) (by decide) hr_) ?_
        show GoesW p ee below s _ _ _ _ _ (T54.setTop (mkF m 200 #[.val (.int p1), .val (.int p2), .val (.int p3), .val (.int p4), .val (.int p5), .val (.long p6), .second, .val (.int (Int32.ofNat n)), .val (.ref b1), .val (.ref o33), .val (.int r), .val (.int (Int32.ofNat kk)), .val (.int (0 : Int32)), .unset, .unset] []))
        refine GoesW.step (fun _ hr_ => XS.iconst X54.here hx rfl (hb hby at_200) hr_) ?_
        show GoesW p ee below s _ _ _ _ _ (T54.setTop (mkF m 201 #[.val (.int p1), .val (.int p2), .val (.int p3), .val (.int p4), .val (.int p5), .val (.long p6), .second, .val (.int (Int32.ofNat n)), .val (.ref b1), .val (.ref o33), .val (.int r), .val (.int (Int32.ofNat kk)), .val (.int (0 : Int32)), .unset, .unset] [(.int (0 : Int32))]))
        exact J201 _ _ _ X54 e54 N55 (Or.inr ⟨rfl, fun q => hn128_56 (q 0 (by decide))⟩) hn115_53
      · refine GoesW.step (fun _ hr_ => XS.ifNo X54.here hx rfl (hb hby at_128) rfl ((if0 _ _).trans (feq (fun z => hn128_56 (own_if0.mp z))).1) hr_) ?_
        show GoesW p ee below s _ _ _ _ _ (T54.setTop (mkF m 131 #[.val (.int p1), .val (.int p2), .val (.int p3), .val (.int p4), .val (.int p5), .val (.long p6), .second, .val (.int (Int32.ofNat n)), .val (.ref b1), .val (.ref o33), .val (.int r), .val (.int (Int32.ofNat kk)), .val (.int (0 : Int32)), .unset, .unset] []))
        refine GoesW.step (fun _ hr_ => XS.aload X54.here hx rfl (hb hby at_131) rfl rfl hr_) ?_
        show GoesW p ee below s _ _ _ _ _ (T54.setTop (mkF m 133 #[.val (.int p1), .val (.int p2), .val (.int p3), .val (.int p4), .val (.int p5), .val (.long p6), .second, .val (.int (Int32.ofNat n)), .val (.ref b1), .val (.ref o33), .val (.int r), .val (.int (Int32.ofNat kk)), .val (.int (0 : Int32)), .unset, .unset] [(.ref b1)]))
        refine GoesW.step (fun _ hr_ => XS.iconst X54.here hx rfl (hb hby at_133) hr_) ?_
        show GoesW p ee below s _ _ _ _ _ (T54.setTop (mkF m 134 #[.val (.int p1), .val (.int p2), .val (.int p3), .val (.int p4), .val (.int p5), .val (.long p6), .second, .val (.int (Int32.ofNat n)), .val (.ref b1), .val (.ref o33), .val (.int r), .val (.int (Int32.ofNat kk)), .val (.int (0 : Int32)), .unset, .unset] [(.int (1 : Int32)), (.ref b1)]))
        refine GoesW.step (fun _ hr_ => XS.iload X54.here hx rfl (hb hby at_134) rfl  hr_) ?_
        show GoesW p ee below s _ _ _ _ _ (T54.setTop (mkF m 136 #[.val (.int p1), .val (.int p2), .val (.int p3), .val (.int p4), .val (.int p5), .val (.long p6), .second, .val (.int (Int32.ofNat n)), .val (.ref b1), .val (.ref o33), .val (.int r), .val (.int (Int32.ofNat kk)), .val (.int (0 : Int32)), .unset, .unset] [(.int (Int32.ofNat kk)), (.int (1 : Int32)), (.ref b1)]))
        refine GoesW.step (fun _ hr_ => XS.iload X54.here hx rfl (hb hby at_136) rfl  hr_) ?_
        show GoesW p ee below s _ _ _ _ _ (T54.setTop (mkF m 138 #[.val (.int p1), .val (.int p2), .val (.int p3), .val (.int p4), .val (.int p5), .val (.long p6), .second, .val (.int (Int32.ofNat n)), .val (.ref b1), .val (.ref o33), .val (.int r), .val (.int (Int32.ofNat kk)), .val (.int (0 : Int32)), .unset, .unset] [(.int (Int32.ofNat n)), (.int (Int32.ofNat kk)), (.int (1 : Int32)), (.ref b1)]))
        have lt_b1 := A_c.lt
        have lt_o33 := Ei33.lt
        have lt_b33 := A_b33.lt
        obtain ⟨v57, T57, L57, X57, hQ57, st57⟩ := own_callS X54 hx hZ (y := (⟨"com/example/strikeshift/strikeshift/formats/TextValuesIsPlainDecimalPinLaw", "ok", "([CIII)Z"⟩ : MethodName)) hown (hw _ (List.mem_of_getElem? (i := 87) rfl)) (hw _ (List.mem_of_getElem? (i := 88) rfl)) (hw _ (List.mem_of_getElem? (i := 4) rfl)) (hw _ (List.mem_of_getElem? (i := 89) rfl)) (by decide) (argsL := [(.ref b1), (.int (1 : Int32)), (.int (Int32.ofNat kk)), (.int (Int32.ofNat n))]) (rm_ok l Z a0 hw [] b1 1 kk n c h33 n0 Zp35 (by decide) (by omega) (by omega) hc A_c) e54 (W := 0) (by decide) (by decide) (by decide) (by decide) (g := (mkF m 138 #[.val (.int p1), .val (.int p2), .val (.int p3), .val (.int p4), .val (.int p5), .val (.long p6), .second, .val (.int (Int32.ofNat n)), .val (.ref b1), .val (.ref o33), .val (.int r), .val (.int (Int32.ofNat kk)), .val (.int (0 : Int32)), .unset, .unset] [(.int (Int32.ofNat n)), (.int (Int32.ofNat kk)), (.int (1 : Int32)), (.ref b1)])) rfl (by rw [hml]; rfl) (rest := []) (lenOf pd_21 rfl) rfl (by show 2 * 0 + _ ≤ _; exact Nat.le_of_eq rfl) (hb hby at_138)
        refine GoesW.step st57 ?_
        obtain ⟨rfl, N57, e57⟩ := hQ57
        have N58 := Fr.app N55 N57
        show GoesW p ee below s _ _ _ _ _ (T57.setTop (mkF m 141 #[.val (.int p1), .val (.int p2), .val (.int p3), .val (.int p4), .val (.int p5), .val (.long p6), .second, .val (.int (Int32.ofNat n)), .val (.ref b1), .val (.ref o33), .val (.int r), .val (.int (Int32.ofNat kk)), .val (.int (0 : Int32)), .unset, .unset] [(.int (if (1 < kk ∨ n ≤ 1 ∨ own_dig (c 1) ∨ c 1 = 46) then (1 : Int32) else 0))]))
        by_cases hn141_59 : ¬ (1 < kk ∨ n ≤ 1 ∨ own_dig (c 1) ∨ c 1 = 46)
        · refine GoesW.step (fun _ hr_ => XS.ifYes X57.here hx rfl (pc0 := 141) (pc' := 200) rfl (hb hby at_141) rfl ((if0 _ _).trans (teq (own_if0.mpr hn141_59)).1) (by decide) (by decide) hr_) ?_
          show GoesW p ee below s _ _ _ _ _ (T57.setTop (mkF m 200 #[.val (.int p1), .val (.int p2), .val (.int p3), .val (.int p4), .val (.int p5), .val (.long p6), .second, .val (.int (Int32.ofNat n)), .val (.ref b1), .val (.ref o33), .val (.int r), .val (.int (Int32.ofNat kk)), .val (.int (0 : Int32)), .unset, .unset] []))
          refine GoesW.step (fun _ hr_ => XS.iconst X57.here hx rfl (hb hby at_200) hr_) ?_
          show GoesW p ee below s _ _ _ _ _ (T57.setTop (mkF m 201 #[.val (.int p1), .val (.int p2), .val (.int p3), .val (.int p4), .val (.int p5), .val (.long p6), .second, .val (.int (Int32.ofNat n)), .val (.ref b1), .val (.ref o33), .val (.int r), .val (.int (Int32.ofNat kk)), .val (.int (0 : Int32)), .unset, .unset] [(.int (0 : Int32))]))
          exact J201 _ _ _ X57 e57 N58 (Or.inr ⟨rfl, fun q => hn141_59 (q 1 (by decide))⟩) hn115_53
        · refine GoesW.step (fun _ hr_ => XS.ifNo X57.here hx rfl (hb hby at_141) rfl ((if0 _ _).trans (feq (fun z => hn141_59 (own_if0.mp z))).1) hr_) ?_
          show GoesW p ee below s _ _ _ _ _ (T57.setTop (mkF m 144 #[.val (.int p1), .val (.int p2), .val (.int p3), .val (.int p4), .val (.int p5), .val (.long p6), .second, .val (.int (Int32.ofNat n)), .val (.ref b1), .val (.ref o33), .val (.int r), .val (.int (Int32.ofNat kk)), .val (.int (0 : Int32)), .unset, .unset] []))
          refine GoesW.step (fun _ hr_ => XS.aload X57.here hx rfl (hb hby at_144) rfl rfl hr_) ?_
          show GoesW p ee below s _ _ _ _ _ (T57.setTop (mkF m 146 #[.val (.int p1), .val (.int p2), .val (.int p3), .val (.int p4), .val (.int p5), .val (.long p6), .second, .val (.int (Int32.ofNat n)), .val (.ref b1), .val (.ref o33), .val (.int r), .val (.int (Int32.ofNat kk)), .val (.int (0 : Int32)), .unset, .unset] [(.ref b1)]))
          refine GoesW.step (fun _ hr_ => XS.iconst X57.here hx rfl (hb hby at_146) hr_) ?_
          show GoesW p ee below s _ _ _ _ _ (T57.setTop (mkF m 147 #[.val (.int p1), .val (.int p2), .val (.int p3), .val (.int p4), .val (.int p5), .val (.long p6), .second, .val (.int (Int32.ofNat n)), .val (.ref b1), .val (.ref o33), .val (.int r), .val (.int (Int32.ofNat kk)), .val (.int (0 : Int32)), .unset, .unset] [(.int (2 : Int32)), (.ref b1)]))
          refine GoesW.step (fun _ hr_ => XS.iload X57.here hx rfl (hb hby at_147) rfl  hr_) ?_
          show GoesW p ee below s _ _ _ _ _ (T57.setTop (mkF m 149 #[.val (.int p1), .val (.int p2), .val (.int p3), .val (.int p4), .val (.int p5), .val (.long p6), .second, .val (.int (Int32.ofNat n)), .val (.ref b1), .val (.ref o33), .val (.int r), .val (.int (Int32.ofNat kk)), .val (.int (0 : Int32)), .unset, .unset] [(.int (Int32.ofNat kk)), (.int (2 : Int32)), (.ref b1)]))
          refine GoesW.step (fun _ hr_ => XS.iload X57.here hx rfl (hb hby at_149) rfl  hr_) ?_
          show GoesW p ee below s _ _ _ _ _ (T57.setTop (mkF m 151 #[.val (.int p1), .val (.int p2), .val (.int p3), .val (.int p4), .val (.int p5), .val (.long p6), .second, .val (.int (Int32.ofNat n)), .val (.ref b1), .val (.ref o33), .val (.int r), .val (.int (Int32.ofNat kk)), .val (.int (0 : Int32)), .unset, .unset] [(.int (Int32.ofNat n)), (.int (Int32.ofNat kk)), (.int (2 : Int32)), (.ref b1)]))
          have lt_b1 := A_c.lt
          have lt_o33 := Ei33.lt
          have lt_b33 := A_b33.lt
          obtain ⟨v60, T60, L60, X60, hQ60, st60⟩ := own_callS X57 hx hZ (y := (⟨"com/example/strikeshift/strikeshift/formats/TextValuesIsPlainDecimalPinLaw", "ok", "([CIII)Z"⟩ : MethodName)) hown (hw _ (List.mem_of_getElem? (i := 87) rfl)) (hw _ (List.mem_of_getElem? (i := 88) rfl)) (hw _ (List.mem_of_getElem? (i := 4) rfl)) (hw _ (List.mem_of_getElem? (i := 89) rfl)) (by decide) (argsL := [(.ref b1), (.int (2 : Int32)), (.int (Int32.ofNat kk)), (.int (Int32.ofNat n))]) (rm_ok l Z a0 hw [] b1 2 kk n c h33 n0 Zp35 (by decide) (by omega) (by omega) hc A_c) e57 (W := 0) (by decide) (by decide) (by decide) (by decide) (g := (mkF m 151 #[.val (.int p1), .val (.int p2), .val (.int p3), .val (.int p4), .val (.int p5), .val (.long p6), .second, .val (.int (Int32.ofNat n)), .val (.ref b1), .val (.ref o33), .val (.int r), .val (.int (Int32.ofNat kk)), .val (.int (0 : Int32)), .unset, .unset] [(.int (Int32.ofNat n)), (.int (Int32.ofNat kk)), (.int (2 : Int32)), (.ref b1)])) rfl (by rw [hml]; rfl) (rest := []) (lenOf pd_21 rfl) rfl (by show 2 * 0 + _ ≤ _; exact Nat.le_of_eq rfl) (hb hby at_151)
          refine GoesW.step st60 ?_
          obtain ⟨rfl, N60, e60⟩ := hQ60
          have N61 := Fr.app N58 N60
          show GoesW p ee below s _ _ _ _ _ (T60.setTop (mkF m 154 #[.val (.int p1), .val (.int p2), .val (.int p3), .val (.int p4), .val (.int p5), .val (.long p6), .second, .val (.int (Int32.ofNat n)), .val (.ref b1), .val (.ref o33), .val (.int r), .val (.int (Int32.ofNat kk)), .val (.int (0 : Int32)), .unset, .unset] [(.int (if (2 < kk ∨ n ≤ 2 ∨ own_dig (c 2) ∨ c 2 = 46) then (1 : Int32) else 0))]))
          by_cases hn154_62 : ¬ (2 < kk ∨ n ≤ 2 ∨ own_dig (c 2) ∨ c 2 = 46)
          · refine GoesW.step (fun _ hr_ => XS.ifYes X60.here hx rfl (pc0 := 154) (pc' := 200) rfl (hb hby at_154) rfl ((if0 _ _).trans (teq (own_if0.mpr hn154_62)).1) (by decide) (by decide) hr_) ?_
            show GoesW p ee below s _ _ _ _ _ (T60.setTop (mkF m 200 #[.val (.int p1), .val (.int p2), .val (.int p3), .val (.int p4), .val (.int p5), .val (.long p6), .second, .val (.int (Int32.ofNat n)), .val (.ref b1), .val (.ref o33), .val (.int r), .val (.int (Int32.ofNat kk)), .val (.int (0 : Int32)), .unset, .unset] []))
            refine GoesW.step (fun _ hr_ => XS.iconst X60.here hx rfl (hb hby at_200) hr_) ?_
            show GoesW p ee below s _ _ _ _ _ (T60.setTop (mkF m 201 #[.val (.int p1), .val (.int p2), .val (.int p3), .val (.int p4), .val (.int p5), .val (.long p6), .second, .val (.int (Int32.ofNat n)), .val (.ref b1), .val (.ref o33), .val (.int r), .val (.int (Int32.ofNat kk)), .val (.int (0 : Int32)), .unset, .unset] [(.int (0 : Int32))]))
            exact J201 _ _ _ X60 e60 N61 (Or.inr ⟨rfl, fun q => hn154_62 (q 2 (by decide))⟩) hn115_53
          · refine GoesW.step (fun _ hr_ => XS.ifNo X60.here hx rfl (hb hby at_154) rfl ((if0 _ _).trans (feq (fun z => hn154_62 (own_if0.mp z))).1) hr_) ?_
            show GoesW p ee below s _ _ _ _ _ (T60.setTop (mkF m 157 #[.val (.int p1), .val (.int p2), .val (.int p3), .val (.int p4), .val (.int p5), .val (.long p6), .second, .val (.int (Int32.ofNat n)), .val (.ref b1), .val (.ref o33), .val (.int r), .val (.int (Int32.ofNat kk)), .val (.int (0 : Int32)), .unset, .unset] []))
            refine GoesW.step (fun _ hr_ => XS.aload X60.here hx rfl (hb hby at_157) rfl rfl hr_) ?_
            show GoesW p ee below s _ _ _ _ _ (T60.setTop (mkF m 159 #[.val (.int p1), .val (.int p2), .val (.int p3), .val (.int p4), .val (.int p5), .val (.long p6), .second, .val (.int (Int32.ofNat n)), .val (.ref b1), .val (.ref o33), .val (.int r), .val (.int (Int32.ofNat kk)), .val (.int (0 : Int32)), .unset, .unset] [(.ref b1)]))
            refine GoesW.step (fun _ hr_ => XS.iconst X60.here hx rfl (hb hby at_159) hr_) ?_
            show GoesW p ee below s _ _ _ _ _ (T60.setTop (mkF m 160 #[.val (.int p1), .val (.int p2), .val (.int p3), .val (.int p4), .val (.int p5), .val (.long p6), .second, .val (.int (Int32.ofNat n)), .val (.ref b1), .val (.ref o33), .val (.int r), .val (.int (Int32.ofNat kk)), .val (.int (0 : Int32)), .unset, .unset] [(.int (3 : Int32)), (.ref b1)]))
            refine GoesW.step (fun _ hr_ => XS.iload X60.here hx rfl (hb hby at_160) rfl  hr_) ?_
            show GoesW p ee below s _ _ _ _ _ (T60.setTop (mkF m 162 #[.val (.int p1), .val (.int p2), .val (.int p3), .val (.int p4), .val (.int p5), .val (.long p6), .second, .val (.int (Int32.ofNat n)), .val (.ref b1), .val (.ref o33), .val (.int r), .val (.int (Int32.ofNat kk)), .val (.int (0 : Int32)), .unset, .unset] [(.int (Int32.ofNat kk)), (.int (3 : Int32)), (.ref b1)]))
            refine GoesW.step (fun _ hr_ => XS.iload X60.here hx rfl (hb hby at_162) rfl  hr_) ?_
            show GoesW p ee below s _ _ _ _ _ (T60.setTop (mkF m 164 #[.val (.int p1), .val (.int p2), .val (.int p3), .val (.int p4), .val (.int p5), .val (.long p6), .second, .val (.int (Int32.ofNat n)), .val (.ref b1), .val (.ref o33), .val (.int r), .val (.int (Int32.ofNat kk)), .val (.int (0 : Int32)), .unset, .unset] [(.int (Int32.ofNat n)), (.int (Int32.ofNat kk)), (.int (3 : Int32)), (.ref b1)]))
            have lt_b1 := A_c.lt
            have lt_o33 := Ei33.lt
            have lt_b33 := A_b33.lt
            obtain ⟨v63, T63, L63, X63, hQ63, st63⟩ := own_callS X60 hx hZ (y := (⟨"com/example/strikeshift/strikeshift/formats/TextValuesIsPlainDecimalPinLaw", "ok", "([CIII)Z"⟩ : MethodName)) hown (hw _ (List.mem_of_getElem? (i := 87) rfl)) (hw _ (List.mem_of_getElem? (i := 88) rfl)) (hw _ (List.mem_of_getElem? (i := 4) rfl)) (hw _ (List.mem_of_getElem? (i := 89) rfl)) (by decide) (argsL := [(.ref b1), (.int (3 : Int32)), (.int (Int32.ofNat kk)), (.int (Int32.ofNat n))]) (rm_ok l Z a0 hw [] b1 3 kk n c h33 n0 Zp35 (by decide) (by omega) (by omega) hc A_c) e60 (W := 0) (by decide) (by decide) (by decide) (by decide) (g := (mkF m 164 #[.val (.int p1), .val (.int p2), .val (.int p3), .val (.int p4), .val (.int p5), .val (.long p6), .second, .val (.int (Int32.ofNat n)), .val (.ref b1), .val (.ref o33), .val (.int r), .val (.int (Int32.ofNat kk)), .val (.int (0 : Int32)), .unset, .unset] [(.int (Int32.ofNat n)), (.int (Int32.ofNat kk)), (.int (3 : Int32)), (.ref b1)])) rfl (by rw [hml]; rfl) (rest := []) (lenOf pd_21 rfl) rfl (by show 2 * 0 + _ ≤ _; exact Nat.le_of_eq rfl) (hb hby at_164)
            refine GoesW.step st63 ?_
            obtain ⟨rfl, N63, e63⟩ := hQ63
            have N64 := Fr.app N61 N63
            show GoesW p ee below s _ _ _ _ _ (T63.setTop (mkF m 167 #[.val (.int p1), .val (.int p2), .val (.int p3), .val (.int p4), .val (.int p5), .val (.long p6), .second, .val (.int (Int32.ofNat n)), .val (.ref b1), .val (.ref o33), .val (.int r), .val (.int (Int32.ofNat kk)), .val (.int (0 : Int32)), .unset, .unset] [(.int (if (3 < kk ∨ n ≤ 3 ∨ own_dig (c 3) ∨ c 3 = 46) then (1 : Int32) else 0))]))
            by_cases hn167_65 : ¬ (3 < kk ∨ n ≤ 3 ∨ own_dig (c 3) ∨ c 3 = 46)
            · refine GoesW.step (fun _ hr_ => XS.ifYes X63.here hx rfl (pc0 := 167) (pc' := 200) rfl (hb hby at_167) rfl ((if0 _ _).trans (teq (own_if0.mpr hn167_65)).1) (by decide) (by decide) hr_) ?_
              show GoesW p ee below s _ _ _ _ _ (T63.setTop (mkF m 200 #[.val (.int p1), .val (.int p2), .val (.int p3), .val (.int p4), .val (.int p5), .val (.long p6), .second, .val (.int (Int32.ofNat n)), .val (.ref b1), .val (.ref o33), .val (.int r), .val (.int (Int32.ofNat kk)), .val (.int (0 : Int32)), .unset, .unset] []))
              refine GoesW.step (fun _ hr_ => XS.iconst X63.here hx rfl (hb hby at_200) hr_) ?_
              show GoesW p ee below s _ _ _ _ _ (T63.setTop (mkF m 201 #[.val (.int p1), .val (.int p2), .val (.int p3), .val (.int p4), .val (.int p5), .val (.long p6), .second, .val (.int (Int32.ofNat n)), .val (.ref b1), .val (.ref o33), .val (.int r), .val (.int (Int32.ofNat kk)), .val (.int (0 : Int32)), .unset, .unset] [(.int (0 : Int32))]))
              exact J201 _ _ _ X63 e63 N64 (Or.inr ⟨rfl, fun q => hn167_65 (q 3 (by decide))⟩) hn115_53
            · refine GoesW.step (fun _ hr_ => XS.ifNo X63.here hx rfl (hb hby at_167) rfl ((if0 _ _).trans (feq (fun z => hn167_65 (own_if0.mp z))).1) hr_) ?_
              show GoesW p ee below s _ _ _ _ _ (T63.setTop (mkF m 170 #[.val (.int p1), .val (.int p2), .val (.int p3), .val (.int p4), .val (.int p5), .val (.long p6), .second, .val (.int (Int32.ofNat n)), .val (.ref b1), .val (.ref o33), .val (.int r), .val (.int (Int32.ofNat kk)), .val (.int (0 : Int32)), .unset, .unset] []))
              refine GoesW.step (fun _ hr_ => XS.aload X63.here hx rfl (hb hby at_170) rfl rfl hr_) ?_
              show GoesW p ee below s _ _ _ _ _ (T63.setTop (mkF m 172 #[.val (.int p1), .val (.int p2), .val (.int p3), .val (.int p4), .val (.int p5), .val (.long p6), .second, .val (.int (Int32.ofNat n)), .val (.ref b1), .val (.ref o33), .val (.int r), .val (.int (Int32.ofNat kk)), .val (.int (0 : Int32)), .unset, .unset] [(.ref b1)]))
              refine GoesW.step (fun _ hr_ => XS.iconst X63.here hx rfl (hb hby at_172) hr_) ?_
              show GoesW p ee below s _ _ _ _ _ (T63.setTop (mkF m 173 #[.val (.int p1), .val (.int p2), .val (.int p3), .val (.int p4), .val (.int p5), .val (.long p6), .second, .val (.int (Int32.ofNat n)), .val (.ref b1), .val (.ref o33), .val (.int r), .val (.int (Int32.ofNat kk)), .val (.int (0 : Int32)), .unset, .unset] [(.int (4 : Int32)), (.ref b1)]))
              refine GoesW.step (fun _ hr_ => XS.iload X63.here hx rfl (hb hby at_173) rfl  hr_) ?_
              show GoesW p ee below s _ _ _ _ _ (T63.setTop (mkF m 175 #[.val (.int p1), .val (.int p2), .val (.int p3), .val (.int p4), .val (.int p5), .val (.long p6), .second, .val (.int (Int32.ofNat n)), .val (.ref b1), .val (.ref o33), .val (.int r), .val (.int (Int32.ofNat kk)), .val (.int (0 : Int32)), .unset, .unset] [(.int (Int32.ofNat kk)), (.int (4 : Int32)), (.ref b1)]))
              refine GoesW.step (fun _ hr_ => XS.iload X63.here hx rfl (hb hby at_175) rfl  hr_) ?_
              show GoesW p ee below s _ _ _ _ _ (T63.setTop (mkF m 177 #[.val (.int p1), .val (.int p2), .val (.int p3), .val (.int p4), .val (.int p5), .val (.long p6), .second, .val (.int (Int32.ofNat n)), .val (.ref b1), .val (.ref o33), .val (.int r), .val (.int (Int32.ofNat kk)), .val (.int (0 : Int32)), .unset, .unset] [(.int (Int32.ofNat n)), (.int (Int32.ofNat kk)), (.int (4 : Int32)), (.ref b1)]))
              have lt_b1 := A_c.lt
              have lt_o33 := Ei33.lt
              have lt_b33 := A_b33.lt
              obtain ⟨v66, T66, L66, X66, hQ66, st66⟩ := own_callS X63 hx hZ (y := (⟨"com/example/strikeshift/strikeshift/formats/TextValuesIsPlainDecimalPinLaw", "ok", "([CIII)Z"⟩ : MethodName)) hown (hw _ (List.mem_of_getElem? (i := 87) rfl)) (hw _ (List.mem_of_getElem? (i := 88) rfl)) (hw _ (List.mem_of_getElem? (i := 4) rfl)) (hw _ (List.mem_of_getElem? (i := 89) rfl)) (by decide) (argsL := [(.ref b1), (.int (4 : Int32)), (.int (Int32.ofNat kk)), (.int (Int32.ofNat n))]) (rm_ok l Z a0 hw [] b1 4 kk n c h33 n0 Zp35 (by decide) (by omega) (by omega) hc A_c) e63 (W := 0) (by decide) (by decide) (by decide) (by decide) (g := (mkF m 177 #[.val (.int p1), .val (.int p2), .val (.int p3), .val (.int p4), .val (.int p5), .val (.long p6), .second, .val (.int (Int32.ofNat n)), .val (.ref b1), .val (.ref o33), .val (.int r), .val (.int (Int32.ofNat kk)), .val (.int (0 : Int32)), .unset, .unset] [(.int (Int32.ofNat n)), (.int (Int32.ofNat kk)), (.int (4 : Int32)), (.ref b1)])) rfl (by rw [hml]; rfl) (rest := []) (lenOf pd_21 rfl) rfl (by show 2 * 0 + _ ≤ _; exact Nat.le_of_eq rfl) (hb hby at_177)
              refine GoesW.step st66 ?_
              obtain ⟨rfl, N66, e66⟩ := hQ66
              have N67 := Fr.app N64 N66
              show GoesW p ee below s _ _ _ _ _ (T66.setTop (mkF m 180 #[.val (.int p1), .val (.int p2), .val (.int p3), .val (.int p4), .val (.int p5), .val (.long p6), .second, .val (.int (Int32.ofNat n)), .val (.ref b1), .val (.ref o33), .val (.int r), .val (.int (Int32.ofNat kk)), .val (.int (0 : Int32)), .unset, .unset] [(.int (if (4 < kk ∨ n ≤ 4 ∨ own_dig (c 4) ∨ c 4 = 46) then (1 : Int32) else 0))]))
              by_cases hn180_68 : ¬ (4 < kk ∨ n ≤ 4 ∨ own_dig (c 4) ∨ c 4 = 46)
              · refine GoesW.step (fun _ hr_ => XS.ifYes X66.here hx rfl (pc0 := 180) (pc' := 200) rfl (hb hby at_180) rfl ((if0 _ _).trans (teq (own_if0.mpr hn180_68)).1) (by decide) (by decide) hr_) ?_
                show GoesW p ee below s _ _ _ _ _ (T66.setTop (mkF m 200 #[.val (.int p1), .val (.int p2), .val (.int p3), .val (.int p4), .val (.int p5), .val (.long p6), .second, .val (.int (Int32.ofNat n)), .val (.ref b1), .val (.ref o33), .val (.int r), .val (.int (Int32.ofNat kk)), .val (.int (0 : Int32)), .unset, .unset] []))
                refine GoesW.step (fun _ hr_ => XS.iconst X66.here hx rfl (hb hby at_200) hr_) ?_
                show GoesW p ee below s _ _ _ _ _ (T66.setTop (mkF m 201 #[.val (.int p1), .val (.int p2), .val (.int p3), .val (.int p4), .val (.int p5), .val (.long p6), .second, .val (.int (Int32.ofNat n)), .val (.ref b1), .val (.ref o33), .val (.int r), .val (.int (Int32.ofNat kk)), .val (.int (0 : Int32)), .unset, .unset] [(.int (0 : Int32))]))
                exact J201 _ _ _ X66 e66 N67 (Or.inr ⟨rfl, fun q => hn180_68 (q 4 (by decide))⟩) hn115_53
              · refine GoesW.step (fun _ hr_ => XS.ifNo X66.here hx rfl (hb hby at_180) rfl ((if0 _ _).trans (feq (fun z => hn180_68 (own_if0.mp z))).1) hr_) ?_
                show GoesW p ee below s _ _ _ _ _ (T66.setTop (mkF m 183 #[.val (.int p1), .val (.int p2), .val (.int p3), .val (.int p4), .val (.int p5), .val (.long p6), .second, .val (.int (Int32.ofNat n)), .val (.ref b1), .val (.ref o33), .val (.int r), .val (.int (Int32.ofNat kk)), .val (.int (0 : Int32)), .unset, .unset] []))
                refine GoesW.step (fun _ hr_ => XS.aload X66.here hx rfl (hb hby at_183) rfl rfl hr_) ?_
                show GoesW p ee below s _ _ _ _ _ (T66.setTop (mkF m 185 #[.val (.int p1), .val (.int p2), .val (.int p3), .val (.int p4), .val (.int p5), .val (.long p6), .second, .val (.int (Int32.ofNat n)), .val (.ref b1), .val (.ref o33), .val (.int r), .val (.int (Int32.ofNat kk)), .val (.int (0 : Int32)), .unset, .unset] [(.ref b1)]))
                refine GoesW.step (fun _ hr_ => XS.iconst X66.here hx rfl (hb hby at_185) hr_) ?_
                show GoesW p ee below s _ _ _ _ _ (T66.setTop (mkF m 186 #[.val (.int p1), .val (.int p2), .val (.int p3), .val (.int p4), .val (.int p5), .val (.long p6), .second, .val (.int (Int32.ofNat n)), .val (.ref b1), .val (.ref o33), .val (.int r), .val (.int (Int32.ofNat kk)), .val (.int (0 : Int32)), .unset, .unset] [(.int (5 : Int32)), (.ref b1)]))
                refine GoesW.step (fun _ hr_ => XS.iload X66.here hx rfl (hb hby at_186) rfl  hr_) ?_
                show GoesW p ee below s _ _ _ _ _ (T66.setTop (mkF m 188 #[.val (.int p1), .val (.int p2), .val (.int p3), .val (.int p4), .val (.int p5), .val (.long p6), .second, .val (.int (Int32.ofNat n)), .val (.ref b1), .val (.ref o33), .val (.int r), .val (.int (Int32.ofNat kk)), .val (.int (0 : Int32)), .unset, .unset] [(.int (Int32.ofNat kk)), (.int (5 : Int32)), (.ref b1)]))
                refine GoesW.step (fun _ hr_ => XS.iload X66.here hx rfl (hb hby at_188) rfl  hr_) ?_
                show GoesW p ee below s _ _ _ _ _ (T66.setTop (mkF m 190 #[.val (.int p1), .val (.int p2), .val (.int p3), .val (.int p4), .val (.int p5), .val (.long p6), .second, .val (.int (Int32.ofNat n)), .val (.ref b1), .val (.ref o33), .val (.int r), .val (.int (Int32.ofNat kk)), .val (.int (0 : Int32)), .unset, .unset] [(.int (Int32.ofNat n)), (.int (Int32.ofNat kk)), (.int (5 : Int32)), (.ref b1)]))
                have lt_b1 := A_c.lt
                have lt_o33 := Ei33.lt
                have lt_b33 := A_b33.lt
                obtain ⟨v69, T69, L69, X69, hQ69, st69⟩ := own_callS X66 hx hZ (y := (⟨"com/example/strikeshift/strikeshift/formats/TextValuesIsPlainDecimalPinLaw", "ok", "([CIII)Z"⟩ : MethodName)) hown (hw _ (List.mem_of_getElem? (i := 87) rfl)) (hw _ (List.mem_of_getElem? (i := 88) rfl)) (hw _ (List.mem_of_getElem? (i := 4) rfl)) (hw _ (List.mem_of_getElem? (i := 89) rfl)) (by decide) (argsL := [(.ref b1), (.int (5 : Int32)), (.int (Int32.ofNat kk)), (.int (Int32.ofNat n))]) (rm_ok l Z a0 hw [] b1 5 kk n c h33 n0 Zp35 (by decide) (by omega) (by omega) hc A_c) e66 (W := 0) (by decide) (by decide) (by decide) (by decide) (g := (mkF m 190 #[.val (.int p1), .val (.int p2), .val (.int p3), .val (.int p4), .val (.int p5), .val (.long p6), .second, .val (.int (Int32.ofNat n)), .val (.ref b1), .val (.ref o33), .val (.int r), .val (.int (Int32.ofNat kk)), .val (.int (0 : Int32)), .unset, .unset] [(.int (Int32.ofNat n)), (.int (Int32.ofNat kk)), (.int (5 : Int32)), (.ref b1)])) rfl (by rw [hml]; rfl) (rest := []) (lenOf pd_21 rfl) rfl (by show 2 * 0 + _ ≤ _; exact Nat.le_of_eq rfl) (hb hby at_190)
                refine GoesW.step st69 ?_
                obtain ⟨rfl, N69, e69⟩ := hQ69
                have N70 := Fr.app N67 N69
                show GoesW p ee below s _ _ _ _ _ (T69.setTop (mkF m 193 #[.val (.int p1), .val (.int p2), .val (.int p3), .val (.int p4), .val (.int p5), .val (.long p6), .second, .val (.int (Int32.ofNat n)), .val (.ref b1), .val (.ref o33), .val (.int r), .val (.int (Int32.ofNat kk)), .val (.int (0 : Int32)), .unset, .unset] [(.int (if (5 < kk ∨ n ≤ 5 ∨ own_dig (c 5) ∨ c 5 = 46) then (1 : Int32) else 0))]))
                by_cases hn193_71 : ¬ (5 < kk ∨ n ≤ 5 ∨ own_dig (c 5) ∨ c 5 = 46)
                · refine GoesW.step (fun _ hr_ => XS.ifYes X69.here hx rfl (pc0 := 193) (pc' := 200) rfl (hb hby at_193) rfl ((if0 _ _).trans (teq (own_if0.mpr hn193_71)).1) (by decide) (by decide) hr_) ?_
                  show GoesW p ee below s _ _ _ _ _ (T69.setTop (mkF m 200 #[.val (.int p1), .val (.int p2), .val (.int p3), .val (.int p4), .val (.int p5), .val (.long p6), .second, .val (.int (Int32.ofNat n)), .val (.ref b1), .val (.ref o33), .val (.int r), .val (.int (Int32.ofNat kk)), .val (.int (0 : Int32)), .unset, .unset] []))
                  refine GoesW.step (fun _ hr_ => XS.iconst X69.here hx rfl (hb hby at_200) hr_) ?_
                  show GoesW p ee below s _ _ _ _ _ (T69.setTop (mkF m 201 #[.val (.int p1), .val (.int p2), .val (.int p3), .val (.int p4), .val (.int p5), .val (.long p6), .second, .val (.int (Int32.ofNat n)), .val (.ref b1), .val (.ref o33), .val (.int r), .val (.int (Int32.ofNat kk)), .val (.int (0 : Int32)), .unset, .unset] [(.int (0 : Int32))]))
                  exact J201 _ _ _ X69 e69 N70 (Or.inr ⟨rfl, fun q => hn193_71 (q 5 (by decide))⟩) hn115_53
                · refine GoesW.step (fun _ hr_ => XS.ifNo X69.here hx rfl (hb hby at_193) rfl ((if0 _ _).trans (feq (fun z => hn193_71 (own_if0.mp z))).1) hr_) ?_
                  show GoesW p ee below s _ _ _ _ _ (T69.setTop (mkF m 196 #[.val (.int p1), .val (.int p2), .val (.int p3), .val (.int p4), .val (.int p5), .val (.long p6), .second, .val (.int (Int32.ofNat n)), .val (.ref b1), .val (.ref o33), .val (.int r), .val (.int (Int32.ofNat kk)), .val (.int (0 : Int32)), .unset, .unset] []))
                  refine GoesW.step (fun _ hr_ => XS.iconst X69.here hx rfl (hb hby at_196) hr_) ?_
                  show GoesW p ee below s _ _ _ _ _ (T69.setTop (mkF m 197 #[.val (.int p1), .val (.int p2), .val (.int p3), .val (.int p4), .val (.int p5), .val (.long p6), .second, .val (.int (Int32.ofNat n)), .val (.ref b1), .val (.ref o33), .val (.int r), .val (.int (Int32.ofNat kk)), .val (.int (0 : Int32)), .unset, .unset] [(.int (1 : Int32))]))
                  refine GoesW.step (fun _ hr_ => XS.goto X69.here hx rfl (pc0 := 197) (pc' := 201) rfl (hb hby at_197) (by decide) (by decide) hr_) ?_
                  show GoesW p ee below s _ _ _ _ _ (T69.setTop (mkF m 201 #[.val (.int p1), .val (.int p2), .val (.int p3), .val (.int p4), .val (.int p5), .val (.long p6), .second, .val (.int (Int32.ofNat n)), .val (.ref b1), .val (.ref o33), .val (.int r), .val (.int (Int32.ofNat kk)), .val (.int (0 : Int32)), .unset, .unset] [(.int (1 : Int32))]))
                  exact J201 _ _ _ X69 e69 N70 (Or.inl ⟨rfl, fun i hi => by match i, hi with | 0, _ => exact Decidable.not_not.mp hn128_56 | 1, _ => exact Decidable.not_not.mp hn141_59 | 2, _ => exact Decidable.not_not.mp hn154_62 | 3, _ => exact Decidable.not_not.mp hn167_65 | 4, _ => exact Decidable.not_not.mp hn180_68 | 5, _ => exact Decidable.not_not.mp hn193_71 | i + 6, hi => omega⟩) hn115_53
    · refine GoesW.step (fun _ hr_ => XS.icmpYes X36.here hx rfl (pc0 := 115) (pc' := 310) rfl (hb hby at_115) rfl (flt (fun z => hn115_53 ((own_ltN kk n (by omega) (by omega)).mp z))).2.2.2 (by decide) (by decide) hr_) ?_
      show GoesW p ee below s _ _ _ _ _ (T36.setTop (mkF m 310 #[.val (.int p1), .val (.int p2), .val (.int p3), .val (.int p4), .val (.int p5), .val (.long p6), .second, .val (.int (Int32.ofNat n)), .val (.ref b1), .val (.ref o33), .val (.int r), .val (.int (Int32.ofNat kk)), .val (.int (0 : Int32)), .unset, .unset] []))
      exact J310 _ (.unset) (.unset) _ _ X36 e36 N37 (by
        rcases hr with ⟨-, q⟩ | ⟨q, -⟩
        · exfalso
          rw [← hkk] at q
          exact own_fin0 n c kk hn115_53 q
        · exact q)
  refine GoesW.step (fun _ hr_ => XS.iload X36.here hx rfl (hb hby at_87) rfl  hr_) ?_
  show GoesW p ee below s _ _ _ _ _ (T36.setTop (mkF m 89 #[.val (.int p1), .val (.int p2), .val (.int p3), .val (.int p4), .val (.int p5), .val (.long p6), .second, .val (.int (Int32.ofNat n)), .val (.ref b1), .val (.ref o33), .val (.int r), .unset, .unset, .unset, .unset] [(.int (Int32.ofNat n))]))
  by_cases hn89_72 : 0 < n
  · refine GoesW.step (fun _ hr_ => XS.ifNo X36.here hx rfl (hb hby at_89) rfl ((if0 _ _).trans (tlt ((own_ltN 0 n (by decide) (by omega)).mpr hn89_72)).2.2.2) hr_) ?_
    show GoesW p ee below s _ _ _ _ _ (T36.setTop (mkF m 92 #[.val (.int p1), .val (.int p2), .val (.int p3), .val (.int p4), .val (.int p5), .val (.long p6), .second, .val (.int (Int32.ofNat n)), .val (.ref b1), .val (.ref o33), .val (.int r), .unset, .unset, .unset, .unset] []))
    refine GoesW.step (fun _ hr_ => XS.aload X36.here hx rfl (hb hby at_92) rfl rfl hr_) ?_
    show GoesW p ee below s _ _ _ _ _ (T36.setTop (mkF m 94 #[.val (.int p1), .val (.int p2), .val (.int p3), .val (.int p4), .val (.int p5), .val (.long p6), .second, .val (.int (Int32.ofNat n)), .val (.ref b1), .val (.ref o33), .val (.int r), .unset, .unset, .unset, .unset] [(.ref b1)]))
    refine GoesW.step (fun _ hr_ => XS.iconst X36.here hx rfl (hb hby at_94) hr_) ?_
    show GoesW p ee below s _ _ _ _ _ (T36.setTop (mkF m 95 #[.val (.int p1), .val (.int p2), .val (.int p3), .val (.int p4), .val (.int p5), .val (.long p6), .second, .val (.int (Int32.ofNat n)), .val (.ref b1), .val (.ref o33), .val (.int r), .unset, .unset, .unset, .unset] [(.int (0 : Int32)), (.ref b1)]))
    refine GoesW.step (own_caload X36 hx hZ e36 A_c (j := (0 : Int32)) (by decide) (k := 0) rfl (by decide) (v := (.int (Int32.ofNat (c 0)))) rfl (g := (mkF m 95 #[.val (.int p1), .val (.int p2), .val (.int p3), .val (.int p4), .val (.int p5), .val (.long p6), .second, .val (.int (Int32.ofNat n)), .val (.ref b1), .val (.ref o33), .val (.int r), .unset, .unset, .unset, .unset] [(.int (0 : Int32)), (.ref b1)])) rfl rfl (hb hby at_95)) ?_
    show GoesW p ee below s _ _ _ _ _ (T36.setTop (mkF m 96 #[.val (.int p1), .val (.int p2), .val (.int p3), .val (.int p4), .val (.int p5), .val (.long p6), .second, .val (.int (Int32.ofNat n)), .val (.ref b1), .val (.ref o33), .val (.int r), .unset, .unset, .unset, .unset] [(.int (Int32.ofNat (c 0)))]))
    refine GoesW.step (fun _ hr_ => XS.bipush X36.here hx rfl (hb hby at_96) hr_) ?_
    show GoesW p ee below s _ _ _ _ _ (T36.setTop (mkF m 98 #[.val (.int p1), .val (.int p2), .val (.int p3), .val (.int p4), .val (.int p5), .val (.long p6), .second, .val (.int (Int32.ofNat n)), .val (.ref b1), .val (.ref o33), .val (.int r), .unset, .unset, .unset, .unset] [(.int (45 : Int32)), (.int (Int32.ofNat (c 0)))]))
    by_cases hn98_73 : c 0 = 45
    · refine GoesW.step (fun _ hr_ => XS.icmpNo X36.here hx rfl (hb hby at_98) rfl (teq ((own_eqN (c 0) 45 (Nat.lt_trans (hc 0 (by decide)) (by decide)) (by decide)).mpr hn98_73)).2 hr_) ?_
      show GoesW p ee below s _ _ _ _ _ (T36.setTop (mkF m 101 #[.val (.int p1), .val (.int p2), .val (.int p3), .val (.int p4), .val (.int p5), .val (.long p6), .second, .val (.int (Int32.ofNat n)), .val (.ref b1), .val (.ref o33), .val (.int r), .unset, .unset, .unset, .unset] []))
      refine GoesW.step (fun _ hr_ => XS.iconst X36.here hx rfl (hb hby at_101) hr_) ?_
      show GoesW p ee below s _ _ _ _ _ (T36.setTop (mkF m 102 #[.val (.int p1), .val (.int p2), .val (.int p3), .val (.int p4), .val (.int p5), .val (.long p6), .second, .val (.int (Int32.ofNat n)), .val (.ref b1), .val (.ref o33), .val (.int r), .unset, .unset, .unset, .unset] [(.int (1 : Int32))]))
      refine GoesW.step (fun _ hr_ => XS.goto X36.here hx rfl (pc0 := 102) (pc' := 106) rfl (hb hby at_102) (by decide) (by decide) hr_) ?_
      show GoesW p ee below s _ _ _ _ _ (T36.setTop (mkF m 106 #[.val (.int p1), .val (.int p2), .val (.int p3), .val (.int p4), .val (.int p5), .val (.long p6), .second, .val (.int (Int32.ofNat n)), .val (.ref b1), .val (.ref o33), .val (.int r), .unset, .unset, .unset, .unset] [(.int (1 : Int32))]))
      exact J106 1 (if_pos ⟨hn89_72, hn98_73⟩).symm (by decide)
    · refine GoesW.step (fun _ hr_ => XS.icmpYes X36.here hx rfl (pc0 := 98) (pc' := 105) rfl (hb hby at_98) rfl (feq (fun z => hn98_73 ((own_eqN (c 0) 45 (Nat.lt_trans (hc 0 (by decide)) (by decide)) (by decide)).mp z))).2 (by decide) (by decide) hr_) ?_
      show GoesW p ee below s _ _ _ _ _ (T36.setTop (mkF m 105 #[.val (.int p1), .val (.int p2), .val (.int p3), .val (.int p4), .val (.int p5), .val (.long p6), .second, .val (.int (Int32.ofNat n)), .val (.ref b1), .val (.ref o33), .val (.int r), .unset, .unset, .unset, .unset] []))
      refine GoesW.step (fun _ hr_ => XS.iconst X36.here hx rfl (hb hby at_105) hr_) ?_
      show GoesW p ee below s _ _ _ _ _ (T36.setTop (mkF m 106 #[.val (.int p1), .val (.int p2), .val (.int p3), .val (.int p4), .val (.int p5), .val (.long p6), .second, .val (.int (Int32.ofNat n)), .val (.ref b1), .val (.ref o33), .val (.int r), .unset, .unset, .unset, .unset] [(.int (0 : Int32))]))
      exact J106 0 (if_neg (fun q => hn98_73 q.2)).symm (by decide)
  · refine GoesW.step (fun _ hr_ => XS.ifYes X36.here hx rfl (pc0 := 89) (pc' := 105) rfl (hb hby at_89) rfl ((if0 _ _).trans (flt (fun z => hn89_72 ((own_ltN 0 n (by decide) (by omega)).mp z))).2.2.2) (by decide) (by decide) hr_) ?_
    show GoesW p ee below s _ _ _ _ _ (T36.setTop (mkF m 105 #[.val (.int p1), .val (.int p2), .val (.int p3), .val (.int p4), .val (.int p5), .val (.long p6), .second, .val (.int (Int32.ofNat n)), .val (.ref b1), .val (.ref o33), .val (.int r), .unset, .unset, .unset, .unset] []))
    refine GoesW.step (fun _ hr_ => XS.iconst X36.here hx rfl (hb hby at_105) hr_) ?_
    show GoesW p ee below s _ _ _ _ _ (T36.setTop (mkF m 106 #[.val (.int p1), .val (.int p2), .val (.int p3), .val (.int p4), .val (.int p5), .val (.long p6), .second, .val (.int (Int32.ofNat n)), .val (.ref b1), .val (.ref o33), .val (.int r), .unset, .unset, .unset, .unset] [(.int (0 : Int32))]))
    exact J106 0 (if_neg (fun q => hn89_72 q.1)).symm (by decide)
theorem own_eqi {args : Array Value} {s : State} {t : Term} {k : Int32} (h : (Cond.eq t (.int k)).value args s none s [] = some true) : t.eval args s none [] s = some (.int k) := by
  obtain ⟨u, v, h1, h2, h3, h4⟩ := cmp_v (Or.inl h)
  have e2 : (Term.int k).eval args s none [] s = some (.int k) := Term.int_eval _
  rw [e2] at h2
  obtain rfl := Option.some.inj h2
  obtain ⟨z, rfl⟩ := h4
  have q : (Cond.eq t (.int k)).value args s none s [] = some (decide (z = k)) := by simp [Cond.value, h1, e2]
  have := gotT q h
  subst this
  exact h1
theorem own_ne0 {args : Array Value} {s : State} {t : Term} {z k : Int32} (ev : t.eval args s none [] s = some (.int z)) (h : (Cond.not (Cond.eq t (.int k))).value args s none s [] = some true) : z ≠ k := by
  have e2 : (Term.int k).eval args s none [] s = some (.int k) := Term.int_eval _
  have q : (Cond.eq t (.int k)).value args s none s [] = some (decide (z = k)) := by simp [Cond.value, ev, e2]
  have := not_v h
  exact gotF q this
set_option maxRecDepth 65536 in
set_option maxHeartbeats 40000000 in
theorem comes_1 {Post : Tables → Env → Array Value → State → Outcome → State → Prop} (hpost : ∀ tb e args s v u, (limb_1_1.after args s (.returned v) u = true ∧ limb_1_2.after args s (.returned v) u = true ∧ True) → ReturnedEndW s (.returned v) u (Jvm.fieldLocs frame_1_writes args s ++ Jvm.arrayLocs frame_1_arrays args s ++ Jvm.staticLocs frame_1_statics s) 24 1216 → Post tb e args s (.returned v) u) :
    ArmFor flags0 classFile x code maxLocals ret World_1 tables_1 room_1 Calls_1 rest_1 Pre_1 Post := by
  intro l hfl _ _ p e ha hc hk s m args below hf hA hF happ hP
  obtain ⟨hcalls, hrest, hpre⟩ := hP
  obtain ⟨-, -, -, hnamed, -, -, -, hat⟩ := (Spec.applies_iff hf).mp happ
  obtain ⟨hg, hn⟩ := and_e (Cond.before_iff.mp (show (Jvm.Cond.and given_1 narrow_1).before args s = true from hpre))
  obtain ⟨hcount, r0⟩ := and_e hg
  obtain ⟨k0, r1⟩ := and_e r0
  obtain ⟨k1, r2⟩ := and_e r1
  obtain ⟨k2, r3⟩ := and_e r2
  obtain ⟨k3, r4⟩ := and_e r3
  obtain ⟨k4, k5⟩ := and_e r4
  obtain ⟨w0, w1, w2, w3, w4, w5, rfl⟩ : ∃ w0 w1 w2 w3 w4 w5 : Value, args = #[w0, w1, w2, w3, w4, w5] := by
    have hs : args.size = 6 := by simpa [Cond.value, given_1] using hcount
    obtain ⟨L⟩ := args
    match L, hs with
    | [w0, w1, w2, w3, w4, w5], _ => exact ⟨w0, w1, w2, w3, w4, w5, rfl⟩
  have hw := fun d (hd : d ∈ tables_1) => atoms_spec (ws := Jvm.Cond.code x code maxLocals ret :: tables_1) hat d (List.mem_cons_of_mem _ hd)
  obtain ⟨i0, ei0⟩ := is_v k0
  obtain rfl : w0 = (.int i0) := Option.some.inj ei0
  obtain ⟨i1, ei1⟩ := is_v k1
  obtain rfl : w1 = (.int i1) := Option.some.inj ei1
  obtain ⟨i2, ei2⟩ := is_v k2
  obtain rfl : w2 = (.int i2) := Option.some.inj ei2
  obtain ⟨i3, ei3⟩ := is_v k3
  obtain rfl : w3 = (.int i3) := Option.some.inj ei3
  obtain ⟨i4, ei4⟩ := is_v k4
  obtain rfl : w4 = (.int i4) := Option.some.inj ei4
  obtain ⟨i5, ei5⟩ := isL_v k5
  obtain rfl : w5 = (.long i5) := Option.some.inj ei5
  obtain ⟨hsets, hown0⟩ := atoms_of _ (rest_1_c_eq ▸ (show rest_1_c.before _ s = true from hrest))
  obtain ⟨cs, ecs⟩ := is_v (Cond.before_iff.mp (hsets _ (List.mem_of_getElem? (i := 1) rfl)))
  have Scs := Sta.start ecs (Or.inl (hsets _ (List.mem_of_getElem? (i := 0) rfl)))
  have cs0 : cs ≠ 0 := own_ne0 ecs (Cond.before_iff.mp (hsets _ (List.mem_of_getElem? (i := 2) rfl)))
  obtain ⟨fm, efm, hfm⟩ := isR_v (Cond.before_iff.mp (hsets _ (List.mem_of_getElem? (i := 8) rfl)))
  have Sfm := Sta.start efm (Or.inl (hsets _ (List.mem_of_getElem? (i := 7) rfl)))
  have Sad := Sta.start (own_eqi (Cond.before_iff.mp (hsets _ (List.mem_of_getElem? (i := 12) rfl)))) (Or.inl (hsets _ (List.mem_of_getElem? (i := 11) rfl)))
  have Shi := Sta.start (own_eqi (Cond.before_iff.mp (hsets _ (List.mem_of_getElem? (i := 15) rfl)))) (Or.inl (hsets _ (List.mem_of_getElem? (i := 14) rfl)))
  have Slo := Sta.start (own_eqi (Cond.before_iff.mp (hsets _ (List.mem_of_getElem? (i := 18) rfl)))) (Or.inl (hsets _ (List.mem_of_getElem? (i := 17) rfl)))
  have ST : own_ST s cs fm := ⟨Scs, cs0, Sfm, hfm, Sad, Shi, Slo, trivial⟩
  have hcw := hsets _ (List.mem_of_getElem? (i := 2) rfl)
  obtain ⟨n, o, h1, h2, h3, _, L, rfl, ⟨rfl, N⟩, -, hq⟩ := rm_law l s _ hw tables_1 i0 i1 i2 i3 i4 i5 cs fm s.heap s.heap.size (Nat.le_refl _) ST (Old.start s) p e ha hc hk s m _ below hf ((Spec.applies_iff_loose hf).mp happ).1 ⟨rfl, State.Warmed39.refl s, rfl, CHv.start (own_EW hw) hcalls.1 hcw (hw _ (List.mem_of_getElem? (i := 23) rfl)) (hw _ (List.mem_of_getElem? (i := 10) rfl)), fun _ q => nomatch q⟩ trivial
  refine ⟨n, _, h1, h2, h3, hpost _ _ _ _ _ _ ⟨Cond.after_iff.mpr rfl, Cond.after_iff.mpr (eq_i res_at (Term.int_eval (1)) rfl), trivial⟩ ⟨hq.1, hq.2.1, hq.2.2.1, (hq.2.2.2.sift fun y hy => Or.inr (N y hy)).mono (by decide) (by decide)⟩⟩
theorem main_1_1 : Claimed_1_1 := comes_1 fun _ _ _ _ _ _ h hF => ⟨h.1, hF⟩
theorem main_1_2 : Claimed_1_2 := comes_1 fun _ _ _ _ _ _ h hF => ⟨h.2.1, hF⟩
end Jvm.Pilot.@@N@@
namespace Jvm.Pilot.@@N@@
open Jvm Jvm.ClassFile Sem Op Lib Jvm.Free Jvm.Stand Jvm.Pilot.@@N@@.Jvm.D
/-! MADE BY PROGRAM (witnessworld.py) out of the Statement's table words and the real class files: 20 classes; the members and pool entries that the words name. The judged class is class 1, her method 1. -/
namespace start1
open Jvm.ClassFile
def u (s : String) : CpInfo := .utf8 (stringToUtf16 s)
/-- a pool by its gaps: so many unusable entries, then the entry; so many at the end -/
def gap : Nat → List CpInfo → List CpInfo
  | 0, r => r
  | n + 1, r => .unusable :: gap n r
def poolList (es : List (Nat × CpInfo)) (last : Nat) : List CpInfo := es.foldr (fun e r => gap e.1 (e.2 :: r)) (gap last [])
def pool (es : List (Nat × CpInfo)) (last : Nat) : Array CpInfo := ⟨poolList es last⟩
def fileOf (pool : Array CpInfo) (this : Nat) (attrs : Array Attribute := #[]) (ms : Array MethodInfo := #[]) (fl : Nat := 33) (sup : Nat := 0) (ifs : Array Nat := #[]) (fds : Array FieldInfo := #[]) : ClassFile where
  minorVersion := 0
  majorVersion := 65
  constantPool := pool
  accessFlags := fl
  thisClass := this
  superClass := sup
  interfaces := ifs
  fields := fds
  methods := ms
  attributes := attrs
def plain (name : String) (sup : Option ClassId) : Class where
  name := name
  kind := .ordinary
  loader := none
  accessFlags := 33
  super := sup
  interfaces := #[]
  cf := none
  fields := #[]
  methods := #[]
  instanceTypes := #[]
  staticTypes := #[]
  resolved := #[]
  callSites := []
  init := .initialized
  statics := none
  mirror := none

def pool0 : Array CpInfo := pool [(5, u "<init>"), (0, u "()V"), (1, .class_ 10), (1, u "java/lang/Object")] 113

def k0c0 : Code := { maxStack := 0, maxLocals := 1, code := object_method_1_code, exceptionTable := #[], attributes := #[] }
def k0m0 : Method := { name := "<init>", desc := "()V", sig := { parameters := [], returnType := none }, accessFlags := 1, code := some k0c0 }
/-- java/lang/Object -/
def k0 : Class := { plain "java/lang/Object" none with
  accessFlags := 33
  interfaces := #[]
  cf := some (fileOf pool0 8 #[] #[{ accessFlags := 1, nameIndex := 5, descriptorIndex := 6, attributes := #[] }] 33 0 #[] #[])
  fields := #[]
  methods := #[k0m0]
  instanceTypes := #[]
  staticTypes := #[]
  resolved := Array.replicate 124 none
  statics := none }

def pool1 : Array CpInfo := pool [(2, .class_ 4), (1, u "java/lang/Object"), (0, u "<init>"), (0, u "()V"), (0, .integer 2147483647), (0, .methodref 9 10), (0, .class_ 11), (0, .nameAndType 12 13), (0, u "com/example/strikeshift/strikeshift/formats/TextValuesIsPlainDecimalPinLaw"), (0, u "draw"), (0, u "(I)C"), (0, .methodref 9 15), (0, .nameAndType 16 17), (0, u "make"), (0, u "([CI)Ljava/lang/String;"), (0, .methodref 19 20), (0, .class_ 21), (0, .nameAndType 22 23), (0, u "com/example/strikeshift/strikeshift/formats/TextValues"), (0, u "isPlainDecimal"), (0, u "(Ljava/lang/CharSequence;)Z"), (0, .methodref 9 25), (0, .nameAndType 26 27), (0, u "ok"), (0, u "([CIII)Z"), (0, .methodref 9 29), (0, .nameAndType 30 31), (0, u "dot"), (0, u "([CIII)I"), (0, .class_ 33), (0, u "java/lang/String"), (0, .methodref 32 35), (0, .nameAndType 5 36), (0, u "([C)V"), (0, .methodref 9 38), (0, .nameAndType 39 40), (0, u "dig"), (0, u "(C)Z"), (2, u "law"), (0, u "(IIIIIJ)Z")] 5

def k1m0 : Method := { name := "<init>", desc := "()V", sig := { parameters := [], returnType := none }, accessFlags := 2, code := none }
def k1c1 : Code := { maxStack := 5, maxLocals := 15, code := code, exceptionTable := #[], attributes := #[] }
def k1m1 : Method := { name := "law", desc := "(IIIIIJ)Z", sig := { parameters := [.int, .int, .int, .int, .int, .long], returnType := some .boolean }, accessFlags := 9, code := some k1c1 }
def k1c2 : Code := { maxStack := 3, maxLocals := 2, code := method_3_code, exceptionTable := #[], attributes := #[] }
def k1m2 : Method := { name := "draw", desc := "(I)C", sig := { parameters := [.int], returnType := some .char }, accessFlags := 10, code := some k1c2 }
def k1c3 : Code := { maxStack := 7, maxLocals := 2, code := method_4_code, exceptionTable := #[], attributes := #[] }
def k1m3 : Method := { name := "make", desc := "([CI)Ljava/lang/String;", sig := { parameters := [(.array .char), .int], returnType := some (.object "java/lang/String") }, accessFlags := 10, code := some k1c3 }
def k1c4 : Code := { maxStack := 2, maxLocals := 1, code := method_5_code, exceptionTable := #[], attributes := #[] }
def k1m4 : Method := { name := "dig", desc := "(C)Z", sig := { parameters := [.char], returnType := some .boolean }, accessFlags := 10, code := some k1c4 }
def k1c5 : Code := { maxStack := 2, maxLocals := 4, code := method_6_code, exceptionTable := #[], attributes := #[] }
def k1m5 : Method := { name := "ok", desc := "([CIII)Z", sig := { parameters := [(.array .char), .int, .int, .int], returnType := some .boolean }, accessFlags := 10, code := some k1c5 }
def k1c6 : Code := { maxStack := 2, maxLocals := 4, code := method_7_code, exceptionTable := #[], attributes := #[] }
def k1m6 : Method := { name := "dot", desc := "([CIII)I", sig := { parameters := [(.array .char), .int, .int, .int], returnType := some .int }, accessFlags := 10, code := some k1c6 }
/-- com/example/strikeshift/strikeshift/formats/TextValuesIsPlainDecimalPinLaw -/
def k1 : Class := { plain "com/example/strikeshift/strikeshift/formats/TextValuesIsPlainDecimalPinLaw" (some 0) with
  accessFlags := 49
  interfaces := #[]
  cf := some (fileOf pool1 9 #[] #[{ accessFlags := 2, nameIndex := 5, descriptorIndex := 6, attributes := #[] }, { accessFlags := 9, nameIndex := 43, descriptorIndex := 44, attributes := #[] }, { accessFlags := 10, nameIndex := 12, descriptorIndex := 13, attributes := #[] }, { accessFlags := 10, nameIndex := 16, descriptorIndex := 17, attributes := #[] }, { accessFlags := 10, nameIndex := 39, descriptorIndex := 40, attributes := #[] }, { accessFlags := 10, nameIndex := 26, descriptorIndex := 27, attributes := #[] }, { accessFlags := 10, nameIndex := 30, descriptorIndex := 31, attributes := #[] }] 49 2 #[] #[])
  fields := #[]
  methods := #[k1m0, k1m1, k1m2, k1m3, k1m4, k1m5, k1m6]
  instanceTypes := #[]
  staticTypes := #[]
  resolved := Array.replicate 50 none
  statics := none }

def pool2 : Array CpInfo := pool [(1, .class_ 2), (0, u "java/io/Serializable"), (0, .class_ 4), (0, u "java/lang/Object")] 2

/-- java/io/Serializable -/
def k2 : Class := { plain "java/io/Serializable" (some 0) with
  accessFlags := 1537
  interfaces := #[]
  cf := some (fileOf pool2 1 #[] #[] 1537 3 #[] #[])
  fields := #[]
  methods := #[]
  instanceTypes := #[]
  staticTypes := #[]
  resolved := Array.replicate 7 none
  statics := none }

def pool3 : Array CpInfo := pool [(1, .class_ 2), (0, u "java/lang/Comparable"), (0, .class_ 4), (0, u "java/lang/Object")] 7

/-- java/lang/Comparable -/
def k3 : Class := { plain "java/lang/Comparable" (some 0) with
  accessFlags := 1537
  interfaces := #[]
  cf := some (fileOf pool3 1 #[] #[] 1537 3 #[] #[])
  fields := #[]
  methods := #[]
  instanceTypes := #[]
  staticTypes := #[]
  resolved := Array.replicate 12 none
  statics := none }

def pool4 : Array CpInfo := pool [(2, .class_ 4), (1, u "java/lang/CharSequence"), (0, u "length"), (0, u "()I"), (38, u "charAt"), (0, u "(I)C"), (0, .class_ 48), (0, u "java/lang/CharSequence$1CodePointIterator"), (10, .class_ 60), (0, u "java/lang/CharSequence$1CharIterator"), (5, .class_ 67), (0, u "java/lang/Object")] 63

def k4m0 : Method := { name := "length", desc := "()I", sig := { parameters := [], returnType := some .int }, accessFlags := 1025, code := none }
def k4m1 : Method := { name := "charAt", desc := "(I)C", sig := { parameters := [.int], returnType := some .char }, accessFlags := 1025, code := none }
/-- java/lang/CharSequence -/
def k4 : Class := { plain "java/lang/CharSequence" (some 0) with
  accessFlags := 1537
  interfaces := #[]
  cf := some (fileOf pool4 2 #[.nestMembers #[47, 59]] #[{ accessFlags := 1025, nameIndex := 5, descriptorIndex := 6, attributes := #[] }, { accessFlags := 1025, nameIndex := 45, descriptorIndex := 46, attributes := #[] }] 1537 66 #[] #[])
  fields := #[]
  methods := #[k4m0, k4m1]
  instanceTypes := #[]
  staticTypes := #[]
  resolved := Array.replicate 131 none
  statics := none }

def pool5 : Array CpInfo := pool [(1, .class_ 2), (0, u "java/lang/constant/Constable"), (0, .class_ 4), (0, u "java/lang/Object")] 6

/-- java/lang/constant/Constable -/
def k5 : Class := { plain "java/lang/constant/Constable" (some 0) with
  accessFlags := 1537
  interfaces := #[]
  cf := some (fileOf pool5 1 #[] #[] 1537 3 #[] #[])
  fields := #[]
  methods := #[]
  instanceTypes := #[]
  staticTypes := #[]
  resolved := Array.replicate 11 none
  statics := none }

def pool6 : Array CpInfo := pool [(1, .class_ 2), (0, u "java/lang/constant/ConstantDesc"), (0, .class_ 4), (0, u "java/lang/Object")] 32

/-- java/lang/constant/ConstantDesc -/
def k6 : Class := { plain "java/lang/constant/ConstantDesc" (some 0) with
  accessFlags := 1537
  interfaces := #[]
  cf := some (fileOf pool6 1 #[] #[] 1537 3 #[] #[])
  fields := #[]
  methods := #[]
  instanceTypes := #[]
  staticTypes := #[]
  resolved := Array.replicate 37 none
  statics := none }

def pool7 : Array CpInfo := pool [(1, .methodref 2 3), (0, .class_ 4), (0, .nameAndType 5 6), (0, u "java/lang/Object"), (0, u "<init>"), (0, u "()V"), (0, .string 8), (0, u ""), (0, .fieldref 10 11), (0, .class_ 12), (0, .nameAndType 13 14), (0, u "java/lang/String"), (0, u "value"), (0, u "[B"), (0, .fieldref 10 16), (0, .nameAndType 17 18), (0, u "coder"), (0, u "B"), (2, u "hash"), (0, u "I"), (2, u "hashIsZero"), (0, u "Z"), (0, .methodref 10 28), (0, .nameAndType 5 29), (0, u "([CIILjava/lang/Void;)V"), (8, .fieldref 10 39), (0, .nameAndType 40 26), (0, u "COMPACT_STRINGS"), (1, .class_ 44), (1, u "java/lang/StringUTF16"), (0, u "compress"), (1, .methodref 42 48), (0, .nameAndType 49 50), (0, u "coderFromArrayLen"), (0, u "([BI)B"), (56, .class_ 109), (1, u "java/lang/StringLatin1"), (32, u "()Z"), (34, .methodref 42 178), (0, .nameAndType 45 179), (0, u "([CII)[B"), (154, u "()I"), (0, .methodref 10 336), (0, .nameAndType 17 337), (0, u "()B"), (25, u "([BI)C"), (27, u "(II)V"), (35, u "(I)C"), (64, .methodref 10 493), (0, .nameAndType 494 142), (0, u "isLatin1"), (0, .methodref 107 496), (0, .nameAndType 497 363), (0, u "charAt"), (0, .methodref 42 496), (2, u "checkIndex"), (5, u "length"), (67, .class_ 576), (0, u "java/lang/CharSequence"), (22, u "CASE_INSENSITIVE_ORDER"), (0, u "Ljava/util/Comparator;"), (409, u "([C)V"), (42, .fieldref 1054 1055), (0, .class_ 1056), (0, .nameAndType 1057 1058), (0, u "jdk/internal/util/Preconditions"), (0, u "SIOOBE_FORMATTER"), (0, u "Ljava/util/function/BiFunction;"), (0, .methodref 1054 1060), (0, .nameAndType 501 1061), (0, u "(IILjava/util/function/BiFunction;)I"), (39, u "serialPersistentFields"), (0, u "[Ljava/io/ObjectStreamField;"), (0, .class_ 1104), (0, u "java/lang/String$CaseInsensitiveComparator"), (1, .class_ 1107), (0, u "java/io/Serializable"), (0, .class_ 1109), (0, u "java/lang/Comparable"), (0, .class_ 1111), (0, u "java/lang/constant/Constable"), (0, .class_ 1113), (0, u "java/lang/constant/ConstantDesc"), (2, u "serialVersionUID"), (0, u "J"), (3, u "REPL"), (0, u "C"), (2, u "LATIN1"), (1, u "UTF16")] 323

def k7m0 : Method := { name := "<init>", desc := "()V", sig := { parameters := [], returnType := none }, accessFlags := 1, code := none }
def k7c1 : Code := { maxStack := 5, maxLocals := 2, code := jdk_42_method_3_code, exceptionTable := #[], attributes := #[] }
def k7m1 : Method := { name := "<init>", desc := "([C)V", sig := { parameters := [(.array .char)], returnType := none }, accessFlags := 1, code := some k7c1 }
def k7c2 : Code := { maxStack := 2, maxLocals := 1, code := jdk_42_method_54_code, exceptionTable := #[], attributes := #[] }
def k7m2 : Method := { name := "length", desc := "()I", sig := { parameters := [], returnType := some .int }, accessFlags := 1, code := some k7c2 }
def k7c3 : Code := { maxStack := 2, maxLocals := 2, code := jdk_42_method_56_code, exceptionTable := #[], attributes := #[] }
def k7m3 : Method := { name := "charAt", desc := "(I)C", sig := { parameters := [.int], returnType := some .char }, accessFlags := 1, code := some k7c3 }
def k7c4 : Code := { maxStack := 4, maxLocals := 6, code := jdk_42_method_149_code, exceptionTable := #[], attributes := #[] }
def k7m4 : Method := { name := "<init>", desc := "([CIILjava/lang/Void;)V", sig := { parameters := [(.array .char), .int, .int, (.object "java/lang/Void")], returnType := none }, accessFlags := 2, code := some k7c4 }
def k7c5 : Code := { maxStack := 1, maxLocals := 1, code := jdk_42_method_152_code, exceptionTable := #[], attributes := #[] }
def k7m5 : Method := { name := "coder", desc := "()B", sig := { parameters := [], returnType := some .byte }, accessFlags := 0, code := some k7c5 }
def k7c6 : Code := { maxStack := 1, maxLocals := 1, code := jdk_42_method_154_code, exceptionTable := #[], attributes := #[] }
def k7m6 : Method := { name := "isLatin1", desc := "()Z", sig := { parameters := [], returnType := some .boolean }, accessFlags := 0, code := some k7c6 }
def k7c7 : Code := { maxStack := 3, maxLocals := 2, code := jdk_42_method_155_code, exceptionTable := #[], attributes := #[] }
def k7m7 : Method := { name := "checkIndex", desc := "(II)V", sig := { parameters := [.int, .int], returnType := none }, accessFlags := 8, code := some k7c7 }
/-- java/lang/String -/
def k7 : Class := { plain "java/lang/String" (some 0) with
  accessFlags := 49
  interfaces := #[2, 3, 4, 5, 6]
  cf := some (fileOf pool7 10 #[.nestMembers #[1103]] #[{ accessFlags := 1, nameIndex := 5, descriptorIndex := 6, attributes := #[] }, { accessFlags := 1, nameIndex := 5, descriptorIndex := 1010, attributes := #[] }, { accessFlags := 1, nameIndex := 507, descriptorIndex := 334, attributes := #[] }, { accessFlags := 1, nameIndex := 497, descriptorIndex := 427, attributes := #[] }, { accessFlags := 2, nameIndex := 5, descriptorIndex := 29, attributes := #[] }, { accessFlags := 0, nameIndex := 17, descriptorIndex := 337, attributes := #[] }, { accessFlags := 0, nameIndex := 494, descriptorIndex := 142, attributes := #[] }, { accessFlags := 8, nameIndex := 501, descriptorIndex := 391, attributes := #[] }] 49 2 #[1106, 1108, 575, 1110, 1112] #[{ accessFlags := 18, nameIndex := 13, descriptorIndex := 14, attributes := #[] }, { accessFlags := 18, nameIndex := 17, descriptorIndex := 18, attributes := #[] }, { accessFlags := 2, nameIndex := 21, descriptorIndex := 22, attributes := #[] }, { accessFlags := 2, nameIndex := 25, descriptorIndex := 26, attributes := #[] }, { accessFlags := 26, nameIndex := 1116, descriptorIndex := 1117, attributes := #[] }, { accessFlags := 24, nameIndex := 40, descriptorIndex := 26, attributes := #[] }, { accessFlags := 26, nameIndex := 1101, descriptorIndex := 1102, attributes := #[] }, { accessFlags := 26, nameIndex := 1121, descriptorIndex := 1122, attributes := #[] }, { accessFlags := 25, nameIndex := 599, descriptorIndex := 600, attributes := #[] }, { accessFlags := 24, nameIndex := 1125, descriptorIndex := 18, attributes := #[] }, { accessFlags := 24, nameIndex := 1127, descriptorIndex := 18, attributes := #[] }])
  fields := #[{ name := "value", type := (.array .byte), accessFlags := 18, slot := 0, constantValue := 0 }, { name := "coder", type := .byte, accessFlags := 18, slot := 1, constantValue := 0 }, { name := "hash", type := .int, accessFlags := 2, slot := 2, constantValue := 0 }, { name := "hashIsZero", type := .boolean, accessFlags := 2, slot := 3, constantValue := 0 }, { name := "serialVersionUID", type := .long, accessFlags := 26, slot := 0, constantValue := 0 }, { name := "COMPACT_STRINGS", type := .boolean, accessFlags := 24, slot := 1, constantValue := 0 }, { name := "serialPersistentFields", type := (.array (.object "java/io/ObjectStreamField")), accessFlags := 26, slot := 2, constantValue := 0 }, { name := "REPL", type := .char, accessFlags := 26, slot := 3, constantValue := 0 }, { name := "CASE_INSENSITIVE_ORDER", type := (.object "java/util/Comparator"), accessFlags := 25, slot := 4, constantValue := 0 }, { name := "LATIN1", type := .byte, accessFlags := 24, slot := 5, constantValue := 0 }, { name := "UTF16", type := .byte, accessFlags := 24, slot := 6, constantValue := 0 }]
  methods := #[k7m0, k7m1, k7m2, k7m3, k7m4, k7m5, k7m6, k7m7]
  instanceTypes := #[(.array .byte), .byte, .int, .boolean]
  staticTypes := #[.long, .boolean, (.array (.object "java/io/ObjectStreamField")), .char, (.object "java/util/Comparator"), .byte, .byte]
  resolved := Array.replicate 1451 none
  statics := some 0 }

def pool8 : Array CpInfo := pool [(4, .class_ 6), (1, u "java/lang/Object"), (0, u "<init>"), (0, u "()V"), (0, .interfaceMethodref 10 11), (0, .class_ 12), (0, .nameAndType 13 14), (0, u "java/lang/CharSequence"), (0, u "length"), (0, u "()I"), (0, .interfaceMethodref 10 16), (0, .nameAndType 17 18), (0, u "charAt"), (0, u "(I)C"), (0, .methodref 20 21), (0, .class_ 22), (0, .nameAndType 23 24), (0, u "com/example/strikeshift/strikeshift/formats/TextValues"), (0, u "isDigit"), (0, u "(C)Z"), (60, u "LONGEST_PLAIN_DECIMAL"), (0, u "I"), (4, u "isPlainDecimal"), (0, u "(Ljava/lang/CharSequence;)Z")] 34

def k8m0 : Method := { name := "<init>", desc := "()V", sig := { parameters := [], returnType := none }, accessFlags := 2, code := none }
def k8c1 : Code := { maxStack := 2, maxLocals := 4, code := prog_47_method_2_code, exceptionTable := #[], attributes := #[] }
def k8m1 : Method := { name := "isPlainDecimal", desc := "(Ljava/lang/CharSequence;)Z", sig := { parameters := [(.object "java/lang/CharSequence")], returnType := some .boolean }, accessFlags := 8, code := some k8c1 }
def k8c2 : Code := { maxStack := 2, maxLocals := 1, code := prog_47_method_9_code, exceptionTable := #[], attributes := #[] }
def k8m2 : Method := { name := "isDigit", desc := "(C)Z", sig := { parameters := [.char], returnType := some .boolean }, accessFlags := 10, code := some k8c2 }
/-- com/example/strikeshift/strikeshift/formats/TextValues -/
def k8 : Class := { plain "com/example/strikeshift/strikeshift/formats/TextValues" (some 0) with
  accessFlags := 48
  interfaces := #[]
  cf := some (fileOf pool8 20 #[] #[{ accessFlags := 2, nameIndex := 7, descriptorIndex := 8, attributes := #[] }, { accessFlags := 8, nameIndex := 91, descriptorIndex := 92, attributes := #[] }, { accessFlags := 10, nameIndex := 23, descriptorIndex := 24, attributes := #[] }] 48 4 #[] #[{ accessFlags := 26, nameIndex := 85, descriptorIndex := 86, attributes := #[] }])
  fields := #[{ name := "LONGEST_PLAIN_DECIMAL", type := .int, accessFlags := 26, slot := 0, constantValue := 0 }]
  methods := #[k8m0, k8m1, k8m2]
  instanceTypes := #[]
  staticTypes := #[.int]
  resolved := Array.replicate 127 none
  statics := none }

def pool9 : Array CpInfo := pool [(3, .class_ 4), (0, u "java/lang/String"), (1, .class_ 8), (1, u "java/lang/Object"), (0, u "<init>"), (0, u "()V"), (0, .methodref 12 13), (0, .class_ 14), (0, .nameAndType 15 16), (0, u "java/lang/StringUTF16"), (0, u "newBytesLength"), (0, u "(I)I"), (3, .integer 1073741823), (23, .fieldref 12 45), (0, .nameAndType 46 47), (0, u "$assertionsDisabled"), (0, u "Z"), (0, .methodref 12 49), (0, .nameAndType 50 51), (0, u "length"), (0, u "([B)I"), (7, .fieldref 12 60), (0, .nameAndType 61 62), (0, u "HI_BYTE_SHIFT"), (0, u "I"), (0, .fieldref 12 64), (0, .nameAndType 65 62), (0, u "LO_BYTE_SHIFT"), (1, .methodref 12 68), (0, .nameAndType 69 70), (0, u "checkIndex"), (0, u "(I[B)V"), (0, .methodref 12 72), (0, .nameAndType 73 74), (0, u "getChar"), (0, u "([BI)C"), (32, .methodref 12 108), (0, .nameAndType 109 110), (0, u "newBytesFor"), (0, u "(I)[B"), (0, .methodref 12 112), (0, .nameAndType 113 114), (0, u "putChar"), (0, u "([BII)V"), (0, .methodref 12 116), (0, .nameAndType 117 118), (0, u "compress"), (0, u "([CI[BII)I"), (0, .methodref 12 120), (0, .nameAndType 121 122), (0, u "toBytes"), (0, u "([CII)[B"), (138, u "coderFromArrayLen"), (0, u "([BI)B"), (106, .class_ 371), (1, u "java/lang/StringUTF16$LinesSpliterator"), (20, u "charAt"), (21, .methodref 3 415), (0, .nameAndType 69 416), (0, u "(II)V"), (13, u "MAX_LENGTH"), (196, .class_ 628), (0, u "java/lang/StringUTF16$CodePointsSpliterator"), (0, .class_ 630), (0, u "java/lang/StringUTF16$CharsSpliterator")] 4

def k9m0 : Method := { name := "<init>", desc := "()V", sig := { parameters := [], returnType := none }, accessFlags := 0, code := none }
def k9c1 : Code := { maxStack := 1, maxLocals := 1, code := jdk_52_method_2_code, exceptionTable := #[], attributes := #[] }
def k9m1 : Method := { name := "newBytesFor", desc := "(I)[B", sig := { parameters := [.int], returnType := some (.array .byte) }, accessFlags := 9, code := some k9c1 }
def k9c2 : Code := { maxStack := 4, maxLocals := 1, code := jdk_52_method_3_code, exceptionTable := #[], attributes := #[] }
def k9m2 : Method := { name := "newBytesLength", desc := "(I)I", sig := { parameters := [.int], returnType := some .int }, accessFlags := 9, code := some k9c2 }
def k9c3 : Code := { maxStack := 4, maxLocals := 3, code := jdk_52_method_4_code, exceptionTable := #[], attributes := #[] }
def k9m3 : Method := { name := "putChar", desc := "([BII)V", sig := { parameters := [(.array .byte), .int, .int], returnType := none }, accessFlags := 8, code := some k9c3 }
def k9c4 : Code := { maxStack := 3, maxLocals := 2, code := jdk_52_method_5_code, exceptionTable := #[], attributes := #[] }
def k9m4 : Method := { name := "getChar", desc := "([BI)C", sig := { parameters := [(.array .byte), .int], returnType := some .char }, accessFlags := 8, code := some k9c4 }
def k9c5 : Code := { maxStack := 2, maxLocals := 1, code := jdk_52_method_6_code, exceptionTable := #[], attributes := #[] }
def k9m5 : Method := { name := "length", desc := "([B)I", sig := { parameters := [(.array .byte)], returnType := some .int }, accessFlags := 9, code := some k9c5 }
def k9c6 : Code := { maxStack := 4, maxLocals := 5, code := jdk_52_method_14_code, exceptionTable := #[], attributes := #[] }
def k9m6 : Method := { name := "toBytes", desc := "([CII)[B", sig := { parameters := [(.array .char), .int, .int], returnType := some (.array .byte) }, accessFlags := 9, code := some k9c6 }
def k9c7 : Code := { maxStack := 2, maxLocals := 2, code := jdk_52_method_15_code, exceptionTable := #[], attributes := #[] }
def k9m7 : Method := { name := "coderFromArrayLen", desc := "([BI)B", sig := { parameters := [(.array .byte), .int], returnType := some .byte }, accessFlags := 8, code := some k9c7 }
def k9c8 : Code := { maxStack := 5, maxLocals := 6, code := jdk_52_method_16_code, exceptionTable := #[], attributes := #[] }
def k9m8 : Method := { name := "compress", desc := "([CII)[B", sig := { parameters := [(.array .char), .int, .int], returnType := some (.array .byte) }, accessFlags := 9, code := some k9c8 }
def k9c9 : Code := { maxStack := 3, maxLocals := 7, code := jdk_52_method_21_code, exceptionTable := #[], attributes := #[] }
def k9m9 : Method := { name := "compress", desc := "([CI[BII)I", sig := { parameters := [(.array .char), .int, (.array .byte), .int, .int], returnType := some .int }, accessFlags := 9, code := some k9c9 }
def k9c10 : Code := { maxStack := 2, maxLocals := 2, code := jdk_52_method_83_code, exceptionTable := #[], attributes := #[] }
def k9m10 : Method := { name := "charAt", desc := "([BI)C", sig := { parameters := [(.array .byte), .int], returnType := some .char }, accessFlags := 9, code := some k9c10 }
def k9c11 : Code := { maxStack := 2, maxLocals := 2, code := jdk_52_method_91_code, exceptionTable := #[], attributes := #[] }
def k9m11 : Method := { name := "checkIndex", desc := "(I[B)V", sig := { parameters := [.int, (.array .byte)], returnType := none }, accessFlags := 9, code := some k9c11 }
/-- java/lang/StringUTF16 -/
def k9 : Class := { plain "java/lang/StringUTF16" (some 0) with
  accessFlags := 48
  interfaces := #[]
  cf := some (fileOf pool9 12 #[.nestMembers #[627, 629, 369]] #[{ accessFlags := 0, nameIndex := 9, descriptorIndex := 10, attributes := #[] }, { accessFlags := 9, nameIndex := 109, descriptorIndex := 110, attributes := #[] }, { accessFlags := 9, nameIndex := 15, descriptorIndex := 16, attributes := #[] }, { accessFlags := 8, nameIndex := 113, descriptorIndex := 114, attributes := #[] }, { accessFlags := 8, nameIndex := 73, descriptorIndex := 74, attributes := #[] }, { accessFlags := 9, nameIndex := 50, descriptorIndex := 51, attributes := #[] }, { accessFlags := 9, nameIndex := 121, descriptorIndex := 122, attributes := #[] }, { accessFlags := 8, nameIndex := 261, descriptorIndex := 262, attributes := #[] }, { accessFlags := 9, nameIndex := 117, descriptorIndex := 122, attributes := #[] }, { accessFlags := 9, nameIndex := 117, descriptorIndex := 118, attributes := #[] }, { accessFlags := 9, nameIndex := 392, descriptorIndex := 74, attributes := #[] }, { accessFlags := 9, nameIndex := 69, descriptorIndex := 70, attributes := #[] }] 48 6 #[] #[{ accessFlags := 26, nameIndex := 61, descriptorIndex := 62, attributes := #[] }, { accessFlags := 26, nameIndex := 65, descriptorIndex := 62, attributes := #[] }, { accessFlags := 24, nameIndex := 430, descriptorIndex := 62, attributes := #[] }, { accessFlags := 4120, nameIndex := 46, descriptorIndex := 47, attributes := #[] }])
  fields := #[{ name := "HI_BYTE_SHIFT", type := .int, accessFlags := 26, slot := 0, constantValue := 0 }, { name := "LO_BYTE_SHIFT", type := .int, accessFlags := 26, slot := 1, constantValue := 0 }, { name := "MAX_LENGTH", type := .int, accessFlags := 24, slot := 2, constantValue := 0 }, { name := "$assertionsDisabled", type := .boolean, accessFlags := 4120, slot := 3, constantValue := 0 }]
  methods := #[k9m0, k9m1, k9m2, k9m3, k9m4, k9m5, k9m6, k9m7, k9m8, k9m9, k9m10, k9m11]
  instanceTypes := #[]
  staticTypes := #[.int, .int, .int, .boolean]
  resolved := Array.replicate 635 none
  statics := some 1 }

def pool10 : Array CpInfo := pool [(1, .class_ 2), (0, u "java/lang/String"), (1, .class_ 6), (1, u "java/lang/Object"), (0, u "<init>"), (0, u "()V"), (0, .methodref 1 10), (0, .nameAndType 11 12), (0, u "checkIndex"), (0, u "(II)V"), (1, .class_ 16), (1, u "java/lang/StringLatin1"), (36, u "([BI)C"), (67, u "$assertionsDisabled"), (0, u "Z"), (98, .class_ 223), (1, u "java/lang/StringLatin1$LinesSpliterator"), (28, u "charAt"), (137, .class_ 391), (0, u "java/lang/StringLatin1$CharsSpliterator")] 3

def k10m0 : Method := { name := "<init>", desc := "()V", sig := { parameters := [], returnType := none }, accessFlags := 0, code := none }
def k10c1 : Code := { maxStack := 2, maxLocals := 2, code := jdk_43_method_2_code, exceptionTable := #[], attributes := #[] }
def k10m1 : Method := { name := "charAt", desc := "([BI)C", sig := { parameters := [(.array .byte), .int], returnType := some .char }, accessFlags := 9, code := some k10c1 }
/-- java/lang/StringLatin1 -/
def k10 : Class := { plain "java/lang/StringLatin1" (some 0) with
  accessFlags := 48
  interfaces := #[]
  cf := some (fileOf pool10 14 #[.nestMembers #[390, 221]] #[{ accessFlags := 0, nameIndex := 7, descriptorIndex := 8, attributes := #[] }, { accessFlags := 9, nameIndex := 252, descriptorIndex := 53, attributes := #[] }] 48 4 #[] #[{ accessFlags := 4120, nameIndex := 121, descriptorIndex := 122, attributes := #[] }])
  fields := #[{ name := "$assertionsDisabled", type := .boolean, accessFlags := 4120, slot := 0, constantValue := 0 }]
  methods := #[k10m0, k10m1]
  instanceTypes := #[]
  staticTypes := #[.boolean]
  resolved := Array.replicate 395 none
  statics := none }

def pool11 : Array CpInfo := pool [(2, .class_ 4), (1, u "java/lang/Object"), (0, u "<init>"), (0, u "()V"), (17, .class_ 26), (1, u "jdk/internal/util/Preconditions"), (6, u "checkIndex"), (21, .class_ 56), (0, u "jdk/internal/util/Preconditions$4"), (57, .class_ 115), (0, u "jdk/internal/util/Preconditions$1"), (7, u "SIOOBE_FORMATTER"), (0, u "Ljava/util/function/BiFunction;"), (0, .class_ 126), (0, u "jdk/internal/util/Preconditions$2"), (3, u "AIOOBE_FORMATTER"), (0, .class_ 132), (0, u "jdk/internal/util/Preconditions$3"), (3, u "IOOBE_FORMATTER"), (41, u "(IILjava/util/function/BiFunction;)I")] 15

def k11m0 : Method := { name := "<init>", desc := "()V", sig := { parameters := [], returnType := none }, accessFlags := 1, code := none }
def k11c1 : Code := { maxStack := 3, maxLocals := 3, code := jdk_41_method_11_code, exceptionTable := #[], attributes := #[] }
def k11m1 : Method := { name := "checkIndex", desc := "(IILjava/util/function/BiFunction;)I", sig := { parameters := [.int, .int, (.object "java/util/function/BiFunction")], returnType := some .int }, accessFlags := 9, code := some k11c1 }
/-- jdk/internal/util/Preconditions -/
def k11 : Class := { plain "jdk/internal/util/Preconditions" (some 0) with
  accessFlags := 33
  interfaces := #[]
  cf := some (fileOf pool11 24 #[.nestMembers #[55, 131, 125, 114]] #[{ accessFlags := 1, nameIndex := 5, descriptorIndex := 6, attributes := #[] }, { accessFlags := 9, nameIndex := 33, descriptorIndex := 178, attributes := #[] }] 33 2 #[] #[{ accessFlags := 25, nameIndex := 123, descriptorIndex := 124, attributes := #[] }, { accessFlags := 25, nameIndex := 130, descriptorIndex := 124, attributes := #[] }, { accessFlags := 25, nameIndex := 136, descriptorIndex := 124, attributes := #[] }])
  fields := #[{ name := "SIOOBE_FORMATTER", type := (.object "java/util/function/BiFunction"), accessFlags := 25, slot := 0, constantValue := 0 }, { name := "AIOOBE_FORMATTER", type := (.object "java/util/function/BiFunction"), accessFlags := 25, slot := 1, constantValue := 0 }, { name := "IOOBE_FORMATTER", type := (.object "java/util/function/BiFunction"), accessFlags := 25, slot := 2, constantValue := 0 }]
  methods := #[k11m0, k11m1]
  instanceTypes := #[]
  staticTypes := #[(.object "java/util/function/BiFunction"), (.object "java/util/function/BiFunction"), (.object "java/util/function/BiFunction")]
  resolved := Array.replicate 194 none
  statics := some 2 }

def pool12 : Array CpInfo := pool [(9, u "<init>"), (6, .class_ 18), (1, u "java/lang/Object"), (0, u "()V"), (1, .class_ 23), (1, u "jdk/internal/util/ArraysSupport"), (0, u "LOG2_ARRAY_LONG_INDEX_SCALE"), (0, u "I"), (2, u "U"), (0, u "Ljdk/internal/misc/Unsafe;"), (8, u "BIG_ENDIAN"), (0, u "Z"), (8, u "LOG2_BYTE_BIT_SIZE"), (4, u "LOG2_ARRAY_INT_INDEX_SCALE"), (54, u "JLA"), (0, u "Ljdk/internal/access/JavaLangAccess;"), (11, u "LOG2_ARRAY_BOOLEAN_INDEX_SCALE"), (9, u "LOG2_ARRAY_BYTE_INDEX_SCALE"), (5, u "LOG2_ARRAY_CHAR_INDEX_SCALE"), (5, u "LOG2_ARRAY_SHORT_INDEX_SCALE"), (18, u "LOG2_ARRAY_FLOAT_INDEX_SCALE"), (24, u "LOG2_ARRAY_DOUBLE_INDEX_SCALE"), (89, u "T_BOOLEAN"), (2, u "T_CHAR"), (1, u "T_FLOAT"), (1, u "T_DOUBLE"), (1, u "T_BYTE"), (1, u "T_SHORT"), (1, u "T_INT"), (1, u "T_LONG"), (1, u "SOFT_MAX_ARRAY_LENGTH")] 83

def k12m0 : Method := { name := "<init>", desc := "()V", sig := { parameters := [], returnType := none }, accessFlags := 2, code := none }
/-- jdk/internal/util/ArraysSupport -/
def k12 : Class := { plain "jdk/internal/util/ArraysSupport" (some 0) with
  accessFlags := 33
  interfaces := #[]
  cf := some (fileOf pool12 21 #[] #[{ accessFlags := 2, nameIndex := 9, descriptorIndex := 19, attributes := #[] }] 33 16 #[] #[{ accessFlags := 24, nameIndex := 28, descriptorIndex := 29, attributes := #[] }, { accessFlags := 26, nameIndex := 38, descriptorIndex := 39, attributes := #[] }, { accessFlags := 25, nameIndex := 121, descriptorIndex := 25, attributes := #[] }, { accessFlags := 25, nameIndex := 131, descriptorIndex := 25, attributes := #[] }, { accessFlags := 25, nameIndex := 137, descriptorIndex := 25, attributes := #[] }, { accessFlags := 25, nameIndex := 143, descriptorIndex := 25, attributes := #[] }, { accessFlags := 25, nameIndex := 53, descriptorIndex := 25, attributes := #[] }, { accessFlags := 25, nameIndex := 24, descriptorIndex := 25, attributes := #[] }, { accessFlags := 25, nameIndex := 162, descriptorIndex := 25, attributes := #[] }, { accessFlags := 25, nameIndex := 187, descriptorIndex := 25, attributes := #[] }, { accessFlags := 26, nameIndex := 48, descriptorIndex := 25, attributes := #[] }, { accessFlags := 25, nameIndex := 277, descriptorIndex := 25, attributes := #[] }, { accessFlags := 25, nameIndex := 280, descriptorIndex := 25, attributes := #[] }, { accessFlags := 25, nameIndex := 282, descriptorIndex := 25, attributes := #[] }, { accessFlags := 25, nameIndex := 284, descriptorIndex := 25, attributes := #[] }, { accessFlags := 25, nameIndex := 286, descriptorIndex := 25, attributes := #[] }, { accessFlags := 25, nameIndex := 288, descriptorIndex := 25, attributes := #[] }, { accessFlags := 25, nameIndex := 290, descriptorIndex := 25, attributes := #[] }, { accessFlags := 25, nameIndex := 292, descriptorIndex := 25, attributes := #[] }, { accessFlags := 26, nameIndex := 108, descriptorIndex := 109, attributes := #[] }, { accessFlags := 25, nameIndex := 294, descriptorIndex := 25, attributes := #[] }])
  fields := #[{ name := "U", type := (.object "jdk/internal/misc/Unsafe"), accessFlags := 24, slot := 0, constantValue := 0 }, { name := "BIG_ENDIAN", type := .boolean, accessFlags := 26, slot := 1, constantValue := 0 }, { name := "LOG2_ARRAY_BOOLEAN_INDEX_SCALE", type := .int, accessFlags := 25, slot := 2, constantValue := 0 }, { name := "LOG2_ARRAY_BYTE_INDEX_SCALE", type := .int, accessFlags := 25, slot := 3, constantValue := 0 }, { name := "LOG2_ARRAY_CHAR_INDEX_SCALE", type := .int, accessFlags := 25, slot := 4, constantValue := 0 }, { name := "LOG2_ARRAY_SHORT_INDEX_SCALE", type := .int, accessFlags := 25, slot := 5, constantValue := 0 }, { name := "LOG2_ARRAY_INT_INDEX_SCALE", type := .int, accessFlags := 25, slot := 6, constantValue := 0 }, { name := "LOG2_ARRAY_LONG_INDEX_SCALE", type := .int, accessFlags := 25, slot := 7, constantValue := 0 }, { name := "LOG2_ARRAY_FLOAT_INDEX_SCALE", type := .int, accessFlags := 25, slot := 8, constantValue := 0 }, { name := "LOG2_ARRAY_DOUBLE_INDEX_SCALE", type := .int, accessFlags := 25, slot := 9, constantValue := 0 }, { name := "LOG2_BYTE_BIT_SIZE", type := .int, accessFlags := 26, slot := 10, constantValue := 0 }, { name := "T_BOOLEAN", type := .int, accessFlags := 25, slot := 11, constantValue := 0 }, { name := "T_CHAR", type := .int, accessFlags := 25, slot := 12, constantValue := 0 }, { name := "T_FLOAT", type := .int, accessFlags := 25, slot := 13, constantValue := 0 }, { name := "T_DOUBLE", type := .int, accessFlags := 25, slot := 14, constantValue := 0 }, { name := "T_BYTE", type := .int, accessFlags := 25, slot := 15, constantValue := 0 }, { name := "T_SHORT", type := .int, accessFlags := 25, slot := 16, constantValue := 0 }, { name := "T_INT", type := .int, accessFlags := 25, slot := 17, constantValue := 0 }, { name := "T_LONG", type := .int, accessFlags := 25, slot := 18, constantValue := 0 }, { name := "JLA", type := (.object "jdk/internal/access/JavaLangAccess"), accessFlags := 26, slot := 19, constantValue := 0 }, { name := "SOFT_MAX_ARRAY_LENGTH", type := .int, accessFlags := 25, slot := 20, constantValue := 0 }]
  methods := #[k12m0]
  instanceTypes := #[]
  staticTypes := #[(.object "jdk/internal/misc/Unsafe"), .boolean, .int, .int, .int, .int, .int, .int, .int, .int, .int, .int, .int, .int, .int, .int, .int, .int, .int, (.object "jdk/internal/access/JavaLangAccess"), .int]
  resolved := Array.replicate 378 none
  statics := none }

def pool13 : Array CpInfo := pool [(1, u "java/lang/Cloneable"), (0, .class_ 1), (0, u "java/lang/Object"), (0, .class_ 3)] 3

/-- java/lang/Cloneable -/
def k13 : Class := { plain "java/lang/Cloneable" (some 0) with
  accessFlags := 1537
  interfaces := #[]
  cf := some (fileOf pool13 2 #[] #[] 1537 4 #[] #[])
  fields := #[]
  methods := #[]
  instanceTypes := #[]
  staticTypes := #[]
  resolved := Array.replicate 8 none
  statics := none }

/-- the primitive byte -/
def k14 : Class := { plain "byte" none with kind := .primitive 'B', accessFlags := 0x411 }
/-- [B -/
def k15 : Class := { plain "[B" (some 0) with kind := .array 14 .byte, interfaces := #[13, 2], accessFlags := 1041 }

/-- the primitive char -/
def k16 : Class := { plain "char" none with kind := .primitive 'C', accessFlags := 0x411 }
/-- [C -/
def k17 : Class := { plain "[C" (some 0) with kind := .array 16 .char, interfaces := #[13, 2], accessFlags := 1041 }

/-- the primitive int -/
def k18 : Class := { plain "int" none with kind := .primitive 'I', accessFlags := 0x411 }
/-- [I -/
def k19 : Class := { plain "[I" (some 0) with kind := .array 18 .int, interfaces := #[13, 2], accessFlags := 1041 }

def heap : Heap := #[{ cls := 7, slots := #[.long 0, .int 1, .null, .int 0, .null, .int 0, .int 0], vm := .statics 7 },
  { cls := 9, slots := #[.int 0, .int 8, .int 0, .int 1], vm := .statics 9 },
  { cls := 11, slots := #[.null, .null, .null], vm := .statics 11 }]
def classes : Array Class := #[k0, k1, k2, k3, k4, k5, k6, k7, k8, k9, k10, k11, k12, k13, k14, k15, k16, k17, k18, k19]
def interned : List (Array UInt16 × Addr) := []
def slotsUsed : Nat := 14
def theMethod : MethodId := ⟨1, 1⟩
def args0 : Array Value := #[.int 3, .int 66, .int 67, .int 68, .int 9, .long 2]
def aboutOver (below : List Frame) : State where
  vm := { classes := classes, interned := interned.toArray }
  heap := heap
  slotsUsed := slotsUsed
  threads := #[{ frames := .invoking theMethod args0 :: below }]
def below0 : List Frame := [.native { method := ⟨0, 0⟩, args := #[] }]
def about1 : State := aboutOver below0
def p0 : Program := .bare "" "" ""
def e0 : Env := launch0.env 0 0 0
theorem w_frames : about1.frames = Frame.invoking theMethod args0 :: below0 := rfl
set_option maxRecDepth 65536 in
theorem w_args : argsFit about1.vm theMethod args0 = true := by decide +kernel
set_option maxRecDepth 65536 in
theorem w_heap : heapFits about1 = true := by decide +kernel
set_option maxRecDepth 65536 in
theorem w_runnable : about1.curStatus? = some .runnable := by decide +kernel
set_option maxRecDepth 65536 in
theorem w_alone : about1.alone = true := by decide +kernel
set_option maxRecDepth 65536 in
theorem w_named : about1.methodNamed? x = some theMethod := by decide +kernel
set_option maxRecDepth 65536 in
theorem w_hears : about1.hears theMethod below0 = true := by decide +kernel
set_option maxRecDepth 65536 in
theorem w_ripe : about1.ripe theMethod args0 below0 = true := by decide +kernel
theorem w_running : about1.status = .running := rfl
set_option maxRecDepth 65536 in
theorem w_room : about1.hasRoom e0.platform room_1 = true :=
  launch0.hasRoom_least _ room_1 (by decide +kernel) (by decide +kernel) (by decide +kernel) (by decide +kernel) (by decide +kernel) (by decide +kernel)
theorem allAtoms_all (ts : List Jvm.Cond) (a : Array Jvm.Value) (st : Jvm.State) : (allAtoms ts).before a st = ts.all (fun c => c.before a st) := by
  induction ts with
  | nil => rfl
  | cons c t ih =>
    show (Jvm.Cond.and c (allAtoms t)).before a st = _
    rw [Jvm.Cond.before_and, ih, List.all_cons]
def words1 : List Jvm.Cond := Jvm.Cond.code x code maxLocals ret :: tables_1
/-- a 'code' word, met by the world's own term for the bytes: nothing is compared byte by byte -/
theorem code_word {y : MethodName} {bytes : ByteArray} {mx : Nat} {rt : Option FieldType} {a : Array Value} {s : State} {m : MethodId} {meth : Method} {c : Code} (h1 : s.methodNamed? y = some m) (h2 : s.vm.method? m = some meth) (h3 : meth.code = some c) (h4 : c.code = bytes)
    (h5 : (c.maxLocals == mx && c.exceptionTable.isEmpty && decide (c.maxStack ≤ mostOperands) && decide (meth.sig.returnType = rt) && !meth.locks && decide (parseMethodDescriptor y.desc = some meth.sig)) = true) : (Jvm.Cond.code y bytes mx rt).before a s = true := by
  simp only [Bool.and_eq_true, beq_iff_eq, Bool.not_eq_true', decide_eq_true_eq] at h5
  obtain ⟨⟨⟨⟨⟨g1, g2⟩, g3⟩, g4⟩, g5⟩, g6⟩ := h5
  simp [Cond.before, Cond.holds, Cond.value, h1, h2, h3, h4, g1, g2, g3, g4, g5, g6]
def isCode : Jvm.Cond → Bool
  | .code _ _ _ _ => true
  | _ => false
theorem all_split {L : List Jvm.Cond} {P : Jvm.Cond → Bool} (h1 : L.all (fun c => isCode c || P c) = true) (h2 : ∀ c ∈ L.filter isCode, P c = true) : L.all P = true := by
  refine List.all_eq_true.mpr fun c hc => ?_
  have h := List.all_eq_true.mp h1 c hc
  rcases Bool.eq_false_or_eq_true (isCode c) with hi | hi
  · exact h2 c (List.mem_filter.mpr ⟨hc, hi⟩)
  · simpa [hi] using h
set_option maxRecDepth 65536 in
theorem w_c0 : (Jvm.Cond.code x code maxLocals ret).before args0 about1 = true := code_word (m := ⟨1, 1⟩) (meth := k1m1) (c := k1c1) (by decide +kernel) rfl rfl rfl (by decide +kernel)
set_option maxRecDepth 65536 in
theorem w_c1 : (Jvm.Cond.code ({ cls := "com/example/strikeshift/strikeshift/formats/TextValuesIsPlainDecimalPinLaw", name := "draw", desc := "(I)C" } : Jvm.MethodName) method_3_code (2 : Nat) (Option.some Jvm.ClassFile.FieldType.char)).before args0 about1 = true := code_word (m := ⟨1, 2⟩) (meth := k1m2) (c := k1c2) (by decide +kernel) rfl rfl rfl (by decide +kernel)
set_option maxRecDepth 65536 in
theorem w_c2 : (Jvm.Cond.code ({ cls := "com/example/strikeshift/strikeshift/formats/TextValuesIsPlainDecimalPinLaw", name := "make", desc := "([CI)Ljava/lang/String;" } : Jvm.MethodName) method_4_code (2 : Nat) (Option.some (Jvm.ClassFile.FieldType.object "java/lang/String"))).before args0 about1 = true := code_word (m := ⟨1, 3⟩) (meth := k1m3) (c := k1c3) (by decide +kernel) rfl rfl rfl (by decide +kernel)
set_option maxRecDepth 65536 in
theorem w_c3 : (Jvm.Cond.code ({ cls := "java/lang/String", name := "<init>", desc := "([C)V" } : Jvm.MethodName) jdk_42_method_3_code (2 : Nat) (Option.none : Option Jvm.ClassFile.FieldType)).before args0 about1 = true := code_word (m := ⟨7, 1⟩) (meth := k7m1) (c := k7c1) (by decide +kernel) rfl rfl rfl (by decide +kernel)
set_option maxRecDepth 65536 in
theorem w_c4 : (Jvm.Cond.code ({ cls := "java/lang/String", name := "<init>", desc := "([CIILjava/lang/Void;)V" } : Jvm.MethodName) jdk_42_method_149_code (6 : Nat) (Option.none : Option Jvm.ClassFile.FieldType)).before args0 about1 = true := code_word (m := ⟨7, 4⟩) (meth := k7m4) (c := k7c4) (by decide +kernel) rfl rfl rfl (by decide +kernel)
set_option maxRecDepth 65536 in
theorem w_c5 : (Jvm.Cond.code ({ cls := "java/lang/Object", name := "<init>", desc := "()V" } : Jvm.MethodName) object_method_1_code (1 : Nat) (Option.none : Option Jvm.ClassFile.FieldType)).before args0 about1 = true := code_word (m := ⟨0, 0⟩) (meth := k0m0) (c := k0c0) (by decide +kernel) rfl rfl rfl (by decide +kernel)
set_option maxRecDepth 65536 in
theorem w_c6 : (Jvm.Cond.code ({ cls := "com/example/strikeshift/strikeshift/formats/TextValues", name := "isPlainDecimal", desc := "(Ljava/lang/CharSequence;)Z" } : Jvm.MethodName) prog_47_method_2_code (4 : Nat) (Option.some Jvm.ClassFile.FieldType.boolean)).before args0 about1 = true := code_word (m := ⟨8, 1⟩) (meth := k8m1) (c := k8c1) (by decide +kernel) rfl rfl rfl (by decide +kernel)
set_option maxRecDepth 65536 in
theorem w_c7 : (Jvm.Cond.code ({ cls := "java/lang/String", name := "length", desc := "()I" } : Jvm.MethodName) jdk_42_method_54_code (1 : Nat) (Option.some Jvm.ClassFile.FieldType.int)).before args0 about1 = true := code_word (m := ⟨7, 2⟩) (meth := k7m2) (c := k7c2) (by decide +kernel) rfl rfl rfl (by decide +kernel)
set_option maxRecDepth 65536 in
theorem w_c8 : (Jvm.Cond.code ({ cls := "java/lang/String", name := "coder", desc := "()B" } : Jvm.MethodName) jdk_42_method_152_code (1 : Nat) (Option.some Jvm.ClassFile.FieldType.byte)).before args0 about1 = true := code_word (m := ⟨7, 5⟩) (meth := k7m5) (c := k7c5) (by decide +kernel) rfl rfl rfl (by decide +kernel)
set_option maxRecDepth 65536 in
theorem w_c9 : (Jvm.Cond.code ({ cls := "java/lang/StringUTF16", name := "compress", desc := "([CII)[B" } : Jvm.MethodName) jdk_52_method_16_code (6 : Nat) (Option.some (Jvm.ClassFile.FieldType.array Jvm.ClassFile.FieldType.byte))).before args0 about1 = true := code_word (m := ⟨9, 8⟩) (meth := k9m8) (c := k9c8) (by decide +kernel) rfl rfl rfl (by decide +kernel)
set_option maxRecDepth 65536 in
theorem w_c10 : (Jvm.Cond.code ({ cls := "java/lang/StringUTF16", name := "compress", desc := "([CI[BII)I" } : Jvm.MethodName) jdk_52_method_21_code (7 : Nat) (Option.some Jvm.ClassFile.FieldType.int)).before args0 about1 = true := code_word (m := ⟨9, 9⟩) (meth := k9m9) (c := k9c9) (by decide +kernel) rfl rfl rfl (by decide +kernel)
set_option maxRecDepth 65536 in
theorem w_c11 : (Jvm.Cond.code ({ cls := "java/lang/StringUTF16", name := "coderFromArrayLen", desc := "([BI)B" } : Jvm.MethodName) jdk_52_method_15_code (2 : Nat) (Option.some Jvm.ClassFile.FieldType.byte)).before args0 about1 = true := code_word (m := ⟨9, 7⟩) (meth := k9m7) (c := k9c7) (by decide +kernel) rfl rfl rfl (by decide +kernel)
set_option maxRecDepth 65536 in
theorem w_c12 : (Jvm.Cond.code ({ cls := "java/lang/String", name := "charAt", desc := "(I)C" } : Jvm.MethodName) jdk_42_method_56_code (2 : Nat) (Option.some Jvm.ClassFile.FieldType.char)).before args0 about1 = true := code_word (m := ⟨7, 3⟩) (meth := k7m3) (c := k7c3) (by decide +kernel) rfl rfl rfl (by decide +kernel)
set_option maxRecDepth 65536 in
theorem w_c13 : (Jvm.Cond.code ({ cls := "java/lang/String", name := "isLatin1", desc := "()Z" } : Jvm.MethodName) jdk_42_method_154_code (1 : Nat) (Option.some Jvm.ClassFile.FieldType.boolean)).before args0 about1 = true := code_word (m := ⟨7, 6⟩) (meth := k7m6) (c := k7c6) (by decide +kernel) rfl rfl rfl (by decide +kernel)
set_option maxRecDepth 65536 in
theorem w_c14 : (Jvm.Cond.code ({ cls := "java/lang/StringLatin1", name := "charAt", desc := "([BI)C" } : Jvm.MethodName) jdk_43_method_2_code (2 : Nat) (Option.some Jvm.ClassFile.FieldType.char)).before args0 about1 = true := code_word (m := ⟨10, 1⟩) (meth := k10m1) (c := k10c1) (by decide +kernel) rfl rfl rfl (by decide +kernel)
set_option maxRecDepth 65536 in
theorem w_c15 : (Jvm.Cond.code ({ cls := "java/lang/String", name := "checkIndex", desc := "(II)V" } : Jvm.MethodName) jdk_42_method_155_code (2 : Nat) (Option.none : Option Jvm.ClassFile.FieldType)).before args0 about1 = true := code_word (m := ⟨7, 7⟩) (meth := k7m7) (c := k7c7) (by decide +kernel) rfl rfl rfl (by decide +kernel)
set_option maxRecDepth 65536 in
theorem w_c16 : (Jvm.Cond.code ({ cls := "jdk/internal/util/Preconditions", name := "checkIndex", desc := "(IILjava/util/function/BiFunction;)I" } : Jvm.MethodName) jdk_41_method_11_code (3 : Nat) (Option.some Jvm.ClassFile.FieldType.int)).before args0 about1 = true := code_word (m := ⟨11, 1⟩) (meth := k11m1) (c := k11c1) (by decide +kernel) rfl rfl rfl (by decide +kernel)
set_option maxRecDepth 65536 in
theorem w_c17 : (Jvm.Cond.code ({ cls := "com/example/strikeshift/strikeshift/formats/TextValues", name := "isDigit", desc := "(C)Z" } : Jvm.MethodName) prog_47_method_9_code (1 : Nat) (Option.some Jvm.ClassFile.FieldType.boolean)).before args0 about1 = true := code_word (m := ⟨8, 2⟩) (meth := k8m2) (c := k8c2) (by decide +kernel) rfl rfl rfl (by decide +kernel)
set_option maxRecDepth 65536 in
theorem w_c18 : (Jvm.Cond.code ({ cls := "com/example/strikeshift/strikeshift/formats/TextValuesIsPlainDecimalPinLaw", name := "ok", desc := "([CIII)Z" } : Jvm.MethodName) method_6_code (4 : Nat) (Option.some Jvm.ClassFile.FieldType.boolean)).before args0 about1 = true := code_word (m := ⟨1, 5⟩) (meth := k1m5) (c := k1c5) (by decide +kernel) rfl rfl rfl (by decide +kernel)
set_option maxRecDepth 65536 in
theorem w_c19 : (Jvm.Cond.code ({ cls := "com/example/strikeshift/strikeshift/formats/TextValuesIsPlainDecimalPinLaw", name := "dig", desc := "(C)Z" } : Jvm.MethodName) method_5_code (1 : Nat) (Option.some Jvm.ClassFile.FieldType.boolean)).before args0 about1 = true := code_word (m := ⟨1, 4⟩) (meth := k1m4) (c := k1c4) (by decide +kernel) rfl rfl rfl (by decide +kernel)
set_option maxRecDepth 65536 in
theorem w_c20 : (Jvm.Cond.code ({ cls := "com/example/strikeshift/strikeshift/formats/TextValuesIsPlainDecimalPinLaw", name := "dot", desc := "([CIII)I" } : Jvm.MethodName) method_7_code (4 : Nat) (Option.some Jvm.ClassFile.FieldType.int)).before args0 about1 = true := code_word (m := ⟨1, 6⟩) (meth := k1m6) (c := k1c6) (by decide +kernel) rfl rfl rfl (by decide +kernel)
set_option maxRecDepth 65536 in
theorem w_c21 : (Jvm.Cond.code ({ cls := "java/lang/StringUTF16", name := "toBytes", desc := "([CII)[B" } : Jvm.MethodName) jdk_52_method_14_code (5 : Nat) (Option.some (Jvm.ClassFile.FieldType.array Jvm.ClassFile.FieldType.byte))).before args0 about1 = true := code_word (m := ⟨9, 6⟩) (meth := k9m6) (c := k9c6) (by decide +kernel) rfl rfl rfl (by decide +kernel)
set_option maxRecDepth 65536 in
theorem w_c22 : (Jvm.Cond.code ({ cls := "java/lang/StringUTF16", name := "newBytesFor", desc := "(I)[B" } : Jvm.MethodName) jdk_52_method_2_code (1 : Nat) (Option.some (Jvm.ClassFile.FieldType.array Jvm.ClassFile.FieldType.byte))).before args0 about1 = true := code_word (m := ⟨9, 1⟩) (meth := k9m1) (c := k9c1) (by decide +kernel) rfl rfl rfl (by decide +kernel)
set_option maxRecDepth 65536 in
theorem w_c23 : (Jvm.Cond.code ({ cls := "java/lang/StringUTF16", name := "newBytesLength", desc := "(I)I" } : Jvm.MethodName) jdk_52_method_3_code (1 : Nat) (Option.some Jvm.ClassFile.FieldType.int)).before args0 about1 = true := code_word (m := ⟨9, 2⟩) (meth := k9m2) (c := k9c2) (by decide +kernel) rfl rfl rfl (by decide +kernel)
set_option maxRecDepth 65536 in
theorem w_c24 : (Jvm.Cond.code ({ cls := "java/lang/StringUTF16", name := "putChar", desc := "([BII)V" } : Jvm.MethodName) jdk_52_method_4_code (3 : Nat) (Option.none : Option Jvm.ClassFile.FieldType)).before args0 about1 = true := code_word (m := ⟨9, 3⟩) (meth := k9m3) (c := k9c3) (by decide +kernel) rfl rfl rfl (by decide +kernel)
set_option maxRecDepth 65536 in
theorem w_c25 : (Jvm.Cond.code ({ cls := "java/lang/StringUTF16", name := "getChar", desc := "([BI)C" } : Jvm.MethodName) jdk_52_method_5_code (2 : Nat) (Option.some Jvm.ClassFile.FieldType.char)).before args0 about1 = true := code_word (m := ⟨9, 4⟩) (meth := k9m4) (c := k9c4) (by decide +kernel) rfl rfl rfl (by decide +kernel)
set_option maxRecDepth 65536 in
theorem w_c26 : (Jvm.Cond.code ({ cls := "java/lang/StringUTF16", name := "charAt", desc := "([BI)C" } : Jvm.MethodName) jdk_52_method_83_code (2 : Nat) (Option.some Jvm.ClassFile.FieldType.char)).before args0 about1 = true := code_word (m := ⟨9, 10⟩) (meth := k9m10) (c := k9c10) (by decide +kernel) rfl rfl rfl (by decide +kernel)
set_option maxRecDepth 65536 in
theorem w_c27 : (Jvm.Cond.code ({ cls := "java/lang/StringUTF16", name := "checkIndex", desc := "(I[B)V" } : Jvm.MethodName) jdk_52_method_91_code (2 : Nat) (Option.none : Option Jvm.ClassFile.FieldType)).before args0 about1 = true := code_word (m := ⟨9, 11⟩) (meth := k9m11) (c := k9c11) (by decide +kernel) rfl rfl rfl (by decide +kernel)
set_option maxRecDepth 65536 in
theorem w_c28 : (Jvm.Cond.code ({ cls := "java/lang/StringUTF16", name := "length", desc := "([B)I" } : Jvm.MethodName) jdk_52_method_6_code (1 : Nat) (Option.some Jvm.ClassFile.FieldType.int)).before args0 about1 = true := code_word (m := ⟨9, 5⟩) (meth := k9m5) (c := k9c5) (by decide +kernel) rfl rfl rfl (by decide +kernel)
def codes1 : List Jvm.Cond := [Jvm.Cond.code x code maxLocals ret, Jvm.Cond.code ({ cls := "com/example/strikeshift/strikeshift/formats/TextValuesIsPlainDecimalPinLaw", name := "draw", desc := "(I)C" } : Jvm.MethodName) method_3_code (2 : Nat) (Option.some Jvm.ClassFile.FieldType.char), Jvm.Cond.code ({ cls := "com/example/strikeshift/strikeshift/formats/TextValuesIsPlainDecimalPinLaw", name := "make", desc := "([CI)Ljava/lang/String;" } : Jvm.MethodName) method_4_code (2 : Nat) (Option.some (Jvm.ClassFile.FieldType.object "java/lang/String")), Jvm.Cond.code ({ cls := "java/lang/String", name := "<init>", desc := "([C)V" } : Jvm.MethodName) jdk_42_method_3_code (2 : Nat) (Option.none : Option Jvm.ClassFile.FieldType), Jvm.Cond.code ({ cls := "java/lang/String", name := "<init>", desc := "([CIILjava/lang/Void;)V" } : Jvm.MethodName) jdk_42_method_149_code (6 : Nat) (Option.none : Option Jvm.ClassFile.FieldType), Jvm.Cond.code ({ cls := "java/lang/Object", name := "<init>", desc := "()V" } : Jvm.MethodName) object_method_1_code (1 : Nat) (Option.none : Option Jvm.ClassFile.FieldType), Jvm.Cond.code ({ cls := "com/example/strikeshift/strikeshift/formats/TextValues", name := "isPlainDecimal", desc := "(Ljava/lang/CharSequence;)Z" } : Jvm.MethodName) prog_47_method_2_code (4 : Nat) (Option.some Jvm.ClassFile.FieldType.boolean), Jvm.Cond.code ({ cls := "java/lang/String", name := "length", desc := "()I" } : Jvm.MethodName) jdk_42_method_54_code (1 : Nat) (Option.some Jvm.ClassFile.FieldType.int), Jvm.Cond.code ({ cls := "java/lang/String", name := "coder", desc := "()B" } : Jvm.MethodName) jdk_42_method_152_code (1 : Nat) (Option.some Jvm.ClassFile.FieldType.byte), Jvm.Cond.code ({ cls := "java/lang/StringUTF16", name := "compress", desc := "([CII)[B" } : Jvm.MethodName) jdk_52_method_16_code (6 : Nat) (Option.some (Jvm.ClassFile.FieldType.array Jvm.ClassFile.FieldType.byte)), Jvm.Cond.code ({ cls := "java/lang/StringUTF16", name := "compress", desc := "([CI[BII)I" } : Jvm.MethodName) jdk_52_method_21_code (7 : Nat) (Option.some Jvm.ClassFile.FieldType.int), Jvm.Cond.code ({ cls := "java/lang/StringUTF16", name := "coderFromArrayLen", desc := "([BI)B" } : Jvm.MethodName) jdk_52_method_15_code (2 : Nat) (Option.some Jvm.ClassFile.FieldType.byte), Jvm.Cond.code ({ cls := "java/lang/String", name := "charAt", desc := "(I)C" } : Jvm.MethodName) jdk_42_method_56_code (2 : Nat) (Option.some Jvm.ClassFile.FieldType.char), Jvm.Cond.code ({ cls := "java/lang/String", name := "isLatin1", desc := "()Z" } : Jvm.MethodName) jdk_42_method_154_code (1 : Nat) (Option.some Jvm.ClassFile.FieldType.boolean), Jvm.Cond.code ({ cls := "java/lang/StringLatin1", name := "charAt", desc := "([BI)C" } : Jvm.MethodName) jdk_43_method_2_code (2 : Nat) (Option.some Jvm.ClassFile.FieldType.char), Jvm.Cond.code ({ cls := "java/lang/String", name := "checkIndex", desc := "(II)V" } : Jvm.MethodName) jdk_42_method_155_code (2 : Nat) (Option.none : Option Jvm.ClassFile.FieldType), Jvm.Cond.code ({ cls := "jdk/internal/util/Preconditions", name := "checkIndex", desc := "(IILjava/util/function/BiFunction;)I" } : Jvm.MethodName) jdk_41_method_11_code (3 : Nat) (Option.some Jvm.ClassFile.FieldType.int), Jvm.Cond.code ({ cls := "com/example/strikeshift/strikeshift/formats/TextValues", name := "isDigit", desc := "(C)Z" } : Jvm.MethodName) prog_47_method_9_code (1 : Nat) (Option.some Jvm.ClassFile.FieldType.boolean), Jvm.Cond.code ({ cls := "com/example/strikeshift/strikeshift/formats/TextValuesIsPlainDecimalPinLaw", name := "ok", desc := "([CIII)Z" } : Jvm.MethodName) method_6_code (4 : Nat) (Option.some Jvm.ClassFile.FieldType.boolean), Jvm.Cond.code ({ cls := "com/example/strikeshift/strikeshift/formats/TextValuesIsPlainDecimalPinLaw", name := "dig", desc := "(C)Z" } : Jvm.MethodName) method_5_code (1 : Nat) (Option.some Jvm.ClassFile.FieldType.boolean), Jvm.Cond.code ({ cls := "com/example/strikeshift/strikeshift/formats/TextValuesIsPlainDecimalPinLaw", name := "dot", desc := "([CIII)I" } : Jvm.MethodName) method_7_code (4 : Nat) (Option.some Jvm.ClassFile.FieldType.int), Jvm.Cond.code ({ cls := "java/lang/StringUTF16", name := "toBytes", desc := "([CII)[B" } : Jvm.MethodName) jdk_52_method_14_code (5 : Nat) (Option.some (Jvm.ClassFile.FieldType.array Jvm.ClassFile.FieldType.byte)), Jvm.Cond.code ({ cls := "java/lang/StringUTF16", name := "newBytesFor", desc := "(I)[B" } : Jvm.MethodName) jdk_52_method_2_code (1 : Nat) (Option.some (Jvm.ClassFile.FieldType.array Jvm.ClassFile.FieldType.byte)), Jvm.Cond.code ({ cls := "java/lang/StringUTF16", name := "newBytesLength", desc := "(I)I" } : Jvm.MethodName) jdk_52_method_3_code (1 : Nat) (Option.some Jvm.ClassFile.FieldType.int), Jvm.Cond.code ({ cls := "java/lang/StringUTF16", name := "putChar", desc := "([BII)V" } : Jvm.MethodName) jdk_52_method_4_code (3 : Nat) (Option.none : Option Jvm.ClassFile.FieldType), Jvm.Cond.code ({ cls := "java/lang/StringUTF16", name := "getChar", desc := "([BI)C" } : Jvm.MethodName) jdk_52_method_5_code (2 : Nat) (Option.some Jvm.ClassFile.FieldType.char), Jvm.Cond.code ({ cls := "java/lang/StringUTF16", name := "charAt", desc := "([BI)C" } : Jvm.MethodName) jdk_52_method_83_code (2 : Nat) (Option.some Jvm.ClassFile.FieldType.char), Jvm.Cond.code ({ cls := "java/lang/StringUTF16", name := "checkIndex", desc := "(I[B)V" } : Jvm.MethodName) jdk_52_method_91_code (2 : Nat) (Option.none : Option Jvm.ClassFile.FieldType), Jvm.Cond.code ({ cls := "java/lang/StringUTF16", name := "length", desc := "([B)I" } : Jvm.MethodName) jdk_52_method_6_code (1 : Nat) (Option.some Jvm.ClassFile.FieldType.int)]
set_option maxRecDepth 65536 in
theorem codes_eq : words1.filter isCode = codes1 := rfl
theorem w_codes : ∀ c ∈ words1.filter isCode, c.before args0 about1 = true := by
  rw [codes_eq]
  intro c hc
  simp only [codes1, List.mem_cons, List.not_mem_nil, or_false] at hc
  rcases hc with rfl | rfl | rfl | rfl | rfl | rfl | rfl | rfl | rfl | rfl | rfl | rfl | rfl | rfl | rfl | rfl | rfl | rfl | rfl | rfl | rfl | rfl | rfl | rfl | rfl | rfl | rfl | rfl | rfl
  · exact w_c0
  · exact w_c1
  · exact w_c2
  · exact w_c3
  · exact w_c4
  · exact w_c5
  · exact w_c6
  · exact w_c7
  · exact w_c8
  · exact w_c9
  · exact w_c10
  · exact w_c11
  · exact w_c12
  · exact w_c13
  · exact w_c14
  · exact w_c15
  · exact w_c16
  · exact w_c17
  · exact w_c18
  · exact w_c19
  · exact w_c20
  · exact w_c21
  · exact w_c22
  · exact w_c23
  · exact w_c24
  · exact w_c25
  · exact w_c26
  · exact w_c27
  · exact w_c28
set_option maxRecDepth 65536 in
theorem w_t1 : (words1.take 24).all (fun c => isCode c || c.before args0 about1) = true := by decide +kernel
set_option maxRecDepth 65536 in
theorem w_t2 : ((words1.drop 24).take 24).all (fun c => isCode c || c.before args0 about1) = true := by decide +kernel
set_option maxRecDepth 65536 in
theorem w_t3 : (((words1.drop 24).drop 24).take 24).all (fun c => isCode c || c.before args0 about1) = true := by decide +kernel
set_option maxRecDepth 65536 in
theorem w_t4 : ((((words1.drop 24).drop 24).drop 24).take 24).all (fun c => isCode c || c.before args0 about1) = true := by decide +kernel
set_option maxRecDepth 65536 in
theorem w_t5 : (((((words1.drop 24).drop 24).drop 24).drop 24).take 24).all (fun c => isCode c || c.before args0 about1) = true := by decide +kernel
set_option maxRecDepth 65536 in
theorem w_t6 : (((((words1.drop 24).drop 24).drop 24).drop 24).drop 24).all (fun c => isCode c || c.before args0 about1) = true := by decide +kernel
theorem w_tables : (allAtoms (Jvm.Cond.code x code maxLocals ret :: tables_1)).before args0 about1 = true := by
  rw [allAtoms_all]
  show words1.all (fun c => c.before args0 about1) = true
  refine all_split ?_ w_codes
  rw [← List.take_append_drop 24 words1, List.all_append, w_t1, ← List.take_append_drop 24 (words1.drop 24), List.all_append, w_t2, ← List.take_append_drop 24 ((words1.drop 24).drop 24), List.all_append, w_t3, ← List.take_append_drop 24 (((words1.drop 24).drop 24).drop 24), List.all_append, w_t4, ← List.take_append_drop 24 ((((words1.drop 24).drop 24).drop 24).drop 24), List.all_append, w_t5, w_t6]
  rfl
set_option maxRecDepth 65536 in
theorem w_rest : rest_1_c.before args0 about1 = true := by decide +kernel
set_option maxRecDepth 65536 in
theorem w_case : (Jvm.Cond.and given_1 narrow_1).before args0 about1 = true := by decide +kernel
set_option maxRecDepth 65536 in
theorem w_consts : constsHeld consts_1 about1 := Jvm.Lit.constsHeldB_iff.mp (by decide +kernel)
theorem w_applies : (headSpec (Jvm.Cond.code x code maxLocals ret :: tables_1) room_1).applies x e0.platform about1 = true :=
  (Spec.applies_iff w_frames).mpr ⟨w_running, w_runnable, w_alone, w_named, w_hears, w_ripe, w_room, w_tables⟩
theorem atStart : AtStart classFile x code maxLocals ret World_1 tables_1 room_1 Calls_1 rest_1 Pre_1 launch0 p0 e0 about1 theMethod args0 below0 :=
  ⟨lists_1, trivial, launch0.admits_env _ _ _, launch0.least_env, fairChoices_fair.cas, fairChoices_fair.clock, w_frames, w_args, w_heap, w_applies, ⟨w_consts, trivial⟩, w_rest, w_case⟩
end start1
theorem witness_1 : WitnessClaimed_1 := ⟨start1.p0, start1.e0, start1.about1, start1.theMethod, start1.args0, start1.below0, start1.atStart⟩
end Jvm.Pilot.@@N@@
